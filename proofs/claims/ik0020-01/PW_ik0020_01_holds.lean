import PyProof.Rows.All
import Wide.All
import OpenK.AllK
import Wide.FinOn
import Lean
import PySem.Challenge.RW_ik0020_01
open PySem PySem.W PyProof.Rows PySem.Calls
set_option Elab.async false
set_option maxRecDepth 100000
set_option maxHeartbeats 8000000
namespace Mine
/-! A binder's refusal (TypeError) asks whether the claim's caller stands on the stack; `Around` does not say. So: the judgements over those stacks alone on which it stands. -/
section
variable {α β : Type}
def hasC (Γ : Ctx) : Prop := ((Γ.code :: Γ.below.map (·.1)).any Code.isCaller) = true
def wpC (M : Model) (A : Around) (t : Sem α) (Q : α → Shared → Prop) (E : Value → Shared → Prop) (s : Shared) : Prop :=
  ∀ Γ p, Γ.In A → hasC Γ → Sem.wp M Γ t (fun a _ s' => Q a s') (fun e _ s' => E e s') p s
def codeC (M : Model) (A : Around) (c : Code) (R : Result → Shared → Prop) (s : Shared) : Prop :=
  ∀ Γ p, Γ.code = c → Γ.Below A → (Γ.below.map (·.1)).any Code.isCaller = true → wpCode M Γ R p s
variable {M : Model} {A : Around} {E : Value → Shared → Prop} {s : Shared}
theorem wpC_of {t : Sem α} {Q : α → Shared → Prop} (h : wpAny M A t Q E s) : wpC M A t Q E s := fun Γ p hΓ _ => h Γ p hΓ
theorem wpC_mono {t : Sem α} {Q Q' : α → Shared → Prop} {E' : Value → Shared → Prop} (h : wpC M A t Q E s) (hQ : ∀ a s, Q a s → Q' a s) (hE : ∀ e s, E e s → E' e s) : wpC M A t Q' E' s :=
  fun Γ p hΓ hc => Sem.wp_mono M Γ t (fun a _ s => hQ a s) (fun e _ s => hE e s) p s (h Γ p hΓ hc)
theorem wpC_bind {m : Sem α} {f : α → Sem β} {Q : β → Shared → Prop} (h : wpC M A m (fun a s' => wpC M A (f a) Q E s') E s) : wpC M A (m >>= f) Q E s := fun Γ p hΓ hc => by
  rw [Sem.wp_bind']
  exact Sem.wp_mono M Γ m (fun a p' s' h' => h' Γ p' hΓ hc) (fun _ _ _ h' => h') p s (h Γ p hΓ hc)
theorem wpC_bindA {m : Sem α} {f : α → Sem β} {Q : β → Shared → Prop} (h : wpAny M A m (fun a s' => wpC M A (f a) Q E s') E s) : wpC M A (m >>= f) Q E s := wpC_bind (wpC_of h)
theorem wpC_onRaise {m : Sem α} {k : Value → Sem Unit} {Q : α → Shared → Prop} (h : wpC M A m Q (fun e s' => wpAny M A (k e) (fun _ s'' => E e s'') E s') s) : wpC M A (m.onRaise k) Q E s := fun Γ p hΓ hc => by
  rw [Sem.wp_onRaise]
  exact Sem.wp_mono M Γ m (fun _ _ _ h' => h') (fun e p' s' h' => h' Γ p' hΓ) p s (h Γ p hΓ hc)
theorem wpC_attempt {m : Sem α} {Q : Except Value α → Shared → Prop} (h : wpC M A m (fun a => Q (.ok a)) (fun e => Q (.error e)) s) : wpC M A m.attempt Q E s := fun Γ p hΓ hc => by rw [Sem.wp_attempt]; exact h Γ p hΓ hc
theorem wpC_holding {vs : List Value} {m : Sem α} {Q : α → Shared → Prop} (h : wpC M A m Q E s) : wpC M A (holding vs m) Q E s := fun Γ p hΓ hc => by rw [Sem.wp_holding]; exact h Γ p hΓ hc
theorem hasC_enter {Γ : Ctx} {c : Code} {h : Option Value} {p : Pos} (hc : hasC Γ) : ((Γ.enter c h p).below.map (·.1)).any Code.isCaller = true := hc
theorem wpC_run {c : Code} {h : Option Value} {Q : Flow → Shared → Prop} (hc : codeC M (A.mark h) c (fun r s' => match r with | .ok f => Q f s' | .error e => E e s') s) (hnb : h ≠ some byPass := by intro x; cases x) : wpC M A (run c h) Q E s :=
  fun Γ p hΓ hC => by rw [Sem.wp_run]; exact hc _ p rfl (hΓ.enter c h p hnb) (hasC_enter hC)
theorem wpC_call {f : Value} {pos : List Value} {kw : List (Str × Value)} {Q : Value → Shared → Prop} (hc : codeC M A (.call f ⟨pos, kw⟩) (fun r s' => match r with | .ok (.ret v) => Q v s' | .ok _ => False | .error e => E e s') s) : wpC M A (call f pos kw) Q E s :=
  fun Γ p hΓ hC => by
    unfold call
    rw [Sem.wp_runValue]
    exact hc _ p rfl (hΓ.enter _ none p (by intro x; cases x)) (hasC_enter hC)
theorem hasC_of {Γ : Ctx} (h : (Γ.below.map (·.1)).any Code.isCaller = true) : hasC Γ := by
  unfold hasC
  rw [List.any_cons, h, Bool.or_true]
theorem codeC_of_tree {c : Code} {R : Result → Shared → Prop}
    (h : wpC M (A.under c) (M.den c) (fun fin s' => match fin with | .done f => R (.ok f) s' | .again c' => c'.quiet = true ∧ codeC M A c' R s') (fun e s' => R (.error e) s') s) : codeC M A c R s := fun Γ p hc hΓ hC => by
  rw [wpCode_iff_wp, hc]
  refine Sem.wp_mono M Γ _ (fun fin p' s' h' => ?_) (fun _ _ _ h' => h') p s (h Γ p (hc ▸ hΓ.in) (hasC_of hC))
  cases fin with
  | done f => exact h'
  | again c' => exact ⟨h'.1, h'.2 (Γ.goto c') p' rfl (hΓ.goto c') hC⟩
theorem codeC_mono {c : Code} {R R' : Result → Shared → Prop} (h : codeC M A c R s) (hR : ∀ r s, R r s → R' r s) : codeC M A c R' s := fun Γ p hc hΓ hC => wpCode_mono hR (h Γ p hc hΓ hC)
end
/-- at the caller's own place -/
theorem thread_ends_C {prog : Program} {w : World} {t : Sem Fin} {s : Shared} {R : Result → Shared → Prop} (hreg : s.asleep)
    (h : wpC (model prog w) callerA t (fun fin s' => ∃ f, fin = .done f ∧ (R (.ok f) s' ∧ leftWithCleanup s'.gens = false)) (fun e s' => R (.error e) s' ∧ leftWithCleanup s'.gens = false) s) :
    ∃ n r s' s'', runN (denote table) prog w n s ⟨t, .builtin "claim.caller" {}, default, []⟩ = .halted (outcomeOf r) s' ∧
      schedN (denote table) prog w n (.single s ⟨t, .builtin "claim.caller" {}, default, []⟩) = .halted (outcomeOf r) s' ∧ s'.forget = s''.forget ∧ R r s'' := by
  have z : Sem.wp (model prog w) ⟨.builtin "claim.caller" {}, none, none, [], none⟩ t (Sem.finPost (model prog w) ⟨.builtin "claim.caller" {}, none, none, [], none⟩ fun r s' => R r s' ∧ leftWithCleanup s'.gens = false) (fun e _ s' => R (.error e) s' ∧ leftWithCleanup s'.gens = false) default s := by
    refine Sem.wp_mono _ _ t (fun fin p' s' h' => ?_) (fun _ _ _ h' => h') default s (h _ default caller_in rfl)
    obtain ⟨f, rfl, hf⟩ := h'
    exact hf
  obtain ⟨n, r, s₁, s₂, hs, hn, hfo, hR⟩ := wp_halts_full (M := model prog w) (R := R) hreg z
  exact ⟨n, r, s₂, s₁, hn, hs, hfo, hR⟩
theorem callFrom_C {c : ClaimW} {tree : List Value → Sem Fin} {w : World} {s : Shared} {free : Addr → Prop} {gens : Prop} {kept : Heap → Prop} (hz : s.asleep) (hgens : s.gens = #[])
    (hspec : ∀ args, c.pre args = true → WData.layableAll args = true → ∀ ord : List DictEntry → List DictEntry, (∀ l, (ord l).Perm l) →
      ∃ vs s₁, layAllW c.records (classAt s.heap) w.params ord args s = some (vs, s₁) ∧
        wpC (model c.prog w) callerA (tree vs) (fun fin s' => ∃ f, fin = .done f ∧ (c.Ends s args vs s₁ (.ok f) s' ∧ s'.os = s.os ∧ AllBare s'.gens ∧ kept s'.heap))
          (fun e s' => c.Ends s args vs s₁ (.error e) s' ∧ s'.os = s.os ∧ AllBare s'.gens ∧ kept s'.heap) s₁) :
    c.CallFrom (fun vs => ⟨tree vs, .builtin "claim.caller" {}, default, []⟩) w free gens kept s := by
  intro args hpre hlay ord hord
  obtain ⟨vs, s₁, hlaid, hcode⟩ := hspec args hpre hlay ord hord
  have hal := layAllW_rest _ _ _ hlaid
  obtain ⟨k, r, s', s'', hrun, hsched, hfo, hcase, hos, hkp⟩ := thread_ends_C (prog := c.prog) (w := w) (t := tree vs) (s := s₁)
    (R := fun r s' => c.Ends s args vs s₁ r s' ∧ s'.os = s.os ∧ kept s'.heap) (Shared.asleep_of_life hal.2.2.2 hz)
    (wpC_mono hcode (fun _ _ ⟨f, e, h1, h2, h3, h4⟩ => ⟨f, e, ⟨h1, h2, h4⟩, leftWithCleanup_false_of_bare h3⟩) fun _ _ ⟨h1, h2, h3, h4⟩ => ⟨⟨h1, h2, h4⟩, leftWithCleanup_false_of_bare h3⟩)
  obtain ⟨eh, _, _, eo, _⟩ := Shared.forget_eq hfo
  have hcase := hcase.congr eh
  have hkp : kept s'.heap := by rw [eh]; exact hkp
  rw [← eo] at hos
  have hlife : s'.heap.life = s.heap.life := (runN_life _ _ _ hrun).trans hal.2.2.2
  refine ⟨vs, s₁, hlaid, k, _, s', hsched, ?_, (fun _ i x hx => by rw [hgens] at hx; simp at hx), hkp, by rw [hlife], Shared.rest_eq hos⟩
  rcases hcase with ⟨v, rfl, d1, d2, d3, d4, d5⟩ | ⟨e, ob, cls, rfl, d1, d2, d3, d4, d5⟩
  · exact .inl ⟨v, rfl, d1, d2, d3, fun b o y _ => d4 b o y, d5⟩
  · exact .inr ⟨e, ob, cls, rfl, d1, d2, d3, d4, fun b o y _ => d5 b o y⟩
theorem open_anyC {r : RowW} {run : Value → List Value → Sem Value} {tree : List Value → Sem Fin} {q : Program} {loose defs kps : List Str} {writes : Bool} {Xt : Shared → Bool} {XP : (Str → Option Value) → Heap → Prop} {α : Type} {Yf : Shared → α} {Ya : World → α} {YP : World → Heap → Prop} {N : Nat}
    (left : LeftO r.prog q loose Xt Yf Ya N) (hY : ∀ w s, Yf s = Ya w → YP w s.heap) (hYk : ∀ w h h', YP w h → (∀ b o, h.get? b = some o → h'.get? b = some o) → YP w h') (hX : ∀ s, Xt s = true → XP (s.heap.nsMap mainGlobals) s.heap) (hXk : ∀ mg h h', XP mg h → (∀ b o, h.get? b = some o → h'.get? b = some o) → XP mg h')
    (hRf : ∀ s, Xt s = true → RecFacts r.records s.heap) (hwr : (!writes || r.records.isEmpty) = true) (ok : (chainsOk q && opensWell r.prog && (frees r && r.within.isEmpty)) = true) (hb : r.prog.bare) (hw : r.promised)
    (ht : ∀ vs (w : World) (s : Shared) mg f (Q : Fin → Shared → Prop) (E : Value → Shared → Prop), s.heap.Ns mainGlobals mg → mg r.name = some f → wpC (model r.prog w) callerA (run f vs) (fun v s' => Q (.done (.ret v)) s') E s → wpC (model r.prog w) callerA (tree vs) Q E s)
    (pin : ∀ w s, s.heap.isNs mainGlobals = true → Ground q loose [] XP w s (s.heap.nsMap mainGlobals) (s.heap.nsMap builtinsNs) s.heap → ∀ n ∈ defs, isTheDefsW r.prog s.heap n)
    (call : ∀ (w : World) (s₀ s₁ : Shared) (mg mb : Str → Option Value), Ground q loose r.records XP w s₀ mg mb s₁.heap → YP w s₁.heap → ∀ (args : List WData) (vs : List Value) (as : List Addr),
      r.claim.pre args = true → WData.layableAll args = true → Laid r.records w s₀ s₁ args vs as → sysModules < s₀.heap.objs.size → ∃ f, mg r.name = some f ∧
        wpC (model r.prog w) callerA (run f vs) (fun v s' => GoodWG r.claim (classAt s₀.heap) (ExcName.means s₀.heap) args s₁ (.ok (.ret v)) s')
          (fun e s' => GoodWG r.claim (classAt s₀.heap) (ExcName.means s₀.heap) args s₁ (.error e) s') s₁) : r.claim.HoldsOpenBy (fun vs => ⟨tree vs, .builtin "claim.caller" {}, default, []⟩) defs kps writes := by
  obtain ⟨ok, k5⟩ := Bool.and_eq_true_iff.mp ok
  obtain ⟨hch, o1⟩ := Bool.and_eq_true_iff.mp ok
  obtain ⟨k5, k6⟩ := Bool.and_eq_true_iff.mp k5
  obtain ⟨hsame, hu, ha, hap, hm⟩ := frees_parts k5
  refine ⟨⟨hb, o1, by show r.makers.map _ = []; rw [hm]; rfl⟩, hw.witness, fun w => ⟨(left.behind hX hch w).1, fun s' hs' => ?_⟩⟩
  obtain ⟨s₀, hf, hg0, s, hT, hz, hgens, hg, G00, y⟩ := (left.behind (XP := fun mg h => XP mg h ∧ RecFacts r.records h) (fun s hs => ⟨hX s hs, hRf s hs⟩) hch w).2 s' hs'
  have G0 : Ground q loose [] XP w s (s.heap.nsMap mainGlobals) (s.heap.nsMap builtinsNs) s.heap := ⟨G00.T, G00.B, G00.D, G00.TE, G00.TD, G00.W, G00.X.1, G00.cls, G00.has, G00.apart, G00.once, G00.K⟩
  have RF := G00.X.2
  have hT' := hT
  refine ⟨s₀, hf, hg0, s, hT, pin w s hg G0, RF.1, RF.2.1, ?_⟩
  have hgens : s.gens = #[] := Array.eq_empty_of_size_eq_zero (beq_iff_eq.mp hgens)
  have G : Ground q loose r.records XP w s _ _ s.heap := RF.ground G0
  refine callFrom_C (c := r.claim) hz hgens fun args hpre hlay ord hord => ?_
  obtain ⟨⟨vs, s₁⟩, hlaid⟩ := Option.isSome_iff_exists.mp (layAllW_isSome (P := w.params) (ord := ord) G.has args r.args s (pre_splitW hpre).1)
  have keeps := layAllW_keeps _ _ _ hlaid
  have hal := layAllW_rest _ _ _ hlaid
  obtain ⟨as, hrd, hin, hold⟩ := reads_layAllW hord _ _ _ hlaid hlay s₁.heap (fun _ _ e => e)
  have L : Laid r.records w s s₁ args vs as := ⟨⟨ord, hord, hlaid⟩, hrd, hin, hold, keeps, hal.1.trans hgens, hal.2.2.1⟩
  have G₁ := G.keeps hXk keeps
  obtain ⟨f, hf, h⟩ := call w s s₁ _ _ G₁ (hYk _ _ _ (hY w s y) keeps) args vs as hpre hlay L G.low
  have hi := ident_freeW hu ha hap
  have hwi : r.claim.within = [] := List.isEmpty_iff.mp k6
  exact ⟨vs, s₁, hlaid, ht vs w s₁ _ f _ _ G₁.T.g hf (wpC_mono h (fun v s' g => ⟨_, rfl, have z := g.laid (c := r.claim) hsame hwi hi L; ⟨z.1, z.2.1, z.2.2, fun q => ⟨namesKept_of hT' hg kps keeps g.2.1.old, noTable hwr q⟩⟩⟩) fun e s' g => have z := g.laid (c := r.claim) hsame hwi hi L; ⟨z.1, z.2.1, z.2.2, fun q => ⟨namesKept_of hT' hg kps keeps g.2.1.old, noTable hwr q⟩⟩)⟩
/-- what is to be walked: as WalkO, over the stacks on which the caller stands -/
abbrev WalkC (q : Program) (loose : List Str) (XP : (Str → Option Value) → Heap → Prop) (YP : World → Heap → Prop) (r : RowW) (d : DefRec) (kwd : List (Str × Expr)) (run : Value → List Value → Sem Value) : Prop :=
  ∀ (w : World) (s₀ s₁ : Shared) (mg mb : Str → Option Value), Ground q loose r.records XP w s₀ mg mb s₁.heap → YP w s₁.heap → ∀ (a : Addr) (o : Obj) (pm cd doc dV kV : Value), s₁.heap.get? a = some o →
    o.data = .func { docDef d.name d.params d.body d.scope pm cd doc with defaults := dV, kwdefaults := kV } → s₁.heap.CodeRec cd d.name → Dflts mg s₁.heap d.params kwd dV kV → mg d.name = some (.ref a) → s₁.gens = #[] →
    ∀ (args : List WData) (vals : List Value) (as : List Addr), r.claim.pre args = true → WData.layableAll args = true → ReadsAllW r.records (classAt s₀.heap) s₁.heap vals args as → WellAll w.params s₁.heap vals args → (∀ a ∈ as, (a == sysModules) = false) →
      wpC (model r.prog w) callerA (run (.ref a) vals) (fun v s' => GoodWG r.claim (classAt s₀.heap) (ExcName.means s₀.heap) args s₁ (.ok (.ret v)) s')
        (fun e s' => GoodWG r.claim (classAt s₀.heap) (ExcName.means s₀.heap) args s₁ (.error e) s') s₁
/-- the head over those stacks; its name makes `open_top` take it here -/
theorem PySem.W.holds_open {r : OpenRow} {q : Program} {loose : List Str} {Xt : Shared → Bool} {XP : (Str → Option Value) → Heap → Prop} {α : Type} {Yf : Shared → α} {Ya : World → α} {YP : World → Heap → Prop} {d : DefRec} {kwd : List (Str × Expr)} {N : Nat}
    (left : LeftO r.prog q loose Xt Yf Ya N) (hY : ∀ w s, Yf s = Ya w → YP w s.heap) (hYk : ∀ w h h', YP w h → (∀ b o, h.get? b = some o → h'.get? b = some o) → YP w h')
    (hX : ∀ s, Xt s = true → XP (s.heap.nsMap mainGlobals) s.heap) (hXk : ∀ mg h h', XP mg h → (∀ b o, h.get? b = some o → h'.get? b = some o) → XP mg h')
    (hdef : defOf q r.name = some (d, kwd)) (hp : r.prog.theDef r.name = some (d.params, d.body, d.scope)) (hk : kwWritten? d.params.kwonlyargs d.params.kw_defaults = some kwd) (hRf : ∀ s, Xt s = true → RecFacts r.records s.heap) (hwr : (!r.writes || r.records.isEmpty) = true)
    (k1 : r.wellSaid = true) (ok : (chainsOk q && opensWell r.prog && (frees r.toRowW && r.within.isEmpty)) = true) (hb : r.prog.bare) (hw : r.toRowW.promised)
    (call : WalkC q loose XP YP r.toRowW d kwd fun f vs => PySem.call f vs) : r.Holds := by
  refine ⟨k1, hw, open_anyC (r := r.toRowW) (run := fun f vs => PySem.call f vs) (tree := fun vs => do match ← nsGet mainNs r.name with
      | some f => do ret (← PySem.call f vs)
      | none => unsupported "claim.caller:no-such-global") left hY hYk hX hXk hRf hwr ok hb hw
    (fun vs w s mg f Q E hg hf h => wpC_bindA (wpAny_nsGet hg (by rw [hf]; exact wpC_bind (wpC_mono h (fun _ _ x => wpC_of (wpAny_pure x)) fun _ _ x => x))))
    (fun w s hg G n hn => ?_) fun w s₀ s₁ mg mb G Y args vs as hpre hlay L low => ?_⟩
  · obtain rfl : n = r.name := by split at hn <;> simp_all
    exact pinned_of_view hg G hdef hp hk
  · obtain ⟨a, o, pm, cd, doc, dV, kV, h1, h2, h3, h4, h5⟩ := G.fn hdef
    exact ⟨.ref a, h1, call w s₀ s₁ mg mb G Y a o pm cd doc dV kV h2 h3 h4 h5 (defOf_name hdef ▸ h1) L.gens args vs as hpre hlay L.reads L.well (L.low low)⟩
open_top hd for PySem.Challenge.rw_ik0020_01

theorem fill_00 : PySem.Challenge.rw_ik0020_01 = PySem.Challenge.rw_ik0020_01 ∧ hd.heap_39 = hd.heap_39 := by
  k_fill
  exact ⟨rfl, rfl⟩
local macro_rules | `(tactic| walk_at $s:str) => `(tactic| k_extra $s)
theorem off_01 : True := by
  w_top off
  exact trivial
section
variable {prog : Program} {w : World} {A : Around} {E : Value → Shared → Prop} {s : Shared} {K : Frag} {mg mb : Str → Option Value} {p : Program} {loose : List Str} {mean : ExcName → Option Value} {Q : Value → Shared → Prop}

/-- a call of a def that raises nothing and changes nothing that stood -/
theorem call_pure {name qual : Str} {params : Arguments} {body : List Stmt} {scope : Scope} {dV kV doc pm cdv ct oc : Value} {an od : Option Addr} {osl : Array (Option Value)} {f : Addr} {pos : List Value} {kw : List (Str × Value)} {binds : List (Str × Value)}
    (X : K.In s.heap) (T : Top p loose mean mg mb s.heap) (hroom : A.depth < recursionLimit)
    (ho : K.lookup f = some ⟨oc, od, .func (fnOf name qual params body scope dV kV doc pm an cdv ct), osl⟩) (hcd : codeIn K cdv qual = true)
    (hbind : BindsTo s (fnOf name qual params body scope dV kV doc pm an cdv ct) ⟨pos, kw⟩ binds) (hloc : ∀ y ∈ binds, scope.names.lookup y.1 = some .local)
    (h : ∀ L' h₁, Fr s.heap L' h₁ (fun y => binds.reverse.lookup y) → News s.heap L' h₁ [] →
      wpAny (model prog w) (A.deeper (envOf qual scope L' f cdv)) (execs body (envOf qual scope L' f cdv))
        (fun fl s' => Q (match fl with | .ret v => v | _ => .none) s')
        (fun _ _ => False)
        { s with heap := h₁, toks := s.toks + binds.length })
    (hco : scope.isCoroutine = false := by rfl) (hgen : scope.isGenerator = false := by rfl) (hk : scope.kind = .function := by rfl)
    (hcell : ∀ x ∈ scope.names, x.2 ≠ .cell := by decide) : wpAny (model prog w) A (call (.ref f) pos kw) Q E s := by
  refine wpAny_call (codeAny_call_def (fd := fnOf name qual params body scope dV kV doc pm an cdv ct) (body := body) (binds := binds) hroom (X _ _ ho) rfl T.nolimit (codeRec_of X hcd) rfl hbind hcell hloc (fun h₁ hns hk₁ => ?_) hco hgen hk)
  refine wpAny_mono (h s.heap.objs.size h₁ ⟨hns, hk₁, Nat.le_refl _⟩ News.nil) (fun fl s' hl => hl) fun _ _ y => y.elim
end

/-- the surroundings in which the defs are walked: deep enough for every call of the law's -/
abbrev pA (d : Nat) : Around := { handled := none, depth := d, frames := none, guards := none, units := d }
theorem lift {α : Type} {d : Nat} {M : Model} {A : Around} {t : Sem α} {Q : α → Shared → Prop} {E : Value → Shared → Prop} {s : Shared} (h : wpAny M (pA d) t Q E s) (hh : A.handled = none) (hd : A.depth ≤ d) (hu : A.units ≤ d) : wpAny M A t Q E s :=
  fun Γ p hΓ => h Γ p ⟨hΓ.1.trans hh, Nat.le_trans hΓ.2.1 hd, (fun _ e => by cases e), (fun _ e => by cases e), Nat.le_trans hΓ.2.2.2.2 hu⟩
section
variable {w : World} {A : Around} {E : Value → Shared → Prop} {s : Shared} {mg mb : Str → Option Value} {loose : List Str} {mean : ExcName → Option Value} {Q : Value → Shared → Prop}

theorem type_bytes {prog : Program} {b : Array UInt8} {t : Tok} (h : Q (.type "bytes") s) : wpAny (model prog w) A (call (.type "type") [.bytes b t]) Q E s :=
  call_type_of (Tx := "bytes") (typeIs_bytes _ _ _) (by decide +kernel) h
theorem type_bool {prog : Program} {b : Bool} (h : Q (.type "bool") s) : wpAny (model prog w) A (call (.type "type") [.bool b]) Q E s :=
  call_type_of (Tx := "bool") (by rfl) (by decide +kernel) h
theorem type_int {prog : Program} {i : Int} {t : Tok} (h : Q (.type "int") s) : wpAny (model prog w) A (call (.type "type") [.int i t]) Q E s :=
  call_type_of (Tx := "int") (by rfl) (by decide +kernel) h
theorem say_01_1 : True := by
  k_with "m enter" => (((case k6 => k_is); (case k7 => k_is); (case k9 => first | exact BindsTo.of_eq rfl | exact binds_K (by assumption) rfl (by k_is) rfl rfl rfl); (case kB => exact locs rfl); (case c2 => exact rfl); (case c3 => exact rfl); (case c4 => exact rfl); (case c5 => decide); k_whole))
  exact trivial
theorem say_01_2 : True := by
  k_with "call type:type" => (((with_reducible show wpAny _ _ (call (Value.type "type") [Value.bytes _ _]) _ _ _); refine type_bytes ?_))
  exact trivial
theorem say_01_3 : True := by
  k_with "call type:type" => (((with_reducible show wpAny _ _ (call (Value.type "type") [Value.bool _]) _ _ _); refine type_bool ?_))
  exact trivial
theorem say_01_4 : True := by
  k_with "call type:type" => (((with_reducible show wpAny _ _ (call (Value.type "type") [Value.int _ _]) _ _ _); refine type_int ?_))
  exact trivial



theorem sp_buffer {b : Array UInt8} {t : Tok} (X : (hd.heap_39 w.params).In s.heap) (T : Top hd.view_39 loose mean mg mb s.heap) (hroom : A.depth < recursionLimit)
    (h : ∀ h' tk, s.heap.StaysIn h' → Q (.bytes b t) { s with heap := h', toks := tk }) : wpAny (model PySem.Challenge.pw_ik0020_01 w) A (call (.ref 65) [.bytes b t]) Q E s := by
  k_dflt (refine' call_pure (K := hd.heap_39 w.params) (binds := [(Str.ofString "data", .bytes b t)]) X T hroom ?k6 ?k7 ?k9 ?kB ?_ ?c2 ?c3 ?c4 ?c5; walk_at "m enter")
  intro L' h₁ F N
  k_fold
  k_steps
  exact h _ _ (Fr.keep (by assumption))
theorem sp_truth (X : (hd.heap_39 w.params).In s.heap) (T : Top hd.view_39 loose mean mg mb s.heap) (hroom : A.depth < recursionLimit)
    (h : ∀ h' tk, s.heap.StaysIn h' → Q (.bool false) { s with heap := h', toks := tk }) : wpAny (model PySem.Challenge.pw_ik0020_01 w) A (call (.ref 72) [.bool false]) Q E s := by
  k_dflt (refine' call_pure (K := hd.heap_39 w.params) (binds := [(Str.ofString "x", .bool false)]) X T hroom ?k6 ?k7 ?k9 ?kB ?_ ?c2 ?c3 ?c4 ?c5; walk_at "m enter")
  intro L' h₁ F N
  k_fold
  k_steps
  exact h _ _ (Fr.keep (by assumption))
theorem say_01_5 : True := by
  k_with "m top" => (first | with_reducible assumption | exact Top.keeps (by assumption) (Fr.keep (by assumption)))
  exact trivial
theorem say_01_6 : True := by
  k_with "m back" => ((intro h_r' tk_r' hk_r'; (have F_r' := Fr.keptAll (by assumption) hk_r'); (have N_r' := News.grown (by assumption) hk_r'); (try dsimp only at F_r' N_r'); clear hk_r'; (try k_sweep)))
  exact trivial
theorem say_01_7 : True := by
  k_with "call ref" => ((k_here; (with_reducible show wpAny _ _ (call (Value.ref 65) [Value.bytes _ _]) _ _ _); k_dflt (refine' sp_buffer ?X_q ?T_q ?r_q ?_; (case X_q => k_in); (case T_q => walk_at "m top"); (case r_q => k_room)); walk_at "m back"))
  exact trivial
theorem say_01_8 : True := by
  k_with "call ref" => ((k_here; (with_reducible show wpAny _ _ (call (Value.ref 72) [Value.bool false]) _ _ _); k_dflt (refine' sp_truth ?X_q ?T_q ?r_q ?_; (case X_q => k_in); (case T_q => walk_at "m top"); (case r_q => k_room)); walk_at "m back"))
  exact trivial


section
variable {prog : Program} {a b : Int} {t u : Tok}
theorem and_6 (h : Q (.int (a % 64) s.toks) { s with toks := s.toks + 1 }) : wpAny (model prog w) A (binaryOp .BitAnd (.int a t) (.int 63 u)) Q E s := and_int (by rw [bitAnd_m6]; exact h)
theorem and_16 (h : Q (.int (a % 65536) s.toks) { s with toks := s.toks + 1 }) : wpAny (model prog w) A (binaryOp .BitAnd (.int a t) (.int 65535 u)) Q E s := and_int (by rw [bitAnd_m16]; exact h)
theorem and_2 (h : Q (.int (a % 4) s.toks) { s with toks := s.toks + 1 }) : wpAny (model prog w) A (binaryOp .BitAnd (.int a t) (.int 3 u)) Q E s := and_int (by rw [bitAnd_m2]; exact h)
theorem and_4 (h : Q (.int (a % 16) s.toks) { s with toks := s.toks + 1 }) : wpAny (model prog w) A (binaryOp .BitAnd (.int a t) (.int 15 u)) Q E s := and_int (by rw [bitAnd_m4]; exact h)
theorem and_b6 (h : Q (.int (a / 64 % 2 * 64) s.toks) { s with toks := s.toks + 1 }) : wpAny (model prog w) A (binaryOp .BitAnd (.int a t) (.int 64 u)) Q E s := and_int (by rw [show (64 : Int) = 2 ^ 6 from rfl, kbt_bit]; exact h)
theorem bitOr_low (k : Nat) : ∀ (x b : Int), 0 ≤ b → b < 2 ^ k → Builtin.bitAnd (x * 2 ^ k) b = 0 := by
  induction k with
  | zero =>
    intro x b h0 h1
    have : b = 0 := by simp at h1; omega
    subst this
    have := bitAnd_range (x * 2 ^ 0) (y := 0) (by decide)
    omega
  | succ k ih =>
    intro x b h0 h1
    rw [kbt_halves]
    have e : x * 2 ^ (k + 1) = x * 2 ^ k * 2 := by rw [Int.pow_succ, ← Int.mul_assoc]
    rw [Int.pow_succ] at h1
    rw [e, Int.mul_ediv_cancel _ (by decide), ih x (b / 2) (by omega) (by omega)]
    have : ¬ (x * 2 ^ k * 2 % 2 = 1 ∧ b % 2 = 1) := by
      rw [Int.mul_emod_left]; omega
    rw [if_neg this]; rfl
theorem bitOr_add (k : Nat) {x b : Int} (h0 : 0 ≤ b) (h1 : b < 2 ^ k) : Builtin.bitOr (x * 2 ^ k) b = x * 2 ^ k + b := by
  have e := bitXor_and (x * 2 ^ k) b
  unfold Builtin.bitXor at e
  rw [bitOr_low k x b h0 h1] at e
  omega
theorem shl_n {n : Int} (hn : 0 ≤ n) (hn2 : n ≤ 1000000) (ha : a.natAbs < 2 ^ 64) (h : Q (.int (a * 2 ^ n.toNat) s.toks) { s with toks := s.toks + 1 }) :
    wpAny (model prog w) A (binaryOp .LShift (.int a t) (.int n u)) Q E s := lshift_int_small hn hn2 ha h
theorem or_n {n : Int} (h0 : 0 ≤ b) (h1 : b < 2 ^ n.toNat) (h : Q (.int (a * 2 ^ n.toNat + b) s.toks) { s with toks := s.toks + 1 }) : wpAny (model prog w) A (binaryOp .BitOr (.int (a * 2 ^ n.toNat) t) (.int b u)) Q E s :=
  or_int (by rw [bitOr_add _ h0 h1]; exact h)
theorem shr_n {n : Int} (hn : 0 ≤ n) (ha : 0 ≤ a) (h : Q (.int (a / 2 ^ n.toNat) s.toks) { s with toks := s.toks + 1 }) : wpAny (model prog w) A (binaryOp .RShift (.int a t) (.int n u)) Q E s :=
  rshift_int hn (by rw [Int.fdiv_eq_ediv_of_nonneg _ (Int.pow_nonneg (by decide))]; exact h)
end
theorem say_01_9 : True := by
  k_with "binaryOp BitAnd int int" => (first | refine and_6 ?_ | refine and_16 ?_ | refine and_2 ?_ | refine and_4 ?_ | refine and_b6 ?_)
  exact trivial
theorem say_01_10 : True := by
  k_with "binaryOp BitOr int int" => ((refine' or_n ?h0_q ?h1_q ?_; (case h0_q => omega); (case h1_q => (first | assumption | (simp; omega) | omega))))
  exact trivial
theorem say_01_11 : True := by
  k_with "binaryOp RShift int int" => ((refine' shr_n ?h0_q ?h1_q ?_; (case h0_q => decide); (case h1_q => omega)))
  exact trivial
theorem say_01_12 : True := by
  k_with "binaryOp LShift int int" => ((refine' shl_n ?h0_q ?h1_q ?h2_q ?_; (case h0_q => decide); (case h1_q => decide); (case h2_q => omega)))
  exact trivial

/-- the signs of the alphabet -/
def tabL : List Int := [65, 66, 67, 68, 69, 70, 71, 72, 73, 74, 75, 76, 77, 78, 79, 80, 81, 82, 83, 84, 85, 86, 87, 88, 89, 90, 97, 98, 99, 100, 101, 102, 103, 104, 105, 106, 107, 108, 109, 110, 111, 112, 113, 114, 115, 116, 117, 118, 119, 120, 121, 122, 48, 49, 50, 51, 52, 53, 54, 55, 56, 57, 43, 47]
theorem tab_item {prog : Program} {value slice : PySem.Expr} {i : Int} {t ui : Tok} (h0 : 0 ≤ i) (h1 : i < 64)
    (h : ∀ t' k, 0 ≤ tabL.getD i.toNat 0 → tabL.getD i.toNat 0 < 256 → Q (.int (tabL.getD i.toNat 0) t') { s with toks := k })
    (hs : subscripted slice false (.bytes #[65, 66, 67, 68, 69, 70, 71, 72, 73, 74, 75, 76, 77, 78, 79, 80, 81, 82, 83, 84, 85, 86, 87, 88, 89, 90, 97, 98, 99, 100, 101, 102, 103, 104, 105, 106, 107, 108, 109, 110, 111, 112, 113, 114, 115, 116, 117, 118, 119, 120, 121, 122, 48, 49, 50, 51, 52, 53, 54, 55, 56, 57, 43, 47] t) (.int i ui) = operate [.bytes #[65, 66, 67, 68, 69, 70, 71, 72, 73, 74, 75, 76, 77, 78, 79, 80, 81, 82, 83, 84, 85, 86, 87, 88, 89, 90, 97, 98, 99, 100, 101, 102, 103, 104, 105, 106, 107, 108, 109, 110, 111, 112, 113, 114, 115, 116, 117, 118, 119, 120, 121, 122, 48, 49, 50, 51, 52, 53, 54, 55, 56, 57, 43, 47] t, .int i ui] (getItem (.bytes #[65, 66, 67, 68, 69, 70, 71, 72, 73, 74, 75, 76, 77, 78, 79, 80, 81, 82, 83, 84, 85, 86, 87, 88, 89, 90, 97, 98, 99, 100, 101, 102, 103, 104, 105, 106, 107, 108, 109, 110, 111, 112, 113, 114, 115, 116, 117, 118, 119, 120, 121, 122, 48, 49, 50, 51, 52, 53, 54, 55, 56, 57, 43, 47] t) (.int i ui)) := by with_unfolding_all rfl)
    (ht : ∀ r, letTemporaryGo value (.bytes #[65, 66, 67, 68, 69, 70, 71, 72, 73, 74, 75, 76, 77, 78, 79, 80, 81, 82, 83, 84, 85, 86, 87, 88, 89, 90, 97, 98, 99, 100, 101, 102, 103, 104, 105, 106, 107, 108, 109, 110, 111, 112, 113, 114, 115, 116, 117, 118, 119, 120, 121, 122, 48, 49, 50, 51, 52, 53, 54, 55, 56, 57, 43, 47] t) r = pure () := by intro _; with_unfolding_all rfl) :
    wpAny (model prog w) A (subscriptTail value slice (.bytes #[65, 66, 67, 68, 69, 70, 71, 72, 73, 74, 75, 76, 77, 78, 79, 80, 81, 82, 83, 84, 85, 86, 87, 88, 89, 90, 97, 98, 99, 100, 101, 102, 103, 104, 105, 106, 107, 108, 109, 110, 111, 112, 113, 114, 115, 116, 117, 118, 119, 120, 121, 122, 48, 49, 50, 51, 52, 53, 54, 55, 56, 57, 43, 47] t) (.int i ui)) Q E s :=
  KBw.item_K (ks := tabL) (by decide +kernel) (by decide) h0 h1 h hs ht
theorem say_01_13 : True := by
  k_with "subscriptTail Name BinOp bytes int" => ((refine' tab_item ?h0_q ?h1_q ?_ ?hs_q ?ht_q; (case h0_q => first | omega | (simp; omega)); (case h1_q => first | omega | (simp; omega)); (case hs_q => with_unfolding_all rfl); (case ht_q => (intro _; with_unfolding_all rfl)); intro _ _ _ _))
  exact trivial
theorem say_01_14 : True := by
  k_with "pyIter bytes" => (((with_reducible show wpAny _ _ (pyIter (Value.bytes _ _)) (fun it s₂ => LoopAtV _ _ _ _ _ _ _ _ _ it s₂) _ _); k_here; k_bytesUnr))
  exact trivial
end
/-! Tokens never fall: what a run ends in has drawn at least as many as it began with. -/
theorem toks_runs {M : Model} {Γ : Ctx} {p : Pos} {t : Sem Fin} {fs : List Frame} {s s' : Shared} {e : End} (h : Runs M Γ p t fs s e s') : s.toks ≤ s'.toks := by
  induction h <;> first | exact Nat.le_refl _ | assumption | omega | (simp only [Shared.setGen] at *; omega)
theorem toks_wakes {M : Model} {Γ : Ctx} {p : Pos} {g : Nat} {r : Resume} {s s' : Shared} {res : GenResult} (h : Wakes M Γ p g r s res s') : s.toks ≤ s'.toks := by
  unfold Wakes at h
  split at h
  · exact h.elim
  · split at h
    · obtain ⟨e₁, s₁, q, _, _, rfl⟩ := h; have z := toks_runs q; exact z
    · obtain ⟨_, rfl⟩ := h; exact Nat.le_refl _
    · obtain ⟨_, rfl⟩ := h; exact Nat.le_refl _
  · obtain ⟨e₁, s₁, q, _, _, rfl⟩ := h; have z := toks_runs q; exact z
  · obtain ⟨_, rfl⟩ := h; exact Nat.le_refl _
  · obtain ⟨_, rfl⟩ := h; exact Nat.le_refl _
theorem toks_wp {α : Type} {M : Model} {Γ : Ctx} {n : Nat} (t : Sem α) : ∀ {Q : α → Pos → Shared → Prop} {E : Value → Pos → Shared → Prop} {p : Pos} {s : Shared}, n ≤ s.toks →
    Sem.wp M Γ t (fun a p' s' => n ≤ s'.toks → Q a p' s') (fun e p' s' => n ≤ s'.toks → E e p' s') p s → Sem.wp M Γ t Q E p s := by
  induction t <;> intro Q E p s hn h <;> simp only [Sem.wp] at h ⊢
  all_goals first
    | exact h hn
    | exact h
    | (rename_i ih; exact ih _ hn h)
    | (rename_i ih; exact ih _ (Nat.le_succ_of_le hn) h)
    | (rename_i ih; exact ⟨h.1, ih _ hn h.2⟩)
    | (rename_i ih; obtain ⟨o, ho, h⟩ := h; exact ⟨o, ho, ih _ hn h⟩)
    | (rename_i ih; obtain ⟨r, s', hr, h⟩ := h; exact ⟨r, s', hr, ih _ (Nat.le_trans hn (toks_wakes hr)) h⟩)
    | (rename_i ih; obtain ⟨r, s', hr, h⟩ := h; exact ⟨r, s', hr, ih _ (Nat.le_trans hn (toks_runs hr)) h⟩)
theorem wpAny_up {α : Type} {M : Model} {A : Around} {t : Sem α} {Q : α → Shared → Prop} {E : Value → Shared → Prop} {s : Shared}
    (h : wpAny M A t (fun v s' => s.toks ≤ s'.toks → Q v s') (fun e s' => s.toks ≤ s'.toks → E e s') s) : wpAny M A t Q E s := fun Γ p hΓ => toks_wp t (Nat.le_refl _) (h Γ p hΓ)
theorem A_app_at {M : Model} {A : Around} {env : Env} {E : Value → Shared → Prop} {l : List Stmt} {Γ : Ctx} {Q : Flow → Shared → Prop} (hΓ : Γ.In A) : ∀ (k : List Stmt) (p : Pos) (s : Shared),
    Sem.wp M Γ (execs k env) (fun f _ s' => match f with | .next => wpAny M A (execs l env) Q E s' | f => Q f s') (fun e _ s' => E e s') p s → Sem.wp M Γ (execs (k ++ l) env) (fun f _ s' => Q f s') (fun e _ s' => E e s') p s
  | [], p, s, h => h Γ p hΓ
  | st :: k, p, s, h => by
    show Sem.wp M Γ (execs (st :: (k ++ l)) env) _ _ p s
    rw [execs_cons, Sem.wp_bind'] at h ⊢
    refine Sem.wp_mono _ Γ _ (fun f p' s' h' => ?_) (fun _ _ _ h' => h') p s h
    cases f
    · exact A_app_at hΓ k p' s' h'
    all_goals exact h'
def goesOn (M : Model) (A : Around) (l : List Stmt) (env : Env) (Q : Flow → Shared → Prop) (E : Value → Shared → Prop) (n : Nat) (f : Flow) (s' : Shared) : Prop :=
  match f with | .next => n ≤ s'.toks → wpAny M A (execs l env) Q E s' | f => Q f s'
/-- the last statements, behind those in front: no token has fallen -/
theorem A_app {M : Model} {A : Around} {env : Env} {E : Value → Shared → Prop} {s : Shared} (k : List Stmt) {l : List Stmt} {Q : Flow → Shared → Prop}
    (h : wpAny M A (execs k env) (goesOn M A l env Q E s.toks) E s) : wpAny M A (execs (k ++ l) env) Q E s :=
  fun Γ p hΓ => A_app_at hΓ k p s (wpAny_up (wpAny_mono h (fun f s' h' => by cases f <;> first | exact fun u => h' u | exact fun _ => h') (fun _ _ h' _ => h')) Γ p hΓ)
theorem wpC_up {α : Type} {M : Model} {A : Around} {t : Sem α} {Q : α → Shared → Prop} {E : Value → Shared → Prop} {s : Shared}
    (h : wpC M A t (fun v s' => s.toks ≤ s'.toks → Q v s') (fun e s' => s.toks ≤ s'.toks → E e s') s) : wpC M A t Q E s := fun Γ p hΓ hc => toks_wp t (Nat.le_refl _) (h Γ p hΓ hc)
section
variable {prog : Program} {w : World} {A : Around} {E : Value → Shared → Prop} {s : Shared}
/-- the loop of bytes(list): the bytes have a place of their own in the world (their token is none of the machine's) -/
theorem at_loop {R : Result → Shared → Prop} {l I S : Addr} {vs : List Value} {ns : List Int} (hh : A.handled = none) (hi : IntsAre vs ns) (hr : ∀ n ∈ ns, 0 ≤ n ∧ n < 256) (hz : ns.length ≤ sizeLine) (d1 : I ≠ S) (d2 : l ≠ I) (d3 : l ≠ S) (k : Nat) :
    ∀ (i : Nat) (s : Shared), i + k = ns.length → s.heap.IsList l vs.toArray → s.heap.IsListIter I l i → s.heap.get? S = some { cls := .type "bytearray", data := .bytearray (byteArr (ns.take i)) } →
      (∀ h', (∀ b o, b ≠ I → b ≠ S → s.heap.get? b = some o → h'.get? b = some o) → R (.ok (.ret (.bytes (byteArr ns) s.toks))) { s with heap := h', toks := s.toks + 1 }) →
      codeAny (model prog w) A (.builtin "bytes.__new__.loop" ⟨[.type "bytes", .ref I, .ref S], []⟩) R s := by
  have hlen : vs.length = ns.length := hi.length
  induction k with
  | zero =>
    intro i s hk hl hit hS hR
    obtain rfl : i = ns.length := by omega
    refine codeAny_builtin F.bm_entry_loop ?_
    rw [Around.under_plainId F.bm_plain_loop _]
    show wpAny _ A.in1 (pyNext (.ref I) >>= _) _ _ s
    refine wpAny_bind (wpAny_pyNext_list_end hh hit hl (by simp [hlen]) fun h' he => ?_)
    refine wpAny_bind ?_
    unfold Builtin.Bytes.payload Builtin.Bytes.payload?
    refine wpAny_bind (wpAny_bind (wpAny_load (he S _ (Ne.symm d1) hS) (wpAny_pure (wpAny_pure ?_))))
    rw [List.take_length]
    refine wpAny_bind (wpAny_mkBytes ?_ (by rw [byteArr_size]; exact hz))
    show wpAny _ _ (if (Value.type "bytes" == Value.type "bytes") = true then _ else _) _ _ _
    refine bm_if_true (by decide) ?_
    have fin := hR h' (fun b o hb _ e => he b o hb e)
    first
      | exact wpAny_pure fin
      | exact wpAny_bind (wpAny_pure (wpAny_pure fin))
  | succ k ih =>
    intro i s hk hl hit hS hR
    have hlt : i < ns.length := by omega
    obtain ⟨x, hx⟩ : ∃ x, vs[i]? = some x := ⟨vs[i]'(by omega), List.getElem?_eq_getElem (by omega)⟩
    obtain ⟨n, t, rfl, hn⟩ := IntsAre.at hi i x hx
    have hb := hr n (List.mem_of_getElem? hn)
    refine codeAny_builtin F.bm_entry_loop ?_
    rw [Around.under_plainId F.bm_plain_loop _]
    show wpAny _ A.in1 (pyNext (.ref I) >>= _) _ _ s
    refine wpAny_bind (wpAny_pyNext_list_item (x := .int n t) hit hl (by simpa using hx) fun h' hit' hs => ?_)
    have hS' := (hs.2 S (Ne.symm d1)).trans hS
    refine wpAny_bind (wpAny_holding (wpAny_of_eq (rfl : asIndex (.int n t) = pure n) (wpAny_bind (wpAny_letGo ?_))))
    refine bm_if_false (by simp only [Bool.or_eq_false_iff, decide_eq_false_iff_not]; omega) ?_
    refine wpAny_bind ?_
    show wpAny _ _ (updateBytearray S (·.push n.toNat.toUInt8)) _ _ _
    unfold updateBytearray
    refine wpAny_bind (wpAny_load hS' ?_)
    show wpAny _ _ (update S (Obj.mapBytearray (·.push n.toNat.toUInt8)) >>= fun _ => lookBehind S) _ _ _
    refine wpAny_bind (wpAny_update hS' ?_)
    have hS₂ : (h'.update S (Obj.mapBytearray (·.push n.toNat.toUInt8))).get? S = some { cls := .type "bytearray", data := .bytearray (byteArr (ns.take (i + 1))) } := by
      rw [byteArr_take hn]
      exact Heap.get?_update_self (Obj.mapBytearray (·.push n.toNat.toUInt8)) hS' rfl
    refine wpAny_lookBehind hS₂ ?_ ?_
    · show (if (byteArr (ns.take (i + 1))).size > sizeLine then some "bytearray:memory" else none) = none
      rw [if_neg]
      rw [byteArr_size, List.length_take]
      omega
    · refine wpAny_pure ⟨plainId_quiet F.bm_plain_loop _, ih (i + 1) { s with heap := h'.update S (Obj.mapBytearray (·.push n.toNat.toUInt8)) } (by omega) ((hl.extBut hs.extBut d2).extBut (Heap.SameBut.update ..).extBut d3) (hit'.extBut (Heap.SameBut.update ..).extBut d1) hS₂ fun h3 hk3 => hR h3 fun b o b1 b2 e => hk3 b o b1 b2 ((Heap.get?_update_other _ _ (Ne.symm b2)).trans (hs.extBut b o b1 e))⟩
theorem at_new {l : Addr} {vs : List Value} {ns : List Int} {Q : Value → Shared → Prop} (hh : A.handled = none) (hl : s.heap.IsList l vs.toArray) (hi : IntsAre vs ns) (hr : ∀ n ∈ ns, 0 ≤ n ∧ n < 256) (hz : ns.length ≤ sizeLine)
    (hQ : ∀ h', (∀ b o, s.heap.get? b = some o → h'.get? b = some o) → Q (.bytes (byteArr ns) s.toks) { s with heap := h', toks := s.toks + 1 }) :
    codeAny (model prog w) A (.call (.builtin "bytes.__new__") ⟨[.type "bytes", .ref l], []⟩) (wants Q E) s := by
  refine codeAny_of_tree ?_
  show wpAny _ A.in1 (do checkBuiltinCall "bytes.__new__" ⟨[.type "bytes", .ref l], []⟩; again (.builtin "bytes.__new__" ⟨[.type "bytes", .ref l], []⟩)) _ _ s
  refine wpAny_bind (wpAny_of_eq (F.bm_newCall _) (wpAny_pure ⟨plainId_quiet F.bm_plain _, codeAny_builtin F.bm_entry ?_⟩))
  rw [Around.under_plainId F.bm_plain _]
  have hT : s.TypeIs (.ref l) "list" := hl.typeIs
  obtain ⟨ol, hol, _, nl, hod⟩ := id hl
  unfold Builtin.«bytes.__new__»
  refine wpAny_bind (wpAny_of_eq (a := true) rfl (bm_if_false rfl (wpAny_bind (wpAny_of_eq F.bm_sub (bm_if_false rfl (wpAny_bind (wpAny_of_eq (F.bm_bind _) ?_)))))))
  refine wpAny_bind (wpAny_of_eq (a := ()) rfl (wpAny_bind (wpAny_of_eq (a := ()) rfl (bm_if_false rfl (wpAny_bind (wpAny_specialOf hT F.bm_no_bytes (wpAny_bind (wpAny_bind ?_))))))))
  show wpAny _ _ (load l >>= _) _ _ _
  refine wpAny_bind (wpAny_load hol ?_)
  rw [hod]
  refine wpAny_pure (wpAny_pure (bm_if_false rfl (wpAny_bind (wpAny_specialOf hT F.bm_no_index (bm_if_true rfl ?_)))))
  first
    | show wpAny _ _ (Builtin.Bytes.buffer? "bytes.__new__" (.ref l) true >>= _) _ _ _
    | (refine wpAny_bind ?_; show wpAny _ _ (Builtin.Bytes.buffer? "bytes.__new__" (.ref l) true >>= _) _ _ _)
  refine wpAny_bind ?_
  unfold Builtin.Bytes.buffer?
  refine wpAny_bind (wpAny_specialOf hT F.bm_no_buffer (wpAny_bind (wpAny_specialOf hT F.bm_no_buffer (wpAny_pure (wpAny_bind (wpAny_tryCatch (wpAny_pyIter_list hl ?_)))))))
  have hl₁ : (s.heap.push { cls := .type "list_iterator", data := .fields #[.ref l, .int 0 0] }).IsList l vs.toArray := hl.push _
  have hT₁ : ({ s with heap := s.heap.push { cls := .type "list_iterator", data := .fields #[.ref l, .int 0 0] } } : Shared).TypeIs (.ref l) "list" := Heap.IsList.typeIs (s := { s with heap := s.heap.push { cls := .type "list_iterator", data := .fields #[.ref l, .int 0 0] } }) hl₁
  refine wpAny_bind (wpAny_holding ?_)
  unfold Builtin.Bytes.lengthHint
  refine wpAny_bind (wpAny_specialOf hT₁ slot_list_len.lookup ?_)
  dsimp only
  rw [F.bm_split]
  dsimp only
  refine wpAny_bind (wpAny_isInstance hT₁ F.bm_sub_list (bm_if_false rfl (bm_if_true (by decide +kernel) (wpAny_pure (wpAny_bind ?_)))))
  unfold Builtin.Bytes.newBytearray
  refine wpAny_newObj_type ?_ (Nat.zero_le _)
  have hlt : l < s.heap.objs.size := Heap.lt_size hol
  have hsz : (s.heap.push { cls := .type "list_iterator", data := .fields #[.ref l, .int 0 0] }).objs.size = s.heap.objs.size + 1 := Heap.size_push _ _
  have main := at_loop (prog := prog) (w := w) (A := A) (R := wants Q E) (l := l) (I := s.heap.objs.size) (S := (s.heap.push { cls := .type "list_iterator", data := .fields #[.ref l, .int 0 0] }).objs.size) hh hi hr hz
    (by rw [hsz]; exact Nat.ne_of_lt (Nat.lt_succ_self _)) (Nat.ne_of_lt hlt) (by rw [hsz]; exact Nat.ne_of_lt (Nat.lt_succ_of_lt hlt)) ns.length 0
    { s with heap := (s.heap.push { cls := .type "list_iterator", data := .fields #[.ref l, .int 0 0] }).push { cls := .type "bytearray", data := .bytearray #[] } } (Nat.zero_add _) (hl₁.push _)
    ⟨_, Heap.get?_push_of_some _ (Heap.get?_push_size _ rfl), rfl, rfl⟩ (Heap.get?_push_size _ rfl)
    fun h' hk => hQ h' fun b o e => hk b o (Nat.ne_of_lt (Heap.lt_size e)) (by rw [hsz]; exact Nat.ne_of_lt (Nat.lt_succ_of_lt (Heap.lt_size e))) (Heap.get?_push_of_some _ (Heap.get?_push_of_some _ e))
  first
    | exact wpAny_pure ⟨plainId_quiet F.bm_plain_loop _, main⟩
    | exact wpAny_pure (wpAny_pure ⟨plainId_quiet F.bm_plain_loop _, main⟩)
/-- bytes(list): the token is the next -/
theorem make_at {h₀ : Heap} {L D : Addr} {m : Str → Option Value} {news : List (Addr × Obj)} {vs : List Value} {ns : List Int} {Q : Value → Shared → Prop} (FF : Fr h₀ L s.heap m) (N : News h₀ L s.heap news) (hh : A.handled = none) (hl : s.heap.IsList D vs.toArray) (hi : IntsAre vs ns) (hr : KBa.In ns) (hn : ns.length ≤ 16777216)
    (h : ∀ h', Fr h₀ L h' m → News h₀ L h' news → Q (.bytes (byteArr ns) s.toks) { s with heap := h', toks := s.toks + 1 }) : wpAny (model prog w) A (call (.type "bytes") [.ref D]) Q E s := by
  refine callType_codes (Q₁ := fun obj s₁ => s₁.TypeIs obj "bytes" ∧ Q obj s₁) F.bm_called (F.bm_typeCall _) F.entry_object_init
    (at_new hh hl hi hr (by rw [sizeLine_eq]; exact hn) fun h' hk => ⟨PySem.W.typeIs_bytes _ _ _, h h' (Fr.keptAll FF hk) (News.grown N hk)⟩) fun obj s₁ h₁ => ?_
  exact ⟨h₁.1, F.args_object_init_2 obj _, object_init_meets F.bm_called.init.lookup F.bm_called.made (by decide) prog w A.in1 _ s₁ ⟨h₁.1, rfl, h₁.2⟩⟩
end

theorem off_02 : True := by
  w_top off
  exact trivial
def sext : List Int → List Int
  | [a] => [a / 4, a % 4 * 16]
  | [a, b] => [a / 4, a % 4 * 16 + b / 16, b % 16 * 4]
  | [a, b, c] => [a / 4, a % 4 * 16 + b / 16, b % 16 * 4 + c / 64, c % 64]
  | _ => []
def pads : List Int → List Int
  | [_] => [61, 61]
  | [_, _] => [61]
  | _ => []
def b64 (al octs : List Int) : List Int := (sext octs).map (fun i => al.getD i.toNat 0) ++ pads octs
theorem getD_in {al : List Int} (h : KBa.In al) (i : Nat) : 0 ≤ al.getD i 0 ∧ al.getD i 0 < 256 := KBw.getD_in h
theorem in_b64 {al : List Int} (h : KBa.In al) (octs : List Int) : KBa.In (b64 al octs) := by
  intro n hn
  unfold b64 at hn
  rcases List.mem_append.mp hn with q | q
  · obtain ⟨i, _, rfl⟩ := List.mem_map.mp q
    exact getD_in h _
  · have : n = 61 := by
      unfold pads at q
      split at q <;> simp at q <;> exact q
    subst this; decide
theorem tabL_in : KBa.In tabL := by unfold KBa.In; decide
/-- one octet taken in: what is left, its bits, the signs so far -/
def b2step (st : Int × Int × List Int) (c : Int) : Int × Int × List Int :=
  if st.2.1 = 4 then ((st.1 * 256 + c) % 65536, 0, st.2.2 ++ [tabL.getD ((st.1 * 256 + c) % 65536 / 64 % 64).toNat 0] ++ [tabL.getD ((st.1 * 256 + c) % 65536 / 1 % 64).toNat 0])
  else if st.2.1 = 2 then ((st.1 * 256 + c) % 65536, 4, st.2.2 ++ [tabL.getD ((st.1 * 256 + c) % 65536 / 16 % 64).toNat 0])
  else ((st.1 * 256 + c) % 65536, 2, st.2.2 ++ [tabL.getD ((st.1 * 256 + c) % 65536 / 4 % 64).toNat 0])
def b2run (l : List Int) : Int × Int × List Int := l.foldl b2step (0, 0, [])
theorem dlow {x y : Int} {B : Int} (h0 : 0 ≤ y) (h1 : y < B) : (x * B + y) % B = y := by
  rw [Int.add_comm, Int.add_mul_emod_self_right]
  exact Int.emod_eq_of_lt h0 h1
theorem dup {x y : Int} {B C : Int} (h0 : 0 ≤ y) (h1 : y < B) : (x * B + y) / (B * C) = x / C := by
  have hB : 0 < B := Int.lt_of_le_of_lt h0 h1
  rw [← Int.ediv_ediv_of_nonneg (Int.le_of_lt hB), Int.add_comm, Int.add_mul_ediv_right _ _ (Int.ne_of_gt hB), Int.ediv_eq_zero_of_lt h0 h1, Int.zero_add]
/-- an octet's two parts -/
theorem parts {a d e : Int} (ha : 0 ≤ a ∧ a < 256) (hd : 0 < d) (he : d * e = 256) : a = d * (a / d) + a % d ∧ (0 ≤ a / d ∧ a / d < e) ∧ (0 ≤ a % d ∧ a % d < d) :=
  ⟨(Int.mul_ediv_add_emod a d).symm, ⟨Int.ediv_nonneg ha.1 (Int.le_of_lt hd), Int.ediv_lt_of_lt_mul hd (by rw [Int.mul_comm, he]; exact ha.2)⟩, Int.emod_nonneg _ (Int.ne_of_gt hd), Int.emod_lt_of_pos _ hd⟩
theorem bnd {y z d e : Int} (k : Int) (hy : 0 ≤ y ∧ y < d) (hz : 0 ≤ z ∧ z < k) (hk : d * k = e) : 0 ≤ y * k + z ∧ y * k + z < e := by
  subst hk
  refine ⟨Int.add_nonneg (Int.mul_nonneg hy.1 (Int.le_trans hz.1 (Int.le_of_lt hz.2))) hz.1, ?_⟩
  have h1 : (y + 1) * k ≤ d * k := Int.mul_le_mul_of_nonneg_right hy.2 (Int.le_trans hz.1 (Int.le_of_lt hz.2))
  rw [Int.add_mul, Int.one_mul] at h1
  exact Int.lt_of_lt_of_le (Int.add_lt_add_left hz.2 _) h1
theorem bndm {y d e : Int} (k : Int) (hy : 0 ≤ y ∧ y < d) (h0 : 0 < k) (hk : d * k = e) : 0 ≤ y * k ∧ y * k < e := by
  subst hk
  exact ⟨Int.mul_nonneg hy.1 (Int.le_of_lt h0), Int.mul_lt_mul_of_pos_right hy.2 h0⟩
theorem two16 {a b x y z w : Int} (ea : a = 4 * x + y) (eb : b = 16 * z + w) : a * 256 + b = (x * 64 + (y * 16 + z)) * 16 + w := by lia
theorem two64 {b c z w u v : Int} (eb : b = 16 * z + w) (ec : c = 64 * u + v) : b * 256 + c = (z * 64 + (w * 4 + u)) * 64 + v := by lia
theorem high {a b c : Int} : (a * 256 + b) * 256 + c = a * 65536 + (b * 256 + c) := by lia
theorem up_dig {x y w X B : Int} (e : X = (x * 64 + y) * B + w) (hy : 0 ≤ y ∧ y < 64) (hw : 0 ≤ w ∧ w < B) : X / B % 64 = y := by
  have f : ((x * 64 + y) * B + w) / B = x * 64 + y := by
    have z := dup (x := x * 64 + y) (C := 1) hw.1 hw.2
    rw [Int.mul_one, Int.ediv_one] at z
    exact z
  rw [e, f]
  exact dlow hy.1 hy.2
theorem b2run_end {l : List Int} (hl : l.length ≤ 3) (hr : KBa.In l) :
    b64 tabL l = if (b2run l).2.1 = 2 then (b2run l).2.2 ++ [tabL.getD ((b2run l).1 % 4 * 16).toNat 0] ++ [61] ++ [61] else if (b2run l).2.1 = 4 then (b2run l).2.2 ++ [tabL.getD ((b2run l).1 % 16 * 4).toNat 0] ++ [61] else (b2run l).2.2 := by
  match l, hl, hr with
  | [], _, _ => rfl
  | [a], _, hr =>
    have ha := hr a (.head _)
    obtain ⟨ea, hx, hy⟩ := parts (d := 4) (e := 64) ha (by decide) rfl
    have e1 : (0 * 256 + a) % 65536 = a := by rw [Int.zero_mul, Int.zero_add]; exact Int.emod_eq_of_lt ha.1 (Int.lt_trans ha.2 (by decide))
    show [tabL.getD (a / 4).toNat 0, tabL.getD (a % 4 * 16).toNat 0, 61, 61] = [tabL.getD ((0 * 256 + a) % 65536 / 4 % 64).toNat 0, tabL.getD ((0 * 256 + a) % 65536 % 4 * 16).toNat 0, 61, 61]
    rw [e1, Int.emod_eq_of_lt hx.1 hx.2]
  | [a, b], _, hr =>
    have ha := hr a (.head _)
    have hb := hr b (.tail _ (.head _))
    obtain ⟨ea, hx, hy⟩ := parts (d := 4) (e := 64) ha (by decide) rfl
    obtain ⟨eb, hz, hw⟩ := parts (d := 16) (e := 16) hb (by decide) rfl
    have e1 : (0 * 256 + a) % 65536 = a := by rw [Int.zero_mul, Int.zero_add]; exact Int.emod_eq_of_lt ha.1 (Int.lt_trans ha.2 (by decide))
    have e2 : (a * 256 + b) % 65536 = a * 256 + b := have z := bnd 256 ha hb (e := 65536) rfl; Int.emod_eq_of_lt z.1 z.2
    have e := two16 ea eb
    have f : (a * 256 + b) % 16 = b % 16 := by
      rw [e]
      exact dlow hw.1 hw.2
    show [tabL.getD (a / 4).toNat 0, tabL.getD (a % 4 * 16 + b / 16).toNat 0, tabL.getD (b % 16 * 4).toNat 0, 61] = [tabL.getD ((0 * 256 + a) % 65536 / 4 % 64).toNat 0, tabL.getD (((0 * 256 + a) % 65536 * 256 + b) % 65536 / 16 % 64).toNat 0, tabL.getD (((0 * 256 + a) % 65536 * 256 + b) % 65536 % 16 * 4).toNat 0, 61]
    rw [e1, e2, Int.emod_eq_of_lt hx.1 hx.2, up_dig e (bnd 16 hy hz rfl) hw, f]
  | [a, b, c], _, hr =>
    have ha := hr a (.head _)
    have hb := hr b (.tail _ (.head _))
    have hc := hr c (.tail _ (.tail _ (.head _)))
    obtain ⟨ea, hx, hy⟩ := parts (d := 4) (e := 64) ha (by decide) rfl
    obtain ⟨eb, hz, hw⟩ := parts (d := 16) (e := 16) hb (by decide) rfl
    obtain ⟨ec, hu, hv⟩ := parts (d := 64) (e := 4) hc (by decide) rfl
    have e1 : (0 * 256 + a) % 65536 = a := by rw [Int.zero_mul, Int.zero_add]; exact Int.emod_eq_of_lt ha.1 (Int.lt_trans ha.2 (by decide))
    have e2 : (a * 256 + b) % 65536 = a * 256 + b := have z := bnd 256 ha hb (e := 65536) rfl; Int.emod_eq_of_lt z.1 z.2
    have e3 : ((a * 256 + b) * 256 + c) % 65536 = b * 256 + c := by
      have z := bnd 256 hb hc (e := 65536) rfl
      rw [high]
      exact dlow z.1 z.2
    have e := two64 eb ec
    have f : (b * 256 + c) / 1 % 64 = c % 64 := by
      rw [Int.ediv_one, e]
      exact dlow hv.1 hv.2
    show [tabL.getD (a / 4).toNat 0, tabL.getD (a % 4 * 16 + b / 16).toNat 0, tabL.getD (b % 16 * 4 + c / 64).toNat 0, tabL.getD (c % 64).toNat 0] = [tabL.getD ((0 * 256 + a) % 65536 / 4 % 64).toNat 0, tabL.getD (((0 * 256 + a) % 65536 * 256 + b) % 65536 / 16 % 64).toNat 0,
      tabL.getD ((((0 * 256 + a) % 65536 * 256 + b) % 65536 * 256 + c) % 65536 / 64 % 64).toNat 0, tabL.getD ((((0 * 256 + a) % 65536 * 256 + b) % 65536 * 256 + c) % 65536 / 1 % 64).toNat 0]
    rw [e1, e2, e3, Int.emod_eq_of_lt hx.1 hx.2, up_dig (two16 ea eb) (bnd 16 hy hz rfl) hw, up_dig e (bnd 4 hw hu rfl) hv, f]
  | _ :: _ :: _ :: _ :: _, q, _ => exact absurd q (by simp)
section
variable {prog : Program} {w : World} {A : Around} {E : Value → Shared → Prop} {s : Shared} {env : Env} {h₀ : Heap} {x : Str} {body : List Stmt} {Q : Flow → Shared → Prop}
/-- a loop over bytes whose turns write one list of ints alone -/
theorem iter_bytesO {b : Array UInt8} {t : Tok} {l : List Int} {m₀ : Str → Option Value} {o : Addr} {vs₀ : List Value} {n₀ : Nat} (J : Nat → (Str → Option Value) → List Value → Prop) (hh : A.handled = none) (F : Fr h₀ env.locals s.heap m₀)
    (N : News h₀ env.locals s.heap [(o, W.listOf vs₀.toArray n₀)]) (hx : KBw.bInts b = l) (hj : J 0 m₀ vs₀)
    (turn : ∀ I, o < I → ∀ i c m₁ vs n, l[i]? = some c → 0 ≤ c → c < 256 → J i m₁ vs → ∀ (u : Tok) (it : Obj) h tk (R : Flow → Shared → Prop), Fr h₀ env.locals h (fun y => if y = x then some (.int c u) else m₁ y) → News h₀ env.locals h [(I, it), (o, W.listOf vs.toArray n)] →
      (∀ h' (tk' : Nat) m' vs' n', J (i + 1) m' vs' → Fr h₀ env.locals h' m' → News h₀ env.locals h' [(I, it), (o, W.listOf vs'.toArray n')] → R .next { s with heap := h', toks := tk' }) → wpAny (model prog w) A (execs body env) R E { s with heap := h, toks := tk })
    (done : ∀ m₁ vs n h (tk : Nat), J l.length m₁ vs → Fr h₀ env.locals h m₁ → News h₀ env.locals h [(o, W.listOf vs.toArray n)] → Q .next { s with heap := h, toks := tk }) :
    wpAny (model prog w) A (pyIter (.bytes b t)) (fun it s₂ => LoopAtV prog w A h₀ env x body Q E it s₂) E s := by
  refine iter_bytesUnr hh F N hx fun I hI => ?_
  have hoI : o < I := hI _ (.head _)
  have key : ∀ k i, i + k = l.length → ∀ m₁ vs n, J i m₁ vs → BytesRest prog w A E h₀ env x body Q s I (l.drop i) m₁ [(o, W.listOf vs.toArray n)] := by
    intro k
    induction k with
    | zero =>
      intro i hi m₁ vs n hJ
      obtain rfl : i = l.length := hi
      rw [List.drop_length]
      exact BytesRest.zero fun h tk F N => done m₁ vs n h tk hJ F N
    | succ k ih =>
      intro i hi m₁ vs n hJ
      have hlt : i < l.length := by omega
      rw [List.drop_eq_getElem_cons hlt]
      refine BytesRest.succ fun h0 h1 u it h tk F N => turn I hoI i _ m₁ vs n (List.getElem?_eq_getElem hlt) h0 h1 hJ u it h tk _ F N fun h' tk' m' vs' n' hJ' F' N' => ?_
      refine ⟨h', tk', m', [(o, W.listOf vs'.toArray n')], rfl, F', N', fun p hp => ?_, ih (i + 1) (by omega) m' vs' n' hJ'⟩
      rw [List.mem_singleton.mp hp]
      exact Nat.ne_of_lt hoI
  exact key l.length 0 (Nat.zero_add _) m₀ vs₀ n₀ hj
end
/-- the frame of b2a_base64 between the turns -/
def b2M (o : Addr) (bs : Array UInt8) (t : Tok) (lc lb : Int) (t1 t2 : Tok) (u : Str → Option Value) : Str → Option Value := fun y => if y = Str.ofString "leftchar" then some (.int lc t1) else if y = Str.ofString "leftbits" then some (.int lb t2) else if y = Str.ofString "out" then some (.ref o)
  else if y = Str.ofString "newline" then some (.bool false) else if y = Str.ofString "bin_data" then some (.bytes bs t) else if y = Str.ofString "b" then u y else List.lookup y [(Str.ofString "data", Value.bytes bs t), (Str.ofString "newline", Value.bool false)].reverse
theorem b2M_start {o : Addr} {bs : Array UInt8} {t : Tok} {lc lb : Int} {t1 t2 : Tok} : (fun y => if y = Str.ofString "leftchar" then some (Value.int lc t1) else if y = Str.ofString "leftbits" then some (.int lb t2) else if y = Str.ofString "out" then some (.ref o)
    else if y = Str.ofString "newline" then some (.bool false) else if y = Str.ofString "bin_data" then some (.bytes bs t) else List.lookup y [(Str.ofString "data", Value.bytes bs t), (Str.ofString "newline", Value.bool false)].reverse) =
    b2M o bs t lc lb t1 t2 (fun y => List.lookup y [(Str.ofString "data", Value.bytes bs t), (Str.ofString "newline", Value.bool false)].reverse) := by
  funext y
  unfold b2M
  rw [ite_self]
theorem b2M_turn {o : Addr} {bs : Array UInt8} {t : Tok} {lc lb lc' lb' : Int} {t1 t2 t1' t2' : Tok} {u : Str → Option Value} {v : Value} : (fun y => if y = Str.ofString "leftbits" then some (Value.int lb' t2') else if y = Str.ofString "leftchar" then some (.int lc' t1') else if y = Str.ofString "b" then some v else b2M o bs t lc lb t1 t2 u y) =
    b2M o bs t lc' lb' t1' t2' (fun _ => some v) := by
  funext y
  unfold b2M
  by_cases h1 : y = Str.ofString "leftbits"
  · subst h1
    rw [if_pos rfl, if_neg (by decide), if_pos rfl]
  · rw [if_neg h1]
    by_cases h2 : y = Str.ofString "leftchar"
    · rw [if_pos h2, if_pos h2]
    · rw [if_neg h2, if_neg h2, if_neg h1]
      by_cases h3 : y = Str.ofString "b"
      · subst h3
        rw [if_pos rfl, if_neg (by decide), if_neg (by decide), if_neg (by decide), if_neg (by decide), if_neg (by decide), if_pos rfl]
      · rw [if_neg h3, if_neg h3, if_neg h2, if_neg h1, if_neg h3]
theorem upd_two {α : Type} {a : Str} {v v' : α} {g : Str → α} : (fun y => if y = a then v else if y = a then v' else g y) = fun y => if y = a then v else g y := by
  funext y
  by_cases h : y = a
  · rw [if_pos h, if_pos h]
  · rw [if_neg h, if_neg h, if_neg h]
def b2J (o : Addr) (bs : Array UInt8) (t : Tok) (l : List Int) (i : Nat) (m : Str → Option Value) (vs : List Value) : Prop :=
  ∃ (lc lb : Int) (out : List Int) (t1 t2 : Tok) (u : Str → Option Value), b2run (l.take i) = (lc, lb, out) ∧ m = b2M o bs t lc lb t1 t2 u ∧ IntsAre vs out ∧ 0 ≤ lc ∧ lc < 65536 ∧ (lb = 0 ∨ lb = 2 ∨ lb = 4) ∧ out.length ≤ 2 * i
theorem pushO {fv : List Value} {fs : List Int} {x : Int} {t : Tok} {h₀ h : Heap} {L G : Addr} {n : Nat} {a : Addr × Obj} {r : List (Addr × Obj)} (hf : IntsAre fv fs) (_ : News h₀ L h (a :: (G, W.listOf (fv ++ [Value.int x t]).toArray n) :: r)) : IntsAre (fv ++ [Value.int x t]) (fs ++ [x]) :=
  hf.append (.cons _ _ .nil)
theorem pushH {fv : List Value} {fs : List Int} {x : Int} {t : Tok} {h₀ h : Heap} {L G : Addr} {n : Nat} {r : List (Addr × Obj)} (hf : IntsAre fv fs) (_ : News h₀ L h ((G, W.listOf (fv ++ [Value.int x t]).toArray n) :: r)) : IntsAre (fv ++ [Value.int x t]) (fs ++ [x]) :=
  hf.append (.cons _ _ .nil)
theorem b2run_next {l : List Int} {i : Nat} {c : Int} {st : Int × Int × List Int} (h : l[i]? = some c) (e : b2run (l.take i) = st) : b2run (l.take (i + 1)) = b2step st c := by
  subst e
  unfold b2run
  rw [List.take_add_one, h, List.foldl_append]
  rfl
theorem b2_fr {o : Addr} {bs : Array UInt8} {t : Tok} {lc lb lc' lb' lb2 : Int} {t1 t2 t1' t2' t3 : Tok} {u : Str → Option Value} {v : Value} {h₀ h : Heap} {L : Addr}
    (F : Fr h₀ L h fun y => if y = Str.ofString "leftbits" then some (Value.int lb' t2') else if y = Str.ofString "leftbits" then some (Value.int lb2 t3) else if y = Str.ofString "leftchar" then some (Value.int lc' t1') else if y = Str.ofString "b" then some v else b2M o bs t lc lb t1 t2 u y) :
    Fr h₀ L h (b2M o bs t lc' lb' t1' t2' fun _ => some v) := (upd_two.trans b2M_turn) ▸ F
theorem b2_fr2 {o : Addr} {bs : Array UInt8} {t : Tok} {lc lb lc' lb' lb2 lb3 : Int} {t1 t2 t1' t2' t3 t4 : Tok} {u : Str → Option Value} {v : Value} {h₀ h : Heap} {L : Addr}
    (F : Fr h₀ L h fun y => if y = Str.ofString "leftbits" then some (Value.int lb' t2') else if y = Str.ofString "leftbits" then some (Value.int lb2 t3) else if y = Str.ofString "leftbits" then some (Value.int lb3 t4) else if y = Str.ofString "leftchar" then some (Value.int lc' t1') else if y = Str.ofString "b" then some v else b2M o bs t lc lb t1 t2 u y) :
    Fr h₀ L h (b2M o bs t lc' lb' t1' t2' fun _ => some v) := (upd_two.trans (upd_two.trans b2M_turn)) ▸ F
theorem p24 : (2 : Int) ^ Int.toNat 4 = 16 := by decide
theorem p22 : (2 : Int) ^ Int.toNat 2 = 4 := by decide
theorem p28 : (2 : Int) ^ Int.toNat 8 = 256 := by decide
section
variable {w : World} {A : Around} {E : Value → Shared → Prop} {s : Shared} {mg mb : Str → Option Value} {loose : List Str} {mean : ExcName → Option Value} {Q : Value → Shared → Prop}
theorem say_02_15 : True := by
  k_with "m stepsJ" => (repeat' ((fail_if_success (with_reducible show wpAny _ _ (pyIter _) _ _ _)); (fail_if_success (with_reducible show wpAny _ _ (call (Value.builtin "list.append") _) _ _ _)); first | (k_unfold; (try dsimp only)) | (k_end; wrow_close) | walk1 | (dsimp only; walk1) | (leave1; walk_say "STEP leave1"; try dsimp only) | fail "no step"))
  exact trivial
theorem sp_b2a {bs : Array UInt8} {octs : List Int} {t : Tok} (hb : KBw.bInts bs = octs) (hl : octs.length ≤ 3) (X : (hd.heap_39 w.params).In s.heap) (T : Top hd.view_39 loose mean mg mb s.heap)
    (h : ∀ h' (tk t' : Nat), s.heap.StaysIn h' → tk ≠ 0 → t' ≠ 0 → Q (.bytes (byteArr (b64 tabL octs)) t') { s with heap := h', toks := tk }) : wpAny (model PySem.Challenge.pw_ik0020_01 w) (pA 500) (call (.ref 80) [.bytes bs t] [(Str.ofString "newline", .bool false)]) Q E s := by
  k_dflt (refine' call_pure (K := hd.heap_39 w.params) (binds := [(Str.ofString "data", .bytes bs t), (Str.ofString "newline", .bool false)]) X T (by decide) ?k6 ?k7 ?k9 ?kB ?_ ?c2 ?c3 ?c4 ?c5; walk_at "m enter")
  intro L' h₁ F N
  refine A_app [_, _, _, _, _, _, _, _] (l := [_]) ?_
  k_fold
  walk_at "m stepsJ"
  rename Fr _ _ _ _ => lF
  rename News _ _ _ _ => lN
  have lG := b2M_start ▸ lF
  clear lF
  refine iter_bytesO (b2J _ bs t octs) (by rfl) lG (vs₀ := []) lN hb ⟨0, 0, [], _, _, _, rfl, rfl, .nil, Int.le_refl _, by decide, .inl rfl, Nat.zero_le _⟩ ?turn ?done
  case turn =>
    clear lG lN
    rintro I hoI i c m₁ vs n hc h0 h1 ⟨lc, lb, out, t1, t2, u, hst, rfl, hvs, hc0, hc1, hlb, hlen⟩ u' it h₂ tk₂ R F₂ N₂ hR
    unfold b2M at F₂
    dsimp only at F₂ N₂ hR ⊢
    have hi := (List.getElem?_eq_some_iff.mp hc).1
    rcases hlb with rfl | rfl | rfl
    · walk_at "m stepsJ"
      refine append_K (by k_asm) (by k_asm) (.tail (Nat.ne_of_gt hoI) (.head (by intro _ h; cases h))) ?_ ?z
      case z =>
        rw [List.size_toArray, hvs.length, sizeLine_eq]
        omega
      intro h₃ F₃ N₃
      rw [List.push_toArray] at N₃
      clear N₂ F₂
      have hvs' := pushO hvs N₃
      walk_at "m stepsJ"
      rename Fr _ _ _ _ => FX
      rename News _ _ _ _ => NX
      refine hR _ _ _ _ _ ⟨_, _, _, _, _, _, (b2run_next hc hst).trans ?st, rfl, hvs', Int.emod_nonneg _ (by decide), Int.emod_lt_of_pos _ (by decide), ?lb, ?len⟩ (b2_fr FX) NX
      case st => first | rfl | (unfold b2step; simp only [p28]; rfl)
      case lb => decide
      case len =>
        try simp only [List.length_append, List.length_cons, List.length_nil]
        omega
    · walk_at "m stepsJ"
      refine append_K (by k_asm) (by k_asm) (.tail (Nat.ne_of_gt hoI) (.head (by intro _ h; cases h))) ?_ ?z
      case z =>
        rw [List.size_toArray, hvs.length, sizeLine_eq]
        omega
      intro h₃ F₃ N₃
      rw [List.push_toArray] at N₃
      clear N₂ F₂
      have hvs' := pushO hvs N₃
      walk_at "m stepsJ"
      rename Fr _ _ _ _ => FX
      rename News _ _ _ _ => NX
      refine hR _ _ _ _ _ ⟨_, _, _, _, _, _, (b2run_next hc hst).trans ?st, rfl, hvs', Int.emod_nonneg _ (by decide), Int.emod_lt_of_pos _ (by decide), ?lb, ?len⟩ (b2_fr FX) NX
      case st => first | rfl | (unfold b2step; simp only [p28]; rfl)
      case lb => decide
      case len =>
        try simp only [List.length_append, List.length_cons, List.length_nil]
        omega
    · walk_at "m stepsJ"
      refine append_K (by k_asm) (by k_asm) (.tail (Nat.ne_of_gt hoI) (.head (by intro _ h; cases h))) ?_ ?z
      case z =>
        rw [List.size_toArray, hvs.length, sizeLine_eq]
        omega
      intro h₃ F₃ N₃
      rw [List.push_toArray] at N₃
      clear N₂ F₂
      have hvs' := pushO hvs N₃
      walk_at "m stepsJ"
      rename Fr _ _ _ _ => FB
      rename News _ _ _ _ => NB
      refine append_K FB NB (.tail (Nat.ne_of_gt hoI) (.head (by intro _ h; cases h))) ?_ ?z
      case z =>
        rw [List.size_toArray, hvs'.length, sizeLine_eq]
        try simp only [List.length_append, List.length_cons, List.length_nil]
        omega
      intro h₄ F₄ N₄
      rw [List.push_toArray] at N₄
      clear NB FB
      have hvs'' := pushO hvs' N₄
      walk_at "m stepsJ"
      rename Fr _ _ _ _ => FX
      rename News _ _ _ _ => NX
      refine hR _ _ _ _ _ ⟨_, _, _, _, _, _, (b2run_next hc hst).trans ?st, rfl, hvs'', Int.emod_nonneg _ (by decide), Int.emod_lt_of_pos _ (by decide), ?lb, ?len⟩ (b2_fr2 FX) NX
      case st => first | rfl | (unfold b2step; simp only [p28]; rfl)
      case lb => decide
      case len =>
        try simp only [List.length_append, List.length_cons, List.length_nil]
        omega
  case done =>
    clear lG lN
    rintro m₁ vs n h₂ tk₂ ⟨lc, lb, out, t1, t2, u, hst, rfl, hv0, hc0, hc1, hlb, hlen⟩ F₂ N₂
    rw [List.take_length] at hst
    have e := b2run_end hl fun _ hm => KBw.ints_in (hb.symm ▸ hm)
    rw [hst] at e
    unfold b2M at F₂
    dsimp only at F₂ N₂ e ⊢
    rcases hlb with rfl | rfl | rfl
    · have e : b64 tabL octs = out := e
      k_steps
      intro hup
      k_steps
      have hup : s.toks + 2 ≤ _ := hup
      rename Fr _ _ _ _ => FB
      rename News _ _ _ _ => NB
      with_unfolding_all refine make_at FB NB rfl (News.isList NB (by k_mem)) (e.symm ▸ hv0) (in_b64 tabL_in _) ?z ?_
      case z =>
        rw [e]
        try simp only [List.length_append, List.length_cons, List.length_nil]
        omega
      intro h' F' N'
      try k_unfold
      exact h _ _ _ (Fr.keep F') (Nat.succ_ne_zero _) (Nat.ne_of_gt (Nat.lt_of_lt_of_le (Nat.succ_pos _) hup))
    · have e : b64 tabL octs = out ++ [tabL.getD (lc % 4 * 16).toNat 0] ++ [61] ++ [61] := e
      walk_at "m stepsJ"
      rename Fr _ _ _ _ => FB
      rename News _ _ _ _ => NB
      refine append_K FB NB (.head (by intro _ h; cases h)) ?_ ?z
      case z =>
        rw [List.size_toArray, hv0.length, sizeLine_eq]
        try simp only [List.length_append, List.length_cons, List.length_nil]
        omega
      intro h₃ F₃ N₃
      rw [List.push_toArray] at N₃
      clear NB FB
      have hv1 := pushH hv0 N₃
      rw [p24] at hv1 N₃
      walk_at "m stepsJ"
      rename Fr _ _ _ _ => FB
      rename News _ _ _ _ => NB
      refine append_K FB NB (.head (by intro _ h; cases h)) ?_ ?z
      case z =>
        rw [List.size_toArray, hv1.length, sizeLine_eq]
        try simp only [List.length_append, List.length_cons, List.length_nil]
        omega
      intro h₃ F₃ N₃
      rw [List.push_toArray] at N₃
      clear NB FB
      have hv2 := pushH hv1 N₃
      walk_at "m stepsJ"
      rename Fr _ _ _ _ => FB
      rename News _ _ _ _ => NB
      refine append_K FB NB (.head (by intro _ h; cases h)) ?_ ?z
      case z =>
        rw [List.size_toArray, hv2.length, sizeLine_eq]
        try simp only [List.length_append, List.length_cons, List.length_nil]
        omega
      intro h₃ F₃ N₃
      rw [List.push_toArray] at N₃
      clear NB FB
      have hv3 := pushH hv2 N₃
      k_steps
      intro hup
      k_steps
      have hup : s.toks + 2 ≤ _ := hup
      rename Fr _ _ _ _ => FB
      rename News _ _ _ _ => NB
      with_unfolding_all refine make_at FB NB rfl (News.isList NB (by k_mem)) (e.symm ▸ hv3) (in_b64 tabL_in _) ?z ?_
      case z =>
        rw [e]
        try simp only [List.length_append, List.length_cons, List.length_nil]
        omega
      intro h' F' N'
      try k_unfold
      exact h _ _ _ (Fr.keep F') (Nat.succ_ne_zero _) (Nat.ne_of_gt (Nat.lt_of_lt_of_le (Nat.succ_pos _) hup))
    · have e : b64 tabL octs = out ++ [tabL.getD (lc % 16 * 4).toNat 0] ++ [61] := e
      walk_at "m stepsJ"
      rename Fr _ _ _ _ => FB
      rename News _ _ _ _ => NB
      refine append_K FB NB (.head (by intro _ h; cases h)) ?_ ?z
      case z =>
        rw [List.size_toArray, hv0.length, sizeLine_eq]
        try simp only [List.length_append, List.length_cons, List.length_nil]
        omega
      intro h₃ F₃ N₃
      rw [List.push_toArray] at N₃
      clear NB FB
      have hv1 := pushH hv0 N₃
      rw [p22] at hv1 N₃
      walk_at "m stepsJ"
      rename Fr _ _ _ _ => FB
      rename News _ _ _ _ => NB
      refine append_K FB NB (.head (by intro _ h; cases h)) ?_ ?z
      case z =>
        rw [List.size_toArray, hv1.length, sizeLine_eq]
        try simp only [List.length_append, List.length_cons, List.length_nil]
        omega
      intro h₃ F₃ N₃
      rw [List.push_toArray] at N₃
      clear NB FB
      have hv2 := pushH hv1 N₃
      k_steps
      intro hup
      k_steps
      have hup : s.toks + 2 ≤ _ := hup
      rename Fr _ _ _ _ => FB
      rename News _ _ _ _ => NB
      with_unfolding_all refine make_at FB NB rfl (News.isList NB (by k_mem)) (e.symm ▸ hv2) (in_b64 tabL_in _) ?z ?_
      case z =>
        rw [e]
        try simp only [List.length_append, List.length_cons, List.length_nil]
        omega
      intro h' F' N'
      try k_unfold
      exact h _ _ _ (Fr.keep F') (Nat.succ_ne_zero _) (Nat.ne_of_gt (Nat.lt_of_lt_of_le (Nat.succ_pos _) hup))
end

theorem off_03 : True := by
  w_top off
  exact trivial
namespace B
theorem slot_translate : Slot "bytes" "translate" "bytes.translate" :=
  .of (owner := "bytes") (n := "translate") (by rw [typeLookup_type, builtinLookup_eq_fast]; kernel_rfl) (by decide +kernel) (by decide +kernel) (by decide +kernel)
    (by first | exact .inl (by decide +kernel) | exact .inr (by decide +kernel)) (by rw [isSubtype_type]; kernel_rfl)
theorem type_translate : typeOf (.builtin "bytes.translate") = pure (.type "method_descriptor") := by show builtinType _ = _; rw [builtinType_eq_fast]; kernel_rfl
theorem entry_translate : entryFor table "bytes.translate" = some Builtin.«bytes.translate» := entryFor_of_tree (by kernel_rfl)
theorem args_translate (a b : Value) : argsOk "bytes.translate" ⟨[a, b], []⟩ := by
  unfold argsOk; rw [signature?_of (id := "bytes.translate") (n := "translate".toList.reverse) (o := ['s', 'e', 't', 'y', 'b']) (by kernel_rfl) W.FB.owner_bytes]; kernel_rfl
theorem slot_upper : Slot "bytes" "upper" "bytes.upper" :=
  .of (owner := "bytes") (n := "upper") (by rw [typeLookup_type, builtinLookup_eq_fast]; kernel_rfl) (by decide +kernel) (by decide +kernel) (by decide +kernel)
    (by first | exact .inl (by decide +kernel) | exact .inr (by decide +kernel)) (by rw [isSubtype_type]; kernel_rfl)
theorem type_upper : typeOf (.builtin "bytes.upper") = pure (.type "method_descriptor") := by show builtinType _ = _; rw [builtinType_eq_fast]; kernel_rfl
theorem entry_upper : entryFor table "bytes.upper" = some Builtin.«bytes.upper» := entryFor_of_tree (by kernel_rfl)
theorem args_upper (a : Value) : argsOk "bytes.upper" ⟨[a], []⟩ := by
  unfold argsOk; rw [signature?_of (id := "bytes.upper") (n := "upper".toList.reverse) (o := ['s', 'e', 't', 'y', 'b']) (by kernel_rfl) W.FB.owner_bytes]; kernel_rfl
theorem slot_repr : Slot "bytes" "__repr__" "bytes.__repr__" :=
  .of (owner := "bytes") (n := "__repr__") (by rw [typeLookup_type, builtinLookup_eq_fast]; kernel_rfl) (by decide +kernel) (by decide +kernel) (by decide +kernel)
    (by first | exact .inl (by decide +kernel) | exact .inr (by decide +kernel)) (by rw [isSubtype_type]; kernel_rfl)
theorem entry_repr : entryFor table "bytes.__repr__" = some Builtin.«bytes.__repr__» := entryFor_of_tree (by kernel_rfl)
theorem args_repr (a : Value) : argsOk "bytes.__repr__" ⟨[a], []⟩ := by
  unfold argsOk; rw [signature?_of (id := "bytes.__repr__") (n := "__repr__".toList.reverse) (o := ['s', 'e', 't', 'y', 'b']) (by kernel_rfl) W.FB.owner_bytes]; kernel_rfl
theorem plain_maketrans : plainId "bytes.maketrans" = true := by decide +kernel
theorem entry_maketrans : entryFor table "bytes.maketrans" = some Builtin.«bytes.maketrans» := entryFor_of_tree (by kernel_rfl)
theorem check_maketrans (a b : Value) : checkBuiltinCall "bytes.maketrans" ⟨[a, b], []⟩ = pure () := by kernel_rfl
end B
section
variable {prog : Program} {w : World} {A : Around} {E : Value → Shared → Prop} {s : Shared}
/-- a built-in whose call's look is known -/
theorem call_checked {id : String} {b : Builtin} {args : List Value} {Q : Value → Shared → Prop} (hp : plainId id = true) (hb : entryFor table id = some b) (hck : checkBuiltinCall id ⟨args, []⟩ = pure ())
    (hc : wpAny (model prog w) A.in1 (b ⟨args, []⟩) (fun fin s' => ∃ v, fin = .done (.ret v) ∧ Q v s') E s) : wpAny (model prog w) A (call (.builtin id) args) Q E s := by
  refine wpAny_call (codeAny_call_builtin hp hb ?_)
  rw [hck]
  exact wpAny_pure (wpAny_mono hc (fun fin s' h' => by obtain ⟨v, rfl, hv⟩ := h'; exact hv) fun _ _ h' => h')
end
/-- the table that maketrans makes -/
def trA (b c : Array UInt8) : Array UInt8 := (b.toList.zip c.toList).foldl (fun t (f, x) => t.setIfInBounds f.toNat x) ((Array.range 256).map (·.toUInt8))
/-- what translate makes of bytes -/
def trB (b t : Array UInt8) : Array UInt8 := (b.filter (fun c => !(#[] : Array UInt8).contains c)).map fun c => t.getD c.toNat c
section
variable {prog : Program} {w : World} {A : Around} {E : Value → Shared → Prop} {s : Shared} {b c : Array UInt8} {t u : Tok} {Q : Value → Shared → Prop}
theorem size_trA : (trA b c).size = 256 := by
  have : ∀ (l : List (UInt8 × UInt8)) (x : Array UInt8), (l.foldl (fun t (f, x) => t.setIfInBounds f.toNat x) x).size = x.size := by
    intro l
    induction l with
    | nil => intro x; rfl
    | cons p r ih => intro x; rw [List.foldl_cons, ih]; simp
  unfold trA
  rw [this]
  simp
theorem maketrans_b (hs : b.size = c.size) (h : ∀ t' k, Q (.bytes (trA b c) t') { s with toks := k }) : wpAny (model prog w) A (call (.builtin "bytes.maketrans") [.bytes b t, .bytes c u]) Q E s := by
  refine call_checked B.plain_maketrans B.entry_maketrans (B.check_maketrans _ _) ?_
  show wpAny _ _ (Builtin.Bytes.bytesLike _ (.bytes b t) >>= fun r => _) _ _ s
  refine wpAny_bind (wpAny_of_eq KBd.like_eq ?_)
  show wpAny _ _ (Builtin.Bytes.bytesLike _ (.bytes c u) >>= fun r => _) _ _ s
  refine wpAny_bind (wpAny_of_eq KBd.like_eq ?_)
  refine KFB.if_not (by simp [hs]) ?_
  refine wpAny_bind (wpAny_mkBytes ?_ (by show (trA b c).size ≤ _; rw [size_trA, sizeLine_eq]; omega))
  exact wpAny_pure ⟨_, rfl, h _ _⟩
theorem translate_b (hs : c.size = 256) (hb : (trB b c).size ≤ 16777216) (h : ∀ t' k : Nat, (@Eq Nat t' t ∨ t' + 1 = k) → (@Eq Nat t' t ∨ t' = s.toks) → s.toks ≤ k → Q (.bytes (trB b c) t') { s with toks := k }) : wpAny (model prog w) A (call (.builtin "bytes.translate") [.bytes b t, .bytes c u]) Q E s := by
  refine wpAny_call_entry B.slot_translate (typeIs_bytes _ _ _) B.entry_translate ?_ (B.args_translate _ _)
  unfold Builtin.«bytes.translate» Builtin.Bytes.translateM
  dsimp only
  have e1 : ¬ ([Value.bytes c u].length + ([] : List (Str × Value)).length > 2) := by simp
  have e2 : (([] : List (Str × Value)).any fun x => x.fst != Str.ofString "delete") = false := rfl
  have e3 : (Value.bytes c u == Value.none) = false := rfl
  have e4 : (c.size != 256) = false := by simp [hs]
  rw [if_neg e1]
  refine KFB.if_not e2 ?_
  refine KFB.if_not e3 ?_
  refine wpAny_bind (wpAny_of_eq KBd.like_eq ?_)
  refine KFB.if_not e4 ?_
  refine wpAny_bind (wpAny_pure ?_)
  show wpAny _ _ (pure #[] >>= fun r => _) _ _ s
  refine wpAny_bind (wpAny_pure ?_)
  refine wpAny_bind (wpAny_of_eq (a := b) rfl ?_)
  show wpAny _ _ (if (trB b c == b) = true then _ else _) _ _ s
  cases e : (trB b c == b) with
  | true =>
    have e' : trB b c = b := eq_of_beq e
    refine KFB.if_so rfl (wpAny_bind (wpAny_rule ?_))
    refine wpAny_bind (wpAny_of_eq (a := .bytes b t) rfl ?_)
    refine wpAny_pure ⟨_, rfl, ?_⟩
    have := h t s.toks (.inl rfl) (.inl rfl) (Nat.le_refl _)
    rw [e'] at this
    exact this
  | false =>
    refine KFB.if_not rfl ?_
    refine wpAny_bind ?_
    show wpAny _ _ (mkBytes (trB b c)) _ _ _
    refine wpAny_mkBytes ?_ (by rw [sizeLine_eq]; exact hb)
    exact wpAny_pure ⟨_, rfl, h _ _ (.inr rfl) (.inr rfl) (Nat.le_succ _)⟩
theorem upper_b (hb : b.size ≤ 16777216) (h : ∀ t' k : Nat, t' = s.toks → t' + 1 = k → Q (.bytes (b.toList.map Builtin.Bytes.toUpper).toArray t') { s with toks := k }) : wpAny (model prog w) A (call (.builtin "bytes.upper") [.bytes b t]) Q E s := by
  refine wpAny_call_entry B.slot_upper (typeIs_bytes _ _ _) B.entry_upper ?_ (B.args_upper _)
  unfold Builtin.«bytes.upper» Builtin.Bytes.mappedM
  refine wpAny_bind (wpAny_of_eq (a := .bytes b t) (by kernel_rfl) ?_)
  refine wpAny_bind (wpAny_of_eq (a := b) rfl ?_)
  refine wpAny_bind ?_
  show wpAny _ _ (mkBytes (b.toList.map Builtin.Bytes.toUpper).toArray) _ _ _
  refine wpAny_mkBytes ?_ (by rw [sizeLine_eq]; simpa using hb)
  exact wpAny_pure ⟨_, rfl, h _ _ rfl rfl⟩
/-- the signs of hex -/
def hexA (b : Array UInt8) : Array Nat := b.toList.zipIdx.foldl (fun (out : Array Nat) (c, _) => (out.push (Builtin.Bytes.hexDigit (c.toNat / 16))).push (Builtin.Bytes.hexDigit (c.toNat % 16))) #[]
theorem hex_b (hb : (hexA b).size ≤ 16777216) (h : ∀ t' k, Q (.str ⟨hexA b⟩ t') { s with toks := k }) : wpAny (model prog w) A (call (.builtin "bytes.hex") [.bytes b t]) Q E s := by
  refine wpAny_call_entry W.FB.slot_bytes_hex (typeIs_bytes _ _ _) W.FB.entry_bytes_hex ?_ (W.FB.args_bytes_hex_1 _)
  unfold Builtin.«bytes.hex» Builtin.Bytes.hexM Builtin.Bytes.hexOf
  dsimp only
  refine wpAny_bind (wpAny_of_eq (a := [none, none]) (by kernel_rfl) ?_)
  dsimp only
  refine wpAny_bind (wpAny_pure ?_)
  refine wpAny_bind (wpAny_pure ?_)
  refine wpAny_bind (wpAny_pure ?_)
  refine wpAny_bind (wpAny_of_eq (a := b) rfl ?_)
  show wpAny _ _ (retStr ⟨hexA b⟩) _ _ _
  exact wpAny_bind (wpAny_mkStr (wpAny_pure ⟨_, rfl, h _ _⟩) (by rw [sizeLine_eq]; exact hb))
theorem fold_size {f : UInt8 → Array Nat} (hf : ∀ c, (f c).size ≤ 4) : ∀ (l : List UInt8) (a : Array Nat), (l.foldl (fun acc c => acc ++ f c) a).size ≤ a.size + 4 * l.length
  | [], a => by simp
  | c :: r, a => by
    have h1 := fold_size hf r (a ++ f c)
    have h2 := hf c
    rw [List.foldl_cons, List.length_cons]
    rw [Array.size_append] at h1
    omega
theorem literal_size (b : Array UInt8) : (Builtin.Bytes.literal b).length ≤ 3 + 4 * b.size := by
  unfold Builtin.Bytes.literal
  show (Array.push _ _).size ≤ _
  rw [Array.size_push, ← Array.foldl_toList]
  refine Nat.le_trans (Nat.succ_le_succ (fold_size (fun c => ?_) b.toList _)) ?_
  · dsimp only
    repeat' split
    all_goals simp
  · simp; omega
theorem gives_repr (b : Array UInt8) (t : Tok) (hb : b.size ≤ 1000) : Gives (Builtin.«bytes.__repr__» ⟨[.bytes b t], []⟩) (.str (Builtin.Bytes.literal b)) := by
  show Gives (Builtin.Bytes.literalAsked b >>= fun x => retStr x) _
  unfold Builtin.Bytes.literalAsked
  have e : (Builtin.Bytes.tooLong (4 * b.size + 3 + 0) && Builtin.Bytes.tooLong (Builtin.Bytes.literalLength b false + 0)) = false := by
    have : Builtin.Bytes.tooLong (4 * b.size + 3 + 0) = false := by
      unfold Builtin.Bytes.tooLong
      rw [sizeLine_eq]
      simp; omega
    rw [this]; rfl
  rw [e]
  exact .of_eq rfl
theorem repr_text (hb : b.size ≤ 1000) (h : ∀ x t' k, Q (.str x t') { s with toks := k }) : wpAny (model prog w) A (call (.builtin "repr") [.bytes b t]) Q E s :=
  call_repr_gives (typeIs_bytes _ _ _) B.slot_repr B.entry_repr (B.args_repr _) (gives_repr b t hb) (h _ _ _) rfl (by have := literal_size b; rw [sizeLine_eq]; omega)
end
theorem fold_push {f : Nat → UInt8} : ∀ (l : List Nat) (a : Array UInt8), l.foldl (fun acc y => acc ++ [f y].toArray) a = a ++ (l.map f).toArray
  | [], a => by simp
  | c :: r, a => by rw [List.foldl_cons, fold_push r]; simp
theorem forIn_two {σ : Type} {f : Nat → σ → Sem (ForInStep σ)} {a b : σ} (h0 : f 0 a = pure (.yield b)) (h1 : ∀ i, f i b = pure (.done b)) : ∀ n, forIn (List.range' 0 (n + 1)) a f = (pure b : Sem σ)
  | 0 => by rw [List.range'_succ, List.forIn_cons, h0, pure_bind]; rfl
  | n + 1 => by rw [List.range'_succ, List.forIn_cons, h0, pure_bind]; show forIn (List.range' (0 + 1) (n + 1)) b f = _; rw [List.range'_succ, List.forIn_cons, h1, pure_bind]
theorem loop_range {σ τ : Type} {N : Nat} {f : Nat → σ → Sem (ForInStep σ)} {a b : σ} {g : σ → Sem τ} {r : Sem τ} (hz : N = 0 → g a = r) (h0 : 0 < N → f 0 a = pure (.yield b)) (h1 : ∀ i, f i b = pure (.done b)) (hg : g b = r) :
    (forIn [:N] a f >>= g) = r := by
  rw [Std.Legacy.Range.forIn_eq_forIn_range']
  have hr : ([:N].size) = N := by simp [Std.Legacy.Range.size]
  show (forIn (List.range' 0 [:N].size 1) a f >>= g) = r
  rw [hr]
  cases N with
  | zero => exact (pure_bind _ _).trans (hz rfl)
  | succ n => rw [forIn_two (h0 (Nat.succ_pos _)) h1, pure_bind, hg]
open Builtin._codecs in
theorem enc_ascii {id : String} {self : Value} (x : Str) (h : ∀ c ∈ x.cps.toList, c < 128) (hz : x.length ≤ 1000) : encodeNarrow id asciiCodec none self x = pure (x.cps.map (·.toUInt8)) := by
  have hz0 : ¬ ((#[] : Array UInt8).size > sizeLine) := by simp
  have hz1 : ¬ ((x.cps.map (·.toUInt8)).size > sizeLine) := by rw [Array.size_map, sizeLine_eq]; have : x.cps.size ≤ 1000 := hz; omega
  have hend : x.cps[0 + x.cps.size]? = none := by simp
  have hb : ∀ c ∈ x.cps, asciiCodec.bad c = false := fun c hc => decide_eq_false (Nat.not_le_of_lt (h c (by simpa using hc)))
  have hf : x.cps.findIdx? asciiCodec.bad = none := by
    rw [Array.findIdx?_eq_none_iff]
    exact hb
  have hcl : (Array.findIdx? asciiCodec.bad (x.cps.extract 0)).getD (x.cps.extract 0).size = x.cps.size := by rw [Array.extract_size, hf]; rfl
  have hfold : x.cps.foldl (fun acc y => acc ++ (asciiCodec.bytesOf y).toArray) #[] = x.cps.map (·.toUInt8) := by
    rw [← Array.foldl_toList]
    refine (fold_push (f := (·.toUInt8)) x.cps.toList #[]).trans ?_
    apply Array.ext'
    simp
  delta encodeNarrow
  refine loop_range (σ := Nat × Array UInt8 × Faults) (b := (0 + x.cps.size, x.cps.map (·.toUInt8), {})) (fun hx => ?hz) (fun hx => ?h0) ?h1 rfl
  case hz =>
    have e : x.cps = #[] := Array.eq_empty_of_size_eq_zero hx
    exact congrArg pure (by rw [e, Array.map_empty])
  case h0 =>
    have hx : 0 < x.cps.size := hx
    have h0 : x.cps[0]? = some x.cps[0] := Array.getElem?_eq_getElem hx
    have hb0 : asciiCodec.bad x.cps[0] = false := hb _ (Array.getElem_mem hx)
    refine (if_neg hz0).trans ?_
    dsimp only
    rw [h0]
    refine (if_pos (congrArg not hb0)).trans ?_
    rw [hcl, Array.extract_size, Array.extract_size, hfold]
  case h1 =>
    intro _
    refine (if_neg hz1).trans ?_
    dsimp only
    rw [hend]
open Builtin._codecs in
theorem road_ascii {id : String} {self : Value} {x : Str} : encodeRoad id self x (Str.ofString "ascii") none = (do mkBytes (← encodeNarrow id asciiCodec none self x)) := by
  first | rfl | (unfold encodeRoad; rfl)
theorem type_encode {prog : Program} {w : World} {A : Around} {E : Value → Shared → Prop} {s : Shared} {x : Str} {t u : Tok} {Q : Value → Shared → Prop} (h : ∀ c ∈ x.cps.toList, c < 128) (hz : x.length ≤ 1000)
    (hq : ∀ t' k : Nat, t' = s.toks → t' + 1 = k → Q (.bytes (x.cps.map (·.toUInt8)) t') { s with toks := k }) : wpAny (model prog w) A (call (.builtin "str.encode") [.str x t, .str (Str.ofString "ascii") u]) Q E s := by
  refine wpAny_call_entry F.slot_str_encode (typeIs_str _ _ _) F.entry_str_encode ?_ (F.args_str_encode_2 _ _)
  unfold Builtin.«str.encode»
  refine wpAny_bind (wpAny_of_eq (a := (.str x t, x, [.str (Str.ofString "ascii") u])) (by first | rfl | kernel_rfl) ?_)
  dsimp only
  refine wpAny_bind (wpAny_of_eq (a := [some (.str (Str.ofString "ascii") u), none]) (by first | rfl | kernel_rfl) ?_)
  dsimp only
  refine wpAny_bind (wpAny_of_eq (a := some (Str.ofString "ascii")) (by first | rfl | kernel_rfl) ?_)
  refine wpAny_bind (wpAny_of_eq (a := none) (by first | rfl | kernel_rfl) ?_)
  dsimp only [Option.getD_some]
  rw [road_ascii, enc_ascii x h hz]
  refine wpAny_bind (wpAny_bind (wpAny_pure (wpAny_mkBytes ?_ (by rw [Array.size_map, sizeLine_eq]; have : x.cps.size ≤ 1000 := hz; omega))))
  exact wpAny_pure ⟨_, rfl, hq _ _ rfl rfl⟩

theorem off_04 : True := by
  w_top off
  exact trivial
theorem byteArr_ints (b : Array UInt8) : byteArr (KBw.bInts b) = b := by
  apply Array.ext'
  show ((b.toList.map fun c => (c.toNat : Int)).map fun n => n.toNat.toUInt8) = b.toList
  rw [List.map_map]
  have : ((fun n : Int => n.toNat.toUInt8) ∘ fun c : UInt8 => (c.toNat : Int)) = _root_.id := by
    funext c
    simp
  rw [this, List.map_id]
theorem byteArr_eq {b : Array UInt8} {ks : List Int} (h : KBw.bInts b = ks) : b = byteArr ks := by rw [← h, byteArr_ints]
theorem bInts_in (b : Array UInt8) : KBa.In (KBw.bInts b) := fun _ h => KBw.ints_in h
/-- the two last signs turned -/
def trI (p q k : Int) : Int := if k = 43 then p else if k = 47 then q else k
theorem trA_get (x y c : UInt8) : (trA #[43, 47] #[x, y]).getD c.toNat c = if c = 43 then x else if c = 47 then y else c := by
  have e : trA #[43, 47] #[x, y] = (((Array.range 256).map (·.toUInt8)).setIfInBounds 43 x).setIfInBounds 47 y := rfl
  have hc := c.toNat_lt
  have hk : ∀ k : UInt8, (k.toNat = c.toNat ↔ c = k) := fun k => ⟨fun h => (UInt8.toNat_inj.mp h).symm, fun h => by rw [h]⟩
  rw [e, Array.getD_eq_getD_getElem?, Array.getElem?_setIfInBounds, Array.getElem?_setIfInBounds]
  have h47 := hk 47
  have h43 := hk 43
  simp only [UInt8.reduceToNat] at h47 h43
  by_cases a : c = 47
  · have : (47 : Nat) = c.toNat := h47.mpr a
    subst a
    simp
  · have n47 : ¬ (47 : Nat) = c.toNat := fun z => a (h47.mp z)
    by_cases b : c = 43
    · subst b
      simp
    · have n43 : ¬ (43 : Nat) = c.toNat := fun z => b (h43.mp z)
      simp [n47, n43, a, b, hc]
theorem trB_ints {bs ab : Array UInt8} {ks : List Int} {p q : Int} (hb : KBw.bInts bs = ks) (ha : KBw.bInts ab = [p, q]) : trB bs (trA #[43, 47] ab) = byteArr (ks.map (trI p q)) := by
  obtain ⟨x, y, rfl, rfl, rfl⟩ : ∃ x y : UInt8, ab = #[x, y] ∧ p = x.toNat ∧ q = y.toNat := by
    obtain ⟨l⟩ := ab
    match l, ha with
    | [x, y], h => simp [KBw.bInts] at h; exact ⟨x, y, rfl, h.1.symm, h.2.symm⟩
    | [], h => simp [KBw.bInts] at h
    | [_], h => simp [KBw.bInts] at h
    | _ :: _ :: _ :: _, h => simp [KBw.bInts] at h
  subst hb
  unfold trB
  have e : (bs.filter fun c => !(#[] : Array UInt8).contains c) = bs := by
    apply Array.ext'
    simp
  rw [e]
  apply Array.ext'
  simp only [trA_get]
  show (bs.map _).toList = ((((bs.toList.map fun c => (c.toNat : Int))).map (trI x.toNat y.toNat)).map fun n => n.toNat.toUInt8)
  rw [Array.toList_map, List.map_map, List.map_map]
  apply List.map_congr_left
  intro c _
  show _ = (trI x.toNat y.toNat (c.toNat : Int)).toNat.toUInt8
  unfold trI
  have h43 : ((c.toNat : Int) = 43) ↔ c = 43 := ⟨fun h => UInt8.toNat_inj.mp (by have : c.toNat = 43 := by omega
                                                                                 rw [this]; rfl), fun h => by rw [h]; rfl⟩
  have h47 : ((c.toNat : Int) = 47) ↔ c = 47 := ⟨fun h => UInt8.toNat_inj.mp (by have : c.toNat = 47 := by omega
                                                                                 rw [this]; rfl), fun h => by rw [h]; rfl⟩
  simp only [h43, h47]
  split
  · simp
  · split <;> simp
def hexC (n : Int) : Int := if n < 10 then 48 + n else 55 + n
def hexU (ks : List Int) : List Int := ks.flatMap fun k => [hexC (k / 16), hexC (k % 16)]
theorem hexA_list (b : Array UInt8) : (hexA b).toList = b.toList.flatMap fun c => [Builtin.Bytes.hexDigit (c.toNat / 16), Builtin.Bytes.hexDigit (c.toNat % 16)] := by
  have : ∀ (l : List UInt8) (i : Nat) (a : Array Nat), ((l.zipIdx i).foldl (fun (out : Array Nat) (c, _) => (out.push (Builtin.Bytes.hexDigit (c.toNat / 16))).push (Builtin.Bytes.hexDigit (c.toNat % 16))) a).toList = a.toList ++ l.flatMap fun c => [Builtin.Bytes.hexDigit (c.toNat / 16), Builtin.Bytes.hexDigit (c.toNat % 16)] := by
    intro l
    induction l with
    | nil => intro i a; simp
    | cons c r ih => intro i a; rw [List.zipIdx_cons, List.foldl_cons, ih]; simp
  have h := this b.toList 0 #[]
  simpa [hexA] using h
theorem hexDigit_lt : ∀ n, n < 16 → Builtin.Bytes.hexDigit n < 128 := by decide
theorem hexDigit_up : ∀ n, n < 16 → Builtin.Bytes.toUpper (Builtin.Bytes.hexDigit n).toUInt8 = (hexC (n : Int)).toNat.toUInt8 := by decide
theorem hexA_lt (b : Array UInt8) : ∀ c ∈ (hexA b).toList, c < 128 := by
  intro c hc
  rw [hexA_list] at hc
  obtain ⟨x, _, h⟩ := List.mem_flatMap.mp hc
  have := x.toNat_lt
  simp only [List.mem_cons, List.not_mem_nil, or_false] at h
  rcases h with rfl | rfl <;> exact hexDigit_lt _ (by omega)
theorem hexA_size (b : Array UInt8) : (hexA b).size = 2 * b.size := by
  have : ∀ l : List UInt8, (l.flatMap fun c => [Builtin.Bytes.hexDigit (c.toNat / 16), Builtin.Bytes.hexDigit (c.toNat % 16)]).length = 2 * l.length := by
    intro l
    induction l with
    | nil => rfl
    | cons c r ih => rw [List.flatMap_cons, List.length_append, ih]; simp; omega
  rw [← Array.length_toList, hexA_list, this, Array.length_toList]
theorem hex_ints {b : Array UInt8} {ks : List Int} (hb : KBw.bInts b = ks) : (((hexA b).map (·.toUInt8)).toList.map Builtin.Bytes.toUpper).toArray = byteArr (hexU ks) := by
  subst hb
  unfold byteArr hexU KBw.bInts
  congr 1
  rw [Array.toList_map, hexA_list, List.map_map, List.map_flatMap, List.map_flatMap, List.flatMap_map]
  congr 1
  funext c
  have := c.toNat_lt
  have h1 := hexDigit_up (c.toNat / 16) (by omega)
  have h2 := hexDigit_up (c.toNat % 16) (by omega)
  simp only [List.map_cons, List.map_nil, Function.comp]
  rw [h1, h2]
  rfl

theorem off_05 : True := by
  w_top off
  exact trivial
theorem say_05_16 : True := by
  k_with "m nz" => (first | assumption | omega | (simp only [List.length_cons, List.length_nil] at *; omega))
  exact trivial
section
variable {prog : Program} {w : World} {A : Around} {E : Value → Shared → Prop} {s : Shared} {bs ab : Array UInt8} {ks : List Int} {p q : Int} {t u : Tok} {Q : Value → Shared → Prop}
theorem meth_translate {M : Model} {pl : Sem Bool} {Q : Value × List Value → Shared → Prop} (h : Q (.builtin "bytes.translate", [.bytes bs t]) s) : wpAny M A (getMethod (.bytes bs t) (Str.ofString "translate") pl) Q E s := by
  with_reducible exact KBd.method_of (.bytes bs t) (typeIs_bytes _ _ _) B.slot_translate B.type_translate KBd.noRef h
theorem meth_upper {M : Model} {pl : Sem Bool} {Q : Value × List Value → Shared → Prop} (h : Q (.builtin "bytes.upper", [.bytes bs t]) s) : wpAny M A (getMethod (.bytes bs t) (Str.ofString "upper") pl) Q E s := by
  with_reducible exact KBd.method_of (.bytes bs t) (typeIs_bytes _ _ _) B.slot_upper B.type_upper KBd.noRef h
theorem meth_hex {M : Model} {pl : Sem Bool} {Q : Value × List Value → Shared → Prop} (h : Q (.builtin "bytes.hex", [.bytes bs t]) s) : wpAny M A (getMethod (.bytes bs t) (Str.ofString "hex") pl) Q E s := by
  with_reducible exact KBd.method_of (.bytes bs t) (typeIs_bytes _ _ _) W.FB.slot_bytes_hex W.FB.type_bytes_hex KBd.noRef h
theorem meth_encode {M : Model} {x : Str} {pl : Sem Bool} {Q : Value × List Value → Shared → Prop} (h : Q (.builtin "str.encode", [.str x t]) s) : wpAny M A (getMethod (.str x t) (Str.ofString "encode") pl) Q E s :=
  getMethod_builtin (typeIs_str _ _ _) F.plainAttrs_str F.slot_str_encode F.type_str_encode (fun _ e => nomatch e) h
theorem two_of (ha : KBw.bInts ab = [p, q]) : ab.size = 2 := by rw [← KBw.ints_length, ha]; rfl
theorem maketrans_2 (ha : KBw.bInts ab = [p, q]) (h : ∀ t' k, Q (.bytes (trA #[43, 47] ab) t') { s with toks := k }) : wpAny (model prog w) A (call (.builtin "bytes.maketrans") [.bytes #[43, 47] t, .bytes ab u]) Q E s :=
  maketrans_b (by rw [two_of ha]; rfl) h
theorem translate_2 (ha : KBw.bInts ab = [p, q]) (hb : KBw.bInts bs = ks) (hz : ks.length ≤ 1000) (h : ∀ t' k : Nat, (@Eq Nat t' t ∨ t' + 1 = k) → (@Eq Nat t' t ∨ t' = s.toks) → s.toks ≤ k → Q (.bytes (byteArr (ks.map (trI p q))) t') { s with toks := k }) : wpAny (model prog w) A (call (.builtin "bytes.translate") [.bytes bs t, .bytes (trA #[43, 47] ab) u]) Q E s :=
  translate_b size_trA (by rw [trB_ints hb ha, byteArr_size, List.length_map]; omega) (by rw [trB_ints hb ha]; exact h)
theorem b64_len (al octs : List Int) : (b64 al octs).length ≤ 4 := by
  unfold b64 sext pads
  split <;> simp
end
theorem say_05_17 : True := by
  k_with "getMethod bytes" => ((k_here; first | (with_reducible refine meth_translate ?_) | (with_reducible refine meth_upper ?_) | (with_reducible refine meth_hex ?_)))
  exact trivial
theorem say_05_18 : True := by
  k_with "getMethod str" => ((with_reducible refine meth_encode ?_))
  exact trivial
theorem say_05_19 : True := by
  k_with "getMethod type:bytes" => ((k_here; k_dflt (refine' method_type ?F_q ?X_q ?m_q ?st_q ?e_q ?h_q ?_; (case F_q => k_asm); (case X_q => k_asm); (case m_q => first | rfl | kernel_rfl); (case st_q => decide +kernel); (case e_q => k_is); (case h_q => k_handed))))
  exact trivial
theorem say_05_20 : True := by
  k_with "call builtin:bytes.maketrans" => ((refine' maketrans_2 ?a_q ?_; (case a_q => assumption); intro _ _))
  exact trivial
theorem say_05_21 : True := by
  k_with "call builtin:bytes.translate" => ((refine' translate_2 ?a_q ?b_q ?z_q ?_; (case a_q => assumption); (case b_q => first | assumption | exact KBa.ints_make (in_b64 tabL_in _)); (case z_q => first | assumption | exact Nat.le_trans (b64_len _ _) (by decide)); intro t_r' k_r' z1_r z2_r z3_r; (try dsimp only at z1_r z2_r z3_r)))
  exact trivial
theorem say_05_22 : True := by
  k_with "call ref" => ((k_here; (show wpAny _ _ (call (Value.ref 80) [Value.bytes _ _] [(Str.ofString "newline", Value.bool false)]) _ _ _); k_dflt (refine' lift (sp_b2a ?hb_q ?hl_q ?X_q ?T_q ?_) ?l1_q ?l2_q ?l3_q; (case l1_q => rfl); (case l2_q => exact Nat.le_of_ble_eq_true rfl); (case l3_q => exact Nat.le_of_ble_eq_true rfl); (case hb_q => assumption); (case hl_q => assumption); (case X_q => k_in); (case T_q => walk_at "m top")); intro h_r' tk_r' t_r' hk_r' z1_r z2_r; (have F_r' := Fr.keptAll (by assumption) hk_r'); (have N_r' := News.grown (by assumption) hk_r'); (try dsimp only at F_r' N_r'); clear hk_r'; (try k_sweep)))
  exact trivial
section
variable {w : World} {A : Around} {E : Value → Shared → Prop} {s : Shared} {mg mb : Str → Option Value} {loose : List Str} {mean : ExcName → Option Value} {Q : Value → Shared → Prop} {bs ab : Array UInt8} {octs : List Int} {p q : Int} {t u : Tok}
theorem sp_b64 (hb : KBw.bInts bs = octs) (hl : octs.length ≤ 3) (X : (hd.heap_39 w.params).In s.heap) (T : Top hd.view_39 loose mean mg mb s.heap)
    (h : ∀ h' (tk t' : Nat), s.heap.StaysIn h' → tk ≠ 0 → t' ≠ 0 → Q (.bytes (byteArr (b64 tabL octs)) t') { s with heap := h', toks := tk }) : wpAny (model PySem.Challenge.pw_ik0020_01 w) (pA 490) (call (.ref 97) [.bytes bs t]) Q E s := by
  k_dflt (refine' call_pure (K := hd.heap_39 w.params) (binds := [(Str.ofString "s", .bytes bs t), (Str.ofString "altchars", .none)]) X T (by decide) ?k6 ?k7 ?k9 ?kB ?_ ?c2 ?c3 ?c4 ?c5; walk_at "m enter")
  intro L' h₁ F N
  refine wpAny_up ?_
  k_fold
  k_steps
  refine h _ _ _ (Fr.keep (by assumption)) ?_ ?_ <;> walk_at "m nz"
theorem sp_b64alt (hb : KBw.bInts bs = octs) (hl : octs.length ≤ 3) (ha : KBw.bInts ab = [p, q]) (X : (hd.heap_39 w.params).In s.heap) (T : Top hd.view_39 loose mean mg mb s.heap)
    (h : ∀ h' (tk t' : Nat), s.heap.StaysIn h' → tk ≠ 0 → t' ≠ 0 → Q (.bytes (byteArr ((b64 tabL octs).map (trI p q))) t') { s with heap := h', toks := tk }) : wpAny (model PySem.Challenge.pw_ik0020_01 w) (pA 490) (call (.ref 97) [.bytes bs t] [(Str.ofString "altchars", .bytes ab u)]) Q E s := by
  k_dflt (refine' call_pure (K := hd.heap_39 w.params) (binds := [(Str.ofString "s", .bytes bs t), (Str.ofString "altchars", .bytes ab u)]) X T (by decide) ?k6 ?k7 ?k9 ?kB ?_ ?c2 ?c3 ?c4 ?c5; walk_at "m enter")
  intro L' h₁ F N
  refine wpAny_up ?_
  k_fold
  k_steps
  · refine h _ _ _ (Fr.keep (by assumption)) ?_ ?_ <;> walk_at "m nz"
  · rename_i z
    exact absurd rfl z
end
theorem say_05_23 : True := by
  k_with "m back3" => ((intro h_r' tk_r' t_r' hk_r' z1_r z2_r; (have F_r' := Fr.keptAll (by assumption) hk_r'); (have N_r' := News.grown (by assumption) hk_r'); (try dsimp only at F_r' N_r'); clear hk_r'; (try k_sweep)))
  exact trivial
theorem say_05_24 : True := by
  k_with "call ref" => ((k_here; (show wpAny _ _ (call (Value.ref 97) [Value.bytes _ _] []) _ _ _); k_dflt (refine' lift (sp_b64 ?hb_q ?hl_q ?X_q ?T_q ?_) ?l1_q ?l2_q ?l3_q; (case l1_q => rfl); (case l2_q => exact Nat.le_of_ble_eq_true rfl); (case l3_q => exact Nat.le_of_ble_eq_true rfl); (case hb_q => assumption); (case hl_q => assumption); (case X_q => k_in); (case T_q => walk_at "m top")); walk_at "m back3"))
  exact trivial
/-- the table of the top is made by maketrans -/
theorem url_table : (#[0, 1, 2, 3, 4, 5, 6, 7, 8, 9, 10, 11, 12, 13, 14, 15, 16, 17, 18, 19, 20, 21, 22, 23, 24, 25, 26, 27, 28, 29, 30, 31, 32, 33, 34, 35, 36, 37, 38, 39, 40, 41, 42, 45, 44, 45, 46, 95, 48, 49, 50, 51, 52, 53, 54, 55, 56, 57, 58, 59, 60, 61, 62, 63, 64, 65, 66, 67, 68, 69, 70, 71, 72, 73, 74, 75, 76, 77, 78, 79, 80, 81, 82, 83, 84, 85, 86, 87, 88, 89, 90, 91, 92, 93, 94, 95, 96, 97, 98, 99, 100, 101, 102, 103, 104, 105, 106, 107, 108, 109, 110, 111, 112, 113, 114, 115, 116, 117, 118, 119, 120, 121, 122, 123, 124, 125, 126, 127, 128, 129, 130, 131, 132, 133, 134, 135, 136, 137, 138, 139, 140, 141, 142, 143, 144, 145, 146, 147, 148, 149, 150, 151, 152, 153, 154, 155, 156, 157, 158, 159, 160, 161, 162, 163, 164, 165, 166, 167, 168, 169, 170, 171, 172, 173, 174, 175, 176, 177, 178, 179, 180, 181, 182, 183, 184, 185, 186, 187, 188, 189, 190, 191, 192, 193, 194, 195, 196, 197, 198, 199, 200, 201, 202, 203, 204, 205, 206, 207, 208, 209, 210, 211, 212, 213, 214, 215, 216, 217, 218, 219, 220, 221, 222, 223, 224, 225, 226, 227, 228, 229, 230, 231, 232, 233, 234, 235, 236, 237, 238, 239, 240, 241, 242, 243, 244, 245, 246, 247, 248, 249, 250, 251, 252, 253, 254, 255] : Array UInt8) = trA #[43, 47] #[45, 95] := by
  apply Array.ext'
  rw [show trA #[43, 47] #[45, 95] = (((Array.range 256).map (·.toUInt8)).setIfInBounds 43 45).setIfInBounds 47 95 from rfl, Array.toList_setIfInBounds, Array.toList_setIfInBounds, Array.toList_map, Array.toList_range]
  kernel_rfl
section
variable {prog : Program} {w : World} {A : Around} {E : Value → Shared → Prop} {s : Shared} {bs ab : Array UInt8} {ks : List Int} {t u : Tok} {Q : Value → Shared → Prop}
theorem translate_u (he : ab = trA #[43, 47] #[45, 95]) (hb : KBw.bInts bs = ks) (hz : ks.length ≤ 1000) (h : ∀ t' k : Nat, (@Eq Nat t' t ∨ t' + 1 = k) → (@Eq Nat t' t ∨ t' = s.toks) → s.toks ≤ k → Q (.bytes (byteArr (ks.map (trI 45 95))) t') { s with toks := k }) : wpAny (model prog w) A (call (.builtin "bytes.translate") [.bytes bs t, .bytes ab u]) Q E s := by
  subst he
  exact translate_2 (ab := #[45, 95]) rfl hb hz h
theorem hex_k (hb : KBw.bInts bs = ks) (hz : ks.length ≤ 400) (h : ∀ t' k, Q (.str ⟨hexA bs⟩ t') { s with toks := k }) : wpAny (model prog w) A (call (.builtin "bytes.hex") [.bytes bs t]) Q E s :=
  hex_b (by rw [hexA_size, ← KBw.ints_length, hb]; omega) h
theorem encode_k (hb : KBw.bInts bs = ks) (hz : ks.length ≤ 400) (h : ∀ t' k : Nat, t' = s.toks → t' + 1 = k → Q (.bytes ((hexA bs).map (·.toUInt8)) t') { s with toks := k }) : wpAny (model prog w) A (call (.builtin "str.encode") [.str ⟨hexA bs⟩ t, .str (Str.ofString "ascii") u]) Q E s :=
  type_encode (x := ⟨hexA bs⟩) (hexA_lt bs) (by show (hexA bs).size ≤ _; rw [hexA_size, ← KBw.ints_length, hb]; omega) h
theorem upper_k (hb : KBw.bInts bs = ks) (hz : ks.length ≤ 400) (h : ∀ t' k : Nat, t' = s.toks → t' + 1 = k → Q (.bytes (byteArr (hexU ks)) t') { s with toks := k }) : wpAny (model prog w) A (call (.builtin "bytes.upper") [.bytes ((hexA bs).map (·.toUInt8)) t]) Q E s :=
  upper_b (by rw [Array.size_map, hexA_size, ← KBw.ints_length, hb]; omega) (by rw [hex_ints hb]; exact h)
end
theorem say_05_25 : True := by
  k_with "call builtin:bytes.translate" => ((refine' translate_u ?e_q ?b_q ?z_q ?_; (case e_q => exact url_table); (case b_q => first | assumption | exact KBa.ints_make (in_b64 tabL_in _)); (case z_q => first | assumption | exact Nat.le_trans (b64_len _ _) (by decide)); intro t_r' k_r' z1_r z2_r z3_r; (try dsimp only at z1_r z2_r z3_r)))
  exact trivial
theorem say_05_26 : True := by
  k_with "call builtin:bytes.hex" => ((refine' hex_k ?b_q ?z_q ?_; (case b_q => assumption); (case z_q => omega); intro _ _))
  exact trivial
theorem say_05_27 : True := by
  k_with "call builtin:str.encode" => ((refine' encode_k ?b_q ?z_q ?_; (case b_q => assumption); (case z_q => omega); intro t_r' k_r' z1_r z2_r; (try dsimp only at z1_r z2_r)))
  exact trivial
theorem say_05_28 : True := by
  k_with "call builtin:bytes.upper" => ((refine' upper_k ?b_q ?z_q ?_; (case b_q => assumption); (case z_q => omega); intro t_r' k_r' z1_r z2_r; (try dsimp only at z1_r z2_r)))
  exact trivial
section
variable {w : World} {A : Around} {E : Value → Shared → Prop} {s : Shared} {mg mb : Str → Option Value} {loose : List Str} {mean : ExcName → Option Value} {Q : Value → Shared → Prop} {bs ab : Array UInt8} {octs : List Int} {p q : Int} {t u : Tok}
theorem sp_std (hb : KBw.bInts bs = octs) (hl : octs.length ≤ 3) (X : (hd.heap_39 w.params).In s.heap) (T : Top hd.view_39 loose mean mg mb s.heap)
    (h : ∀ h' (tk t' : Nat), s.heap.StaysIn h' → tk ≠ 0 → t' ≠ 0 → Q (.bytes (byteArr (b64 tabL octs)) t') { s with heap := h', toks := tk }) : wpAny (model PySem.Challenge.pw_ik0020_01 w) (pA 480) (call (.ref 104) [.bytes bs t]) Q E s := by
  k_dflt (refine' call_pure (K := hd.heap_39 w.params) (binds := [(Str.ofString "s", .bytes bs t)]) X T (by decide) ?k6 ?k7 ?k9 ?kB ?_ ?c2 ?c3 ?c4 ?c5; walk_at "m enter")
  intro L' h₁ F N
  refine wpAny_up ?_
  k_fold
  k_steps
  refine h _ _ _ (Fr.keep (by assumption)) ?_ ?_ <;> walk_at "m nz"
theorem sp_url (hb : KBw.bInts bs = octs) (hl : octs.length ≤ 3) (X : (hd.heap_39 w.params).In s.heap) (T : Top hd.view_39 loose mean mg mb s.heap)
    (h : ∀ h' (tk t' : Nat), s.heap.StaysIn h' → tk ≠ 0 → t' ≠ 0 → Q (.bytes (byteArr ((b64 tabL octs).map (trI 45 95))) t') { s with heap := h', toks := tk }) : wpAny (model PySem.Challenge.pw_ik0020_01 w) (pA 480) (call (.ref 111) [.bytes bs t]) Q E s := by
  k_dflt (refine' call_pure (K := hd.heap_39 w.params) (binds := [(Str.ofString "s", .bytes bs t)]) X T (by decide) ?k6 ?k7 ?k9 ?kB ?_ ?c2 ?c3 ?c4 ?c5; walk_at "m enter")
  intro L' h₁ F N
  refine wpAny_up ?_
  k_fold
  k_steps
  refine h _ _ _ (Fr.keep (by assumption)) ?_ ?_ <;> walk_at "m nz"
theorem sp_hex (hb : KBw.bInts bs = octs) (hl : octs.length ≤ 3) (X : (hd.heap_39 w.params).In s.heap) (T : Top hd.view_39 loose mean mg mb s.heap)
    (h : ∀ h' (tk t' : Nat), s.heap.StaysIn h' → tk ≠ 0 → t' ≠ 0 → Q (.bytes ((hexA bs).map (·.toUInt8)) t') { s with heap := h', toks := tk }) : wpAny (model PySem.Challenge.pw_ik0020_01 w) (pA 490) (call (.ref 89) [.bytes bs t]) Q E s := by
  k_dflt (refine' call_pure (K := hd.heap_39 w.params) (binds := [(Str.ofString "data", .bytes bs t), (Str.ofString "sep", .ref 81), (Str.ofString "bytes_per_sep", .int 1 278)]) X T (by decide) ?k6 ?k7 ?k9 ?kB ?_ ?c2 ?c3 ?c4 ?c5; walk_at "m enter")
  intro L' h₁ F N
  refine wpAny_up ?_
  k_fold
  k_steps
  refine h _ _ _ (Fr.keep (by assumption)) ?_ ?_ <;> walk_at "m nz"
end
theorem say_05_29 : True := by
  k_with "call ref" => ((k_here; (show wpAny _ _ (call (Value.ref 89) [Value.bytes _ _] []) _ _ _); k_dflt (refine' lift (sp_hex ?hb_q ?hl_q ?X_q ?T_q ?_) ?l1_q ?l2_q ?l3_q; (case l1_q => rfl); (case l2_q => exact Nat.le_of_ble_eq_true rfl); (case l3_q => exact Nat.le_of_ble_eq_true rfl); (case hb_q => assumption); (case hl_q => assumption); (case X_q => k_in); (case T_q => walk_at "m top")); walk_at "m back3"))
  exact trivial
section
variable {w : World} {A : Around} {E : Value → Shared → Prop} {s : Shared} {mg mb : Str → Option Value} {loose : List Str} {mean : ExcName → Option Value} {Q : Value → Shared → Prop} {bs ab : Array UInt8} {octs : List Int} {p q : Int} {t u : Tok}
theorem sp_b16 (hb : KBw.bInts bs = octs) (hl : octs.length ≤ 3) (X : (hd.heap_39 w.params).In s.heap) (T : Top hd.view_39 loose mean mg mb s.heap)
    (h : ∀ h' (tk t' : Nat), s.heap.StaysIn h' → tk ≠ 0 → t' ≠ 0 → Q (.bytes (byteArr (hexU octs)) t') { s with heap := h', toks := tk }) : wpAny (model PySem.Challenge.pw_ik0020_01 w) (pA 480) (call (.ref 118) [.bytes bs t]) Q E s := by
  k_dflt (refine' call_pure (K := hd.heap_39 w.params) (binds := [(Str.ofString "s", .bytes bs t)]) X T (by decide) ?k6 ?k7 ?k9 ?kB ?_ ?c2 ?c3 ?c4 ?c5; walk_at "m enter")
  intro L' h₁ F N
  refine wpAny_up ?_
  k_fold
  k_steps
  refine h _ _ _ (Fr.keep (by assumption)) ?_ ?_ <;> walk_at "m nz"
end

theorem off_06 : True := by
  w_top off
  exact trivial
/-- what the source of a comprehension hands on (one clause, no test): the turns, the element's value, the end -/
def SrcK (prog : Program) (w : World) (A : Around) (env : Env) (elt target : Expr) (scope : Scope) (cl : List (Str × Addr)) (Q : Value → Shared → Prop) (it : Value) (s₂ : Shared) : Prop :=
  ∃ (I : Addr) (fp wr : List Addr) (n : Nat) (P Md : Nat → Value → Heap → Prop) (St : Nat → Heap → Prop) (Y : Nat → Value → Heap → Prop),
    it = .ref I ∧ KTurns prog w A target I fp wr n P Md St ∧ (∀ b ∈ fp, b < s₂.heap.objs.size) ∧ St 0 s₂.heap ∧ n ≤ sizeLine ∧
    (∀ i s (Q : Value → Shared → Prop) (E : Value → Shared → Prop), St i s.heap → Q (.ref I) s → wpAny (model prog w) A (pyIter (.ref I)) Q E s) ∧
    (∀ i y h h', Y i y h → (∀ b o, s₂.heap.objs.size + 2 ≤ b → h.get? b = some o → h'.get? b = some o) → Y i y h') ∧
    (∀ i v C m₂ h tk (E' : Value → Shared → Prop), i < n → P i v h → s₂.heap.objs.size < C → C < s₂.heap.objs.size + 2 → h.Ns C m₂ →
      (∀ b o, b ∉ wr → s₂.heap.get? b = some o → h.get? b = some o) → s₂.heap.objs.size + 2 ≤ h.objs.size →
      wpAny (model prog w) A (assign target (compEnvC scope cl C env) v) (fun _ s₄ => wpAny (model prog w) A (eval elt (compEnvC scope cl C env))
        (fun y s₅ => ∃ h' tk' m₃, s₅ = { s₂ with heap := h', toks := tk' } ∧ Y i y h' ∧ h'.Ns C m₃ ∧ (∀ b o, b ≠ C → h.get? b = some o → h'.get? b = some o)) E' s₄) E' { s₂ with heap := h, toks := tk }) ∧
    (∀ D ys h tk, h.get? D = some (LCg.lst ys) → ys.length = n → (∀ i y, ys[i]? = some y → Y i y h) → s₂.heap.get? D = none → s₂.heap.objs.size ≤ D →
      (∀ b o, b ∉ wr → s₂.heap.get? b = some o → h.get? b = some o) → Q (.ref D) { s₂ with heap := h, toks := tk })
section
variable {prog : Program} {w : World} {A : Around} {E : Value → Shared → Prop} {s : Shared} {env : Env}
theorem comp_blockR {elt target iter : Expr} {scope : Scope} {cl : List (Str × Addr)} {pos : Pos} {Q : Value → Shared → Prop} {it : Value} {s₂ : Shared} {R : Value → Addr → Result → Shared → Prop}
    (hcell : ∀ y ∈ scope.names, y.2 ≠ .cell) (hkind : scope.kind = .function) (S : SrcK prog w A env elt target scope cl Q it s₂)
    (hR : ∀ C D m' h₂ tk, h₂.Ns C m' → D ≠ C → (∀ h₃, (∀ b o, b ≠ C → h₂.get? b = some o → h₃.get? b = some o) → Q (.ref D) { s₂ with heap := h₃, toks := tk }) → R (.ref D) C (.ok .next) { s₂ with heap := h₂, toks := tk }) :
    wpAny (model prog w) A (newList []) (fun acc s₃ => wpAny (model prog w) A (newFunctionEnv scope env.globals cl [] env.qual none .none (some env)) (fun cenv s₄ =>
      codeAny (model prog w) A (.compStart (.ListComp elt [⟨target, iter, [], 0⟩] scope pos) 0 it acc { cenv with scope := relabel scope env }) (R acc cenv.locals) s₄) E s₃) E s₂ := by
  obtain ⟨I, fp, wr, n, P, Md, St, Y, rfl, W, hfp, hst, hsz, self, mono, turn, fin⟩ := S
  refine wpAny_newObj_type (wpAny_newFunctionEnv hcell (by intro y hy; simp at hy) (fun h₁ hns₁ hsb₁ => ?_) hkind)
  dsimp only at hns₁ hsb₁ ⊢
  generalize hH2 : s₂.heap.push { cls := .type "list", dict := none, data := .seq ([] : List Value).toArray } = H2 at hns₁ hsb₁ ⊢
  have hC : H2.objs.size = s₂.heap.objs.size + 1 := by rw [← hH2, Heap.size_push]
  have hDC : s₂.heap.objs.size ≠ H2.objs.size := by rw [hC]; exact Nat.ne_of_lt (Nat.lt_succ_self _)
  have below : ∀ b, b < s₂.heap.objs.size → b ≠ H2.objs.size ∧ b ≠ s₂.heap.objs.size := fun b hb => ⟨by rw [hC]; exact Nat.ne_of_lt (Nat.lt_succ_of_lt hb), Nat.ne_of_lt hb⟩
  have hDf : s₂.heap.objs.size ∉ fp := fun hm => Nat.lt_irrefl _ (hfp _ hm)
  have hCf : H2.objs.size ∉ fp := fun hm => by have := hfp _ hm; rw [hC] at this; exact Nat.lt_irrefl _ (Nat.lt_of_succ_lt this)
  have old : ∀ b o, s₂.heap.get? b = some o → h₁.get? b = some o := fun b o e => hsb₁.extBut b o (below b (Heap.lt_size e)).1 (Heap.get?_push_of_some _ (hH2 ▸ Heap.get?_push_of_some _ e))
  have hacc : h₁.get? s₂.heap.objs.size = some (LCg.lst []) := hsb₁.extBut _ _ hDC (Heap.get?_push_of_some _ (hH2 ▸ Heap.get?_push_size _ rfl))
  have hst₁ : St 0 h₁ := W.frame _ _ _ hst fun b _ o e => old b o e
  have fresh : s₂.heap.get? s₂.heap.objs.size = none := by
    cases e : s₂.heap.get? s₂.heap.objs.size with
    | none => rfl
    | some o' => exact absurd (Heap.lt_size e) (Nat.lt_irrefl _)
  have big : ∀ b, s₂.heap.objs.size + 2 ≤ b → b ≠ H2.objs.size ∧ b ≠ s₂.heap.objs.size := fun b hb => ⟨Nat.ne_of_gt (by rw [hC]; exact hb), Nat.ne_of_gt (Nat.lt_of_succ_lt hb)⟩
  have wrlt : ∀ b ∈ wr, b < s₂.heap.objs.size := fun b hb => hfp b (W.sub b hb)
  have loop : ∀ s₃ : Shared, s₃ = { s₂ with heap := h₁, toks := s₂.toks + ([] : List (Str × Value)).length } →
      codeAny (model prog w) A (.compLoop (.ListComp elt [⟨target, iter, [], 0⟩] scope pos) 0 (.ref I) (.ref s₂.heap.objs.size) (compEnvC scope cl H2.objs.size env))
        (R (.ref s₂.heap.objs.size) H2.objs.size) s₃ := by
    rintro s₃ rfl
    refine kcp_loop
      (fun k s' => ∃ h' tk i ys m', s' = { s₂ with heap := h', toks := tk } ∧ i ≤ n ∧ k = n + 1 - i ∧ ys.length = i ∧ St i h' ∧ h'.Ns H2.objs.size m' ∧ h'.get? s₂.heap.objs.size = some (LCg.lst ys) ∧
        (∀ b o, b ∉ wr → s₂.heap.get? b = some o → h'.get? b = some o) ∧ (∀ i y, ys[i]? = some y → Y i y h')) ?_ (n + 1)
      ⟨h₁, _, 0, [], _, rfl, Nat.zero_le _, rfl, rfl, hst₁, hns₁, hacc, fun b o _ e => old b o e, fun i y e => by simp at e⟩
    rintro k s' ⟨h', tk, i, ys, m', rfl, hi, rfl, hyl, hst', hn', hD', hk', hY'⟩
    have hDw : s₂.heap.objs.size ∉ wr := fun h => hDf (W.sub _ h)
    have hCw : H2.objs.size ∉ wr := fun h => hCf (W.sub _ h)
    have bigw : ∀ b, s₂.heap.objs.size + 2 ≤ b → b ∉ wr := fun b hb hm => absurd (Nat.lt_of_lt_of_le (wrlt b hm) (Nat.le_trans (Nat.le_add_right _ 2) hb)) (Nat.lt_irrefl _)
    by_cases hlt : i < n
    · refine W.item i _ _ _ hlt hst' fun v h₂ tk₂ hMd hk₂ => ?_
      refine W.go i v _ _ _ hMd fun h₃ hP hst₃ hk₃ => ?_
      have up₃ : ∀ b o, b ∉ wr → h'.get? b = some o → h₃.get? b = some o := fun b o hb e => hk₃ b o hb (hk₂ b o hb e)
      have hn₃ : h₃.Ns H2.objs.size m' := hn'.at' fun o e => up₃ _ o hCw e
      have hD₃ := up₃ _ _ hDw hD'
      have hsz₃ : s₂.heap.objs.size + 2 ≤ h₃.objs.size := by have := hn₃.lt; rw [hC] at this; exact this
      refine wpAny_mono (turn i v H2.objs.size m' h₃ tk₂ _ hlt hP (by rw [hC]; exact Nat.lt_succ_self _) (by rw [hC]; exact Nat.lt_succ_self _) hn₃ (fun b o hb e => up₃ b o hb (hk' b o hb e)) hsz₃) (fun _ s₄ h₄ => wpAny_mono h₄ (fun y s₅ h₅ => ?_) fun _ _ e => e) fun _ _ e => e
      obtain ⟨h₅, tk₅, m₃, rfl, hy, hn₅, hk₅⟩ := h₅
      have hD₅ := hk₅ _ _ hDC hD₃
      have hst₅ : St (i + 1) h₅ := W.frame _ _ _ hst₃ fun b hb o e => hk₅ b o (fun q => hCf (q ▸ hb)) e
      refine append_at (hsz := by show ys.toArray.size ≤ sizeLine; rw [List.size_toArray, hyl]; exact Nat.le_trans hi hsz) hD₅ fun h₆ hs₆ hD₆ => ?_
      have up₆ : ∀ b o, b ∉ wr → b ≠ H2.objs.size → b ≠ s₂.heap.objs.size → h'.get? b = some o → h₆.get? b = some o := fun b o h1 h2 h3 e => hs₆.extBut b o h3 (hk₅ b o h2 (up₃ b o h1 e))
      refine ⟨n + 1 - (i + 1), by omega, h₆, tk₅, i + 1, ys ++ [y], m₃, rfl, hlt, rfl, by rw [List.length_append, List.length_singleton, hyl], W.frame _ _ _ hst₅ fun b hb o e => hs₆.extBut b o (fun q => hDf (q ▸ hb)) e,
        hn₅.sameBut hs₆ (Ne.symm hDC), hD₆.trans (congrArg some (LCg.lst_snoc ys y)), fun b o hb e => up₆ b o hb (below b (Heap.lt_size e)).1 (below b (Heap.lt_size e)).2 (hk' b o hb e), fun j z hz => ?_⟩
      rcases Nat.lt_trichotomy j ys.length with hj | hj | hj
      · rw [List.getElem?_append_left hj] at hz
        exact mono j z _ _ (hY' j z hz) fun b o hb e => up₆ b o (bigw b hb) (big b hb).1 (big b hb).2 e
      · subst hj
        simp at hz
        subst hz
        rw [hyl]
        exact mono i y _ _ hy fun b o hb e => hs₆.extBut b o (big b hb).2 e
      · rw [List.getElem?_eq_none (by rw [List.length_append, List.length_singleton]; omega)] at hz
        cases hz
    · have hin : i = n := Nat.le_antisymm hi (Nat.not_lt.mp hlt)
      subst hin
      refine W.done _ _ _ hst' fun h₂ tk₂ hk₂ => ?_
      refine hR H2.objs.size s₂.heap.objs.size m' h₂ tk₂ (hn'.at' fun o e => hk₂ _ o hCw e) hDC fun h₃ hs₃ => ?_
      have up : ∀ b o, b ∉ wr → b ≠ H2.objs.size → h'.get? b = some o → h₃.get? b = some o := fun b o h1 h2 e => hs₃ b o h2 (hk₂ b o h1 e)
      exact fin s₂.heap.objs.size ys h₃ tk₂ (up _ _ hDw hDC hD') hyl (fun j z hz => mono j z _ _ (hY' j z hz) fun b o hb e => up b o (bigw b hb) (big b hb).1 e) fresh (Nat.le_refl _)
        fun b o hb e => up b o hb (below b (Heap.lt_size e)).1 (hk' b o hb e)
  exact codeAny_compStart_list (loop _ rfl) (self 0 _ _ _ hst₁ (loop _ rfl))
theorem comp_block {elt target iter : Expr} {scope : Scope} {cl : List (Str × Addr)} {pos : Pos} {Q : Value → Shared → Prop} {it : Value} {s₂ : Shared}
    (hcell : ∀ y ∈ scope.names, y.2 ≠ .cell) (hkind : scope.kind = .function) (S : SrcK prog w A env elt target scope cl Q it s₂) :
    wpAny (model prog w) A (newList []) (fun acc s₃ => wpAny (model prog w) A (newFunctionEnv scope env.globals cl [] env.qual none .none (some env)) (fun cenv s₄ =>
      codeAny (model prog w) A (.compStart (.ListComp elt [⟨target, iter, [], 0⟩] scope pos) 0 it acc { cenv with scope := relabel scope env }) (compPost (model prog w) A E none Q acc cenv.locals) s₄) E s₃) E s₂ :=
  comp_blockR (R := fun acc C => compPost (model prog w) A E none Q acc C) hcell hkind S fun C D m' h₂ tk hn hDC good => ⟨m', hn, fun h₃ hs₃ => good h₃ fun b o hb e => hs₃.extBut b o hb e⟩
theorem comp_K {elt target iter : Expr} {scope : Scope} {cl : List (Str × Addr)} {pos : Pos} {Q : Value → Shared → Prop}
    (hclos : closureFor scope env = pure cl) (hcell : ∀ y ∈ scope.names, y.2 ≠ .cell) (hkind : scope.kind = .function)
    (hnames : ∀ y ∈ scope.names, y.2 = .local → scope.names.lookup y.1 = some .local)
    (h : wpAny (model prog w) A (eval iter env) (fun xv s₁ => wpAny (model prog w) A (pyIter xv) (SrcK prog w A env elt target scope cl Q) E s₁) E s)
    (hs : ∀ x, foldedSetIterable iter env x = pure x := by intro _; rfl) :
    wpAny (model prog w) A (eval (.ListComp elt [⟨target, iter, [], 0⟩] scope pos) env) Q E s := by
  rw [eval_ListComp]
  exact wpAny_comprehension_free (use := none) rfl hs hclos hkind hnames (wpAny_mono h (fun xv s₁ h₁ => wpAny_mono h₁ (fun it s₂ h₂ => comp_block hcell hkind h₂) fun _ _ e => e) fun _ _ e => e)
end
/-- the comprehension's value is stored at once, then its own names are let go -/
def AsgK (m : Str → Option Value) (L : Addr) (y : Str) (Q : Flow → Shared → Prop) (v : Value) (s' : Shared) : Prop :=
  s'.heap.Ns L m ∧ ∀ h'' tk, Heap.SameBut L s'.heap h'' → h''.Ns L (fun z => if z = y then some v else m z) → Q .next { s' with heap := h'', toks := tk }
section
variable {prog : Program} {w : World} {A : Around} {E : Value → Shared → Prop} {s : Shared} {env : Env}
theorem assign_comp {elt target iter : Expr} {y : Str} {py : Pos} {scope : Scope} {cl : List (Str × Addr)} {pos spos : Pos} {Q : Flow → Shared → Prop} (m : Str → Option Value)
    (hsw : swapsWith (.ListComp elt [⟨target, iter, [], 0⟩] scope pos) (some (.Name y py)) spos.line env = pure true)
    (hclos : closureFor scope env = pure cl) (hcell : ∀ y ∈ scope.names, y.2 ≠ .cell) (hkind : scope.kind = .function)
    (hnames : ∀ y ∈ scope.names, y.2 = .local → scope.names.lookup y.1 = some .local)
    (hy : env.kindOf y = some .local) (hp : (env.scope.kind == .class || (env.scope.kind == .module && env.locals != env.globals)) = false)
    (h : wpAny (model prog w) A (eval iter env) (fun xv s₁ => wpAny (model prog w) A (pyIter xv) (SrcK prog w A env elt target scope cl (AsgK m env.locals y Q)) E s₁) E s)
    (hs : ∀ x, foldedSetIterable iter env x = pure x := by intro _; rfl) :
    wpAny (model prog w) A (exec (.Assign [.Name y py] (.ListComp elt [⟨target, iter, [], 0⟩] scope pos) spos) env) Q E s := by
  rw [exec_Assign_Name_used _ _ _ _ hsw]
  refine wpAny_bind (wpAny_standAt (wpAny_bind ?_))
  show wpAny _ A (do let _ ← comprehension (.ListComp elt [⟨target, iter, [], 0⟩] scope pos) scope env _ (newList []) false (eval iter env) (some (assign (.Name y py) env))) _ _ s
  refine wpAny_bind (wpAny_mono (wpAny_comprehension_free (use := some (assign (.Name y py) env)) (Q := fun _ s' => Q .next s') rfl hs hclos hkind hnames
    (wpAny_mono h (fun xv s₁ h₁ => wpAny_mono h₁ (fun it s₂ h₂ => comp_blockR (R := fun acc C => compPost (model prog w) A E (some (assign (.Name y py) env)) (fun _ s' => Q .next s') acc C) hcell hkind h₂ ?_) fun _ _ e => e) fun _ _ e => e))
    (fun _ s' hq => wpAny_pure (wpAny_pure hq)) fun _ _ e => e)
  intro C D m' h₂ tk hn hDC good
  have hLC : env.locals ≠ C := fun q => by
    have x := (good (hideAll h₂ [C]) fun b o hb e => hideAll_get _ e (by simpa using hb)).1
    obtain ⟨_, _, _, e, _⟩ := x
    have z : (hideAll h₂ [C]).get? C = none := hideAll_none [C] (List.mem_singleton.mpr rfl)
    rw [q] at e
    rw [z] at e; cases e
  have hn₀ := (good h₂ fun _ _ _ e => e).1
  show wpAny _ A (assign (.Name y py) env (.ref D)) _ _ _
  refine wpAny_assign_Name (wpAny_storeName_local hy hn₀ (fun h₃ hn₃ hs₃ => ?_) hp)
  refine ⟨m', hn.sameBut hs₃ (Ne.symm hLC), fun h₄ hs₄ => ?_⟩
  obtain ⟨oL, _, _, eL, _⟩ := id hn₀
  have hn₄ := hn₃.sameBut hs₄ hLC
  obtain ⟨o4, _, _, e4, _⟩ := id hn₄
  have up := Heap.SameBut.update h₄ env.locals fun _ => oL
  refine (good (h₄.update env.locals fun _ => oL) fun b o hb e => ?_).2 h₄ _ ⟨up.1.symm, fun b hb => (up.2 b hb).symm⟩ hn₄
  by_cases q : b = env.locals
  · subst q
    rw [Heap.get?_update_self _ e4 (Heap.get?_some_iff.mp eL).2]
    rw [← eL, e]
  · rw [up.2 b q]
    exact hs₄.extBut b o hb (hs₃.extBut b o q e)
end

theorem off_07 : True := by
  w_top off
  exact trivial
/-- an int, nothing of the heap turned -/
def IntAt (n : Int) (h : Heap) (s : Shared) (y : Value) (s₅ : Shared) : Prop := ∃ t k, y = .int n t ∧ s₅ = { s with heap := h, toks := k }
theorem IntAt.intro {m n : Int} {h : Heap} {s : Shared} {t : Tok} {k : Nat} (e : m = n) : IntAt n h s (.int m t) { s with heap := h, toks := k } := ⟨t, k, by rw [e], rfl⟩
section
variable {prog : Program} {w : World} {A : Around} {E : Value → Shared → Prop} {s : Shared} {env : Env} {elt : Expr} {scope : Scope} {cl : List (Str × Addr)} {Q : Value → Shared → Prop}
theorem intsOf {ys : List Value} {n : Nat} {f : Nat → Int} (hl : ys.length = n) (h : ∀ i y, ys[i]? = some y → ∃ t, y = Value.int (f i) t) : IntsAre ys ((List.range n).map f) := by
  subst hl
  induction ys generalizing f with
  | nil => exact .nil
  | cons y r ih =>
    obtain ⟨t, rfl⟩ := h 0 y rfl
    rw [List.length_cons, List.range_succ_eq_map, List.map_cons, List.map_map]
    exact .cons _ _ (ih (f := f ∘ Nat.succ) fun i y hy => h (i + 1) y (by simpa using hy))
/-- what stands at the place b o at first stands there still -/
theorem comp_enum {a b : Str} {pa pb tp : Pos} {kk : Nat} {l : Addr} {vs : List Value} {ns : List Int} (f : Nat → Int → Int)
    (hh : A.handled = none) (hl : s.heap.IsList l vs.toArray) (hi : IntsAre vs ns) (hz : ns.length ≤ 1000)
    (hkind : scope.kind = .function) (hxa : scope.names.lookup a = some .local) (hxb : scope.names.lookup b = some .local) (hab : a ≠ b)
    (turn : ∀ (i : Nat) x C m₂ h tk ti tx (E' : Value → Shared → Prop), ns[i]? = some x → h.Ns C m₂ → m₂ a = some (.int (i : Int) ti) → m₂ b = some (.int x tx) → s.heap.StaysIn h →
      wpAny (model prog w) A (eval elt (compEnvC scope cl C env)) (IntAt (f i x) h s) E' { s with heap := h, toks := tk })
    (fin : ∀ D ys h tk, h.get? D = some (LCg.lst ys) → IntsAre ys (ns.mapIdx f) → s.heap.get? D = none → s.heap.StaysIn h → Q (.ref D) { s with heap := h, toks := tk }) :
    wpAny (model prog w) A (call (.type "enumerate") [.ref l]) (fun xv s₁ => wpAny (model prog w) A (pyIter xv) (SrcK prog w A env elt (.Tuple [.Name a pa, .Name b pb] kk tp) scope cl Q) E s₁) E s := by
  have hlt : l < s.heap.objs.size := by obtain ⟨_, e, _⟩ := id hl; exact Heap.lt_size e
  refine call_enumerate_list hl fun h' hE hI hsz hk => ?_
  refine wpAny_pyIter_enum hE ?_
  have W := WalksT.enumerate (prog := prog) (w := w) hh (s.heap.objs.size + 1) s.heap.objs.size l (Nat.succ_ne_self _) (ktu_ne 1 hlt) (Nat.ne_of_lt hlt) vs.toArray
  have hn : vs.toArray.size = ns.length := by simp [hi.length]
  rw [hn] at W
  refine ⟨_, _, _, ns.length, _, _, _, fun i y _ => ∃ t, y = Value.int (f i (ns.getD i 0)) t, rfl, KTurns.ofWalksU W.toU, ?_, ⟨⟨_, hE⟩, hI, hl.at fun o e => hk _ _ e⟩, by rw [sizeLine_eq]; omega, fun i s Q E hst hq => W.self i s Q E hst hq, fun _ _ _ _ h _ => h, ?_, ?_⟩
  · intro x hx
    have : x = s.heap.objs.size + 1 ∨ x = s.heap.objs.size ∨ x = l := by simpa using hx
    show x < h'.objs.size
    rw [hsz]
    rcases this with rfl | rfl | rfl
    · exact Nat.lt_succ_self _
    · exact Nat.lt_succ_of_lt (Nat.lt_succ_self _)
    · exact Nat.lt_succ_of_lt (Nat.lt_succ_of_lt hlt)
  · rintro i v C m₂ h tk E' hin ⟨T, vals, rfl, ⟨t, x, hx, rfl⟩, hT⟩ hC1 hC2 hC hkeep hbig
    obtain ⟨n, tx, rfl, hnx⟩ := IntsAre.at hi i x (by simpa using hx)
    have below : ∀ x o, s.heap.get? x = some o → x ∉ [s.heap.objs.size + 1, s.heap.objs.size] ∧ x ≠ C := fun x o e => by
      have hx := Heap.lt_size e
      refine ⟨fun hm => ?_, fun q => ?_⟩
      · have hm' : x = s.heap.objs.size + 1 ∨ x = s.heap.objs.size := by simpa using hm
        rcases hm' with rfl | rfl
        · exact absurd hx (Nat.not_lt.mpr (Nat.le_succ _))
        · exact absurd hx (Nat.lt_irrefl _)
      · subst q
        have h1 : h'.objs.size < x := hC1
        rw [hsz] at h1
        exact absurd (Nat.lt_trans hx (Nat.lt_of_succ_lt (Nat.lt_of_succ_lt h1))) (Nat.lt_irrefl _)
    refine kcp_assign (env := compEnvC scope cl C env) hh hT (lookup_relabel_local hxa) (lookup_relabel_local hxb) (by simp [compEnvC, relabel, hkind]) hC fun h₄ tk₄ hn₄ hs₄ => ?_
    refine wpAny_mono (turn i n C _ h₄ tk₄ t tx E' hnx hn₄ (by simp [hab]) (by simp) (fun x o e => hs₄ x o (below x o e).2 (hkeep x o (below x o e).1 (hk _ _ e)))) (fun y s₅ h₅ => ?_) fun _ _ e => e
    obtain ⟨ty, k, rfl, rfl⟩ := h₅
    refine ⟨h₄, k, _, rfl, ⟨ty, ?_⟩, hn₄, hs₄⟩
    rw [List.getD_eq_getElem?_getD, hnx]
    rfl
  · intro D ys h tk hD hyl hY hD0 hDs hkeep
    refine fin D ys h tk hD ?_ (by cases e : s.heap.get? D with
      | none => rfl
      | some o => rw [hk _ _ e] at hD0; cases hD0) fun x o e => hkeep x o (fun hm => ?_) (hk _ _ e)
    · have q := intsOf (f := fun i => f i (ns.getD i 0)) hyl hY
      have e : (List.range ns.length).map (fun i => f i (ns.getD i 0)) = ns.mapIdx f := by
        apply List.ext_getElem?
        intro i
        rw [List.getElem?_map, List.getElem?_mapIdx]
        by_cases hi' : i < ns.length
        · simp [hi']
        · simp [hi']
      rw [← e]; exact q
    · have := Heap.lt_size e
      have hm' : x = s.heap.objs.size + 1 ∨ x = s.heap.objs.size := by simpa using hm
      rcases hm' with rfl | rfl
      · exact absurd this (Nat.not_lt.mpr (Nat.le_succ _))
      · exact absurd this (Nat.lt_irrefl _)

/-- a name as the target: the turns of any walk -/
theorem srcK_walk {x : Str} {px : Pos} {I : Addr} {fp wr : List Addr} {n : Nat} {P : Nat → Value → Prop} {St : Nat → Heap → Prop} (Y : Nat → Value → Heap → Prop) (W : Walks prog w A I fp wr n P St)
    (hkind : scope.kind = .function) (hx : scope.names.lookup x = some .local) (hfp : ∀ b ∈ fp, b < s.heap.objs.size) (hst : St 0 s.heap) (hz : n ≤ 1000)
    (mono : ∀ i y h h', Y i y h → (∀ b o, s.heap.objs.size + 2 ≤ b → h.get? b = some o → h'.get? b = some o) → Y i y h')
    (turn : ∀ i v C m₂ h tk (E' : Value → Shared → Prop), i < n → P i v → h.Ns C m₂ → m₂ x = some v → (∀ b o, b ∉ wr → s.heap.get? b = some o → h.get? b = some o) → s.heap.objs.size + 2 ≤ h.objs.size →
      wpAny (model prog w) A (eval elt (compEnvC scope cl C env)) (fun y s₅ => ∃ h' tk', s₅ = { s with heap := h', toks := tk' } ∧ Y i y h' ∧ h.StaysIn h') E' { s with heap := h, toks := tk })
    (fin : ∀ D ys h tk, h.get? D = some (LCg.lst ys) → ys.length = n → (∀ i y, ys[i]? = some y → Y i y h) → s.heap.get? D = none → s.heap.objs.size ≤ D → (∀ b o, b ∉ wr → s.heap.get? b = some o → h.get? b = some o) → Q (.ref D) { s with heap := h, toks := tk }) :
    SrcK prog w A env elt (.Name x px) scope cl Q (.ref I) s := by
  refine ⟨I, fp, wr, n, _, _, _, Y, rfl, KTurns.ofWalks W fun _ _ _ _ _ _ h => wpAny_pure h, hfp, hst, by rw [sizeLine_eq]; omega, W.self, mono, ?_, fin⟩
  intro i v C m₂ h tk E' hin hP hC1 hC2 hC hkeep hbig
  refine wpAny_assign_Name (wpAny_storeName_local (env := compEnvC scope cl C env) (lookup_relabel_local hx) hC (fun h₃ hn₃ hs₃ => ?_) (by simp [compEnvC, relabel, hkind]))
  have hs₃' : Heap.SameBut C h h₃ := hs₃
  refine wpAny_mono (turn i v C _ h₃ _ E' hin hP hn₃ (by simp) (fun b o hb e => hs₃'.extBut b o (fun q => ?_) (hkeep b o hb e)) ?_) (fun y s₅ h₅ => ?_) fun _ _ e => e
  · subst q
    exact absurd (Nat.lt_trans (Heap.lt_size e) hC1) (Nat.lt_irrefl _)
  · have h1 := hn₃.lt
    have h2 : s.heap.objs.size < C := hC1
    exact Nat.le_trans (Nat.succ_le_succ (Nat.succ_le_of_lt h2)) h1
  · obtain ⟨h', tk', rfl, hy, hk⟩ := h₅
    exact ⟨h', tk', _, rfl, hy, hn₃.keeps hk, fun b o hb e => hk b o (hs₃'.extBut b o hb e)⟩
theorem fresh_size (h : Heap) (o : Obj) : ∀ b x, b ∉ [h.objs.size] → h.get? b = some x → (h.push o).get? b = some x := fun _ _ _ e => Heap.get?_push_of_some _ e
theorem comp_range {x : Str} {px : Pos} {r : Addr} {a b c : Int} {t u v : Tok} {n : Nat} (f : Nat → Int) (hh : A.handled = none)
    (hr : IsRange s.heap r a b c t u v) (hsm : Builtin.Range.small a b c = true) (hn : Builtin.Range.rangeSize a b c = (n : Int)) (hz : n ≤ 1000)
    (hkind : scope.kind = .function) (hx : scope.names.lookup x = some .local)
    (turn : ∀ (i : Nat) tx C m₂ h tk (E' : Value → Shared → Prop), i < n → h.Ns C m₂ → m₂ x = some (.int (a + i * c) tx) → s.heap.StaysIn h →
      wpAny (model prog w) A (eval elt (compEnvC scope cl C env)) (IntAt (f i) h s) E' { s with heap := h, toks := tk })
    (fin : ∀ D ys h tk, h.get? D = some (LCg.lst ys) → IntsAre ys ((List.range n).map f) → s.heap.get? D = none → s.heap.StaysIn h → Q (.ref D) { s with heap := h, toks := tk }) :
    wpAny (model prog w) A (pyIter (.ref r)) (SrcK prog w A env elt (.Name x px) scope cl Q) E s := by
  refine wpAny_pyIter_range hr hsm ?_
  have W := Walks.range (prog := prog) (w := w) hh s.heap.objs.size a c n
  refine srcK_walk (fun i y _ => ∃ t, y = .int (f i) t) W hkind hx (fun b hb => ?_) (by show IsRangeIter _ _ _ _ _; rw [hn]; simpa using Heap.get?_push_size _ rfl) hz (fun _ _ _ _ h _ => h) ?_ ?_
  · rw [List.mem_singleton.mp hb]
    show s.heap.objs.size < (s.heap.push _).objs.size
    rw [Heap.size_push]; exact Nat.lt_succ_self _
  · rintro i v C m₂ h tk E' hin ⟨tx, rfl⟩ hC hx' hkeep hbig
    refine wpAny_mono (turn i tx C m₂ h tk E' hin hC hx' fun b o e => hkeep b o (fun hm => ?_) (Heap.get?_push_of_some _ e)) (fun y s₅ h₅ => ?_) fun _ _ e => e
    · rw [List.mem_singleton.mp hm] at e
      exact absurd (Heap.lt_size e) (Nat.lt_irrefl _)
    · obtain ⟨ty, k, rfl, rfl⟩ := h₅
      exact ⟨h, k, rfl, ⟨ty, rfl⟩, fun _ _ e => e⟩
  · intro D ys h tk hD hyl hY hD0 hDs hkeep
    refine fin D ys h tk hD (intsOf hyl hY) ?_ fun b o e => hkeep b o (fun hm => ?_) (Heap.get?_push_of_some _ e)
    · cases e : s.heap.get? D with
      | none => rfl
      | some o => have := hD0; rw [Heap.get?_push_of_some _ e] at this; cases this
    · rw [List.mem_singleton.mp hm] at e
      exact absurd (Heap.lt_size e) (Nat.lt_irrefl _)
end

theorem off_08 : True := by
  w_top off
  exact trivial
section
variable {h₀ h h' : Heap} {L D : Addr} {m : Str → Option Value} {news : List (Addr × Obj)} {o : Obj}
theorem news_add (F : Fr h₀ L h m) (N : News h₀ L h news) (hk : h.StaysIn h') (hD : h'.get? D = some o) (hD0 : h.get? D = none) : News h₀ L h' ((D, o) :: news) := by
  intro p hp
  rcases List.mem_cons.mp hp with rfl | hp
  · refine ⟨hD, fun q => ?_, ?_⟩
    · obtain ⟨oL, _, _, e, _⟩ := F.ns
      have q' : D = L := q
      rw [q', e] at hD0; cases hD0
    · cases e : h₀.get? D with
      | none => rfl
      | some x => have := F.keep _ _ e; rw [hD0] at this; cases this
  · exact N.grown hk p hp
end
section
variable {prog : Program} {w : World} {A : Around} {E : Value → Shared → Prop} {s : Shared} {K : Frag} {mg mb : Str → Option Value} {p : Program} {loose : List Str} {mean : ExcName → Option Value} {Q : Value → Shared → Prop}
/-- as call_pure, of a def some of whose names stand in cells -/
theorem call_pureC {name qual : Str} {params : Arguments} {body : List Stmt} {scope : Scope} {dV kV doc pm cdv ct oc : Value} {an od : Option Addr} {osl : Array (Option Value)} {f : Addr} {pos : List Value} {kw : List (Str × Value)} {binds : List (Str × Value)}
    (X : K.In s.heap) (T : Top p loose mean mg mb s.heap) (hroom : A.depth < recursionLimit)
    (ho : K.lookup f = some ⟨oc, od, .func (fnOf name qual params body scope dV kV doc pm an cdv ct), osl⟩) (hcd : codeIn K cdv qual = true)
    (hbind : BindsTo s (fnOf name qual params body scope dV kV doc pm an cdv ct) ⟨pos, kw⟩ binds) (hkind : (binds.all fun y => scope.names.lookup y.1 == some .local || scope.names.lookup y.1 == some .cell) = true)
    (hnd : ((cellsFrom 0 scope.names []).map (·.1)).Nodup)
    (h : ∀ L' h₁ tk cells, Fr s.heap L' h₁ (bindL (envOfC qual scope L' f cdv).kindOf binds fun _ => none) → News s.heap L' h₁ cells →
      CellsAre (bindC (envOfC qual scope L' f cdv).kindOf binds fun _ => none) (cellsFrom (L' + 1) scope.names []) cells →
      wpAny (model prog w) (A.deeper (envOfC qual scope L' f cdv)) (execs body (envOfC qual scope L' f cdv))
        (fun fl s' => Q (match fl with | .ret v => v | _ => .none) s')
        (fun _ _ => False)
        { s with heap := h₁, toks := tk })
    (hco : scope.isCoroutine = false := by rfl) (hgen : scope.isGenerator = false := by rfl) (hk : scope.kind = .function := by rfl) : wpAny (model prog w) A (call (.ref f) pos kw) Q E s := by
  refine wpAny_call (codeAny_call_function (fd := fnOf name qual params body scope dV kV doc pm an cdv ct) hroom (X _ _ ho) rfl hco hgen rfl (codeRec_of X hcd) (hbind _ _ _ _ ?_))
  refine wpAny_newFunctionEnv_cells hk (kindsX hkind _) fun env' he s' x => ?_
  subst he
  refine ⟨T.nolimit.keeps x.toInCall.keep, codeAny_func ?_⟩
  obtain ⟨h₁, tk, rfl, _⟩ := x.done
  obtain ⟨cells, NC, Y⟩ := Cl.news (h₀ := s.heap) (Nat.le_refl _) fun n c hm => ⟨x.cell n c (lookup_of_mem_nodup (cellsFrom_names scope.names 0 (s.heap.objs.size + 1) [] [] rfl ▸ hnd) hm), x.above n c hm⟩
  exact wpAny_mono (h s.heap.objs.size h₁ tk cells ⟨x.toInCall.ns, x.toInCall.keep, Nat.le_refl _⟩ NC Y) (fun fl s' hl => hl) fun _ _ y => y.elim
end
section
variable {M : Model} {A : Around} {E : Value → Shared → Prop} {s : Shared} {C : Addr} {m₂ : Str → Option Value} {scope : Scope} {cl : List (Str × Addr)} {env : Env} {x : Str} {pos : Pos} {v : Value} {Q : Value → Shared → Prop}
theorem nameQ (hn : s.heap.Ns C m₂) (hv : m₂ x = some v) (h : Q v s)
    (hk : (compEnvC scope cl C env).scope.kind = .function := by rfl) (hl : (compEnvC scope cl C env).kindOf x = some .local := by rfl) (hd : (x == ("__debug__" : Str)) = false := by decide) :
    wpAny M A (eval (.Name x pos) (compEnvC scope cl C env)) Q E s := ldVarK hn hv h hk hl hd
end
theorem say_08_30 : True := by
  k_with "eval Name" => (((with_reducible show wpAny _ _ (eval (PySem.Expr.Name _ _) (compEnvC _ _ _ _)) _ _ _); first | k_dflt (refine' nameQ ?a_q ?b_q ?_ ?c_q ?d_q ?e_q; (case d_q => rfl); (case a_q => assumption); (case b_q => assumption); (case c_q => rfl); (case e_q => decide)) | k_dflt (refine' lcf_free ?N_q ?c_q ?m_q ?d_q ?_ ?a_q ?b_q; (case b_q => rfl); (case a_q => rfl); (case N_q => exact News.grown (by assumption) (by assumption)); (case c_q => rfl); (case m_q => k_mem); (case d_q => k_asm); k_whole) | k_dflt (refine' lcf_cell ?N_q ?c_q ?m_q ?d_q ?_ ?a_q ?b_q; (case b_q => rfl); (case a_q => rfl); (case N_q => exact News.grown (by assumption) (by assumption)); (case c_q => rfl); (case m_q => k_mem); (case d_q => k_asm); k_whole)))
  exact trivial
theorem say_08_31 : True := by
  k_with "IntAt" => ((refine IntAt.intro ?_; (try simp); (try omega)))
  exact trivial
theorem say_08_32 : True := by
  k_with "eval ListComp" => ((k_here; (with_reducible show wpAny _ _ (eval (PySem.Expr.ListComp _ _ _ _) _) _ _ _); k_dflt (refine' comp_K ?a_q ?b_q ?c_q ?d_q ?_ ?e_q; (case a_q => with_unfolding_all rfl); (case b_q => decide); (case c_q => rfl); (case d_q => decide); (case e_q => (intro _; rfl)))))
  exact trivial
section
variable {prog : Program} {w : World} {A : Around} {E : Value → Shared → Prop} {s : Shared} {a b : Int} {t u : Tok} {Q : Value → Shared → Prop}
theorem mul_by (hb : a.natAbs < 2 ^ 63 ∨ b.natAbs < 2 ^ 63) (h : Q (.int (a * b) s.toks) { s with toks := s.toks + 1 }) : wpAny (model prog w) A (binaryOp .Mult (.int a t) (.int b u)) Q E s := by
  refine mul_int h ?_
  rcases hb with hb | hb
  · exact IntMulOk.of_left (intBits_le_64 (by omega) (by omega))
  · exact IntMulOk.of_right (intBits_le_64 (by omega) (by omega))
end
theorem pow4_small {x : Int} (h0 : 0 ≤ x) (h : x < 3) : ((4 : Int) ^ x.toNat).natAbs < 2 ^ 63 := by
  obtain ⟨n, rfl⟩ := Int.eq_ofNat_of_zero_le h0
  have : n = 0 ∨ n = 1 ∨ n = 2 := by omega
  rcases this with rfl | rfl | rfl <;> decide
theorem pow256_small {i : Nat} (h : i < 3) : ((256 : Int) ^ (i : Int).toNat).natAbs < 2 ^ 63 := by
  have : i = 0 ∨ i = 1 ∨ i = 2 := by omega
  rcases this with rfl | rfl | rfl <;> decide
theorem at_lt {ns : List Int} {i n : Nat} {x : Int} (h : ns[i]? = some x) (hl : ns.length ≤ n) : i < n := Nat.lt_of_lt_of_le (List.getElem?_eq_some_iff.mp h).1 hl
theorem say_08_33 : True := by
  k_with "binaryOp Mult int int" => (k_dflt (refine' mul_by ?h_q ?_; (case h_q => first | (left; omega) | (right; omega) | (right; exact pow4_small (by assumption) (by assumption)) | (right; exact pow256_small (by assumption)) | (left; simp; omega) | (right; simp; omega))))
  exact trivial
theorem cnt6_in {n : Nat} (h : n ≤ 3) : 0 ≤ (8 * (n : Int) + 2 * (-(n : Int)).fmod 3).fdiv 6 ∧ (8 * (n : Int) + 2 * (-(n : Int)).fmod 3).fdiv 6 ≤ 100 := by
  have : n = 0 ∨ n = 1 ∨ n = 2 ∨ n = 3 := by omega
  rcases this with rfl | rfl | rfl | rfl <;> decide
theorem small_ok {c : Int} (h0 : -1 ≤ c) (h1 : c ≤ 100) : Builtin.Range.small c (-1) (-1) = true := by
  exact small_down (by omega) (by omega) (by omega) (by omega)
theorem down_size {c : Int} (h0 : 0 ≤ c) : Builtin.Range.rangeSize (c - 1) (-1) (-1) = (c.toNat : Int) := by
  unfold Builtin.Range.rangeSize
  simp
  split <;> omega
section
variable {prog : Program} {w : World} {A : Around} {E : Value → Shared → Prop} {s : Shared} {env : Env} {elt : Expr} {scope : Scope} {cl : List (Str × Addr)} {Q : Value → Shared → Prop}
theorem comp_down {x : Str} {px : Pos} {r : Addr} {c : Int} {t u v : Tok} (f : Int → Int) (hh : A.handled = none)
    (hr : IsRange s.heap r (c - 1) (-1) (-1) t u v) (h0 : 0 ≤ c) (h1 : c ≤ 100)
    (hkind : scope.kind = .function) (hx : scope.names.lookup x = some .local)
    (turn : ∀ (k : Int) tx C m₂ h tk (E' : Value → Shared → Prop), 0 ≤ k → k < c → h.Ns C m₂ → m₂ x = some (.int k tx) → s.heap.StaysIn h →
      wpAny (model prog w) A (eval elt (compEnvC scope cl C env)) (IntAt (f k) h s) E' { s with heap := h, toks := tk })
    (fin : ∀ D ys h tk, h.get? D = some (LCg.lst ys) → IntsAre ys ((List.range c.toNat).map fun i : Nat => f (c - 1 - (i : Int))) → s.heap.get? D = none → s.heap.StaysIn h → Q (.ref D) { s with heap := h, toks := tk }) :
    wpAny (model prog w) A (pyIter (.ref r)) (SrcK prog w A env elt (.Name x px) scope cl Q) E s := by
  refine comp_range (fun i : Nat => f (c - 1 - (i : Int))) hh hr ?_ (down_size h0) (by omega) hkind hx ?_ fin
  · exact small_ok (by omega) (by omega)
  · intro i tx C m₂ h tk E' hi hC hm hs
    have e : c - 1 + (i : Int) * -1 = c - 1 - i := by omega
    rw [e] at hm
    exact turn _ tx C m₂ h tk E' (by omega) (by omega) hC hm hs
end
theorem say_08_34 : True := by
  k_with "m ints" => (first | assumption | exact IntsAre.reverse (by assumption) | exact IntsAre.pick (by assumption) _ _ _)
  exact trivial
theorem say_08_35 : True := by
  k_with "call type:enumerate" => ((k_here; (with_reducible show wpAny _ _ (call (Value.type "enumerate") [Value.ref _]) (fun xv s₁ => wpAny _ _ (pyIter xv) (SrcK _ _ _ _ _ _ _ _ _) _ s₁) _ _); k_dflt (refine' comp_enum (fun i x => x * 256 ^ i) (by rfl) (News.isList (by k_asm) (by k_mem)) (by walk_at "m ints") (by simp; try omega) (by rfl) (by rfl) (by rfl) (by decide) ?turn_q ?fin_q; (case' turn_q => (intro i_r' x_r' C_r' m2_r' h_r' tk_r' ti_r' tx_r' E_r' hx_r' hn_r' ha_r' hb_r' hst_r'; (have hi3_r' : i_r' < 3 := at_lt hx_r' (by simp; try omega)))); (case' fin_q => (intro D_r' ys_r' h_r' tk_r' hD_r' hys_r' hD0_r' hst_r'; (have N_r' := news_add (by assumption) (by assumption) hst_r' hD_r' hD0_r'); (have F_r' := Fr.keptAll (by assumption) hst_r'); (try dsimp only at F_r' N_r'); clear hst_r' hD0_r' hD_r'; (try k_sweep))))))
  exact trivial
theorem say_08_36 : True := by
  k_with "m stepsS" => (repeat' ((fail_if_success (with_reducible show wpAny _ _ (subscriptTail _ _ _ _) _ _ _)); first | (k_unfold; (try dsimp only)) | (k_end; wrow_close) | walk1 | (dsimp only; walk1) | (leave1; walk_say "STEP leave1"; try dsimp only) | fail "no step"))
  exact trivial
theorem say_08_37 : True := by
  k_with "m stepsA" => (repeat' ((fail_if_success (with_reducible show wpAny _ _ (binaryOp PySem.Operator.Add (Value.ref _) (Value.ref _)) _ _ _)); first | (k_unfold; (try dsimp only)) | (k_end; wrow_close) | walk1 | (dsimp only; walk1) | (leave1; walk_say "STEP leave1"; try dsimp only) | fail "no step"))
  exact trivial
def num256 (os : List Int) : Int := (os.reverse.mapIdx (fun i x => x * 256 ^ i)).sum
def cnt6 (os : List Int) : Int := (8 * (os.length : Int) + 2 * (-(os.length : Int)).fmod 3).fdiv 6
def signs6 (al os : List Int) : List Int :=
  ((List.range (cnt6 os).toNat).map fun i : Nat => al.getD (((num256 os * 4 ^ ((-(os.length : Int)).fmod 3).toNat).fdiv (2 ^ (6 * (cnt6 os - 1 - (i : Int))).toNat)).fmod 64).toNat 0) ++ (List.replicate ((-(os.length : Int)).fmod 3).toNat [61]).flatten
theorem signs_fits {c sh : Int} {f : Nat → Int} (h1 : c ≤ 100) (h2 : sh < 3) : ((List.range c.toNat).map f).length + ((List.replicate sh.toNat [(61 : Int)]).flatten).length ≤ sizeLine := by
  rw [sizeLine_eq, List.length_map, List.length_range, List.length_flatten]
  simp
  omega
theorem mod64_at {x : Int} {n : Nat} (h : n = 64) : 0 ≤ x.fmod (2 ^ Int.toNat 6) ∧ x.fmod (2 ^ Int.toNat 6) < (n : Int) ∧ x.fmod (2 ^ Int.toNat 6) < 2 ^ 63 := by
  have e : (2 : Int) ^ Int.toNat 6 = 64 := by decide
  rw [e, h]
  have h1 := Int.fmod_nonneg_of_pos x (b := 64) (by decide)
  have h2 := Int.fmod_lt_of_pos x (b := 64) (by decide)
  omega
section
variable {w : World} {A : Around} {E : Value → Shared → Prop} {s : Shared} {mg mb : Str → Option Value} {loose : List Str} {mean : ExcName → Option Value} {Q : Value → Shared → Prop}
set_option maxHeartbeats 1000000 in
theorem sp_signs6 {lo la : Addr} {us vs : List Value} {os al : List Int} {tw : Tok} (ho : s.heap.IsList lo vs.toArray) (hi : IntsAre vs os) (hol : os.length ≤ 3) (ha : s.heap.IsList la us.toArray) (hj : IntsAre us al) (hal : al.length = 64)
    (X : (hd.heap_39 w.params).In s.heap) (T : Top hd.view_39 loose mean mg mb s.heap)
    (h : ∀ h' tk D vs', h'.IsList D vs'.toArray → IntsAre vs' (signs6 al os) → s.heap.get? D = none → s.heap.StaysIn h' → Q (.ref D) { s with heap := h', toks := tk }) : wpAny (model PySem.Challenge.pw_ik0020_01 w) (pA 490) (call (.ref 123) [.ref lo, .int 6 tw, .ref la]) Q E s := by
  k_dflt (refine' call_pureC (K := hd.heap_39 w.params) (binds := [(Str.ofString "octets", .ref lo), (Str.ofString "wide", .int 6 tw), (Str.ofString "alphabet", .ref la)]) X T (by decide) ?k6 ?k7 ?k9 ?kB ?kD ?_ ?c2 ?c3 ?c4; (case k6 => k_is); (case k7 => k_is); (case k9 => first | exact BindsTo.of_eq rfl | exact binds_K (by assumption) rfl (by k_is) rfl rfl rfl); (case kB => exact rfl); (case kD => decide +kernel); (case c2 => exact rfl); (case c3 => exact rfl); (case c4 => exact rfl); k_whole)
  intro L' h₁ tk' cells' F N Y'
  k_cells Y'
  try dsimp only
  try simp only [List.cons_append, List.nil_append] at N
  k_unmd
  k_fold
  k_steps
  have hc0 := (cnt6_in hol).1
  have hc1 := (cnt6_in hol).2
  refine comp_down (fun k => al.getD (((List.mapIdx (fun i x => x * 256 ^ i) os.reverse).sum * 4 ^ ((-(os.length : Int)).fmod 3).toNat).fdiv (2 ^ (6 * k).toNat) |>.fmod 64).toNat 0) (by rfl) (by assumption) hc0 hc1 (by rfl) (by rfl) ?turn ?fin

  case turn =>
    (intro i' tx' C' m2' h' tk' E' hi0' hi1' hC' hm' hst')
    walk_at "m stepsS"
    refine item_list_ints (ha.at fun o e => hst' _ _ (Fr.keep (by assumption) _ _ e)) hj ?_ ?_ ?_ fun t => ?_
    · exact (mod64_at hal).1
    · exact (mod64_at hal).2.1
    · exact (mod64_at hal).2.2
    · exact IntAt.intro rfl
  case fin =>
    intro D' ys' h' tk' hD' hys' hD0' hst'
    have N' := news_add (by assumption) (by assumption) hst' hD' hD0'
    have F' := Fr.keptAll (by assumption) hst'
    try dsimp only at F' N'
    clear hst' hD0' hD'
    try k_sweep
    walk_at "m stepsA"
    refine kmk_add_ints (by k_asm) (by k_asm) (News.isList (by k_asm) (by k_mem)) (News.isList (by k_asm) (by k_mem)) hys' (by assumption) ?_ ?z
    case z => exact signs_fits hc1 (by assumption)
    intro D' us' h' F' N' l1 hI'
    k_steps
    exact h _ _ D' us' (News.isList (by k_asm) (by k_mem)) hI' (N' _ (List.mem_cons_self ..)).2.2 (Fr.keep (by assumption))
end

theorem off_09 : True := by
  w_top off
  exact trivial
def cnt4 (os : List Int) : Int := (8 * (os.length : Int) + 2 * 0).fdiv 4
def signs4 (al os : List Int) : List Int :=
  ((List.range (cnt4 os).toNat).map fun i : Nat => al.getD (((num256 os * 4 ^ Int.toNat 0).fdiv (2 ^ (4 * (cnt4 os - 1 - (i : Int))).toNat)).fmod 16).toNat 0) ++ (List.replicate (Int.toNat 0) [61]).flatten
theorem cnt4_in {n : Nat} (h : n ≤ 3) : 0 ≤ (8 * (n : Int) + 2 * 0).fdiv 4 ∧ (8 * (n : Int) + 2 * 0).fdiv 4 ≤ 100 := by
  have : n = 0 ∨ n = 1 ∨ n = 2 ∨ n = 3 := by omega
  rcases this with rfl | rfl | rfl | rfl <;> decide
theorem mod16_at {x : Int} {n : Nat} (h : n = 16) : 0 ≤ x.fmod (2 ^ Int.toNat 4) ∧ x.fmod (2 ^ Int.toNat 4) < (n : Int) ∧ x.fmod (2 ^ Int.toNat 4) < 2 ^ 63 := by
  have e : (2 : Int) ^ Int.toNat 4 = 16 := by decide
  rw [e, h]
  have h1 := Int.fmod_nonneg_of_pos x (b := 16) (by decide)
  have h2 := Int.fmod_lt_of_pos x (b := 16) (by decide)
  omega
section
variable {w : World} {A : Around} {E : Value → Shared → Prop} {s : Shared} {mg mb : Str → Option Value} {loose : List Str} {mean : ExcName → Option Value} {Q : Value → Shared → Prop}
set_option maxHeartbeats 1000000 in
theorem sp_signs4 {lo la : Addr} {us vs : List Value} {os al : List Int} {tw : Tok} (ho : s.heap.IsList lo vs.toArray) (hi : IntsAre vs os) (hol : os.length ≤ 3) (ha : s.heap.IsList la us.toArray) (hj : IntsAre us al) (hal : al.length = 16)
    (X : (hd.heap_39 w.params).In s.heap) (T : Top hd.view_39 loose mean mg mb s.heap)
    (h : ∀ h' tk D vs', h'.IsList D vs'.toArray → IntsAre vs' (signs4 al os) → s.heap.get? D = none → s.heap.StaysIn h' → Q (.ref D) { s with heap := h', toks := tk }) : wpAny (model PySem.Challenge.pw_ik0020_01 w) (pA 490) (call (.ref 123) [.ref lo, .int 4 tw, .ref la]) Q E s := by
  k_dflt (refine' call_pureC (K := hd.heap_39 w.params) (binds := [(Str.ofString "octets", .ref lo), (Str.ofString "wide", .int 4 tw), (Str.ofString "alphabet", .ref la)]) X T (by decide) ?k6 ?k7 ?k9 ?kB ?kD ?_ ?c2 ?c3 ?c4; (case k6 => k_is); (case k7 => k_is); (case k9 => first | exact BindsTo.of_eq rfl | exact binds_K (by assumption) rfl (by k_is) rfl rfl rfl); (case kB => exact rfl); (case kD => decide +kernel); (case c2 => exact rfl); (case c3 => exact rfl); (case c4 => exact rfl); k_whole)
  intro L' h₁ tk' cells' F N Y'
  k_cells Y'
  try dsimp only
  try simp only [List.cons_append, List.nil_append] at N
  k_unmd
  k_fold
  k_steps
  have hc0 := (cnt4_in hol).1
  have hc1 := (cnt4_in hol).2
  refine comp_down (fun k => al.getD (((List.mapIdx (fun i x => x * 256 ^ i) os.reverse).sum * 4 ^ Int.toNat 0).fdiv (2 ^ (4 * k).toNat) |>.fmod 16).toNat 0) (by rfl) (by assumption) hc0 hc1 (by rfl) (by rfl) ?turn ?fin

  case turn =>
    (intro i' tx' C' m2' h' tk' E' hi0' hi1' hC' hm' hst')
    walk_at "m stepsS"
    refine item_list_ints (ha.at fun o e => hst' _ _ (Fr.keep (by assumption) _ _ e)) hj ?_ ?_ ?_ fun t => ?_
    · exact (mod16_at hal).1
    · exact (mod16_at hal).2.1
    · exact (mod16_at hal).2.2
    · exact IntAt.intro rfl
  case fin =>
    intro D' ys' h' tk' hD' hys' hD0' hst'
    have N' := news_add (by assumption) (by assumption) hst' hD' hD0'
    have F' := Fr.keptAll (by assumption) hst'
    try dsimp only at F' N'
    clear hst' hD0' hD'
    try k_sweep
    walk_at "m stepsA"
    refine kmk_add_ints (by k_asm) (by k_asm) (News.isList (by k_asm) (by k_mem)) (News.isList (by k_asm) (by k_mem)) hys' (by assumption) ?_ ?z
    case z => exact signs_fits (sh := 0) hc1 (by decide)
    intro D' us' h' F' N' l1 hI'
    k_steps
    exact h _ _ D' us' (News.isList (by k_asm) (by k_mem)) hI' (N' _ (List.mem_cons_self ..)).2.2 (Fr.keep (by assumption))
end

theorem off_10 : True := by
  w_top off
  exact trivial
def num64 (fs : List Int) : Int := (fs.reverse.mapIdx (fun i x => x * 64 ^ i)).sum
/-- one sign read: the figures left open and the numbers told -/
def numStep (c : List Int × List Int) (k : Int) : List Int × List Int :=
  if (k.fdiv 64).fmod 2 = 0 then ([], c.2 ++ [num64 (c.1 ++ [k.fmod 64])]) else (c.1 ++ [k.fmod 64], c.2)
def numbersOf (ks : List Int) : List Int := (ks.foldl numStep ([], [])).2
theorem say_10_38 : True := by
  k_with "m stepsF" => (repeat' ((fail_if_success (with_reducible show wpAny _ _ (exec (PySem.Stmt.For _ _ _ _ _) _) _ _ _)); first | (k_unfold; (try dsimp only)) | (k_end; wrow_close) | walk1 | (dsimp only; walk1) | (leave1; walk_say "STEP leave1"; try dsimp only) | fail "no step"))
  exact trivial
theorem say_10_39 : True := by
  k_with "m stepsL" => (repeat' ((fail_if_success (with_reducible show wpAny _ _ (call (Value.builtin "list.append") _) _ _ _)); first | (k_unfold; (try dsimp only)) | (k_end; wrow_close) | walk1 | (dsimp only; walk1) | (leave1; walk_say "STEP leave1"; try dsimp only) | fail "no step"))
  exact trivial
theorem say_10_40 : True := by
  k_with "m stepsI" => (repeat' ((fail_if_success (with_reducible show wpAny _ _ (pyIter _) _ _ _)); first | (k_unfold; (try dsimp only)) | (k_end; wrow_close) | walk1 | (dsimp only; walk1) | (leave1; walk_say "STEP leave1"; try dsimp only) | fail "no step"))
  exact trivial
theorem say_10_41 : True := by
  k_with "call type:enumerate" => ((k_here; (with_reducible show wpAny _ _ (call (Value.type "enumerate") [Value.ref _]) (fun xv s₁ => wpAny _ _ (pyIter xv) (SrcK _ _ _ _ _ _ _ _ _) _ s₁) _ _); k_dflt (refine' comp_enum (fun i x => x * 64 ^ i) (by rfl) (News.isList (by k_asm) (by k_mem)) (by walk_at "m ints") (by simp; try omega) (by rfl) (by rfl) (by rfl) (by decide) ?turn_q ?fin_q; (case' turn_q => (intro i_r' x_r' C_r' m2_r' h_r' tk_r' ti_r' tx_r' E_r' hx_r' hn_r' ha_r' hb_r' hst_r'; (have hi3_r' : i_r' < 100 := at_lt hx_r' (by simp; try omega)))); (case' fin_q => (intro D_r' ys_r' h_r' tk_r' hD_r' hys_r' hD0_r' hst_r'; (have N_r' := news_add (by assumption) (by assumption) hst_r' hD_r' hD0_r'); (have F_r' := Fr.keptAll (by assumption) hst_r'); (try dsimp only at F_r' N_r'); clear hst_r' hD0_r' hD_r'; (try k_sweep))))))
  exact trivial
def numJ (lo : Addr) (c : List Int × List Int) (n : Nat) (m : Str → Option Value) (nx : List (Addr × Obj)) : Prop :=
  ∃ (G D : Addr) (p q : Nat) (fv nv : List Value) (u : Str → Option Value),
    m = (fun y => if y = Str.ofString "figures" then some (.ref G) else if y = Str.ofString "numbers" then some (.ref D) else if y = Str.ofString "signs" then some (.ref lo) else if y = Str.ofString "sign" then u y else none) ∧
    nx = [(G, W.listOf fv.toArray p), (D, W.listOf nv.toArray q)] ∧ D < G ∧ IntsAre fv c.1 ∧ IntsAre nv c.2 ∧ c.1.length ≤ n ∧ c.2.length ≤ n ∧ ∀ x ∈ c.1, 0 ≤ x ∧ x < 64
theorem numJ_map2 {lo G D : Addr} {v : Value} {u : Str → Option Value} : (fun y => if y = Str.ofString "sign" then some v else if y = Str.ofString "figures" then some (Value.ref G) else if y = Str.ofString "numbers" then some (Value.ref D) else if y = Str.ofString "signs" then some (Value.ref lo) else if y = Str.ofString "sign" then u y else none) =
    fun y => if y = Str.ofString "figures" then some (Value.ref G) else if y = Str.ofString "numbers" then some (Value.ref D) else if y = Str.ofString "signs" then some (Value.ref lo) else if y = Str.ofString "sign" then (fun _ => some v) y else none := by
  have e1 : Str.ofString "sign" ≠ Str.ofString "figures" := by decide
  have e2 : Str.ofString "sign" ≠ Str.ofString "numbers" := by decide
  have e3 : Str.ofString "sign" ≠ Str.ofString "signs" := by decide
  funext y
  by_cases h : y = Str.ofString "sign"
  · subst h; simp only [if_true, if_neg e1, if_neg e2, if_neg e3]
  · simp only [if_neg h]
theorem numJ_map3 {lo G G' D : Addr} {v : Value} {u : Str → Option Value} : (fun y => if y = Str.ofString "figures" then some (Value.ref G') else if y = Str.ofString "sign" then some v else if y = Str.ofString "figures" then some (Value.ref G) else if y = Str.ofString "numbers" then some (Value.ref D) else if y = Str.ofString "signs" then some (Value.ref lo) else if y = Str.ofString "sign" then u y else none) =
    fun y => if y = Str.ofString "figures" then some (Value.ref G') else if y = Str.ofString "numbers" then some (Value.ref D) else if y = Str.ofString "signs" then some (Value.ref lo) else if y = Str.ofString "sign" then (fun _ => some v) y else none := by
  funext y
  by_cases h : y = Str.ofString "figures"
  · simp only [if_pos h]
  · have e2 : Str.ofString "sign" ≠ Str.ofString "numbers" := by decide
    have e3 : Str.ofString "sign" ≠ Str.ofString "signs" := by decide
    by_cases h' : y = Str.ofString "sign"
    · subst h'; simp only [if_true, if_neg h, if_neg e2, if_neg e3]
    · simp only [if_neg h, if_neg h']
theorem numEnd {lo G D L : Addr} {c : List Int × List Int} {n p q tk : Nat} {fv nv : List Value} {u m' : Str → Option Value} {h₀ h' : Heap} {s : Shared} {own news' : List (Addr × Obj)} (F : Fr h₀ L h' m') (N : News h₀ L h' news')
    (hm : m' = fun y => if y = Str.ofString "figures" then some (.ref G) else if y = Str.ofString "numbers" then some (.ref D) else if y = Str.ofString "signs" then some (.ref lo) else if y = Str.ofString "sign" then u y else none)
    (h1 : (G, W.listOf fv.toArray p) ∈ news') (h2 : (D, W.listOf nv.toArray q) ∈ news') (h3 : ∀ p ∈ own, p ∈ news') (hG : ∀ p ∈ own, p.1 ≠ G) (hD : ∀ p ∈ own, p.1 ≠ D) (hDG : D < G) (hfv : IntsAre fv c.1) (hnv : IntsAre nv c.2) (hl1 : c.1.length ≤ n) (hl2 : c.2.length ≤ n) (hin : ∀ x ∈ c.1, 0 ≤ x ∧ x < 64) :
    TbEnd h₀ L (fun m nx => numJ lo c n m nx) own s { s with heap := h', toks := tk } := by
  refine ⟨h', tk, m', news', [(G, W.listOf fv.toArray p), (D, W.listOf nv.toArray q)], rfl, F, N, fun x hx => ?_, h3, fun x hx y hy => ?_, G, D, p, q, fv, nv, u, hm, rfl, hDG, hfv, hnv, hl1, hl2, hin⟩
  · rcases List.mem_cons.mp hx with rfl | hx
    · exact h1
    · rw [List.mem_singleton.mp hx]; exact h2
  · rcases List.mem_cons.mp hy with rfl | hy
    · exact hG x hx
    · rw [List.mem_singleton.mp hy]; exact hD x hx
theorem allLt_ne {d : Addr} : ∀ {l : List (Addr × Obj)}, AllLt d l → ∀ p ∈ l, p.1 ≠ d
  | [], _, _, h => nomatch h
  | p :: r, h, x, hx => by
    rcases List.mem_cons.mp hx with rfl | hx
    · exact Nat.ne_of_lt h.1
    · exact allLt_ne h.2 x hx
theorem numStep_in {c : List Int × List Int} {k : Int} (h : ∀ x ∈ c.1, 0 ≤ x ∧ x < 64) : ∀ x ∈ c.1 ++ [k.fmod 64], 0 ≤ x ∧ x < 64 := by
  intro x hx
  rcases List.mem_append.mp hx with hx | hx
  · exact h x hx
  · rw [List.mem_singleton.mp hx]
    exact ⟨Int.fmod_nonneg_of_pos k (by decide), Int.fmod_lt_of_pos k (by decide)⟩
theorem rev_in {ns : List Int} {i : Nat} {x : Int} (hx : ns.reverse[i]? = some x) (h : ∀ x ∈ ns, 0 ≤ x ∧ x < 64) : 0 ≤ x ∧ x < 64 := h x (List.mem_reverse.mp (List.mem_of_getElem? hx))
theorem pushI {fv : List Value} {fs : List Int} {x : Int} {t : Tok} {h₀ h : Heap} {L G : Addr} {n : Nat} {r : List (Addr × Obj)} (hf : IntsAre fv fs) (_ : News h₀ L h ((G, W.listOf (fv ++ [Value.int x t]).toArray n) :: r)) : IntsAre (fv ++ [Value.int x t]) (fs ++ [x]) :=
  hf.append (.cons _ _ .nil)
theorem push2 {fv : List Value} {fs : List Int} {x : Int} {t : Tok} {h₀ h : Heap} {L G : Addr} {n : Nat} {a : Addr × Obj} {r : List (Addr × Obj)} (hf : IntsAre fv fs) (_ : News h₀ L h (a :: (G, W.listOf (fv ++ [Value.int x t]).toArray n) :: r)) : IntsAre (fv ++ [Value.int x t]) (fs ++ [x]) :=
  hf.append (.cons _ _ .nil)
theorem numJ_map {lo G D : Addr} : (fun y => if y = Str.ofString "figures" then some (Value.ref G) else if y = Str.ofString "numbers" then some (.ref D) else List.lookup y [(Str.ofString "signs", Value.ref lo)].reverse) =
    fun y => if y = Str.ofString "figures" then some (.ref G) else if y = Str.ofString "numbers" then some (.ref D) else if y = Str.ofString "signs" then some (.ref lo) else if y = Str.ofString "sign" then (fun _ => none) y else none := by
  funext y
  by_cases h1 : y = Str.ofString "figures"
  · simp only [if_pos h1]
  · by_cases h2 : y = Str.ofString "numbers"
    · simp only [if_neg h1, if_pos h2]
    · simp only [if_neg h1, if_neg h2]
      by_cases h3 : y = Str.ofString "signs"
      · subst h3; simp only [if_true]; rfl
      · simp only [if_neg h3, ite_self]
        show (match y == Str.ofString "signs" with | true => some (Value.ref lo) | false => none) = none
        rw [beq_eq_false_iff_ne.mpr h3]
section
variable {w : World} {A : Around} {E : Value → Shared → Prop} {s : Shared} {mg mb : Str → Option Value} {loose : List Str} {mean : ExcName → Option Value} {Q : Value → Shared → Prop}
set_option maxHeartbeats 8000000 in
theorem sp_numbers {lo : Addr} {vs : List Value} {ks : List Int} (ho : s.heap.IsList lo vs.toArray) (hi : IntsAre vs ks) (hol : ks.length ≤ 20)
    (X : (hd.heap_39 w.params).In s.heap) (T : Top hd.view_39 loose mean mg mb s.heap)
    (h : ∀ h' tk D vs', h'.IsList D vs'.toArray → IntsAre vs' (numbersOf ks) → s.heap.get? D = none → s.heap.StaysIn h' → Q (.ref D) { s with heap := h', toks := tk }) :
    wpAny (model PySem.Challenge.pw_ik0020_01 w) (pA 490) (call (.ref 128) [.ref lo]) Q E s := by
  k_dflt (refine' call_pure (K := hd.heap_39 w.params) (binds := [(Str.ofString "signs", .ref lo)]) X T (by decide) ?k6 ?k7 ?k9 ?kB ?_ ?c2 ?c3 ?c4 ?c5; walk_at "m enter")
  intro L' h₁ F N
  k_unmd
  k_fold
  walk_at "m stepsF"
  refine For_invV s.heap (by rfl) (by rfl) ?_
  walk_at "m stepsI"
  refine tb_invG (fun i m nx => numJ lo ((ks.take i).foldl numStep ([], [])) i m nx) (by rfl) ho hi (by assumption) (by assumption) ?hj ?turn ?done
  case hj => exact ⟨_, _, 0, 0, [], [], _, numJ_map, rfl, by assumption, .nil, .nil, Nat.zero_le _, Nat.zero_le _, fun _ h => nomatch h⟩
  case turn =>
    rintro i k t m₁ nx h₂ tk₂ own hk hoff ⟨G, D, p, q, fv, nv, u, rfl, rfl, hDG, hfv, hnv, hl1, hl2, hin⟩ F₂ N₂
    dsimp only at F₂
    have hi20 : i < 20 := at_lt hk hol
    rw [List.take_add_one, hk, List.foldl_append]
    generalize (ks.take i).foldl numStep ([], []) = c at *
    have hG : ∀ p ∈ own, p.1 ≠ G := fun p hp => hoff p hp _ (.head _)
    have hD : ∀ p ∈ own, p.1 ≠ D := fun p hp => hoff p hp _ (.tail _ (.head _))
    walk_at "m stepsL"
    refine append_K (by k_asm) (by k_asm) (.head (fun p hp => (List.mem_cons.mp hp).elim (fun e => e ▸ Nat.ne_of_lt hDG) (hG p))) ?_ ?z
    case z =>
      rw [List.size_toArray, hfv.length, sizeLine_eq]
      exact Nat.le_trans hl1 (by omega)
    intro h₃ F₃ N₃
    rw [List.push_toArray] at N₃
    clear N₂ F₂
    have hfv' := pushI hfv N₃
    have hin' := numStep_in (k := k) hin
    walk_at "m stepsL"
    · rename News _ _ _ _ => NX
      have N₄ : News s.heap _ _ ((G, W.listOf (fv ++ [_]).toArray (p + 1)) :: (D, W.listOf nv.toArray q) :: own) := fun p hp => NX p (.tail _ (.tail _ hp))
      rename Fr _ _ _ _ => FX
      clear NX
      refine append_K FX N₄ (.tail (Nat.ne_of_gt hDG) (.head hD)) ?_ ?z
      case z =>
        rw [List.size_toArray, hnv.length, sizeLine_eq]
        exact Nat.le_trans hl2 (by omega)
      intro h₄ F₄ N₅
      rw [List.push_toArray] at N₅
      clear N₄ FX
      have hnv' := push2 hnv N₅
      k_steps
      rename (k.fdiv 64).fmod 2 = 0 => heq
      have e : List.foldl numStep c (some k).toList = ([], c.2 ++ [num64 (c.1 ++ [k.fmod 64])]) := by simp [numStep, heq]
      rw [e]
      rename News _ _ _ _ => NX
      rename Fr _ _ _ _ => FX
      refine numEnd (fv := []) FX NX numJ_map3 (.head _) (.tail _ (.tail _ (.head _))) (fun p hp => .tail _ (.tail _ (.tail _ hp))) ?_ hD ?_ .nil hnv' (by simp) (by simp; omega) (fun _ h => nomatch h)
      · exact allLt_ne (by assumption : G < _ ∧ D < _ ∧ AllLt _ own).2.2
      · exact (by assumption : G < _ ∧ D < _ ∧ AllLt _ own).2.1
    · rename (_ : List Int)[_]? = some _ => hx
      have hb := rev_in hx hin'
      k_steps
    · rename (k.fdiv 64).fmod 2 ≠ 0 => hne
      have e : List.foldl numStep c (some k).toList = (c.1 ++ [k.fmod 64], c.2) := by simp [numStep, hne]
      rw [e]
      exact numEnd F₃ N₃ numJ_map2 (.head _) (.tail _ (.head _)) (fun p hp => .tail _ (.tail _ hp)) hG hD hDG hfv' hnv (by simp; omega) (Nat.le_succ_of_le hl2) hin'
  case done =>
    rintro m₁ nx h₂ tk₂ ⟨G, D, p, q, fv, nv, u, rfl, rfl, hDG, hfv, hnv, hl1, hl2, hin⟩ F₂ N₂
    k_steps
    try dsimp only
    k_unfold
    exact h _ _ D nv (News.isList (by k_asm) (by k_mem)) (by unfold numbersOf; simpa using hnv) (N₂ _ (.tail _ (.head _))).2.2 (Fr.keep (by assumption))
end

theorem off_11 : True := by
  w_top off
  exact trivial
section
variable {prog : Program} {w : World} {A : Around} {E : Value → Shared → Prop} {s : Shared} {env : Env} {elt : Expr} {scope : Scope} {cl : List (Str × Addr)} {Q : Value → Shared → Prop}
theorem comp_str {z : Str} {px : Pos} {x : Str} {t : Tok} (hh : A.handled = none) (ha : x.cps.all (· < 128) = true) (hz : x.cps.size ≤ 1000)
    (hkind : scope.kind = .function) (hx : scope.names.lookup z = some .local)
    (turn : ∀ (i c : Nat) tc C m₂ h tk (E' : Value → Shared → Prop), x.cps[i]? = some c → h.Ns C m₂ → m₂ z = some (.str ⟨#[c]⟩ tc) → s.heap.StaysIn h →
      wpAny (model prog w) A (eval elt (compEnvC scope cl C env)) (IntAt (c : Int) h s) E' { s with heap := h, toks := tk })
    (fin : ∀ D ys h tk, h.get? D = some (LCg.lst ys) → IntsAre ys (x.cps.toList.map fun (c : Nat) => (c : Int)) → s.heap.get? D = none → s.heap.StaysIn h → Q (.ref D) { s with heap := h, toks := tk }) :
    wpAny (model prog w) A (pyIter (.str x t)) (SrcK prog w A env elt (.Name z px) scope cl Q) E s := by
  refine wpAny_pyIter_ascii ha ?_
  have W := Walks.strAscii (prog := prog) (w := w) hh s.heap.objs.size x t
  refine srcK_walk (fun i y _ => ∃ t, y = .int ((x.cps.getD i 0 : Nat) : Int) t) W hkind hx (fun b hb => ?_) ⟨_, Heap.get?_push_size _ rfl, rfl, rfl⟩ hz (fun _ _ _ _ h _ => h) ?_ ?_
  · rw [List.mem_singleton.mp hb]
    show s.heap.objs.size < (s.heap.push _).objs.size
    rw [Heap.size_push]; exact Nat.lt_succ_self _
  · rintro i v C m₂ h tk E' hin ⟨c, u, hc, rfl⟩ hC hx' hkeep hbig
    have e : x.cps.getD i 0 = c := by
      rw [Array.getD_eq_getD_getElem?, hc]; rfl
    refine wpAny_mono (turn i c u C m₂ h tk E' hc hC hx' fun b o e => hkeep b o (fun hm => ?_) (Heap.get?_push_of_some _ e)) (fun y s₅ h₅ => ?_) fun _ _ e => e
    · rw [List.mem_singleton.mp hm] at e
      exact absurd (Heap.lt_size e) (Nat.lt_irrefl _)
    · obtain ⟨ty, k, rfl, rfl⟩ := h₅
      exact ⟨h, k, rfl, ⟨ty, by rw [e]⟩, fun _ _ e => e⟩
  · intro D ys h tk hD hyl hY hD0 hDs hkeep
    have q := intsOf (f := fun i => ((x.cps.getD i 0 : Nat) : Int)) hyl hY
    have e : (List.range x.cps.size).map (fun i => ((x.cps.getD i 0 : Nat) : Int)) = x.cps.toList.map fun (c : Nat) => (c : Int) := by
      apply List.ext_getElem?
      intro i
      rw [List.getElem?_map, List.getElem?_map]
      by_cases hi' : i < x.cps.size
      · simp [hi']
      · simp [hi']
    rw [e] at q
    refine fin D ys h tk hD q ?_ fun b o e => hkeep b o (fun hm => ?_) (Heap.get?_push_of_some _ e)
    · cases e : s.heap.get? D with
      | none => rfl
      | some o => have := hD0; rw [Heap.get?_push_of_some _ e] at this; cases this
    · rw [List.mem_singleton.mp hm] at e
      exact absurd (Heap.lt_size e) (Nat.lt_irrefl _)
end
theorem after_asg {h₀ h h₁ h₂ : Heap} {L D : Addr} {m m' : Str → Option Value} {news : List (Addr × Obj)} {o : Obj} (F : Fr h₀ L h m) (N : News h₀ L h news) (hst : h.StaysIn h₁) (hD : h₁.get? D = some o) (hD0 : h.get? D = none)
    (hs : Heap.SameBut L h₁ h₂) (hn : h₂.Ns L m') : Fr h₀ L h₂ m' ∧ News h₀ L h₂ ((D, o) :: news) := by
  have N₁ := news_add F N hst hD hD0
  have hL : h₀.get? L = none := Heap.get?_none_of_le F.above
  exact ⟨⟨hn, fun b o e => hs.extBut b o (fun q => by rw [q, hL] at e; cases e) (hst _ _ (F.keep b o e)), F.above⟩, fun p hp => ⟨hs.extBut _ _ (N₁ p hp).2.1 (N₁ p hp).1, (N₁ p hp).2⟩⟩
theorem asgK_of {h₀ h h₁ : Heap} {L D : Addr} {m : Str → Option Value} {news : List (Addr × Obj)} {o : Obj} {y : Str} {Q : Flow → Shared → Prop} {s' : Shared} (F : Fr h₀ L h m) (N : News h₀ L h news) (hst : h.StaysIn h₁) (hD : h₁.get? D = some o) (hD0 : h.get? D = none) (e : s'.heap = h₁)
    (k : ∀ h₂ tk, Fr h₀ L h₂ (fun z => if z = y then some (.ref D) else m z) → News h₀ L h₂ ((D, o) :: news) → (∀ p ∈ news, p.1 ≠ D) → Q .next { s' with heap := h₂, toks := tk }) : AsgK m L y Q (.ref D) s' := by
  subst e
  refine ⟨F.ns.keeps hst, fun h₂ tk hs hn => ?_⟩
  obtain ⟨F₂, N₂⟩ := after_asg F N hst hD hD0 hs hn
  exact k h₂ tk F₂ N₂ fun p hp q => by rw [← q, (N p hp).1] at hD0; cases hD0
section
variable {prog : Program} {w : World} {A : Around} {E : Value → Shared → Prop} {s : Shared} {env : Env} {h₀ : Heap} {L : Addr} {m : Str → Option Value}
theorem assign_compF {elt target iter : Expr} {y : Str} {py : Pos} {scope : Scope} {cl : List (Str × Addr)} {pos spos : Pos} {Q : Flow → Shared → Prop} (_F : Fr h₀ L s.heap m) (hL : env.locals = L)
    (hsw : swapsWith (.ListComp elt [⟨target, iter, [], 0⟩] scope pos) (some (.Name y py)) spos.line env = pure true)
    (hclos : closureFor scope env = pure cl) (hcell : ∀ y ∈ scope.names, y.2 ≠ .cell) (hkind : scope.kind = .function)
    (hnames : ∀ y ∈ scope.names, y.2 = .local → scope.names.lookup y.1 = some .local)
    (hy : env.kindOf y = some .local) (hp : (env.scope.kind == .class || (env.scope.kind == .module && env.locals != env.globals)) = false)
    (hs : ∀ x, foldedSetIterable iter env x = pure x)
    (h : wpAny (model prog w) A (eval iter env) (fun xv s₁ => wpAny (model prog w) A (pyIter xv) (SrcK prog w A env elt target scope cl (AsgK m L y Q)) E s₁) E s) :
    wpAny (model prog w) A (exec (.Assign [.Name y py] (.ListComp elt [⟨target, iter, [], 0⟩] scope pos) spos) env) Q E s := by
  subst hL
  exact assign_comp m hsw hclos hcell hkind hnames hy hp h hs
end
theorem say_11_42 : True := by
  k_with "m asg" => (((with_reducible rename Fr _ _ _ _ => kF_r); refine assign_compF kF_r (by rfl) (by with_unfolding_all rfl) (by with_unfolding_all rfl) (by decide) (by rfl) (by decide) (by rfl) (by rfl) (by intro _; rfl) ?_))
  exact trivial
theorem say_11_43 : True := by
  k_with "m fin" => ((intro D_r' ys_r' h_r' tk_r' hD_r' hys_r' hD0_r' hst_r'; refine asgK_of (by assumption) (by assumption) hst_r' hD_r' hD0_r' rfl ?_; intro h2_r' tk2_r' F_r' N_r' ap_r'; (try dsimp only at F_r' N_r'); clear hst_r' hD0_r' hD_r'; (try k_sweep)))
  exact trivial
theorem up_size {a b : Int} (h0 : a ≤ b) : Builtin.Range.rangeSize a b 1 = ((b - a).toNat : Int) := by
  unfold Builtin.Range.rangeSize
  simp
  split <;> omega
theorem up_small {a b : Int} (h0 : 0 ≤ a) (h1 : a ≤ b) (h2 : b ≤ 100) : Builtin.Range.small a b 1 = true := by
  unfold Builtin.Range.small
  rw [up_size h1, Int.toNat_of_nonneg (by omega)]
  simp only [Builtin.Range.rangeFitsLong, Bool.and_eq_true, Bool.or_eq_true, decide_eq_true_eq, beq_iff_eq]
  refine ⟨⟨by omega, by omega⟩, .inr ?_⟩
  rw [if_pos (by decide)]
  simp only [Bool.and_eq_true, decide_eq_true_eq]
  omega
section
variable {prog : Program} {w : World} {A : Around} {E : Value → Shared → Prop} {s : Shared} {env : Env} {elt : Expr} {scope : Scope} {cl : List (Str × Addr)} {Q : Value → Shared → Prop}
theorem comp_up {x : Str} {px : Pos} {r : Addr} {a b : Int} {t u v : Tok} (f : Int → Int) (hh : A.handled = none)
    (hr : IsRange s.heap r a b 1 t u v) (h0 : 0 ≤ a) (h1 : a ≤ b) (h2 : b ≤ 100)
    (hkind : scope.kind = .function) (hx : scope.names.lookup x = some .local)
    (turn : ∀ (k : Int) tx C m₂ h tk (E' : Value → Shared → Prop), a ≤ k → k < b → h.Ns C m₂ → m₂ x = some (.int k tx) → s.heap.StaysIn h →
      wpAny (model prog w) A (eval elt (compEnvC scope cl C env)) (IntAt (f k) h s) E' { s with heap := h, toks := tk })
    (fin : ∀ D ys h tk, h.get? D = some (LCg.lst ys) → IntsAre ys ((List.range (b - a).toNat).map fun i : Nat => f (a + (i : Int))) → s.heap.get? D = none → s.heap.StaysIn h → Q (.ref D) { s with heap := h, toks := tk }) :
    wpAny (model prog w) A (pyIter (.ref r)) (SrcK prog w A env elt (.Name x px) scope cl Q) E s := by
  refine comp_range (fun i : Nat => f (a + (i : Int))) hh hr (up_small h0 h1 h2) (up_size h1) (by omega) hkind hx ?_ fin
  intro i tx C m₂ h tk E' hi hC hm hs
  have e : a + (i : Int) * 1 = a + i := by omega
  rw [e] at hm
  exact turn _ tx C m₂ h tk E' (by omega) (by omega) hC hm hs
end
theorem pow256_ok {k : Int} (h0 : 0 ≤ k) (h1 : k < 10) : (256 : Int) ^ k.toNat ≠ 0 ∧ ((256 : Int) ^ k.toNat).natAbs.log2 < 9000 := by
  obtain ⟨n, rfl⟩ := Int.eq_ofNat_of_zero_le h0
  exact (by decide : ∀ n : Nat, n < 10 → (256 : Int) ^ (n : Int).toNat ≠ 0 ∧ ((256 : Int) ^ (n : Int).toNat).natAbs.log2 < 9000) n (Int.ofNat_lt.mp h1)
section
variable {prog : Program} {w : World} {A : Around} {E : Value → Shared → Prop} {s : Shared} {a k : Int} {t u : Tok} {Q : Value → Shared → Prop}
theorem div256 (h0 : 0 ≤ k) (h1 : k < 10) (h : Q (.int (a.fdiv (256 ^ k.toNat)) s.toks) { s with toks := s.toks + 1 }) : wpAny (model prog w) A (binaryOp .FloorDiv (.int a t) (.int (256 ^ k.toNat) u)) Q E s :=
  floordiv_int (pow256_ok h0 h1).1 h (Or.inl (PyProof.noPylong_of_log2 (pow256_ok h0 h1).2))
end
theorem say_11_44 : True := by
  k_with "binaryOp FloorDiv int int" => ((k_here; (with_reducible show wpAny _ _ (binaryOp _ (Value.int _ _) (Value.int (256 ^ Int.toNat _) _)) _ _ _); k_dflt (refine' div256 ?a_q ?b_q ?_; (case a_q => omega); (case b_q => omega))))
  exact trivial

theorem off_12 : True := by
  w_top off
  exact trivial
section
variable {prog : Program} {w : World} {A : Around} {E : Value → Shared → Prop} {s : Shared} {env : Env} {h₀ : Heap} {x : Str} {body : List Stmt} {Q : Flow → Shared → Prop}
theorem walks_widen {I : Addr} {fp wr wr' : List Addr} {n : Nat} {P : Nat → Value → Prop} {St : Nat → Heap → Prop} (W : Walks prog w A I fp wr n P St) (h : ∀ b ∈ wr, b ∈ wr') (h' : ∀ b ∈ wr', b ∈ fp) : Walks prog w A I fp wr' n P St where
  sub := h'
  frame := W.frame
  item := fun i s Q E hi st hQ => W.item i s Q E hi st fun v g tk a b c => hQ v g tk a b fun x o hx e => c x o (fun q => hx (h x q)) e
  done := fun s Q E st hQ => W.done s Q E st fun g tk c => hQ g tk fun x o hx e => c x o (fun q => hx (h x q)) e
  self := W.self
theorem loop_new {l : Addr} {vs : List Value} {ns : List Int} {m₀ : Str → Option Value} {news : List (Addr × Obj)} (J : Nat → (Str → Option Value) → List (Addr × Obj) → Prop)
    (hh : A.handled = none) (hl : s.heap.IsList l vs.toArray) (hi : IntsAre vs ns) (hnew : h₀.get? l = none) (hlL : l ≠ env.locals) (F : Fr h₀ env.locals s.heap m₀) (N : News h₀ env.locals s.heap news) (hln : ∀ p ∈ news, p.1 ≠ l) (hj : J 0 m₀ news)
    (turn : ∀ i n t m₁ nx h tk own, ns[i]? = some n → TbOff own nx → J i m₁ nx → Fr h₀ env.locals h (fun y => if y = x then some (.int n t) else m₁ y) → News h₀ env.locals h (nx ++ own) →
      wpAny (model prog w) A (execs body env) (TbPost h₀ env.locals (J (i + 1)) own { s with heap := h, toks := tk } Q) E { s with heap := h, toks := tk })
    (done : ∀ m₁ nx h tk, J ns.length m₁ nx → Fr h₀ env.locals h m₁ → News h₀ env.locals h nx → Q .next { s with heap := h, toks := tk }) :
    wpAny (model prog w) A (pyIter (.ref l)) (fun it s₂ => LoopAtV prog w A h₀ env x body Q E it s₂) E s := by
  obtain ⟨ol, hol, _⟩ := id hl
  have hlt : l < s.heap.objs.size := Heap.lt_size hol
  have hne : l ≠ s.heap.objs.size := Nat.ne_of_lt hlt
  refine wpAny_pyIter_list hl ?_
  have up : ∀ b o, s.heap.get? b = some o → (s.heap.push { cls := .type "list_iterator", data := .fields #[.ref l, .int 0 0] }).get? b = some o := fun b o e => Heap.get?_push_of_some _ e
  have W := walks_widen (wr' := [s.heap.objs.size, l]) (Walks.list (prog := prog) (w := w) hh s.heap.objs.size l hne vs.toArray) (fun b hb => by simp at hb; simp [hb]) (fun b hb => hb)
  have hsz : vs.toArray.size = ns.length := by simp [hi.length]
  rw [hsz] at W
  refine tbr_loop (s := { s with heap := _ }) J W (fun _ h => h) (fun _ h => h) ?_ ?_ ?_ ?_ ⟨⟨_, Heap.get?_push_size _ rfl, rfl, rfl⟩, hl.push _⟩ (F.keeps up) (N.grown up) hj ?_ ?_
  · rintro i h ⟨st1, st2⟩ b hb
    have hb' : b = s.heap.objs.size ∨ b = l := by simpa using hb
    rcases hb' with rfl | rfl
    · obtain ⟨o, e, _⟩ := st1; exact ⟨o, e⟩
    · obtain ⟨o, e, _⟩ := st2; exact ⟨o, e⟩
  · intro hm
    have hb' : env.locals = s.heap.objs.size ∨ env.locals = l := by simpa using hm
    rcases hb' with q | q
    · exact absurd F.ns.lt (q ▸ Nat.lt_irrefl _)
    · exact hlL q.symm
  · intro b hb
    have hb' : b = s.heap.objs.size ∨ b = l := by simpa using hb
    rcases hb' with rfl | rfl
    · exact next_is_new F
    · exact hnew
  · intro p hp hI
    have hb' : p.1 = s.heap.objs.size ∨ p.1 = l := by simpa using hI
    rcases hb' with q | q
    · exact absurd (Heap.lt_size (N p hp).1) (q ▸ Nat.lt_irrefl _)
    · exact hln p hp q
  · rintro i v m₁ nx h tk own hin hP hoff hJ F₁ N₁
    obtain ⟨n, t, rfl, hn⟩ := IntsAre.at hi i v (by simpa using hP)
    exact turn i n t m₁ nx h tk own hn hoff hJ F₁ N₁
  · exact done
end
section
variable {prog : Program} {w : World} {A : Around} {E : Value → Shared → Prop} {s : Shared} {env : Env} {h₀ : Heap} {L : Addr} {m : Str → Option Value} {x : Str} {px pos : Pos} {iter : Expr} {body : List Stmt} {Q : Flow → Shared → Prop}
theorem For_invF (_F : Fr h₀ L s.heap m) (hx : env.kindOf x = some .local)
    (hp : (env.scope.kind == .class || (env.scope.kind == .module && env.locals != env.globals)) = false)
    (hs : ∀ x, foldedSetIterable iter env x = pure x)
    (h : wpAny (model prog w) A (eval iter env) (fun xv s₁ => wpAny (model prog w) A (pyIter xv) (fun it s₂ => LoopAtV prog w A h₀ env x body Q E it s₂) E s₁) E s)
    (hE : PassesOwn (model prog w) A env E := by passes_own) :
    wpAny (model prog w) A (exec (.For (.Name x px) iter body [] pos) env) Q E s := For_invV h₀ hx hp h hs hE
end
/-- what the loop's source hands on: a new list of ints, the ledger as it was -/
def ForMid (h₀ : Heap) (L : Addr) (m : Str → Option Value) (s : Shared) (news : List (Addr × Obj)) (xv : Value) (s₁ : Shared) : Prop :=
  ∃ (l : Addr) (vs : List Value) (ns : List Int) (h : Heap) (tk : Nat), xv = .ref l ∧ s₁ = { s with heap := h, toks := tk } ∧ h.IsList l vs.toArray ∧ IntsAre vs ns ∧ ns.length ≤ 5 ∧ h₀.get? l = none ∧ l ≠ L ∧ Fr h₀ L h m ∧ News h₀ L h news ∧ ∀ p ∈ news, p.1 ≠ l
theorem forMid_of {h₀ h : Heap} {L l : Addr} {m : Str → Option Value} {s : Shared} {big news : List (Addr × Obj)} {vs : List Value} {ns : List Int} {o : Obj} {tk : Nat} (F : Fr h₀ L h m) (N : News h₀ L h big) (hm : (l, o) ∈ big) (hl : h.IsList l vs.toArray) (hi : IntsAre vs ns) (hn : ns.length ≤ 5)
    (hsub : ∀ p ∈ news, p ∈ big) (hne : ∀ p ∈ news, p.1 ≠ l) : ForMid h₀ L m s news (.ref l) { s with heap := h, toks := tk } :=
  ⟨l, vs, ns, h, tk, rfl, rfl, hl, hi, hn, (N _ hm).2.2, (N _ hm).2.1, F, fun p hp => N p (hsub p hp), hne⟩
section
variable {prog : Program} {w : World} {A : Around} {E : Value → Shared → Prop} {s : Shared} {env : Env} {h₀ : Heap} {L : Addr} {m : Str → Option Value} {news : List (Addr × Obj)} {x : Str} {px pos : Pos} {iter : Expr} {body : List Stmt} {Q : Flow → Shared → Prop}
theorem For_mid (F : Fr h₀ L s.heap m) (_N : News h₀ L s.heap news) (hL : env.locals = L) (hx : env.kindOf x = some .local) (hh : A.handled = none)
    (hp : (env.scope.kind == .class || (env.scope.kind == .module && env.locals != env.globals)) = false)
    (hs : ∀ x, foldedSetIterable iter env x = pure x) (J : (Str → Option Value) → List (Addr × Obj) → Prop) (hj : J m news)
    (hmid : wpAny (model prog w) A (eval iter env) (ForMid h₀ L m s news) E s)
    (turn : ∀ n t m₁ nx h tk own, TbOff own nx → J m₁ nx → Fr h₀ L h (fun y => if y = x then some (.int n t) else m₁ y) → News h₀ L h (nx ++ own) →
      wpAny (model prog w) A (execs body env) (TbPost h₀ L J own { s with heap := h, toks := tk } Q) E { s with heap := h, toks := tk })
    (done : ∀ m₁ nx h tk, J m₁ nx → Fr h₀ L h m₁ → News h₀ L h nx → Q .next { s with heap := h, toks := tk })
    (hE : PassesOwn (model prog w) A env E := by passes_own) :
    wpAny (model prog w) A (exec (.For (.Name x px) iter body [] pos) env) Q E s := by
  subst hL
  refine For_invF F hx hp hs (wpAny_mono hmid (fun xv s₁ hm => ?_) fun _ _ e => e) hE
  obtain ⟨l, vs, ns, h, tk, rfl, rfl, hl, hi, hn, hnew, hlL, F₁, N₁, hln⟩ := hm
  exact loop_new (s := { s with heap := h, toks := tk }) (fun _ => J) hh hl hi hnew hlL F₁ N₁ hln hj (fun i n t m₁ nx h' tk' own _ hoff hJ F₂ N₂ => turn n t m₁ nx h' tk' own hoff hJ F₂ N₂) done
end
def lawJ (C c : Addr) (cv : List Value) (m : Str → Option Value) (nx : List (Addr × Obj)) : Prop :=
  ∃ (o : Obj) (v : Option Value) (u : Str → Option Value), m = (fun y => if y = Str.ofString "common" then some (.ref C) else u y) ∧ o.data = .cell v ∧ nx = [(C, LCg.lst cv), (c, o)]
theorem allLt_get {d : Addr} : ∀ {l : List (Addr × Obj)}, AllLt d l → ∀ p ∈ l, p.1 < d
  | [], _, _, h => nomatch h
  | p :: r, h, x, hx => by
    rcases List.mem_cons.mp hx with rfl | hx
    · exact h.1
    · exact allLt_get h.2 x hx

theorem off_13 : True := by
  w_top off
  exact trivial
theorem dict_iter : typeLookup (.type "dict") "__iter__" = pure (some (.builtin "dict.__iter__")) := by rw [typeLookup_type, builtinLookup_eq_fast]; kernel_rfl
section
variable {prog : Program} {w : World} {A : Around} {E : Value → Shared → Prop} {s : Shared}
theorem merge_empty {d a : Addr} {od oa : Obj} {n k : Nat} {Q : Unit → Shared → Prop} (hd : s.heap.get? d = some od) (hdd : od.data = .dict #[] n) (ha : s.heap.get? a = some oa) (hac : oa.cls = .type "dict") (hda : oa.data = .dict #[] k) (hs : (a == sysModules) = false)
    (h : Q () s) : wpAny (model prog w) A (mergeMapping d (.ref a) true) Q E s := by
  have hT : s.TypeIs (.ref a) "dict" := ⟨oa, ha, hac⟩
  have sub : isSubtype (.type "dict") (.type "dict") = pure true := by rw [isSubtype_type]; kernel_rfl
  unfold mergeMapping
  refine wpAny_bind (wpAny_isInstance hT sub ?_)
  dsimp only
  rw [if_pos rfl]
  refine wpAny_bind (wpAny_specialOf hT dict_iter ?_)
  refine wpAny_bind (wpAny_pure ?_)
  rw [show (some (Value.builtin "dict.__iter__") == some (Value.builtin "dict.__iter__")) = true from by decide +kernel]
  dsimp only
  rw [if_neg (by rw [hs]; decide)]
  refine wpAny_bind (wpAny_dictEntries hd hdd ?_)
  try dsimp only
  rw [if_pos (by rfl)]
  refine wpAny_bind (wpAny_dictEntries ha hda ?_)
  wp_walk
  rw [hda]
  refine wpAny_pure ?_
  refine wpAny_bind (wpAny_dictEpoch ha hda ?_)
  wp_walk
  exact h
theorem find_empty {d : Addr} {od : Obj} {n : Nat} {hsh : Int} {x : Str} {t : Tok} {Q : Option Nat → Shared → Prop} (hd : s.heap.get? d = some od) (hdd : od.data = .dict #[] n) (h : Q none s) : wpAny (model prog w) A (dictFind d (.str x t) hsh) Q E s := by
  unfold dictFind
  refine wpAny_holding ?_
  refine wpAny_bind (wpAny_dictEntries hd hdd ?_)
  have e : ((#[] : Array DictEntry).all fun e => isExactStrKey e.key) = true := by simp
  have f : (#[] : Array DictEntry).findIdx? (fun e => e.key.isStr x) = none := by simp
  dsimp only
  rw [if_pos e]
  unfold foundByValue
  rw [f]
  wp_walk
  exact h
theorem put_empty {d : Addr} {od : Obj} {n : Nat} {hsh : Int} {x : Str} {t : Tok} {v : Value} {Q : Unit → Shared → Prop} (hd : s.heap.get? d = some od) (hdd : od.data = .dict #[] n)
    (h : Q () { s with heap := s.heap.update d (Obj.mapDictKeys (·.push ⟨hsh, .str x t, v⟩)) }) : wpAny (model prog w) A (dictPut d hsh (.str x t) v) Q E s := by
  unfold dictPut
  refine wpAny_bind (find_empty hd hdd ?_)
  exact wpAny_updateDictKeys hd hdd h
theorem merge_one {d a : Addr} {od oa : Obj} {n k : Nat} {hsh : Int} {x : Str} {t : Tok} {v : Value} {Q : Unit → Shared → Prop} (hd : s.heap.get? d = some od) (hdd : od.data = .dict #[] n) (ha : s.heap.get? a = some oa) (hac : oa.cls = .type "dict") (hda : oa.data = .dict #[⟨hsh, .str x t, v⟩] k) (hs : (a == sysModules) = false)
    (hne : d ≠ a) (h : Q () { s with heap := s.heap.update d (Obj.mapDictKeys (·.push ⟨hsh, .str x t, v⟩)) }) : wpAny (model prog w) A (mergeMapping d (.ref a) true) Q E s := by
  have hT : s.TypeIs (.ref a) "dict" := ⟨oa, ha, hac⟩
  have sub : isSubtype (.type "dict") (.type "dict") = pure true := by rw [isSubtype_type]; kernel_rfl
  have ha' : (s.heap.update d (Obj.mapDictKeys (·.push ⟨hsh, .str x t, v⟩))).get? a = some oa := (Heap.get?_update_other _ _ hne).trans ha
  unfold mergeMapping
  refine wpAny_bind (wpAny_isInstance hT sub ?_)
  dsimp only
  rw [if_pos rfl]
  refine wpAny_bind (wpAny_specialOf hT dict_iter ?_)
  refine wpAny_bind (wpAny_pure ?_)
  rw [show (some (Value.builtin "dict.__iter__") == some (Value.builtin "dict.__iter__")) = true from by decide +kernel]
  dsimp only
  rw [if_neg (by rw [hs]; decide)]
  refine wpAny_bind (wpAny_dictEntries hd hdd ?_)
  try dsimp only
  rw [if_pos (by rfl)]
  refine wpAny_bind (wpAny_dictEntries ha hda ?_)
  wp_walk
  rw [hda]
  refine wpAny_pure ?_
  refine wpAny_bind (wpAny_dictEpoch ha hda ?_)
  wp_walk
  rw [hda]
  refine wpAny_pure ?_
  dsimp only [List.getElem?_toArray, Array.size]
  refine wpAny_bind (wpAny_holding ?_)
  dsimp only [List.getElem_toArray, List.getElem_cons_zero]
  rw [if_pos rfl]
  refine wpAny_bind (find_empty hd hdd ?_)
  rw [if_neg (by decide)]
  refine put_empty hd hdd ?_
  refine wpAny_bind (wpAny_dictEpoch ha' hda ?_)
  rw [if_neg (by simp)]
  refine wpAny_pure ?_
  wp_walk
  exact h
/-- a call's `**m`, m a dict of no entry or of one, whose key is a text -/
theorem merged_kw {f : Value} {t : Sem Value} {Q : Addr → Shared → Prop}
    (h : ∀ D, D = s.heap.objs.size → wpAny (model prog w) A t (fun v s₁ => wpAny (model prog w) A (mergeMapping D v true) (fun _ s₂ => Q D s₂) (fun _ _ => False) s₁) (fun _ _ => False) { s with heap := s.heap.push { cls := .type "dict", data := .dict #[] } }) :
    wpAny (model prog w) A (mergedKeywords f [(none, t)]) Q E s := by
  unfold mergedKeywords
  wp_walk
  refine wpAny_mono (h _ rfl) (fun v s₁ h₁ => ?_) fun _ _ e => e.elim
  refine wpAny_bind (wpAny_onRaise ?_)
  dsimp only
  refine wpAny_holding (wpAny_tryCatch (wpAny_onRaise (wpAny_mono h₁ (fun _ s₂ h₂ => ?_) fun _ _ e => e.elim)))
  refine wpAny_pure ?_
  dsimp only
  wp_walk
  exact h₂
end
section
variable {prog : Program} {w : World} {A : Around} {E : Value → Shared → Prop} {s : Shared}
theorem kwIn_empty {f : Value} {d : Addr} {od : Obj} {n : Nat} {Q : List (Str × Value) → Shared → Prop} (hd : s.heap.get? d = some od) (hdd : od.data = .dict #[] n) (h : Q [] s) : wpAny (model prog w) A (keywordsIn f d) Q E s := by
  unfold keywordsIn
  refine wpAny_bind (wpAny_dictEntries hd hdd ?_)
  wp_walk
  exact h
theorem kwIn_one {f : Value} {d : Addr} {od : Obj} {n : Nat} {hsh : Int} {x : Str} {t : Tok} {v : Value} {Q : List (Str × Value) → Shared → Prop} (hd : s.heap.get? d = some od) (hdd : od.data = .dict #[⟨hsh, .str x t, v⟩] n) (h : Q [(x, v)] s) : wpAny (model prog w) A (keywordsIn f d) Q E s := by
  unfold keywordsIn
  refine wpAny_bind (wpAny_dictEntries hd hdd ?_)
  wp_walk
  exact h
end
section
variable {M : Model} {A : Around} {E : Value → Shared → Prop} {s : Shared}
theorem evalArgs_star {f : Value} {a t : Sem Value} {Q : Args → Shared → Prop}
    (h : wpAny M A (spliced [(false, a)]) (fun pos s₁ => wpAny M A (mergedKeywords f [(none, t)]) (fun d s₂ => wpAny M A (keywordsIn f d) (fun kw s₃ => Q ⟨pos, kw⟩ s₃) E s₂) E s₁) E s) : wpAny M A (evalArgs f true [(false, a)] [(none, t)]) Q E s := by
  unfold evalArgs
  dsimp only
  refine wpAny_bind (wpAny_mono h (fun pos s₁ h₁ => ?_) fun _ _ e => e)
  refine wpAny_bind (wpAny_pure ?_)
  refine wpAny_holding ?_
  rw [if_neg (by simp)]
  refine wpAny_bind (wpAny_mono h₁ (fun d s₂ h₂ => ?_) fun _ _ e => e)
  dsimp only
  refine wpAny_bind (wpAny_pure ?_)
  exact wpAny_bind (wpAny_holding (wpAny_mono h₂ (fun kw s₃ h₃ => wpAny_pure h₃) fun _ _ e => e))
end
section
variable {prog : Program} {w : World} {A : Around} {E : Value → Shared → Prop} {s : Shared}
theorem call_star {pos : Pos} {f : Addr} {o : Obj} {fd : FuncData} {a t : Sem Value} {Q : Value → Shared → Prop} {av : Value} {d : Addr} {od : Obj} {k : Nat} {es : Array DictEntry} {kw : List (Str × Value)}
    (hf : s.heap.get? f = some o) (hfd : o.data = .func fd) (hd : s.heap.get? d = some od) (hdc : od.cls = .type "dict") (hdd : od.data = .dict es k) (hds : (d == sysModules) = false)
    (hes : (es = #[] ∧ kw = []) ∨ ∃ hsh x u v, es = #[⟨hsh, .str x u, v⟩] ∧ kw = [(x, v)])
    (ha : ∀ {E' : Value → Shared → Prop} {Q' : List Value → Shared → Prop}, Q' [av] s → wpAny (model prog w) A (spliced [(false, a)]) Q' E' s)
    (ht : ∀ {h' : Heap} {E' : Value → Shared → Prop} {Q' : Value → Shared → Prop}, s.heap.StaysIn h' → Q' (.ref d) { s with heap := h' } → wpAny (model prog w) A t Q' E' { s with heap := h' })
    (h : ∀ h', s.heap.StaysIn h' → wpAny (model prog w) A (call (.ref f) [av] kw) Q E { s with heap := h' }) :
    wpAny (model prog w) A (callWith pos (.ref f) [] [(false, a)] [(none, t)]) Q E s := by
  have hlt : d < s.heap.objs.size := Heap.lt_size hd
  have up : ∀ b x, s.heap.get? b = some x → (s.heap.push { cls := .type "dict", data := .dict #[] }).get? b = some x := fun b x e => Heap.get?_push_of_some _ e
  have hD : (s.heap.push { cls := .type "dict", data := .dict #[] }).get? s.heap.objs.size = some { cls := .type "dict", data := .dict #[] } := Heap.get?_push_size _ rfl
  have hne : s.heap.objs.size ≠ d := Nat.ne_of_gt hlt
  refine callWith_function_kw (o := o) (fd := fd) (evalArgs_star (ha ?_))
  rcases hes with ⟨rfl, rfl⟩ | ⟨hsh, x, u, v, rfl, rfl⟩
  · refine merged_kw fun D hDe => ?_
    subst hDe
    refine ht up (merge_empty hD rfl (up _ _ hd) hdc hdd hds ?_)
    exact kwIn_empty hD rfl ⟨⟨up _ _ hf, hfd⟩, h _ up⟩
  · refine merged_kw fun D hDe => ?_
    subst hDe
    refine ht up (merge_one hD rfl (up _ _ hd) hdc hdd hds hne ?_)
    have up2 : s.heap.StaysIn ((s.heap.push { cls := .type "dict", data := .dict #[] }).update s.heap.objs.size (Obj.mapDictKeys (·.push ⟨hsh, .str x u, v⟩))) := fun b y e =>
      (Heap.get?_update_other _ _ (fun q => by rw [← q] at e; exact Nat.lt_irrefl _ (Heap.lt_size e))).trans (up b y e)
    refine kwIn_one (Heap.get?_update_self _ hD rfl) rfl ⟨⟨up2 _ _ hf, hfd⟩, h _ up2⟩
end
theorem dict_none {prog : Program} {w : World} {o : Obj} (h : Obj.IsDictOf (strKind prog w) o []) : o.cls = .type "dict" ∧ ∃ n, o.data = .dict #[] n := by
  obtain ⟨es, ep, hx, hd, _, hp, _⟩ := h
  refine ⟨hx.1, ep, ?_⟩
  have : es.toList = [] := by cases hq : es.toList with
    | nil => rfl
    | cons a r => rw [hq] at hp; cases hp
  rw [hd]
  cases es with
  | mk l => simp at this; subst this; rfl
theorem dict_single {prog : Program} {w : World} {o : Obj} {x : Str} {v : Value} (h : Obj.IsDictOf (strKind prog w) o [(x, v)]) : o.cls = .type "dict" ∧ ∃ n hsh u, o.data = .dict #[⟨hsh, .str x u, v⟩] n := by
  obtain ⟨es, ep, hx, hd, _, hp, _⟩ := h
  refine ⟨hx.1, ep, ?_⟩
  rw [hd]
  cases es with
  | mk l =>
    cases hp with
    | cons a r q =>
      cases q
      rename DictEntry => e
      obtain ⟨hsh, key, val⟩ := e
      subst r
      cases key <;> simp [PySem.strKind, Value.isStrOf] at a
      subst a
      exact ⟨_, _, rfl⟩

theorem off_14 : True := by
  w_top off
  exact trivial
/-- surroundings with a written stack of frames -/
abbrev pF (d : Nat) (l : List Env) : Around := { handled := none, depth := d, frames := some l, guards := none, units := d }
theorem liftF {α : Type} {d : Nat} {l : List Env} {M : Model} {A : Around} {t : Sem α} {Q : α → Shared → Prop} {E : Value → Shared → Prop} {s : Shared} (h : wpAny M (pF d l) t Q E s) (hh : A.handled = none) (hf : A.frames = some l) (hd : A.depth ≤ d) (hu : A.units ≤ d) : wpAny M A t Q E s :=
  fun Γ p hΓ => h Γ p ⟨hΓ.1.trans hh, Nat.le_trans hΓ.2.1 hd, (fun f e => hΓ.2.2.1 f (hf.trans e)), (fun _ e => by cases e), Nat.le_trans hΓ.2.2.2.2 hu⟩
section
variable {prog : Program} {w : World} {A : Around} {E : Value → Shared → Prop} {s : Shared} {K : Frag} {mg mb : Str → Option Value} {p : Program} {loose : List Str} {mean : ExcName → Option Value} {Q : Value → Shared → Prop}
/-- a call of a def that raises -/
theorem call_raise {name qual : Str} {params : Arguments} {body : List Stmt} {scope : Scope} {dV kV doc pm cdv ct oc : Value} {an od : Option Addr} {osl : Array (Option Value)} {f : Addr} {pos : List Value} {kw : List (Str × Value)} {binds : List (Str × Value)}
    (X : K.In s.heap) (T : Top p loose mean mg mb s.heap) (hroom : A.depth < recursionLimit)
    (ho : K.lookup f = some ⟨oc, od, .func (fnOf name qual params body scope dV kV doc pm an cdv ct), osl⟩) (hcd : codeIn K cdv qual = true)
    (hbind : BindsTo s (fnOf name qual params body scope dV kV doc pm an cdv ct) ⟨pos, kw⟩ binds) (hloc : ∀ y ∈ binds, scope.names.lookup y.1 = some .local)
    (h : ∀ L' h₁, Fr s.heap L' h₁ (fun y => binds.reverse.lookup y) → News s.heap L' h₁ [] →
      wpAny (model prog w) (A.deeper (envOf qual scope L' f cdv)) (execs body (envOf qual scope L' f cdv))
        (fun _ _ => False)
        (fun e s' => wpAny (model prog w) (A.deeper (envOf qual scope L' f cdv)) (leaving (envOf qual scope L' f cdv) e) (fun _ s'' => E e s'') (fun _ _ => False) s')
        { s with heap := h₁, toks := s.toks + binds.length })
    (hco : scope.isCoroutine = false := by rfl) (hgen : scope.isGenerator = false := by rfl) (hk : scope.kind = .function := by rfl)
    (hcell : ∀ x ∈ scope.names, x.2 ≠ .cell := by decide) : wpAny (model prog w) A (call (.ref f) pos kw) Q E s := by
  refine wpAny_call (codeAny_call_def (fd := fnOf name qual params body scope dV kV doc pm an cdv ct) (body := body) (binds := binds) hroom (X _ _ ho) rfl T.nolimit (codeRec_of X hcd) rfl hbind hcell hloc (fun h₁ hns hk₁ => ?_) hco hgen hk)
  refine wpAny_mono (h s.heap.objs.size h₁ ⟨hns, hk₁, Nat.le_refl _⟩ News.nil) (fun fl s' hl => hl.elim) fun e s' y => wpAny_mono y (fun _ _ z => z) fun _ _ z => z.elim
end
theorem say_14_45 : True := by
  k_with "call builtin:repr" => (((with_reducible show wpAny _ _ (call (Value.builtin "repr") [Value.bytes _ _]) _ _ _); refine repr_text (Nat.le_trans (by assumption) (by decide)) ?_; intro _ _ _))
  exact trivial
section
variable {w : World} {E : Value → Shared → Prop} {s : Shared} {mg mb : Str → Option Value} {loose : List Str} {mean : ExcName → Option Value} {Q : Value → Shared → Prop} {bs ab : Array UInt8} {octs ps : List Int} {t u : Tok} {outer : List Env} {base : Heap}
theorem ra_b64 (B : Below (pF 480 outer) base outer s.heap) (hb : KBw.bInts bs = octs) (hl : octs.length ≤ 3) (hz : ab.size ≤ 3) (hn : ¬ ((ab.size : Int) = 2)) (X : (hd.heap_39 w.params).In s.heap) (T : Top hd.view_39 loose mean mg mb s.heap)
    (h : ∀ e h' tk, RaisedN base outer e (.type "AssertionError") [] h' → s.heap.UpToSlots h' → E (.ref e) { s with heap := h', toks := tk }) : wpAny (model PySem.Challenge.pw_ik0020_01 w) (pF 480 outer) (call (.ref 97) [.bytes bs t] [(Str.ofString "altchars", .bytes ab u)]) Q E s := by
  k_dflt (refine' call_raise (K := hd.heap_39 w.params) (binds := [(Str.ofString "s", .bytes bs t), (Str.ofString "altchars", .bytes ab u)]) X T (by show 480 < recursionLimit; decide) ?k6 ?k7 ?k9 ?kB ?_ ?c2 ?c3 ?c4 ?c5; walk_at "m enter")
  have hB : True → Below (pF 480 outer) base outer s.heap := fun _ => B
  clear B
  intro L' h₁ F N
  k_fold
  k_steps
  · exact absurd (by assumption : (ab.size : Int) = 2) hn
  exact leave_newK (hB trivial) (by assumption) (by assumption) News.nil fun h' R U => h _ _ _ R U
end
theorem below_hide {A : Around} {base h : Heap} {l : List Env} (K : Below A base l h) : Below A (hideAll h (l.filterMap (·.frame))) l h :=
  ⟨K.stack, fun _ _ q => of_hideAll _ q, funFrames_hide K.frames fun env he b hb => List.mem_filterMap.mpr ⟨env, he, hb⟩⟩
theorem raised_up {A : Around} {base h h' : Heap} {l : List Env} {e : Addr} {cls : Value} {NL : List (Addr × Obj)} (K : Below A base l h) (N : ∀ q ∈ NL, h.get? q.1 = some q.2 ∧ base.get? q.1 = none ∧ q.1 ∉ l.filterMap (·.frame))
    (R : RaisedN (hideAll h (l.filterMap (·.frame))) l e cls [] h') : RaisedN base l e cls NL h' := by
  obtain ⟨B, a0, hB, _, hfl⟩ := R
  refine ⟨B, a0, fun b o q => hB b o (hideAll_get _ (K.stays b o q) fun hm => ?_), fun q hq => ⟨hB _ _ (hideAll_get _ (N q hq).1 (N q hq).2.2), (N q hq).2.1⟩, hfl⟩
  rw [(K.frames.mem hm).1] at q; cases q
theorem news_frames {A : Around} {base g h : Heap} {outer : List Env} {L a : Addr} {name : Str} {scope : Scope} {cd : Value} {NL : List (Addr × Obj)} (K : Below A base outer g) (N : News g L h NL) :
    ∀ q ∈ NL, h.get? q.1 = some q.2 ∧ base.get? q.1 = none ∧ q.1 ∉ (envOf name scope L a cd :: outer).filterMap (·.frame) := fun q hq => by
  refine ⟨(N q hq).1, fresh_of_stays K.stays (N q hq).2.2, fun hm => ?_⟩
  obtain ⟨env, he, hf⟩ := List.mem_filterMap.mp hm
  rcases List.mem_cons.mp he with rfl | he
  · exact (N q hq).2.1 (Option.some.inj hf).symm
  · obtain ⟨o, ho, _⟩ := (K.frames.mem (List.mem_filterMap.mpr ⟨env, he, hf⟩)).2
    rw [(N q hq).2.2] at ho; cases ho

theorem off_15 : True := by
  w_top off
  exact trivial
theorem say_15_46 : True := by
  k_with "m stepsW" => (repeat' ((fail_if_success (with_reducible show wpAny _ _ (callWith _ (Value.ref _) _ _ [_]) _ _ _)); first | (k_unfold; (try dsimp only)) | (k_end; wrow_close) | walk1 | (dsimp only; walk1) | (leave1; walk_say "STEP leave1"; try dsimp only) | fail "no step"))
  exact trivial
theorem say_15_47 : True := by
  k_with "m more" => (((case kF => assumption); (case kK => assumption); (case k6 => k_is); (case k7 => k_is); (case k8 => exact Nat.lt_of_le_of_lt (by assumption) (by decide)); (case kN => exact rfl); (case kP => exact rfl); (case kT => exact fun _ => rfl); (case kB => exact fun _ => locs rfl); (case c5 => decide); (case c2 => exact rfl); (case c3 => exact rfl); (case c4 => exact rfl); k_whole))
  exact trivial
section
variable {prog : Program} {w : World} {A A₀ : Around} {s : Shared} {K : Frag} {L : Addr} {h₀ base : Heap} {m mg mb : Str → Option Value} {news : List (Addr × Obj)} {p : Program} {loose : List Str} {mean : ExcName → Option Value} {Q E : Value → Shared → Prop}
/-- a call of a def with a `**more`, whose further words hold any values -/
theorem call_kws {env : Env} {outer : List Env} {name qual : Str} {params : Arguments} {body : List Stmt} {scope : Scope} {dV kV doc pm cdv ct oc : Value} {an od : Option Addr} {osl : Array (Option Value)} {f : Addr} {pos : List Value} {kw : List (Str × Value)} {nm : Str} {ex front : List (Str × Value)} {g₁ : Addr → Sem (List (Str × Value))}
    (B : Below A₀ base outer h₀) (F : Fr h₀ L s.heap m) (X₀ : K.In h₀) (N : News h₀ L s.heap news) (T : Top p loose mean mg mb h₀) (hA : A.frames = some (env :: outer)) (hf : env.frame = some L) (hke : env.scope.kind = .function)
    (ho : K.lookup f = some ⟨oc, od, .func (fnOf name qual params body scope dV kV doc pm an cdv ct), osl⟩) (hcd : codeIn K cdv qual = true) (hroom : A.depth < recursionLimit) (hn : kwDistinct ex = true)
    (hp : peekA K ⟨prog, w.params⟩ (bindArgs (fnOf name qual params body scope dV kV doc pm an cdv ct) ⟨pos, kw⟩) = some (dictOf [] 0, g₁))
    (hk₁ : ∀ D, g₁ D = (forIn ex PUnit.unit (fun x _ => (nsSet D x.1 x.2 >>= fun _ => pure (ForInStep.yield PUnit.unit))) >>= fun _ => pure (front ++ [(nm, Value.ref D)])))
    (hloc : ∀ D, ∀ y ∈ front ++ [(nm, Value.ref D)], scope.names.lookup y.1 = some .local)
    (h : ∀ D g L' h₁ tk, AllLt D news → (D == sysModules) = false → Fr h₀ L g m → Fr g L' h₁ (fun y => (front ++ [(nm, Value.ref D)]).reverse.lookup y) → News g L' h₁ ((D, dictOf (kwEs w.params s.toks ex) (0 + ex.length)) :: news) → Below A base (env :: outer) g → K.In g → Top p loose mean mg mb g →
      wpAny (model prog w) (A.deeper (envOf qual scope L' f cdv)) (execs body (envOf qual scope L' f cdv))
        (fun fl s' => LeaveK h₀ L m g (fun r s' => match r with | .ok (.ret v) => Q v s' | .ok _ => False | .error e => E e s') (match fl with | .ret v => v | _ => .none) s')
        (fun e s' => wpAny (model prog w) (A.deeper (envOf qual scope L' f cdv)) (leaving (envOf qual scope L' f cdv) e) (fun _ s'' => E e s'') (fun e' s'' => E e' s'') s')
        { s with heap := h₁, toks := tk })
    (hco : scope.isCoroutine = false) (hgen : scope.isGenerator = false) (hk : scope.kind = .function)
    (hcell : ∀ x ∈ scope.names, x.2 ≠ .cell) : wpAny (model prog w) A (call (.ref f) pos kw) Q E s := by
  have nd := kwDistinct_nodup hn
  refine wpAny_call (codeAny_call_function (fd := fnOf name qual params body scope dV kV doc pm an cdv ct) (body := body) hroom ((X₀.keeps F.keep) _ _ ho) rfl hco hgen rfl (codeRec_of (X₀.keeps F.keep) hcd) ?_)
  refine wp_of_peekA (o := dictOf [] 0) F N (X₀.keeps F.keep) rfl _ g₁ hp fun h' F' N' l => ?_
  rw [hk₁]
  refine wpAny_bind (kp_fill ex { s with heap := h' } [] 0 F' N' (fun q hq => Nat.ne_of_lt (l q hq)) (fun _ e => nomatch e) (fun _ e => nomatch e) nd fun h'' F'' N'' => wpAny_pure ?_)
  exact kp_frame (cl := []) (s := { s with heap := h'', toks := s.toks + ex.length }) B F'' N'' T.nolimit hA hf hke (hloc _)
    (fun g L' h₁ FG FL NG BG st => h _ g L' h₁ _ (allLt_of l) (F.notModules (modules_low T.nolimit)) FG FL NG BG (X₀.keeps st) (T.keeps st)) hcell hk
end
abbrev gniS : Scope := { kind := .function, names := [(Str.ofString "name_index", .local), (Str.ofString "get_name", .local), (Str.ofString "extrainfo", .local), (Str.ofString "argval", .local), (Str.ofString "UNKNOWN", .globalImplicit)], isGenerator := false, isCoroutine := false }
section
variable {w : World} {A A₀ : Around} {E : Value → Shared → Prop} {s : Shared} {mg mb : Str → Option Value} {loose : List Str} {mean : ExcName → Option Value} {Q : Value → Shared → Prop} {bs ab rb : Array UInt8} {t u : Tok} {outer : List Env} {env : Env} {base h₀ : Heap} {L f : Addr} {m : Str → Option Value} {news : List (Addr × Obj)}
theorem gni_none0 (B : Below A₀ base outer h₀) (F : Fr h₀ L s.heap m) (X₀ : (hd.heap_39 w.params).In h₀) (N : News h₀ L s.heap news) (T : Top hd.view_39 loose mean mg mb h₀) (hA : A.frames = some (env :: outer)) (hf : env.frame = some L) (hke : env.scope.kind = .function) (hdp : A.depth ≤ 470)
    (h : ∀ h' tk D D' o' t', Fr h₀ L h' m → News h₀ L h' ((D, ({ cls := .type "tuple", data := .seq #[.ref 44, .str (Str.ofString "") t'] } : Obj)) :: (D', o') :: news) → D' < D ∧ AllLt D news → AllLt D' news → Q (.ref D) { s with heap := h', toks := tk }) : wpAny (model PySem.Challenge.pw_ik0020_01 w) A (call (.ref 51) [.bytes bs t, .none]) Q E s := by
  k_dflt (refine' call_kws (ex := []) (nm := Str.ofString "extrainfo") (front := [(Str.ofString "name_index", .bytes bs t), (Str.ofString "get_name", .none)]) B F X₀ N T hA ?kF ?kK ?k6 ?k7 ?k8 ?kN ?kP ?kT ?kB ?_ ?c2 ?c3 ?c4 ?c5; walk_at "m more")
  intro D' g' L' h' tk' l1 lo' FG' F' N' B' X' T'
  k_fold
  k_steps
  exact h _ _ _ _ _ _ (by assumption) (by assumption) (by assumption) l1
theorem gni_none1 (B : Below A₀ base outer h₀) (F : Fr h₀ L s.heap m) (X₀ : (hd.heap_39 w.params).In h₀) (N : News h₀ L s.heap news) (T : Top hd.view_39 loose mean mg mb h₀) (hA : A.frames = some (env :: outer)) (hf : env.frame = some L) (hke : env.scope.kind = .function) (hdp : A.depth ≤ 470)
    (h : ∀ h' tk D D' o' t', Fr h₀ L h' m → News h₀ L h' ((D, ({ cls := .type "tuple", data := .seq #[.ref 44, .str (Str.ofString "") t'] } : Obj)) :: (D', o') :: news) → D' < D ∧ AllLt D news → AllLt D' news → Q (.ref D) { s with heap := h', toks := tk }) : wpAny (model PySem.Challenge.pw_ik0020_01 w) A (call (.ref 51) [.bytes bs t, .none] [(Str.ofString "altchars", .bytes ab u)]) Q E s := by
  k_dflt (refine' call_kws (ex := [(Str.ofString "altchars", .bytes ab u)]) (nm := Str.ofString "extrainfo") (front := [(Str.ofString "name_index", .bytes bs t), (Str.ofString "get_name", .none)]) B F X₀ N T hA ?kF ?kK ?k6 ?k7 ?k8 ?kN ?kP ?kT ?kB ?_ ?c2 ?c3 ?c4 ?c5; walk_at "m more")
  intro D' g' L' h' tk' l1 lo' FG' F' N' B' X' T'
  k_fold
  k_steps
  exact h _ _ _ _ _ _ (by assumption) (by assumption) (by assumption) l1
theorem gni_ok0 (B : Below A₀ base outer h₀) (F : Fr h₀ L s.heap m) (X₀ : (hd.heap_39 w.params).In h₀) (N : News h₀ L s.heap news) (T : Top hd.view_39 loose mean mg mb h₀) (hA : A.frames = some (env :: outer)) (hf : env.frame = some L) (hke : env.scope.kind = .function) (hh : A.handled = none) (hdp : A.depth ≤ 470) (hu : A.units ≤ 470)
    (hfun : ∀ h : Heap, (hd.heap_39 w.params).In h → ∃ o fd, h.get? f = some o ∧ o.data = .func fd)
    (hw : ∀ {A' : Around} {Q' : Value → Shared → Prop} {E' : Value → Shared → Prop} {s' : Shared} {t₀ : Tok}, A'.handled = none → A'.depth ≤ 480 → A'.units ≤ 480 → (hd.heap_39 w.params).In s'.heap → Top hd.view_39 loose mean mg mb s'.heap → (∀ h' (tk t' : Nat), s'.heap.StaysIn h' → tk ≠ 0 → t' ≠ 0 → Q' (.bytes rb t') { s' with heap := h', toks := tk }) → wpAny (model PySem.Challenge.pw_ik0020_01 w) A' (call (.ref f) [.bytes bs t₀] []) Q' E' s')
    (h : ∀ h' tk D D' o' (t' : Nat), Fr h₀ L h' m → t' ≠ 0 → News h₀ L h' ((D, ({ cls := .type "tuple", data := .seq #[.bytes rb t', .bytes rb t'] } : Obj)) :: (D', o') :: news) → D' < D ∧ AllLt D news → AllLt D' news → Q (.ref D) { s with heap := h', toks := tk }) : wpAny (model PySem.Challenge.pw_ik0020_01 w) A (call (.ref 51) [.bytes bs t, .ref f]) Q E s := by
  k_dflt (refine' call_kws (ex := []) (nm := Str.ofString "extrainfo") (front := [(Str.ofString "name_index", .bytes bs t), (Str.ofString "get_name", .ref f)]) B F X₀ N T hA ?kF ?kK ?k6 ?k7 ?k8 ?kN ?kP ?kT ?kB ?_ ?c2 ?c3 ?c4 ?c5; walk_at "m more")
  intro D' g' L' h' tk' l1 lo' FG' F' N' B' X' T'
  k_fold
  walk_at "m stepsW"
  obtain ⟨o, fd, hfo, hfd⟩ := hfun h' (X'.keeps (Fr.keep F'))
  refine' call_star (o := o) (fd := fd) (av := .bytes bs t) hfo hfd (News.get N' (.head _)) rfl rfl lo' (.inl ⟨rfl, rfl⟩) ?ha ?ht ?hcall
  case ha =>
    intro E' Q' hq
    refine Calls.spliced_cons ?_
    show wpAny _ _ (eval _ _) _ _ _
    k_steps
    exact Calls.spliced_nil hq
  case ht =>
    intro h₂ E' Q' hk hq
    have F₂ := Fr.keptAll F' hk
    clear F' N'
    refine wpAny_bind ?_
    k_steps
    exact wpAny_bind (wpAny_standAt (wpAny_pure hq))
  case hcall =>
    intro h₂ hk
    have F₂ := Fr.keptAll F' hk
    have N₂ := News.grown N' hk
    clear F' N' hfo
    refine hw hh (by show A.depth + 1 ≤ 480; omega) (Nat.le_trans (Nat.add_le_add_right hu _) (by decide)) (X'.keeps (Fr.keep F₂)) (T'.keeps (Fr.keep F₂)) fun h₃ tk₃ t₃ hk₃ nk₃ nt₃ => ?_
    have F₃ := Fr.keptAll F₂ hk₃
    have N₃ := News.grown N₂ hk₃
    clear F₂ N₂
    k_steps
    exact h _ _ _ _ _ _ (by assumption) nt₃ (by assumption) (by assumption) l1
theorem gni_ok1 (B : Below A₀ base outer h₀) (F : Fr h₀ L s.heap m) (X₀ : (hd.heap_39 w.params).In h₀) (N : News h₀ L s.heap news) (T : Top hd.view_39 loose mean mg mb h₀) (hA : A.frames = some (env :: outer)) (hf : env.frame = some L) (hke : env.scope.kind = .function) (hh : A.handled = none) (hdp : A.depth ≤ 470) (hu : A.units ≤ 470)
    (hfun : ∀ h : Heap, (hd.heap_39 w.params).In h → ∃ o fd, h.get? f = some o ∧ o.data = .func fd)
    (hw : ∀ {A' : Around} {Q' : Value → Shared → Prop} {E' : Value → Shared → Prop} {s' : Shared} {t₀ : Tok}, A'.handled = none → A'.depth ≤ 480 → A'.units ≤ 480 → (hd.heap_39 w.params).In s'.heap → Top hd.view_39 loose mean mg mb s'.heap → (∀ h' (tk t' : Nat), s'.heap.StaysIn h' → tk ≠ 0 → t' ≠ 0 → Q' (.bytes rb t') { s' with heap := h', toks := tk }) → wpAny (model PySem.Challenge.pw_ik0020_01 w) A' (call (.ref f) [.bytes bs t₀] [(Str.ofString "altchars", .bytes ab u)]) Q' E' s')
    (h : ∀ h' tk D D' o' (t' : Nat), Fr h₀ L h' m → t' ≠ 0 → News h₀ L h' ((D, ({ cls := .type "tuple", data := .seq #[.bytes rb t', .bytes rb t'] } : Obj)) :: (D', o') :: news) → D' < D ∧ AllLt D news → AllLt D' news → Q (.ref D) { s with heap := h', toks := tk }) : wpAny (model PySem.Challenge.pw_ik0020_01 w) A (call (.ref 51) [.bytes bs t, .ref f] [(Str.ofString "altchars", .bytes ab u)]) Q E s := by
  k_dflt (refine' call_kws (ex := [(Str.ofString "altchars", .bytes ab u)]) (nm := Str.ofString "extrainfo") (front := [(Str.ofString "name_index", .bytes bs t), (Str.ofString "get_name", .ref f)]) B F X₀ N T hA ?kF ?kK ?k6 ?k7 ?k8 ?kN ?kP ?kT ?kB ?_ ?c2 ?c3 ?c4 ?c5; walk_at "m more")
  intro D' g' L' h' tk' l1 lo' FG' F' N' B' X' T'
  k_fold
  walk_at "m stepsW"
  obtain ⟨o, fd, hfo, hfd⟩ := hfun h' (X'.keeps (Fr.keep F'))
  refine' call_star (o := o) (fd := fd) (av := .bytes bs t) hfo hfd (News.get N' (.head _)) rfl rfl lo' (.inr ⟨_, _, _, _, rfl, rfl⟩) ?ha ?ht ?hcall
  case ha =>
    intro E' Q' hq
    refine Calls.spliced_cons ?_
    show wpAny _ _ (eval _ _) _ _ _
    k_steps
    exact Calls.spliced_nil hq
  case ht =>
    intro h₂ E' Q' hk hq
    have F₂ := Fr.keptAll F' hk
    clear F' N'
    refine wpAny_bind ?_
    k_steps
    exact wpAny_bind (wpAny_standAt (wpAny_pure hq))
  case hcall =>
    intro h₂ hk
    have F₂ := Fr.keptAll F' hk
    have N₂ := News.grown N' hk
    clear F' N' hfo
    refine hw hh (by show A.depth + 1 ≤ 480; omega) (Nat.le_trans (Nat.add_le_add_right hu _) (by decide)) (X'.keeps (Fr.keep F₂)) (T'.keeps (Fr.keep F₂)) fun h₃ tk₃ t₃ hk₃ nk₃ nt₃ => ?_
    have F₃ := Fr.keptAll F₂ hk₃
    have N₃ := News.grown N₂ hk₃
    clear F₂ N₂
    k_steps
    exact h _ _ _ _ _ _ (by assumption) nt₃ (by assumption) (by assumption) l1
variable {cls : String}
theorem gni_type (B : Below A₀ base outer h₀) (F : Fr h₀ L s.heap m) (X₀ : (hd.heap_39 w.params).In h₀) (N : News h₀ L s.heap news) (T : Top hd.view_39 loose mean mg mb h₀) (hA : A.frames = some (env :: outer)) (hf : env.frame = some L) (hke : env.scope.kind = .function) (hh : A.handled = none) (hdp : A.depth ≤ 470) (hu : A.units ≤ 470)
    (hfun : ∀ h : Heap, (hd.heap_39 w.params).In h → ∃ o fd, h.get? f = some o ∧ o.data = .func fd)
    (hw : ∀ {A' : Around} {Q' : Value → Shared → Prop} {E' : Value → Shared → Prop} {s' : Shared} {t₀ u₀ : Tok}, A'.handled = none → (hd.heap_39 w.params).In s'.heap → Top hd.view_39 loose mean mg mb s'.heap → (∀ e h' tk, s'.heap.NewExc h' e cls → E' (.ref e) { s' with heap := h', toks := tk }) → wpAny (model PySem.Challenge.pw_ik0020_01 w) A' (call (.ref f) [.bytes bs t₀] [(Str.ofString "altchars", .bytes ab u₀)]) Q' E' s')
    (h : ∀ e h' tk g D' o', Fr h₀ L g m → g.UpToSlots h' → RaisedN base (env :: outer) e (.type cls) ((D', o') :: news) h' → E (.ref e) { s with heap := h', toks := tk }) : wpAny (model PySem.Challenge.pw_ik0020_01 w) A (call (.ref 51) [.bytes bs t, .ref f] [(Str.ofString "altchars", .bytes ab u)]) Q E s := by
  k_dflt (refine' call_kws (ex := [(Str.ofString "altchars", .bytes ab u)]) (nm := Str.ofString "extrainfo") (front := [(Str.ofString "name_index", .bytes bs t), (Str.ofString "get_name", .ref f)]) B F X₀ N T hA ?kF ?kK ?k6 ?k7 ?k8 ?kN ?kP ?kT ?kB ?_ ?c2 ?c3 ?c4 ?c5; walk_at "m more")
  intro D' g' L' h' tk' l1 lo' FG' F' N' B' X' T'
  k_fold
  walk_at "m stepsW"
  obtain ⟨o, fd, hfo, hfd⟩ := hfun h' (X'.keeps (Fr.keep F'))
  refine' call_star (o := o) (fd := fd) (av := .bytes bs t) hfo hfd (News.get N' (.head _)) rfl rfl lo' (.inr ⟨_, _, _, _, rfl, rfl⟩) ?ha ?ht ?hcall
  case ha =>
    intro E' Q' hq
    refine Calls.spliced_cons ?_
    show wpAny _ _ (eval _ _) _ _ _
    k_steps
    exact Calls.spliced_nil hq
  case ht =>
    intro h₂ E' Q' hk hq
    have F₂ := Fr.keptAll F' hk
    clear F' N'
    refine wpAny_bind ?_
    k_steps
    exact wpAny_bind (wpAny_standAt (wpAny_pure hq))
  case hcall =>
    intro h₂ hk
    have F₂ := Fr.keptAll F' hk
    have N₂ := News.grown N' hk
    clear F' N' hfo
    have hB : True → Below A base (env :: outer) g' := fun _ => B'
    clear B' B
    refine hw hh (X'.keeps (Fr.keep F₂)) (T'.keeps (Fr.keep F₂)) fun e h₃ tk₃ hx => ?_
    k_steps
    exact leave_newK (hB trivial) hx F₂ N₂ fun h' R U => h _ _ _ _ _ _ FG' U R
theorem gni_assert (B : Below A₀ base outer h₀) (F : Fr h₀ L s.heap m) (X₀ : (hd.heap_39 w.params).In h₀) (N : News h₀ L s.heap news) (T : Top hd.view_39 loose mean mg mb h₀) (hA : A.frames = some (env :: outer)) (hf : env.frame = some L) (hke : env.scope.kind = .function) (hh : A.handled = none) (hdp : A.depth ≤ 470) (hu : A.units ≤ 470)
    (hfun : ∀ h : Heap, (hd.heap_39 w.params).In h → ∃ o fd, h.get? f = some o ∧ o.data = .func fd)
    (hw : ∀ {l : List Env} {b : Heap} {Q' : Value → Shared → Prop} {E' : Value → Shared → Prop} {s' : Shared} {t₀ u₀ : Tok}, Below (pF 480 l) b l s'.heap → (hd.heap_39 w.params).In s'.heap → Top hd.view_39 loose mean mg mb s'.heap → (∀ e h' tk, RaisedN b l e (.type cls) [] h' → s'.heap.UpToSlots h' → E' (.ref e) { s' with heap := h', toks := tk }) → wpAny (model PySem.Challenge.pw_ik0020_01 w) (pF 480 l) (call (.ref f) [.bytes bs t₀] [(Str.ofString "altchars", .bytes ab u₀)]) Q' E' s')
    (h : ∀ e h' tk g D' o', Fr h₀ L g m → g.UpToSlots h' → RaisedN base (env :: outer) e (.type cls) ((D', o') :: news) h' → E (.ref e) { s with heap := h', toks := tk }) : wpAny (model PySem.Challenge.pw_ik0020_01 w) A (call (.ref 51) [.bytes bs t, .ref f] [(Str.ofString "altchars", .bytes ab u)]) Q E s := by
  k_dflt (refine' call_kws (ex := [(Str.ofString "altchars", .bytes ab u)]) (nm := Str.ofString "extrainfo") (front := [(Str.ofString "name_index", .bytes bs t), (Str.ofString "get_name", .ref f)]) B F X₀ N T hA ?kF ?kK ?k6 ?k7 ?k8 ?kN ?kP ?kT ?kB ?_ ?c2 ?c3 ?c4 ?c5; walk_at "m more")
  intro D' g' L' h' tk' l1 lo' FG' F' N' B' X' T'
  k_fold
  walk_at "m stepsW"
  obtain ⟨o, fd, hfo, hfd⟩ := hfun h' (X'.keeps (Fr.keep F'))
  refine' call_star (o := o) (fd := fd) (av := .bytes bs t) hfo hfd (News.get N' (.head _)) rfl rfl lo' (.inr ⟨_, _, _, _, rfl, rfl⟩) ?ha ?ht ?hcall
  case ha =>
    intro E' Q' hq
    refine Calls.spliced_cons ?_
    show wpAny _ _ (eval _ _) _ _ _
    k_steps
    exact Calls.spliced_nil hq
  case ht =>
    intro h₂ E' Q' hk hq
    have F₂ := Fr.keptAll F' hk
    clear F' N'
    refine wpAny_bind ?_
    k_steps
    exact wpAny_bind (wpAny_standAt (wpAny_pure hq))
  case hcall =>
    intro h₂ hk
    have F₂ := Fr.keptAll F' hk
    have N₂ := News.grown N' hk
    clear F' N' hfo
    have K := B'.push (name := Str.ofString "_get_name_info") (scope := gniS) (a := 51) (cd := .ref 50) F₂
    have K₂ := below_hide K
    refine liftF (hw (b := hideAll h₂ ((envOf (Str.ofString "_get_name_info") gniS L' 51 (.ref 50) :: env :: outer).filterMap (·.frame))) (l := envOf (Str.ofString "_get_name_info") gniS L' 51 (.ref 50) :: env :: outer) ⟨rfl, K₂.stays, K₂.frames⟩ (X'.keeps (Fr.keep F₂)) (T'.keeps (Fr.keep F₂)) fun e h₃ tk₃ R U => ?_) hh K.stack (by show A.depth + 1 ≤ 480; omega) (Nat.le_trans (Nat.add_le_add_right hu _) (by decide))
    have R' := raised_up K (news_frames B' N₂) R
    clear R K₂
    have hB : True → Below A base (env :: outer) g' := fun _ => B'
    clear B' B
    k_steps
    exact leave_onN (hB trivial) F₂ R' U fun h' R U => h _ _ _ _ _ _ FG' U R
end

theorem off_16 : True := by
  w_top off
  exact trivial
section
variable {M : Model} {A : Around} {E : Value → Shared → Prop} {s : Shared}
theorem wpC_mark {own : List String} {e : Value} {Q : Unit → Shared → Prop} (h : Q () s) : wpC M A (markTheRefusal own e) Q E s := fun Γ p _ hC => by
  unfold markTheRefusal
  rw [Sem.wp_bind']
  show Sem.wp M Γ (if pythonCodeMadeTheCall own (((Γ.code, p) :: Γ.below).map (·.1)) = true then _ else pure ()) _ _ p s
  have z : pythonCodeMadeTheCall own (((Γ.code, p) :: Γ.below).map (·.1)) = false := by
    have y : ((Γ.code :: Γ.below.map (·.1)).any Code.isCaller) = true := hC
    show (!((Γ.code :: Γ.below.map (·.1)).any Code.isCaller) && (_ : Bool) && (_ : Bool)) = false
    rw [y]; rfl
  rw [z, if_neg Bool.false_ne_true]
  exact h
theorem wpC_refuses {α : Type} {msg : String} {Q : α → Shared → Prop} (hh : A.handled = none) (hm : (msg : Str).length ≤ sizeLine)
    (h : ∀ e h' tk, s.heap.NewExc h' e "TypeError" → E (.ref e) { s with heap := h', toks := tk }) : wpC M A (theBinderRefuses msg : Sem α) Q E s := by
  unfold theBinderRefuses
  refine wpC_bindA (wpAny_mkStr (wpC_bindA (wpAny_newExc_plain plainExc_TypeError fun h' e hx => ?_)) hm)
  exact wpC_bind (wpC_mark (wpC_of (wpAny_raiseNew_none hh (h e h' _ hx.newExc))))
end
section
variable {w : World} {A : Around} {E : Value → Shared → Prop} {s : Shared} {Q : Value → Shared → Prop}
theorem bind_refuses {α β : Type} {M : Model} {m : Sem α} {f : α → Sem β} {Q : β → Shared → Prop} (h : wpC M A m (fun _ _ => False) E s) : wpC M A (m >>= f) Q E s := wpC_bind (wpC_mono h (fun _ _ x => x.elim) fun _ _ x => x)
/-- a def of one parameter `s`, called with a word that it does not know -/
theorem one_refuses {name : Str} {body : List Stmt} {scope : Scope} {dV kV doc pm cdv ct : Value} {an : Option Addr} {ap : Pos} {v v' : Value} (hh : A.handled = none) {Q : List (Str × Value) → Shared → Prop}
    (hm : ∀ near : Option Str, near = Suggest.didYouMean (Str.ofString "altchars") [Str.ofString "s"] → ((match near with | some near => s!"{name.toString}() got an unexpected keyword argument '{(Str.ofString "altchars").toString}'. Did you mean '{near.toString}'?" | none => s!"{name.toString}() got an unexpected keyword argument '{(Str.ofString "altchars").toString}'" : String) : Str).length ≤ sizeLine)
    (h : ∀ e h' tk, s.heap.NewExc h' e "TypeError" → E (.ref e) { s with heap := h', toks := tk }) :
    wpC (model PySem.Challenge.pw_ik0020_01 w) A (bindArgs (fnOf name name { posonlyargs := [], args := [{ arg := Str.ofString "s", annotation := none, pos := ap }], vararg := none, kwonlyargs := [], kw_defaults := [], kwarg := none, defaults := [] } body scope dV kV doc pm an cdv ct) ⟨[v], [(Str.ofString "altchars", v')]⟩) Q E s := by
  unfold bindArgs
  dsimp only [fnOf, List.map, List.append, List.nil_append]
  refine bind_refuses ?_
  rw [List.forIn_cons]
  refine bind_refuses ?_
  dsimp only
  rw [if_neg (by decide +kernel), if_neg (by decide +kernel), if_neg (by intro z; cases z)]
  refine wpC_bindA (wpAny_rule ?_)
  rw [if_neg (by decide +kernel)]
  have hm' := hm (Suggest.didYouMean (Str.ofString "altchars") ([Str.ofString "s"] ++ [])) rfl
  revert hm'
  generalize Suggest.didYouMean (Str.ofString "altchars") ([Str.ofString "s"] ++ []) = near
  cases near with
  | none =>
    intro hm'
    exact bind_refuses (wpC_refuses hh hm' h)
  | some x =>
    intro hm'
    exact bind_refuses (wpC_refuses hh hm' h)
end
section
variable {w : World} {A : Around} {E : Value → Shared → Prop} {s : Shared} {K : Frag}
theorem call_refuses {name : Str} {body : List Stmt} {scope : Scope} {dV kV doc pm cdv ct oc v v' : Value} {an od : Option Addr} {osl : Array (Option Value)} {ap : Pos} {f : Addr} {Q : Value → Shared → Prop} (X : K.In s.heap) (hh : A.handled = none)
    (ho : K.lookup f = some ⟨oc, od, .func (fnOf name name { posonlyargs := [], args := [{ arg := Str.ofString "s", annotation := none, pos := ap }], vararg := none, kwonlyargs := [], kw_defaults := [], kwarg := none, defaults := [] } body scope dV kV doc pm an cdv ct), osl⟩) (hcd : codeIn K cdv name = true)
    (hm : ∀ near : Option Str, near = Suggest.didYouMean (Str.ofString "altchars") [Str.ofString "s"] → ((match near with | some near => s!"{name.toString}() got an unexpected keyword argument '{(Str.ofString "altchars").toString}'. Did you mean '{near.toString}'?" | none => s!"{name.toString}() got an unexpected keyword argument '{(Str.ofString "altchars").toString}'" : String) : Str).length ≤ sizeLine)
    (h : ∀ e h' tk, s.heap.NewExc h' e "TypeError" → E (.ref e) { s with heap := h', toks := tk })
    (hco : scope.isCoroutine = false := by rfl) (hgen : scope.isGenerator = false := by rfl) : wpC (model PySem.Challenge.pw_ik0020_01 w) A (call (.ref f) [v] [(Str.ofString "altchars", v')]) Q E s := by
  refine wpC_call (codeC_of_tree ?_)
  show wpC _ A.in1 (callAny (.ref f) ⟨[v], [(Str.ofString "altchars", v')]⟩) _ _ s
  simp only [callAny]
  refine wpC_bindA (wpAny_load (X _ _ ho) ?_)
  obtain ⟨c, oc, vs, tq, hc, hoc, hdc, hq⟩ := codeRec_of X hcd
  subst hc
  simp only [callFunction, fnOf, hco, hgen]
  refine wpC_bindA (m := field (.ref c) 1) (wpAny_field hoc hdc hq (wpC_bindA (wpAny_pure ?_)))
  exact bind_refuses (one_refuses (A := A.in1) (cdv := .ref c) hh hm h)
theorem refuse_std {Q : Value → Shared → Prop} {v v' : Value} (X : (hd.heap_39 w.params).In s.heap) (hh : A.handled = none)
    (h : ∀ e h' tk, s.heap.NewExc h' e "TypeError" → E (.ref e) { s with heap := h', toks := tk }) : wpC (model PySem.Challenge.pw_ik0020_01 w) A (call (.ref 104) [v] [(Str.ofString "altchars", v')]) Q E s := by
  refine' call_refuses X hh ?k6 ?k7 ?hm h ?c1 ?c2
  (case k6 => k_is)
  (case k7 => k_is)
  (case hm => intro near e; subst e; decide +kernel)
  (case c1 => rfl)
  (case c2 => rfl)
theorem refuse_url {Q : Value → Shared → Prop} {v v' : Value} (X : (hd.heap_39 w.params).In s.heap) (hh : A.handled = none)
    (h : ∀ e h' tk, s.heap.NewExc h' e "TypeError" → E (.ref e) { s with heap := h', toks := tk }) : wpC (model PySem.Challenge.pw_ik0020_01 w) A (call (.ref 111) [v] [(Str.ofString "altchars", v')]) Q E s := by
  refine' call_refuses X hh ?k6 ?k7 ?hm h ?c1 ?c2
  (case k6 => k_is)
  (case k7 => k_is)
  (case hm => intro near e; subst e; decide +kernel)
  (case c1 => rfl)
  (case c2 => rfl)
theorem refuse_b16 {Q : Value → Shared → Prop} {v v' : Value} (X : (hd.heap_39 w.params).In s.heap) (hh : A.handled = none)
    (h : ∀ e h' tk, s.heap.NewExc h' e "TypeError" → E (.ref e) { s with heap := h', toks := tk }) : wpC (model PySem.Challenge.pw_ik0020_01 w) A (call (.ref 118) [v] [(Str.ofString "altchars", v')]) Q E s := by
  refine' call_refuses X hh ?k6 ?k7 ?hm h ?c1 ?c2
  (case k6 => k_is)
  (case k7 => k_is)
  (case hm => intro near e; subst e; decide +kernel)
  (case c1 => rfl)
  (case c2 => rfl)
end

theorem off_17 : True := by
  w_top off
  exact trivial
section
variable {prog : Program} {w : World} {A : Around} {E : Value → Shared → Prop} {s : Shared} {R : Result → Shared → Prop} {env : Env}
theorem codeC_func {body : List Stmt} (h : wpC (model prog w) (A.deeper env) (execs body env) (fun f s' => R (.ok (.ret (match f with | .ret v => v | _ => .none))) s')
      (fun e s' => wpAny (model prog w) (A.deeper env) (leaving env e) (fun _ s'' => R (.error e) s'') (fun e' s'' => R (.error e') s'') s') s) : codeC (model prog w) A (.func body env) R s := by
  refine codeC_of_tree ?_
  show wpC _ (A.deeper env) (do point; match ← (execs body env).onRaise (leaving env) with | .ret v => ret v | _ => ret .none) _ _ s
  refine wpC_bindA (wpAny_point (wpC_bind (wpC_onRaise (wpC_mono h (fun f s' h' => ?_) fun _ _ h' => h'))))
  cases f <;> exact wpC_of (wpAny_pure h')
theorem codeC_call {a : Addr} {args : Args} {o : Obj} {fd : FuncData} {body : List Stmt} (hroom : A.depth < recursionLimit) (ho : s.heap.get? a = some o) (hd' : o.data = .func fd) (hco : fd.scope.isCoroutine = false) (hgen : fd.scope.isGenerator = false) (hbody : fd.body = .stmts body) (hcd : s.heap.CodeRec fd.code fd.qualname)
    (h : wpAny (model prog w) A.in1 (bindArgs fd args) (fun binds s₁ => wpAny (model prog w) A.in1 (newFunctionEnv fd.scope fd.globals fd.closure binds (fd.qualname ++ ".<locals>.") (some a) fd.code none fd.builtins)
        (fun env s₂ => s₂.heap.NoLimit ∧ codeC (model prog w) A (.func body env) R s₂) (fun e s' => R (.error e) s') s₁) (fun e s' => R (.error e) s') s) : codeC (model prog w) A (.call (.ref a) args) R s := by
  refine codeC_of_tree ?_
  show wpC _ A.in1 (callAny (.ref a) args) _ _ s
  simp only [callAny]
  refine wpC_bindA (wpAny_load ho ?_)
  obtain ⟨c, oc, vs, tq, hc, hoc, hdc, hq⟩ := hcd
  simp only [hd', callFunction, hco, hgen, hbody, hc]
  rw [hc] at h
  refine wpC_bindA (m := field (.ref c) 1) (wpAny_field hoc hdc hq (wpC_bindA (wpAny_pure ?_)))
  exact wpC_bindA (wpAny_mono h (fun binds s₁ h₁ => wpC_bindA (wpAny_mono h₁ (fun env s₂ h₂ => wpC_bindA (wpAny_enterFrame h₂.1 hroom (wpC_of (wpAny_pure (And.intro rfl h₂.2))))) fun _ _ h' => h')) fun _ _ h' => h')
theorem C_cons {st : Stmt} {rest : List Stmt} {Q : Flow → Shared → Prop} (h : wpC (model prog w) A (exec st env) (fun f s' => match f with | .next => wpC (model prog w) A (execs rest env) Q E s' | f => Q f s') E s) : wpC (model prog w) A (execs (st :: rest) env) Q E s := by
  rw [execs_cons]
  refine wpC_bind (wpC_mono h (fun f s' h' => ?_) fun _ _ h' => h')
  cases f <;> first | exact h' | exact wpC_of (wpAny_pure h')
theorem app_at {l : List Stmt} {Γ : Ctx} {Q : Flow → Shared → Prop} (hΓ : Γ.In A) (hc : hasC Γ) : ∀ (k : List Stmt) (p : Pos) (s : Shared),
    Sem.wp (model prog w) Γ (execs k env) (fun f _ s' => match f with | .next => wpC (model prog w) A (execs l env) Q E s' | f => Q f s') (fun e _ s' => E e s') p s → Sem.wp (model prog w) Γ (execs (k ++ l) env) (fun f _ s' => Q f s') (fun e _ s' => E e s') p s
  | [], p, s, h => h Γ p hΓ hc
  | st :: k, p, s, h => by
    show Sem.wp (model prog w) Γ (execs (st :: (k ++ l)) env) _ _ p s
    rw [execs_cons, Sem.wp_bind'] at h ⊢
    refine Sem.wp_mono _ Γ _ (fun f p' s' h' => ?_) (fun _ _ _ h' => h') p s h
    cases f
    · exact app_at hΓ hc k p' s' h'
    all_goals exact h'
/-- the statements in front are walked over all stacks -/
theorem C_app {k l : List Stmt} {Q : Flow → Shared → Prop} (h : wpAny (model prog w) A (execs k env) (fun f s' => match f with | .next => wpC (model prog w) A (execs l env) Q E s' | f => Q f s') E s) : wpC (model prog w) A (execs (k ++ l) env) Q E s :=
  fun Γ p hΓ hc => app_at hΓ hc k p s (h Γ p hΓ)
theorem C_If {test : Expr} {body orelse : List Stmt} {pos : Pos} {Q : Flow → Shared → Prop}
    (h : wpAny (model prog w) A (isTrue test env (eval test env)) (fun b s₂ => if b then wpC (model prog w) A (execs body env) Q E s₂ else wpC (model prog w) A (execs orelse env) Q E s₂) E s) : wpC (model prog w) A (exec (.If test body orelse pos) env) Q E s := by
  rw [arm_exec_If]
  refine wpC_bindA (wpAny_standAt (wpC_bindA (wpAny_mono h (fun b s' h' => ?_) fun _ _ h' => h')))
  cases b <;> exact h'
theorem C_Call {x : Str} {np pos : Pos} {args : List Expr} {keywords : List Keyword} {Q : Value → Shared → Prop}
    (h : wpAny (model prog w) A (eval (.Name x np) env) (fun f s₁ => wpC (model prog w) A (callWith pos f [] (backTo pos (starEach args env)) (backToKw pos (keywordEach keywords env))) Q E s₁) E s) : wpC (model prog w) A (eval (.Call (.Name x np) args keywords pos) env) Q E s := by
  show wpC _ A (do callWith pos (← eval (.Name x np) env) [] (backTo pos (starEach args env)) (backToKw pos (keywordEach keywords env))) Q E s
  exact wpC_bindA h
theorem C_keep {α : Type} {M : Model} {vs : List Value} {m : Sem α} {Q : α → Shared → Prop} (h : wpC M A m Q E s) : wpC M A (m.keep vs) Q E s := fun Γ p hΓ hc => by rw [Sem.wp_keep]; exact h Γ p hΓ hc
theorem C_callWith {pos : Pos} {a : Addr} {o : Obj} {fd : FuncData} {first : List Value} {args : List (Bool × Sem Value)} {keywords : List (Option Str × Sem Value)} {Q : Value → Shared → Prop} {M : Model}
    (h : wpAny M A (evalArgs (.ref a) true args keywords) (fun x s₁ => (s₁.heap.get? a = some o ∧ o.data = .func fd) ∧ wpC M A (call (.ref a) (first ++ x.pos) x.kw) Q E s₁) E s) : wpC M A (callWith pos (.ref a) first args keywords) Q E s := by
  unfold callWith
  refine wpC_bindA (wpAny_holding (wpAny_mono h (fun x s₁ h₁ => wpC_bindA (wpAny_standAt ?_)) fun _ _ x => x))
  have tail : ∀ {t : Sem Value}, wpC M A t Q E s₁ → wpC M A (t >>= fun r => holding [r] point >>= fun _ => pure r) Q E s₁ :=
    fun ht => wpC_bind (wpC_mono ht (fun r s₂ hr => wpC_bindA (wpAny_holding (wpAny_point (wpC_of (wpAny_pure hr))))) fun _ _ x => x)
  cases hs : (args.any (·.1) || keywords.any (·.1.isNone)) <;>
    refine wpC_bindA (m := keeperOf (.ref a)) ?_ <;> unfold keeperOf <;>
    refine wpAny_bind (wpAny_load h₁.1.1 ?_) <;> rw [h₁.1.2] <;> refine wpAny_pure ?_
  · show wpC _ _ (if args.length + 2 * keywords.length > 30 then _ else _) _ _ _
    split
    · exact tail h₁.2
    · exact tail (by unfold callMarked; exact C_keep h₁.2)
  · exact tail (by unfold callMarked; exact C_keep h₁.2)
end
section
variable {prog : Program} {w : World} {A : Around} {E : Value → Shared → Prop} {s : Shared} {R : Result → Shared → Prop} {env : Env}
theorem C_Assign {x : Str} {value : Expr} {pos' pos : Pos} {Q : Flow → Shared → Prop} {M : Model} (h : wpC M A (eval value env) (fun v s₁ => wpAny M A (storeName env x v) (fun _ => Q .next) E s₁) E s)
    (hs : swapsWith value (some (.Name x pos')) pos.line env = pure false := by rfl) : wpC M A (exec (.Assign [.Name x pos'] value pos) env) Q E s := fun Γ p hΓ hc => by
  simp only [exec_Assign_Name env x pos' value pos hs, Sem.wp_bind', Sem.wp_cmd_standAt, Sem.wp_bindName, Sem.wp_pure']
  exact Sem.wp_mono M Γ _ (fun v _ s₁ h₁ => h₁ Γ _ hΓ) (fun _ _ _ h' => h') _ _ (h Γ _ hΓ hc)
theorem C_Try {body orelse : List Stmt} {h₀ : ExceptHandler} {hs : List ExceptHandler} {pos : Pos} {Q : Flow → Shared → Prop}
    (h : wpC (model prog w) A (execs body env) (fun _ _ => False)
      (fun e s₁ => wpAny (model prog w) A (noteFrame e env) (fun _ s₂ => wpAny (model prog w) A (setFlight e none) (fun _ s₃ => wpAny (model prog w) A (handleBy e env (h₀ :: hs)) Q E s₃) E s₂) E s₁) s) : wpC (model prog w) A (exec (.Try body (h₀ :: hs) orelse [] pos) env) Q E s := by
  rw [arm_exec_Try]
  refine wpC_bindA (wpAny_standAt ?_)
  unfold tryStmt
  simp only [List.isEmpty_nil, if_true, List.isEmpty_cons, Bool.false_and, Bool.false_eq_true, if_false]
  refine wpC_bind (wpC_attempt (wpC_mono h (fun f s₁ h₁ => h₁.elim) fun e s₁ h₁ => ?_))
  exact wpC_bindA (wpAny_mono h₁ (fun _ _ h₂ => wpC_bindA (wpAny_mono h₂ (fun _ _ h₃ => wpC_of h₃) fun _ _ x => x)) fun _ _ x => x)
end
section
variable {prog : Program} {w : World} {A A₀ : Around} {s : Shared} {K : Frag} {L : Addr} {h₀ base : Heap} {m mg mb : Str → Option Value} {news : List (Addr × Obj)} {p : Program} {loose : List Str} {mean : ExcName → Option Value} {Q E : Value → Shared → Prop}
/-- as call_kws, of a def whose body raises, over the stacks with the caller -/
theorem call_kwsC {env : Env} {outer : List Env} {name qual : Str} {params : Arguments} {body : List Stmt} {scope : Scope} {dV kV doc pm cdv ct oc : Value} {an od : Option Addr} {osl : Array (Option Value)} {f : Addr} {pos : List Value} {kw : List (Str × Value)} {nm : Str} {ex front : List (Str × Value)} {g₁ : Addr → Sem (List (Str × Value))}
    (B : Below A₀ base outer h₀) (F : Fr h₀ L s.heap m) (X₀ : K.In h₀) (N : News h₀ L s.heap news) (T : Top p loose mean mg mb h₀) (hA : A.frames = some (env :: outer)) (hf : env.frame = some L) (hke : env.scope.kind = .function)
    (ho : K.lookup f = some ⟨oc, od, .func (fnOf name qual params body scope dV kV doc pm an cdv ct), osl⟩) (hcd : codeIn K cdv qual = true) (hroom : A.depth < recursionLimit) (hn : kwDistinct ex = true)
    (hp : peekA K ⟨prog, w.params⟩ (bindArgs (fnOf name qual params body scope dV kV doc pm an cdv ct) ⟨pos, kw⟩) = some (dictOf [] 0, g₁))
    (hk₁ : ∀ D, g₁ D = (forIn ex PUnit.unit (fun x _ => (nsSet D x.1 x.2 >>= fun _ => pure (ForInStep.yield PUnit.unit))) >>= fun _ => pure (front ++ [(nm, Value.ref D)])))
    (hloc : ∀ D, ∀ y ∈ front ++ [(nm, Value.ref D)], scope.names.lookup y.1 = some .local)
    (h : ∀ D g L' h₁ tk, AllLt D news → (D == sysModules) = false → Fr h₀ L g m → Fr g L' h₁ (fun y => (front ++ [(nm, Value.ref D)]).reverse.lookup y) → News g L' h₁ ((D, dictOf (kwEs w.params s.toks ex) (0 + ex.length)) :: news) → Below A base (env :: outer) g → K.In g → Top p loose mean mg mb g →
      wpC (model prog w) (A.deeper (envOf qual scope L' f cdv)) (execs body (envOf qual scope L' f cdv)) (fun _ _ => False)
        (fun e s' => wpAny (model prog w) (A.deeper (envOf qual scope L' f cdv)) (leaving (envOf qual scope L' f cdv) e) (fun _ s'' => E e s'') (fun e' s'' => E e' s'') s')
        { s with heap := h₁, toks := tk })
    (hco : scope.isCoroutine = false) (hgen : scope.isGenerator = false) (hk : scope.kind = .function)
    (hcell : ∀ x ∈ scope.names, x.2 ≠ .cell) : wpC (model prog w) A (call (.ref f) pos kw) Q E s := by
  have nd := kwDistinct_nodup hn
  refine wpC_call (codeC_call (fd := fnOf name qual params body scope dV kV doc pm an cdv ct) (body := body) hroom ((X₀.keeps F.keep) _ _ ho) rfl hco hgen rfl (codeRec_of (X₀.keeps F.keep) hcd) ?_)
  refine wp_of_peekA (o := dictOf [] 0) F N (X₀.keeps F.keep) rfl _ g₁ hp fun h' F' N' l => ?_
  rw [hk₁]
  refine wpAny_bind (kp_fill ex { s with heap := h' } [] 0 F' N' (fun q hq => Nat.ne_of_lt (l q hq)) (fun _ e => nomatch e) (fun _ e => nomatch e) nd fun h'' F'' N'' => wpAny_pure ?_)
  obtain ⟨FG, BG, st, _⟩ := groundX (s := { s with heap := h'', toks := s.toks + ex.length }) (R := fun _ _ => True) B F'' N'' hA hf hke
  refine wpAny_newFunctionEnv hcell (hloc _) (fun h₁ hns hsb => ⟨(T.nolimit.keeps F''.keep).fresh _ hsb, codeC_func ?_⟩) hk
  have hk₂ : ∀ b o, h''.get? b = some o → h₁.get? b = some o := fun b o e => hsb.extBut b o (Nat.ne_of_lt (Heap.lt_size e)) (Heap.get?_push_of_some _ e)
  exact wpC_mono (h s.heap.objs.size _ h''.objs.size h₁ _ (allLt_of l) (F.notModules (modules_low T.nolimit)) FG ⟨hns, fun b o e => hk₂ b o (of_hideAll _ e), Nat.le_of_eq (hideAll_size _ _)⟩
    (fun q hq => ⟨hk₂ _ _ (N'' q hq).1, Nat.ne_of_lt (Heap.lt_size (N'' q hq).1), hideAll_none _ (List.mem_map_of_mem hq)⟩) BG (X₀.keeps st) (T.keeps st)) (fun fl s' hl => hl.elim) fun _ _ y => y
end

theorem off_18 : True := by
  w_top off
  exact trivial
section
variable {prog : Program} {w : World} {A : Around} {E : Value → Shared → Prop} {s : Shared}
theorem call_starC {pos : Pos} {f : Addr} {o : Obj} {fd : FuncData} {a t : Sem Value} {Q : Value → Shared → Prop} {av : Value} {d : Addr} {od : Obj} {k : Nat} {hsh : Int} {x : Str} {u : Tok} {v : Value}
    (hf : s.heap.get? f = some o) (hfd : o.data = .func fd) (hd : s.heap.get? d = some od) (hdc : od.cls = .type "dict") (hdd : od.data = .dict #[⟨hsh, .str x u, v⟩] k) (hds : (d == sysModules) = false)
    (ha : ∀ {E' : Value → Shared → Prop} {Q' : List Value → Shared → Prop}, Q' [av] s → wpAny (model prog w) A (spliced [(false, a)]) Q' E' s)
    (ht : ∀ {h' : Heap} {E' : Value → Shared → Prop} {Q' : Value → Shared → Prop}, s.heap.StaysIn h' → Q' (.ref d) { s with heap := h' } → wpAny (model prog w) A t Q' E' { s with heap := h' })
    (h : ∀ h', s.heap.StaysIn h' → wpC (model prog w) A (call (.ref f) [av] [(x, v)]) Q E { s with heap := h' }) :
    wpC (model prog w) A (callWith pos (.ref f) [] [(false, a)] [(none, t)]) Q E s := by
  have hlt : d < s.heap.objs.size := Heap.lt_size hd
  have up : ∀ b x, s.heap.get? b = some x → (s.heap.push { cls := .type "dict", data := .dict #[] }).get? b = some x := fun b x e => Heap.get?_push_of_some _ e
  have hD : (s.heap.push { cls := .type "dict", data := .dict #[] }).get? s.heap.objs.size = some { cls := .type "dict", data := .dict #[] } := Heap.get?_push_size _ rfl
  refine C_callWith (o := o) (fd := fd) (evalArgs_star (ha (merged_kw fun D hDe => ?_)))
  subst hDe
  refine ht up (merge_one hD rfl (up _ _ hd) hdc hdd hds (Nat.ne_of_gt hlt) ?_)
  have up2 : s.heap.StaysIn ((s.heap.push { cls := .type "dict", data := .dict #[] }).update s.heap.objs.size (Obj.mapDictKeys (·.push ⟨hsh, .str x u, v⟩))) := fun b y e =>
    (Heap.get?_update_other _ _ (fun q => by rw [← q] at e; exact Nat.lt_irrefl _ (Heap.lt_size e))).trans (up b y e)
  exact kwIn_one (Heap.get?_update_self _ hD rfl) rfl ⟨⟨up2 _ _ hf, hfd⟩, h _ up2⟩
end
section
variable {w : World} {A A₀ : Around} {E : Value → Shared → Prop} {s : Shared} {mg mb : Str → Option Value} {loose : List Str} {mean : ExcName → Option Value} {Q : Value → Shared → Prop} {bs ab rb : Array UInt8} {t u : Tok} {outer : List Env} {env : Env} {base h₀ : Heap} {L f : Addr} {m : Str → Option Value} {news : List (Addr × Obj)}
theorem gni_refuse (B : Below A₀ base outer h₀) (F : Fr h₀ L s.heap m) (X₀ : (hd.heap_39 w.params).In h₀) (N : News h₀ L s.heap news) (T : Top hd.view_39 loose mean mg mb h₀) (hA : A.frames = some (env :: outer)) (hf : env.frame = some L) (hke : env.scope.kind = .function) (hh : A.handled = none) (hdp : A.depth ≤ 470)
    (hfun : ∀ h : Heap, (hd.heap_39 w.params).In h → ∃ o fd, h.get? f = some o ∧ o.data = .func fd)
    (hw : ∀ {A' : Around} {Q' : Value → Shared → Prop} {E' : Value → Shared → Prop} {s' : Shared} {t₀ u₀ : Tok}, A'.handled = none → (hd.heap_39 w.params).In s'.heap → (∀ e h' tk, s'.heap.NewExc h' e "TypeError" → E' (.ref e) { s' with heap := h', toks := tk }) → wpC (model PySem.Challenge.pw_ik0020_01 w) A' (call (.ref f) [.bytes bs t₀] [(Str.ofString "altchars", .bytes ab u₀)]) Q' E' s')
    (h : ∀ e h' tk g D' o', Fr h₀ L g m → g.UpToSlots h' → RaisedN base (env :: outer) e (.type "TypeError") ((D', o') :: news) h' → E (.ref e) { s with heap := h', toks := tk }) :
    wpC (model PySem.Challenge.pw_ik0020_01 w) A (call (.ref 51) [.bytes bs t, .ref f] [(Str.ofString "altchars", .bytes ab u)]) Q E s := by
  k_dflt (refine' call_kwsC (ex := [(Str.ofString "altchars", .bytes ab u)]) (nm := Str.ofString "extrainfo") (front := [(Str.ofString "name_index", .bytes bs t), (Str.ofString "get_name", .ref f)]) B F X₀ N T hA ?kF ?kK ?k6 ?k7 ?k8 ?kN ?kP ?kT ?kB ?_ ?c2 ?c3 ?c4 ?c5; walk_at "m more")
  intro D' g' L' h' tk' l1 lo' FG' F' N' B' X' T'
  refine C_cons (C_If ?_)
  k_steps
  refine C_cons (C_Assign (C_Call ?_) rfl)
  k_steps
  obtain ⟨o, fd, hfo, hfd⟩ := hfun h' (X'.keeps (Fr.keep F'))
  refine' call_starC (o := o) (fd := fd) (av := .bytes bs t) hfo hfd (News.get N' (.head _)) rfl rfl lo' ?ha ?ht ?hcall
  case ha =>
    intro E' Q' hq
    refine Calls.spliced_cons ?_
    show wpAny _ _ (eval _ _) _ _ _
    k_steps
    exact Calls.spliced_nil hq
  case ht =>
    intro h₂ E' Q' hk hq
    have F₂ := Fr.keptAll F' hk
    clear F' N'
    refine wpAny_bind ?_
    k_steps
    exact wpAny_bind (wpAny_standAt (wpAny_pure hq))
  case hcall =>
    intro h₂ hk
    have F₂ := Fr.keptAll F' hk
    have N₂ := News.grown N' hk
    clear F' N' hfo
    refine hw hh (X'.keeps (Fr.keep F₂)) fun e h₃ tk₃ hx => ?_
    exact leave_newK B' hx F₂ N₂ fun h' R U => h _ _ _ _ _ _ FG' U R
end

theorem off_19 : True := by
  w_top off
  exact trivial
section
variable {prog : Program} {w : World} {A : Around} {s : Shared} {R : Result → Shared → Prop} {env : Env}
theorem C_noted {α : Type} {m : Sem α} {Q : α → Shared → Prop} (h : wpC (model prog w) A m Q (fun _ _ => False) s) : wpC (model prog w) A (m.onRaise fun x => do noteFrame x env; theTreesLotGoes x) Q (fun _ _ => False) s :=
  wpC_onRaise (wpC_mono h (fun _ _ x => x) fun _ _ x => x.elim)
theorem C_block_nil (h : R (.ok .next) s) : codeC (model prog w) A (.block [] env) R s := by
  refine codeC_of_tree ?_
  show wpC _ _ (do return Fin.done (← (execs [] env).onRaise (fun x => do noteFrame x env; theTreesLotGoes x))) _ _ s
  refine wpC_mono (E := fun _ _ => False) (wpC_bind (C_noted (wpC_of (wpAny_execs_nil (wpC_of (wpAny_pure ?_)))))) (fun _ _ x => x) fun _ _ x => x.elim
  exact h
variable {h₀ : Heap} {x : Str} {px : Pos} {body : List Stmt} {Q : Flow → Shared → Prop}
theorem C_loop {vs : List Value} {ns : List Int} {l I : Addr} (hh : A.handled = none) (hx : env.kindOf x = some .local) (hp : (env.scope.kind == .class || (env.scope.kind == .module && env.locals != env.globals)) = false)
    (hi : IntsAre vs ns) (J : (Str → Option Value) → List (Addr × Obj) → Prop) (hlL : l ≠ env.locals) (hIL : I ≠ env.locals) (hl0 : h₀.get? l = none) (hI0 : h₀.get? I = none) (hIl : I ≠ l)
    (turn : ∀ n t m₁ nx h tk own, TbOff own nx → J m₁ nx → Fr h₀ env.locals h (fun y => if y = x then some (.int n t) else m₁ y) → News h₀ env.locals h (nx ++ own) →
      wpC (model prog w) A (execs body env) (TbPost h₀ env.locals J own { s with heap := h, toks := tk } Q) (fun _ _ => False) { s with heap := h, toks := tk })
    (done : ∀ m₁ nx h tk, J m₁ nx → Fr h₀ env.locals h m₁ → News h₀ env.locals h nx → Q .next { s with heap := h, toks := tk }) :
    ∀ (k i : Nat) (m₁ : Str → Option Value) (nx : List (Addr × Obj)) (h : Heap) (tk : Nat), i + k = ns.length → h.IsListIter I l i → h.IsList l vs.toArray → Fr h₀ env.locals h m₁ → News h₀ env.locals h nx → (∀ p ∈ nx, p.1 ≠ l ∧ p.1 ≠ I) → J m₁ nx →
      codeC (model prog w) A (.forLoop (.Name x px) (.ref I) body [] env) (fun r s' => match r with | .ok f => Q f s' | .error _ => False) { s with heap := h, toks := tk } := by
  intro k
  induction k with
  | zero =>
    intro i m₁ nx h tk hik hit hl F N hoff hJ
    refine codeC_of_tree ?_
    show wpC _ _ ((forTurn (.Name x px) (.ref I) body [] env).onRaise (fun x => do noteFrame x env; theTreesLotGoes x)) _ _ _
    refine wpC_mono (E := fun _ _ => False) (C_noted ?_) (fun _ _ x => x) fun _ _ x => x.elim
    simp only [forTurn]
    have hnone : vs.toArray[i]? = none := by
      have := hi.length
      simp; omega
    refine wpC_bindA (wpAny_standAt (wpC_bindA (wpAny_onRaise (wpAny_pyNext_list_end hh hit hl hnone fun h' hk => wpC_of (wpAny_pure ⟨rfl, C_block_nil ?_⟩)))))
    have up : ∀ b o, b ≠ I → h.get? b = some o → h'.get? b = some o := fun b o hb e => hk b o hb e
    exact done m₁ nx h' tk hJ ⟨F.ns.at' fun o e => up _ o (Ne.symm hIL) e, fun b o e => up b o (fun q => by rw [q, hI0] at e; cases e) (F.keep b o e), F.above⟩ fun p hp => ⟨up _ _ (hoff p hp).2 (N p hp).1, (N p hp).2⟩
  | succ k ih =>
    intro i m₁ nx h tk hik hit hl F N hoff hJ
    refine codeC_of_tree ?_
    show wpC _ _ ((forTurn (.Name x px) (.ref I) body [] env).onRaise (fun x => do noteFrame x env; theTreesLotGoes x)) _ _ _
    refine wpC_mono (E := fun _ _ => False) (C_noted ?_) (fun _ _ x => x) fun _ _ x => x.elim
    simp only [forTurn]
    obtain ⟨v, hv⟩ : ∃ v, vs.toArray[i]? = some v := by
      have := hi.length
      exact ⟨_, Array.getElem?_eq_getElem (by simp; omega)⟩
    obtain ⟨n, t, rfl, hn⟩ := IntsAre.at hi i v (by simpa using hv)
    refine wpC_bindA (wpAny_standAt (wpC_bindA (wpAny_onRaise (wpAny_pyNext_list_item hit hl hv fun h' hit' hk => ?_))))
    have up : ∀ b o, b ≠ I → h.get? b = some o → h'.get? b = some o := fun b o hb e => (hk.2 b hb).trans e
    have F' : Fr h₀ env.locals h' m₁ := ⟨F.ns.at' fun o e => up _ o (Ne.symm hIL) e, fun b o e => up b o (fun q => by rw [q, hI0] at e; cases e) (F.keep b o e), F.above⟩
    have N' : News h₀ env.locals h' nx := fun p hp => ⟨up _ _ (hoff p hp).2 (N p hp).1, (N p hp).2⟩
    refine wpC_bindA (wpAny_of_eq (a := ()) rfl ?_)
    refine wpC_bindA (wpAny_assign_Name (wpAny_storeName_local hx F'.ns (fun h₂ hn₂ hs₂ => ?_) hp))
    have F₂ := F'.set hn₂ hs₂
    have N₂ := N'.set hs₂
    obtain ⟨oI, hoI, _⟩ := id hit'
    obtain ⟨ol, hol, _⟩ := id (hl.at (fun o e => up _ o (Ne.symm hIl) e) : h'.IsList l vs.toArray)
    have gI : h₂.get? I = some oI := (hs₂.2 I hIL).trans hoI
    have gl : h₂.get? l = some ol := (hs₂.2 l hlL).trans hol
    have hlh' : h'.IsList l vs.toArray := hl.at fun o e => up _ o (Ne.symm hIl) e
    refine wpC_bind (wpC_mono (turn n t m₁ nx h₂ _ [(I, oI), (l, ol)] ?_ hJ F₂ ?_) (fun f s₃ h₃ => ?_) fun _ _ x => x)
    · intro p hp q hq e
      rcases List.mem_cons.mp hp with rfl | hp
      · exact (hoff q hq).2 e.symm
      · rw [List.mem_singleton.mp hp] at e
        exact (hoff q hq).1 e.symm
    · intro p hp
      rcases List.mem_append.mp hp with hp | hp
      · exact N₂ p hp
      · rcases List.mem_cons.mp hp with rfl | hp
        · exact ⟨gI, hIL, hI0⟩
        · rw [List.mem_singleton.mp hp]
          exact ⟨gl, hlL, hl0⟩
    · have fin : TbEnd h₀ env.locals J [(I, oI), (l, ol)] { s with heap := h₂, toks := tk + 1 } s₃ → codeC (model prog w) A (.forLoop (.Name x px) (.ref I) body [] env) (fun r s' => match r with | .ok f => Q f s' | .error _ => False) s₃ := by
        rintro ⟨h', tk', m', news', nx', rfl, F₃, N₃, hsub, hown, hoff', hJ'⟩
        have eI := (N₃ _ (hown _ (.head _))).1
        have el := (N₃ _ (hown _ (.tail _ (.head _)))).1
        refine ih (i + 1) m' nx' h' tk' (by omega) ?_ ?_ F₃ (fun p hp => N₃ p (hsub p hp)) (fun p hp => ⟨fun q => hoff' _ (.tail _ (.head _)) p hp q.symm, fun q => hoff' _ (.head _) p hp q.symm⟩) hJ'
        · obtain ⟨o, e, hc⟩ := hit'
          rw [hoI] at e
          cases e
          exact ⟨_, eI, hc⟩
        · obtain ⟨o, e, hc⟩ := hlh'
          rw [hol] at e
          cases e
          exact ⟨_, el, hc⟩
      cases f with
      | ret v => exact wpC_of (wpAny_pure h₃)
      | brk => exact wpC_of (wpAny_pure h₃)
      | next => exact wpC_of (wpAny_pure ⟨rfl, fin h₃⟩)
      | cont => exact wpC_of (wpAny_pure ⟨rfl, fin h₃⟩)
end
section
variable {prog : Program} {w : World} {A : Around} {s : Shared} {env : Env} {h₀ : Heap} {L : Addr} {m : Str → Option Value} {news : List (Addr × Obj)} {x : Str} {px pos : Pos} {iter : Expr} {body : List Stmt} {Q : Flow → Shared → Prop}
theorem C_For (_F : Fr h₀ L s.heap m) (_N : News h₀ L s.heap news) (hL : env.locals = L) (hx : env.kindOf x = some .local) (hh : A.handled = none)
    (hp : (env.scope.kind == .class || (env.scope.kind == .module && env.locals != env.globals)) = false)
    (hs : ∀ x, foldedSetIterable iter env x = pure x) (J : (Str → Option Value) → List (Addr × Obj) → Prop) (hj : J m news)
    (hmid : wpAny (model prog w) A (eval iter env) (ForMid h₀ L m s news) (fun _ _ => False) s)
    (turn : ∀ n t m₁ nx h tk own, TbOff own nx → J m₁ nx → Fr h₀ L h (fun y => if y = x then some (.int n t) else m₁ y) → News h₀ L h (nx ++ own) →
      wpC (model prog w) A (execs body env) (TbPost h₀ L J own { s with heap := h, toks := tk } Q) (fun _ _ => False) { s with heap := h, toks := tk })
    (done : ∀ m₁ nx h tk, J m₁ nx → Fr h₀ L h m₁ → News h₀ L h nx → Q .next { s with heap := h, toks := tk }) :
    wpC (model prog w) A (exec (.For (.Name x px) iter body [] pos) env) Q (fun _ _ => False) s := by
  subst hL
  rw [arm_exec_For]
  refine wpC_bindA (wpAny_standAt (wpC_bindA (wpAny_mono hmid (fun xv s₁ hm => ?_) fun _ _ e => e)))
  obtain ⟨l, vs, ns, h, tk, rfl, rfl, hl, hi, hn, hnew, hlL, F₁, N₁, hln⟩ := hm
  rw [hs]
  refine wpC_bindA (wpAny_pure (wpC_bindA (wpAny_standAt (wpC_bindA (wpAny_holding (wpAny_pyIter_list hl ?_))))))
  have up : ∀ b o, h.get? b = some o → (h.push { cls := .type "list_iterator", data := .fields #[.ref l, .int 0 0] }).get? b = some o := fun b o e => Heap.get?_push_of_some _ e
  obtain ⟨ol, hol, _⟩ := id hl
  have hlt : l < h.objs.size := Heap.lt_size hol
  unfold runOwn
  refine wpC_onRaise (wpC_run ?_)
  refine codeC_mono (C_loop (s := s) hh hx hp hi J hlL (fun q => absurd F₁.ns.lt (q ▸ Nat.lt_irrefl _)) hnew (next_is_new F₁) (Nat.ne_of_gt hlt) turn done ns.length 0 m news _ tk (by omega) ⟨_, Heap.get?_push_size _ rfl, rfl, rfl⟩ (hl.push _) (F₁.keeps up) (N₁.grown up) (fun p hp => ⟨hln p hp, fun q => absurd (Heap.lt_size (N₁ p hp).1) (q ▸ Nat.lt_irrefl _)⟩) hj) fun r s' hr => ?_
  cases r with
  | ok f => exact hr
  | error e => exact hr.elim
end
section
variable {prog : Program} {w : World} {A : Around} {s : Shared} {R : Result → Shared → Prop}
/-- the law's own call: a def some of whose names stand in cells -/
theorem law_callC {name : Str} {params : Arguments} {body : List Stmt} {scope : Scope} {pm cd doc : Value} {a : Addr} {o : Obj} {args : List Value} {binds : List (Str × Value)}
    (hroom : A.depth < recursionLimit) (ho : s.heap.get? a = some o) (hdata : o.data = .func (Calls.docDef name params body scope pm cd doc)) (hlim : s.heap.NoLimit) (hcd : s.heap.CodeRec cd name)
    (hbind : bindArgs (Calls.docDef name params body scope pm cd doc) ⟨args, []⟩ = pure binds)
    (hkind : (binds.all fun y => scope.names.lookup y.1 == some .local || scope.names.lookup y.1 == some .cell) = true) (hnd : ((cellsFrom 0 scope.names []).map (·.1)).Nodup)
    (h : ∀ h₁ tk cells, Fr s.heap s.heap.objs.size h₁ (bindL (envOfC name scope s.heap.objs.size a cd).kindOf binds fun _ => none) → News s.heap s.heap.objs.size h₁ cells →
      CellsAre (bindC (envOfC name scope s.heap.objs.size a cd).kindOf binds fun _ => none) (cellsFrom (s.heap.objs.size + 1) scope.names []) cells →
      wpC (model prog w) (A.deeper (envOfC name scope s.heap.objs.size a cd)) (execs body (envOfC name scope s.heap.objs.size a cd))
        (fun f s' => R (.ok (.ret (match f with | .ret v => v | _ => .none))) s') (fun _ _ => False) { s with heap := h₁, toks := tk })
    (hco : scope.isCoroutine = false := by rfl) (hgen : scope.isGenerator = false := by rfl) (hk : scope.kind = .function := by rfl) : codeC (model prog w) A (.call (.ref a) ⟨args, []⟩) R s := by
  refine codeC_call hroom ho hdata hco hgen rfl hcd ?_
  rw [hbind]
  refine wpAny_pure ?_
  refine wpAny_newFunctionEnv_cells hk (kindsX hkind _) fun env' he s' x => ?_
  subst he
  refine ⟨hlim.keeps x.toInCall.keep, codeC_func ?_⟩
  obtain ⟨h₁, tk, rfl, _⟩ := x.done
  obtain ⟨cells, NC, Y⟩ := Cl.news (h₀ := s.heap) (Nat.le_refl _) fun n c hm => ⟨x.cell n c (lookup_of_mem_nodup (cellsFrom_names scope.names 0 (s.heap.objs.size + 1) [] [] rfl ▸ hnd) hm), x.above n c hm⟩
  exact wpC_mono (h h₁ tk cells ⟨x.toInCall.ns, x.toInCall.keep, Nat.le_refl _⟩ NC Y) (fun fl s' hl => hl) fun _ _ y => y.elim
end

theorem off_20 : True := by
  w_top off
  exact trivial
section
variable {prog : Program} {w : World} {A : Around} {E : Value → Shared → Prop} {s' : Shared} {h₀ h : Heap} {outer : List Env} {L e : Addr} {m : Str → Option Value} {env : Env}
  {b₀ b₁ : Stmt} {suite suite₁ : List Stmt} {pos pos₁ np np₁ : Pos} {rest : List ExceptHandler} {Q : Flow → Shared → Prop} {news : List (Addr × Obj)} {x y : Str} {X T' T'' : String}
/-- the exception that a call let through is met by the first clause; the suite raises nothing -/
theorem caught_1 (hA : A.frames = some (env :: outer)) (hf : env.frame = some L) (F : Fr h₀ L h m) (hsm : h.UpToSlots s'.heap) (R : RaisedN h₀ (env :: outer) e (.type X) news s'.heap)
    (hname : ∀ {A' : Around} {s₁ : Shared} {Q' : Value → Shared → Prop} {E' : Value → Shared → Prop}, Fr h₀ L s₁.heap m → Q' (.type T') s₁ → wpAny (model prog w) A' (eval (.Name x np) env) Q' E' s₁)
    (hexc : isSubtype (.type T') (.type "BaseException") = pure true) (hnt : isSubtype (.type ((Manifest.find? T').elim "type" fun y => y.metatype)) (.type "tuple") = pure false) (hsub : isSubtype (.type X) (.type T') = pure true)
    (k : ∀ h' E', Fr h₀ L h' m → News h₀ L h' news → wpAny (model prog w) (A.mark (some (.ref e))) (execs (b₀ :: suite) env) Q E' { s' with heap := h' }) :
    wpAny (model prog w) A (noteFrame (.ref e) env) (fun _ s₂ => wpAny (model prog w) A (setFlight (.ref e) none) (fun _ s₃ =>
        wpAny (model prog w) A (handleBy (.ref e) env (.ExceptHandler (some (.Name x np)) none (b₀ :: suite) pos :: rest)) Q E s₃) E s₂) E s' := by
  obtain ⟨B, a0, hB, hl, hfl⟩ := R
  have hL : B.get? L = none := by
    obtain ⟨_, ⟨L', _, hf', hn', _⟩, _⟩ := hfl.2.2.1
    obtain rfl : L = L' := Option.some.inj (hf.symm.trans hf')
    exact hn'
  refine wpAny_looks_onW hA hf hfl fun h₄ hheld₄ hsm₄ => ?_
  refine wpAny_landsW hheld₄ fun h₅ hheld hsm₅' => ?_
  have hsm₅ := hsm₄.trans hsm₅'
  have hheld' := flyingW_base hB hheld
  have F₅ := F.of_stays hheld'.1 (hsm.trans hsm₅)
  obtain ⟨ob, hob, hobc⟩ := hheld'.there
  refine wpAny_handleBy_builtin (X := X) (T := T') (b := true) hexc hnt hsub (hname F₅ ⟨rfl, ⟨ob, hob, hobc⟩, ?_⟩)
  refine lands_againW hheld fun h₆ hfl₆ hsm₆ => ?_
  have F₆ := F.of_stays (flyingW_base hB hfl₆).1 ((hsm.trans hsm₅).trans hsm₆)
  exact k h₆ _ F₆ fun q hq => ⟨hfl₆.1 _ _ (hl q hq).1, (fun z => by have := (hl q hq).1; rw [z, hL] at this; cases this), (hl q hq).2⟩
/-- the first clause lets it pass, the second meets it -/
theorem caught_2 (hA : A.frames = some (env :: outer)) (hf : env.frame = some L) (F : Fr h₀ L h m) (hsm : h.UpToSlots s'.heap) (R : RaisedN h₀ (env :: outer) e (.type X) news s'.heap)
    (hname : ∀ {A' : Around} {s₁ : Shared} {Q' : Value → Shared → Prop} {E' : Value → Shared → Prop}, Fr h₀ L s₁.heap m → Q' (.type T') s₁ → wpAny (model prog w) A' (eval (.Name x np) env) Q' E' s₁)
    (hname₁ : ∀ {A' : Around} {s₁ : Shared} {Q' : Value → Shared → Prop} {E' : Value → Shared → Prop}, Fr h₀ L s₁.heap m → Q' (.type T'') s₁ → wpAny (model prog w) A' (eval (.Name y np₁) env) Q' E' s₁)
    (hexc : isSubtype (.type T') (.type "BaseException") = pure true) (hnt : isSubtype (.type ((Manifest.find? T').elim "type" fun y => y.metatype)) (.type "tuple") = pure false) (hsub : isSubtype (.type X) (.type T') = pure false)
    (hexc₁ : isSubtype (.type T'') (.type "BaseException") = pure true) (hnt₁ : isSubtype (.type ((Manifest.find? T'').elim "type" fun y => y.metatype)) (.type "tuple") = pure false) (hsub₁ : isSubtype (.type X) (.type T'') = pure true)
    (k : ∀ h' E', Fr h₀ L h' m → News h₀ L h' news → wpAny (model prog w) (A.mark (some (.ref e))) (execs (b₁ :: suite₁) env) Q E' { s' with heap := h' }) :
    wpAny (model prog w) A (noteFrame (.ref e) env) (fun _ s₂ => wpAny (model prog w) A (setFlight (.ref e) none) (fun _ s₃ =>
        wpAny (model prog w) A (handleBy (.ref e) env (.ExceptHandler (some (.Name x np)) none (b₀ :: suite) pos :: .ExceptHandler (some (.Name y np₁)) none (b₁ :: suite₁) pos₁ :: rest)) Q E s₃) E s₂) E s' := by
  obtain ⟨B, a0, hB, hl, hfl⟩ := R
  have hL : B.get? L = none := by
    obtain ⟨_, ⟨L', _, hf', hn', _⟩, _⟩ := hfl.2.2.1
    obtain rfl : L = L' := Option.some.inj (hf.symm.trans hf')
    exact hn'
  refine wpAny_looks_onW hA hf hfl fun h₄ hheld₄ hsm₄ => ?_
  refine wpAny_landsW hheld₄ fun h₅ hheld hsm₅' => ?_
  have hsm₅ := hsm₄.trans hsm₅'
  have hheld' := flyingW_base hB hheld
  have F₅ := F.of_stays hheld'.1 (hsm.trans hsm₅)
  obtain ⟨ob, hob, hobc⟩ := hheld'.there
  refine wpAny_handleBy_builtin (X := X) (T := T') (b := false) hexc hnt hsub (hname F₅ ⟨rfl, ⟨ob, hob, hobc⟩, ?_⟩)
  rw [if_neg (by decide)]
  refine wpAny_handleBy_builtin (X := X) (T := T'') (b := true) hexc₁ hnt₁ hsub₁ (hname₁ F₅ ⟨rfl, ⟨ob, hob, hobc⟩, ?_⟩)
  refine lands_againW hheld fun h₆ hfl₆ hsm₆ => ?_
  have F₆ := F.of_stays (flyingW_base hB hfl₆).1 ((hsm.trans hsm₅).trans hsm₆)
  exact k h₆ _ F₆ fun q hq => ⟨hfl₆.1 _ _ (hl q hq).1, (fun z => by have := (hl q hq).1; rw [z, hL] at this; cases this), (hl q hq).2⟩
end
theorem sub_AA : isSubtype (.type "AssertionError") (.type "AssertionError") = pure true := by rw [isSubtype_type]; kernel_rfl
theorem sub_TT : isSubtype (.type "TypeError") (.type "TypeError") = pure true := by rw [isSubtype_type]; kernel_rfl
theorem sub_TA : isSubtype (.type "TypeError") (.type "AssertionError") = pure false := by rw [isSubtype_type]; kernel_rfl

theorem off_21 : True := by
  w_top off
  exact trivial
theorem fun_at {K : Frag} {h : Heap} {f : Addr} {oc : Value} {od : Option Addr} {fd : FuncData} {osl : Array (Option Value)} (X : K.In h) (ho : K.lookup f = some ⟨oc, od, .func fd, osl⟩) : ∃ o fd, h.get? f = some o ∧ o.data = .func fd := ⟨_, fd, X _ _ ho, rfl⟩
theorem fun_97 {w : World} {h : Heap} (X : (hd.heap_39 w.params).In h) : ∃ o fd, h.get? 97 = some o ∧ o.data = .func fd := by
  k_dflt (refine' fun_at X ?k6; (case k6 => k_is))
theorem fun_104 {w : World} {h : Heap} (X : (hd.heap_39 w.params).In h) : ∃ o fd, h.get? 104 = some o ∧ o.data = .func fd := by
  k_dflt (refine' fun_at X ?k6; (case k6 => k_is))
theorem fun_111 {w : World} {h : Heap} (X : (hd.heap_39 w.params).In h) : ∃ o fd, h.get? 111 = some o ∧ o.data = .func fd := by
  k_dflt (refine' fun_at X ?k6; (case k6 => k_is))
theorem fun_118 {w : World} {h : Heap} (X : (hd.heap_39 w.params).In h) : ∃ o fd, h.get? 118 = some o ∧ o.data = .func fd := by
  k_dflt (refine' fun_at X ?k6; (case k6 => k_is))
section
variable {w : World} {A : Around} {E : Value → Shared → Prop} {s : Shared} {mg mb : Str → Option Value} {loose : List Str} {mean : ExcName → Option Value} {Q : Value → Shared → Prop} {bs ab : Array UInt8} {octs ps : List Int} {p q : Int} {t u : Tok}
theorem w_b64 (hb : KBw.bInts bs = octs) (hl : octs.length ≤ 3) (hh : A.handled = none) (hd' : A.depth ≤ 480) (hu : A.units ≤ 480) (X : (hd.heap_39 w.params).In s.heap) (T : Top hd.view_39 loose mean mg mb s.heap)
    (h : ∀ h' (tk t' : Nat), s.heap.StaysIn h' → tk ≠ 0 → t' ≠ 0 → Q (.bytes (byteArr (b64 tabL octs)) t') { s with heap := h', toks := tk }) : wpAny (model PySem.Challenge.pw_ik0020_01 w) A (call (.ref 97) [.bytes bs t]) Q E s :=
  lift (sp_b64 hb hl X T h) hh (Nat.le_trans hd' (by decide)) (Nat.le_trans hu (by decide))
theorem w_alt (hb : KBw.bInts bs = octs) (hl : octs.length ≤ 3) (ha : KBw.bInts ab = [p, q]) (hh : A.handled = none) (hd' : A.depth ≤ 480) (hu : A.units ≤ 480) (X : (hd.heap_39 w.params).In s.heap) (T : Top hd.view_39 loose mean mg mb s.heap)
    (h : ∀ h' (tk t' : Nat), s.heap.StaysIn h' → tk ≠ 0 → t' ≠ 0 → Q (.bytes (byteArr ((b64 tabL octs).map (trI p q))) t') { s with heap := h', toks := tk }) : wpAny (model PySem.Challenge.pw_ik0020_01 w) A (call (.ref 97) [.bytes bs t] [(Str.ofString "altchars", .bytes ab u)]) Q E s :=
  lift (sp_b64alt hb hl ha X T h) hh (Nat.le_trans hd' (by decide)) (Nat.le_trans hu (by decide))
theorem w_std (hb : KBw.bInts bs = octs) (hl : octs.length ≤ 3) (hh : A.handled = none) (hd' : A.depth ≤ 480) (hu : A.units ≤ 480) (X : (hd.heap_39 w.params).In s.heap) (T : Top hd.view_39 loose mean mg mb s.heap)
    (h : ∀ h' (tk t' : Nat), s.heap.StaysIn h' → tk ≠ 0 → t' ≠ 0 → Q (.bytes (byteArr (b64 tabL octs)) t') { s with heap := h', toks := tk }) : wpAny (model PySem.Challenge.pw_ik0020_01 w) A (call (.ref 104) [.bytes bs t]) Q E s :=
  lift (sp_std hb hl X T h) hh hd' hu
theorem w_url (hb : KBw.bInts bs = octs) (hl : octs.length ≤ 3) (hh : A.handled = none) (hd' : A.depth ≤ 480) (hu : A.units ≤ 480) (X : (hd.heap_39 w.params).In s.heap) (T : Top hd.view_39 loose mean mg mb s.heap)
    (h : ∀ h' (tk t' : Nat), s.heap.StaysIn h' → tk ≠ 0 → t' ≠ 0 → Q (.bytes (byteArr ((b64 tabL octs).map (trI 45 95))) t') { s with heap := h', toks := tk }) : wpAny (model PySem.Challenge.pw_ik0020_01 w) A (call (.ref 111) [.bytes bs t]) Q E s :=
  lift (sp_url hb hl X T h) hh hd' hu
theorem w_b16 (hb : KBw.bInts bs = octs) (hl : octs.length ≤ 3) (hh : A.handled = none) (hd' : A.depth ≤ 480) (hu : A.units ≤ 480) (X : (hd.heap_39 w.params).In s.heap) (T : Top hd.view_39 loose mean mg mb s.heap)
    (h : ∀ h' (tk t' : Nat), s.heap.StaysIn h' → tk ≠ 0 → t' ≠ 0 → Q (.bytes (byteArr (hexU octs)) t') { s with heap := h', toks := tk }) : wpAny (model PySem.Challenge.pw_ik0020_01 w) A (call (.ref 118) [.bytes bs t]) Q E s :=
  lift (sp_b16 hb hl X T h) hh hd' hu
theorem w_ra {l : List Env} {b : Heap} (hb : KBw.bInts bs = octs) (hl : octs.length ≤ 3) (ha : KBw.bInts ab = ps) (hp : ps.length ≤ 3) (hn : ¬ ps.length = 2) (B : Below (pF 480 l) b l s.heap) (X : (hd.heap_39 w.params).In s.heap) (T : Top hd.view_39 loose mean mg mb s.heap)
    (h : ∀ e h' tk, RaisedN b l e (.type "AssertionError") [] h' → s.heap.UpToSlots h' → E (.ref e) { s with heap := h', toks := tk }) : wpAny (model PySem.Challenge.pw_ik0020_01 w) (pF 480 l) (call (.ref 97) [.bytes bs t] [(Str.ofString "altchars", .bytes ab u)]) Q E s := by
  have e : ab.size = ps.length := by rw [← ha, KBw.ints_length]
  exact ra_b64 B hb hl (by omega) (by omega) X T h
end

theorem off_22 : True := by
  w_top off
  exact trivial
section
variable {A : Around} {s : Shared}
theorem eqAt_bytes {b : Array UInt8} {t u : Tok} : SeqAt.EqAt A s (.bytes b t) (.bytes b u) true := fun prog w E Q h => eqBool_bytes (by simpa using h)
theorem eqAt_str {x : Str} {t u : Tok} : SeqAt.EqAt A s (.str x t) (.str x u) true := fun prog w E Q h => wpAny_eqBool_str (by simpa using h)
theorem eqAt_ref {a : Addr} : SeqAt.EqAt A s (.ref a) (.ref a) true := fun prog w E Q h => by
  unfold eqBool
  refine wpAny_holding ?_
  show wpAny _ _ (if (Value.ref a == Value.ref a) = true then _ else _) Q E s
  rw [if_pos (by simp)]
  exact wpAny_bind (wpAny_rule (wpAny_pure h))
variable {prog : Program} {w : World} {E : Value → Shared → Prop} {l b : Addr} {x y x' y' : Value} {Q : Value → Shared → Prop}
theorem ne_pair (hl : s.heap.get? l = some { cls := .type "tuple", data := .seq #[x, y] }) (hb : s.heap.get? b = some { cls := .type "tuple", data := .seq #[x', y'] }) (hu : A.units < cLine)
    (hx : SeqAt.EqAt A.in1 s x x' true) (hy : SeqAt.EqAt A.in1 s y y' true) (h : Q (.bool false) s) : wpAny (model prog w) A (compareOp .NotEq (.ref l) (.ref b)) Q E s := by
  refine SeqAt.RcNeAt.tuples (items := #[x, y]) (items2 := #[x', y']) (e := fun _ => true) ⟨_, hl, rfl, _, rfl⟩ ⟨_, hb, rfl, _, rfl⟩ hu ?_ prog w E Q h
  intro j h1 h2
  match j, h1, h2 with
  | 0, _, _ => exact hx
  | 1, _, _ => exact hy
end

theorem off_23 : True := by
  w_top off
  exact trivial
theorem four64 {p q r s X : Int} (e : X = ((p * 64 + q) * 64 + r) * 64 + s) (hp : 0 ≤ p ∧ p < 64) (hq : 0 ≤ q ∧ q < 64) (hr : 0 ≤ r ∧ r < 64) (hs : 0 ≤ s ∧ s < 64) :
    X / 262144 % 64 = p ∧ X / 4096 % 64 = q ∧ X / 64 % 64 = r ∧ X / 1 % 64 = s := by
  subst e
  refine ⟨?_, ?_, ?_, ?_⟩
  · exact (congrArg (· % 64) ((dup (C := 4096) hs.1 hs.2).trans ((dup (C := 64) hr.1 hr.2).trans ((dup (C := 1) hq.1 hq.2).trans (Int.ediv_one p))))).trans (Int.emod_eq_of_lt hp.1 hp.2)
  · exact (congrArg (· % 64) ((dup (C := 64) hs.1 hs.2).trans ((dup (C := 1) hr.1 hr.2).trans (Int.ediv_one _)))).trans (dlow hq.1 hq.2)
  · exact (congrArg (· % 64) ((dup (C := 1) hs.1 hs.2).trans (Int.ediv_one _))).trans (dlow hr.1 hr.2)
  · exact (congrArg (· % 64) (Int.ediv_one _)).trans (dlow hs.1 hs.2)
theorem six16 {p q r s t u X : Int} (e : X = ((((p * 16 + q) * 16 + r) * 16 + s) * 16 + t) * 16 + u) (hp : 0 ≤ p ∧ p < 16) (hq : 0 ≤ q ∧ q < 16) (hr : 0 ≤ r ∧ r < 16) (hs : 0 ≤ s ∧ s < 16) (ht : 0 ≤ t ∧ t < 16) (hu : 0 ≤ u ∧ u < 16) :
    X / 1048576 % 16 = p ∧ X / 65536 % 16 = q ∧ X / 4096 % 16 = r ∧ X / 256 % 16 = s ∧ X / 16 % 16 = t ∧ X / 1 % 16 = u := by
  subst e
  have f (x : Int) (C : Int) : (x * 16 + u) / (16 * C) = x / C := dup hu.1 hu.2
  have g (x : Int) (C : Int) : (x * 16 + t) / (16 * C) = x / C := dup ht.1 ht.2
  have k (x : Int) (C : Int) : (x * 16 + s) / (16 * C) = x / C := dup hs.1 hs.2
  have l (x : Int) (C : Int) : (x * 16 + r) / (16 * C) = x / C := dup hr.1 hr.2
  have m (x : Int) (C : Int) : (x * 16 + q) / (16 * C) = x / C := dup hq.1 hq.2
  refine ⟨?_, ?_, ?_, ?_, ?_, ?_⟩
  · exact (congrArg (· % 16) ((f _ 65536).trans ((g _ 4096).trans ((k _ 256).trans ((l _ 16).trans ((m _ 1).trans (Int.ediv_one p))))))).trans (Int.emod_eq_of_lt hp.1 hp.2)
  · exact (congrArg (· % 16) ((f _ 4096).trans ((g _ 256).trans ((k _ 16).trans ((l _ 1).trans (Int.ediv_one _)))))).trans (dlow hq.1 hq.2)
  · exact (congrArg (· % 16) ((f _ 256).trans ((g _ 16).trans ((k _ 1).trans (Int.ediv_one _))))).trans (dlow hr.1 hr.2)
  · exact (congrArg (· % 16) ((f _ 16).trans ((g _ 1).trans (Int.ediv_one _)))).trans (dlow hs.1 hs.2)
  · exact (congrArg (· % 16) ((f _ 1).trans (Int.ediv_one _))).trans (dlow ht.1 ht.2)
  · exact (congrArg (· % 16) (Int.ediv_one _)).trans (dlow hu.1 hu.2)
theorem lin64 {a b c x y z w u v : Int} (ea : a = 4 * x + y) (eb : b = 16 * z + w) (ec : c = 64 * u + v) : (c * 1 + (b * 256 + (a * 65536 + 0))) * 1 = ((x * 64 + (y * 16 + z)) * 64 + (w * 4 + u)) * 64 + v := by lia
theorem lin64b {a b x y z w : Int} (ea : a = 4 * x + y) (eb : b = 16 * z + w) : (b * 1 + (a * 256 + 0)) * 4 = ((0 * 64 + x) * 64 + (y * 16 + z)) * 64 + w * 4 := by lia
theorem lin64a {a x y : Int} (ea : a = 4 * x + y) : (a * 1 + 0) * 16 = ((0 * 64 + 0) * 64 + x) * 64 + y * 16 := by lia
theorem lin16 {a b c x y z w u v : Int} (ea : a = 16 * x + y) (eb : b = 16 * z + w) (ec : c = 16 * u + v) : (c * 1 + (b * 256 + (a * 65536 + 0))) * 1 = ((((x * 16 + y) * 16 + z) * 16 + w) * 16 + u) * 16 + v := by lia
theorem lin16b {a b x y z w : Int} (ea : a = 16 * x + y) (eb : b = 16 * z + w) : (b * 1 + (a * 256 + 0)) * 1 = ((((0 * 16 + 0) * 16 + x) * 16 + y) * 16 + z) * 16 + w := by lia
theorem lin16a {a x y : Int} (ea : a = 16 * x + y) : (a * 1 + 0) * 1 = ((((0 * 16 + 0) * 16 + 0) * 16 + 0) * 16 + x) * 16 + y := by lia
theorem zin {d : Int} (h : 0 < d) : (0 : Int) ≤ 0 ∧ (0 : Int) < d := ⟨Int.le_refl 0, h⟩
theorem fdf (x : Int) {d : Int} (h : 0 ≤ d) : (x.fdiv d).fmod 64 = x / d % 64 := by rw [Int.fdiv_eq_ediv_of_nonneg _ h, Int.fmod_eq_emod_of_nonneg _ (by decide)]
theorem fdf16 (x : Int) {d : Int} (h : 0 ≤ d) : (x.fdiv d).fmod 16 = x / d % 16 := by rw [Int.fdiv_eq_ediv_of_nonneg _ h, Int.fmod_eq_emod_of_nonneg _ (by decide)]
theorem signs6_at (al os : List Int) {c n : Int} {sh : Nat} (hc : cnt6 os = c) (hn : num256 os = n) (hs : ((-(os.length : Int)).fmod 3).toNat = sh) :
    signs6 al os = ((List.range c.toNat).map fun i : Nat => al.getD (((n * 4 ^ sh).fdiv (2 ^ (6 * (c - 1 - (i : Int))).toNat)).fmod 64).toNat 0) ++ (List.replicate sh [61]).flatten := by
  subst hc hn hs; rfl
theorem signs6_is {al os : List Int} (hl : os.length ≤ 3) (hr : KBa.In os) : signs6 al os = (sext os).map (fun i => al.getD i.toNat 0) ++ pads os := by
  match os, hl, hr with
  | [], _, _ => rfl
  | [a], _, hr =>
    have ha := hr a (.head _)
    rw [signs6_at al [a] (c := 2) (n := a * 1 + 0) (sh := 2) (by show (8 * ((1 : Nat) : Int) + 2 * (-((1 : Nat) : Int)).fmod 3).fdiv 6 = 2; decide) (by simp [num256]) (by show ((-((1 : Nat) : Int)).fmod 3).toNat = 2; decide)]
    show [al.getD (((((a * 1 + 0) * 16).fdiv 64).fmod 64).toNat) 0, al.getD (((((a * 1 + 0) * 16).fdiv 1).fmod 64).toNat) 0, 61, 61] = [al.getD (a / 4).toNat 0, al.getD (a % 4 * 16).toNat 0, 61, 61]
    obtain ⟨ea, hx, hy⟩ := parts (d := 4) (e := 64) ha (by decide) rfl
    obtain ⟨-, -, e1, e0⟩ := four64 (lin64a ea) (zin (by decide)) (zin (by decide)) hx (bndm 16 hy (by decide) rfl)
    rw [fdf _ (by decide), fdf _ (by decide), e1, e0]
  | [a, b], _, hr =>
    have ha := hr a (.head _)
    have hb := hr b (.tail _ (.head _))
    rw [signs6_at al [a, b] (c := 3) (n := b * 1 + (a * 256 + 0)) (sh := 1) (by show (8 * ((2 : Nat) : Int) + 2 * (-((2 : Nat) : Int)).fmod 3).fdiv 6 = 3; decide) (by simp [num256]) (by show ((-((2 : Nat) : Int)).fmod 3).toNat = 1; decide)]
    show [al.getD (((((b * 1 + (a * 256 + 0)) * 4).fdiv 4096).fmod 64).toNat) 0, al.getD (((((b * 1 + (a * 256 + 0)) * 4).fdiv 64).fmod 64).toNat) 0, al.getD (((((b * 1 + (a * 256 + 0)) * 4).fdiv 1).fmod 64).toNat) 0, 61] = [al.getD (a / 4).toNat 0, al.getD (a % 4 * 16 + b / 16).toNat 0, al.getD (b % 16 * 4).toNat 0, 61]
    obtain ⟨ea, hx, hy⟩ := parts (d := 4) (e := 64) ha (by decide) rfl
    obtain ⟨eb, hz, hw⟩ := parts (d := 16) (e := 16) hb (by decide) rfl
    obtain ⟨-, e2, e1, e0⟩ := four64 (lin64b ea eb) (zin (by decide)) hx (bnd 16 hy hz rfl) (bndm 4 hw (by decide) rfl)
    rw [fdf _ (by decide), fdf _ (by decide), fdf _ (by decide), e2, e1, e0]
  | [a, b, c], _, hr =>
    have ha := hr a (.head _)
    have hb := hr b (.tail _ (.head _))
    have hc := hr c (.tail _ (.tail _ (.head _)))
    rw [signs6_at al [a, b, c] (c := 4) (n := c * 1 + (b * 256 + (a * 65536 + 0))) (sh := 0) (by show (8 * ((3 : Nat) : Int) + 2 * (-((3 : Nat) : Int)).fmod 3).fdiv 6 = 4; decide) (by simp [num256]) (by show ((-((3 : Nat) : Int)).fmod 3).toNat = 0; decide)]
    show [al.getD (((((c * 1 + (b * 256 + (a * 65536 + 0))) * 1).fdiv 262144).fmod 64).toNat) 0, al.getD (((((c * 1 + (b * 256 + (a * 65536 + 0))) * 1).fdiv 4096).fmod 64).toNat) 0, al.getD (((((c * 1 + (b * 256 + (a * 65536 + 0))) * 1).fdiv 64).fmod 64).toNat) 0, al.getD (((((c * 1 + (b * 256 + (a * 65536 + 0))) * 1).fdiv 1).fmod 64).toNat) 0]
      = [al.getD (a / 4).toNat 0, al.getD (a % 4 * 16 + b / 16).toNat 0, al.getD (b % 16 * 4 + c / 64).toNat 0, al.getD (c % 64).toNat 0]
    obtain ⟨ea, hx, hy⟩ := parts (d := 4) (e := 64) ha (by decide) rfl
    obtain ⟨eb, hz, hw⟩ := parts (d := 16) (e := 16) hb (by decide) rfl
    obtain ⟨ec, hu, hv⟩ := parts (d := 64) (e := 4) hc (by decide) rfl
    obtain ⟨e3, e2, e1, e0⟩ := four64 (lin64 ea eb ec) hx (bnd 16 hy hz rfl) (bnd 4 hw hu rfl) hv
    rw [fdf _ (by decide), fdf _ (by decide), fdf _ (by decide), fdf _ (by decide), e3, e2, e1, e0]
  | _ :: _ :: _ :: _ :: _, hl, _ => exact absurd hl (by simp)
/-- the letters and figures, as the law's own list -/
abbrev comL : List Int := List.map (fun c : Nat => (c : Int)) (Str.ofString "ABCDEFGHIJKLMNOPQRSTUVWXYZabcdefghijklmnopqrstuvwxyz0123456789").cps.toList
theorem com_tab (p q : Int) : comL ++ [p, q] = tabL.map (trI p q) := by
  have e : comL = tabL.take 62 := by decide +kernel
  have f : (tabL.take 62).map (trI p q) = tabL.take 62 := rfl
  rw [e, ← List.take_append_drop 62 tabL, List.map_append, List.take_append_drop 62 tabL, f]
  rfl
theorem getD_map {f : Int → Int} (h0 : f 0 = 0) (l : List Int) (i : Nat) : (l.map f).getD i 0 = f (l.getD i 0) := by
  rw [List.getD_eq_getElem?_getD, List.getD_eq_getElem?_getD, List.getElem?_map]
  cases l[i]? with
  | none => exact h0.symm
  | some x => rfl
theorem pads_map {f : Int → Int} (h : f 61 = 61) (os : List Int) : (pads os).map f = pads os := by
  unfold pads
  split <;> simp [h]
theorem signs_b64 {os : List Int} (hl : os.length ≤ 3) (hr : KBa.In os) (p q : Int) : signs6 (comL ++ [p, q]) os = (b64 tabL os).map (trI p q) := by
  rw [signs6_is hl hr, com_tab]
  unfold b64
  rw [List.map_append, pads_map rfl, List.map_map]
  congr 1
  refine List.map_congr_left fun i _ => ?_
  exact getD_map rfl _ _
theorem trI_same (k : Int) : trI 43 47 k = k := by
  unfold trI
  split
  · rename_i h; exact h.symm
  · split
    · rename_i h; exact h.symm
    · rfl
theorem signs_b64s {os : List Int} (hl : os.length ≤ 3) (hr : KBa.In os) : signs6 (comL ++ [43, 47]) os = b64 tabL os := by
  rw [signs_b64 hl hr]
  conv => rhs; rw [← List.map_id (b64 tabL os)]
  exact List.map_congr_left fun k _ => trI_same k

theorem off_24 : True := by
  w_top off
  exact trivial
theorem entry_iter1 : entryFor table "iter" = some Builtin.«iter» := entryFor_of_fast (by kernel_rfl)
theorem entry_next1 : entryFor table "next" = some Builtin.«next» := entryFor_of_fast (by kernel_rfl)
theorem args_iter1 (a : Value) : argsOk "iter" ⟨[a], []⟩ := by unfold argsOk; kernel_rfl
theorem args_next1 (a : Value) : argsOk "next" ⟨[a], []⟩ := by unfold argsOk; kernel_rfl
def IterOf (o : Obj) (l : Addr) (i : Nat) : Prop := o.cls = .type "list_iterator" ∧ o.data = .fields #[.ref l, .int i 0]
section
variable {prog : Program} {w : World} {A : Around} {E : Value → Shared → Prop} {s : Shared} {I l : Addr} {i : Nat} {items : Array Value} {x : Value} {Q : Value → Shared → Prop}
theorem iter_list (hl : s.heap.IsList l items) (h : Q (.ref s.heap.objs.size) { s with heap := s.heap.push { cls := .type "list_iterator", data := .fields #[.ref l, .int 0 0] } }) : wpAny (model prog w) A (call (.builtin "iter") [.ref l]) Q E s := by
  refine call_function_entry (by decide +kernel) (by decide +kernel) entry_iter1 (args_iter1 _) ?_
  unfold Builtin.«iter»
  refine wpAny_bind (m := someArgs "iter" 1 2 _) (wpAny_of_eq (a := [Value.ref l]) (by first | rfl | kernel_rfl!) ?_)
  show wpAny _ _ (pyIter (.ref l) >>= _) _ _ _
  refine wpAny_bind (wpAny_pyIter_list hl ?_)
  exact wpAny_pure ⟨_, rfl, h⟩
theorem next_item (hit : s.heap.IsListIter I l i) (hl : s.heap.IsList l items) (hx : items[i]? = some x) (h : ∀ h', h'.IsListIter I l (i + 1) → Heap.SameBut I s.heap h' → Q x { s with heap := h' }) : wpAny (model prog w) A (call (.builtin "next") [.ref I]) Q E s := by
  obtain ⟨o, ho, hc, hd⟩ := id hit
  obtain ⟨ol, hol, _, nl, hdl⟩ := hl
  refine call_function_entry (by decide +kernel) (by decide +kernel) entry_next1 (args_next1 _) ?_
  unfold Builtin.«next»
  refine wpAny_bind (m := someArgs "next" 1 2 _) (wpAny_of_eq (a := [Value.ref I]) (by first | rfl | kernel_rfl!) ?_)
  dsimp only
  refine wpAny_bind (wpAny_specialOf (name := Str.ofString "__next__") hit.typeIs slot_listiter_next.lookup ?_)
  refine wpAny_ite_split (fun hab => absurd hab (by decide)) (fun _ => ?_)
  refine wpAny_bind (wpAny_callSpecial?_slot (name := Str.ofString "__next__") hit.typeIs slot_listiter_next
    (wpAny_call_entry slot_listiter_next hit.typeIs entry_listiter_next ?_ (args_listiter_next _)))
  show wpAny _ _ (field (.ref I) 0 >>= _) _ _ s
  refine wpAny_bind (wpAny_field ho hd (x := .ref l) rfl ?_)
  show wpAny _ _ (if (Value.ref l == Value.none) = true then _ else _) _ _ s
  rw [if_neg (show ¬ ((Value.ref l == Value.none) = true) from Bool.false_ne_true)]
  show wpAny _ _ (field (.ref I) 1 >>= _) _ _ s
  refine wpAny_bind (wpAny_field ho hd (x := .int i 0) rfl ?_)
  show wpAny _ _ (seqItems? (.ref l) >>= _) _ _ s
  refine wpAny_bind (wpAny_seqItems hol hdl ?_)
  simp only [Int.toNat_natCast, hx]
  refine wpAny_bind (wpAny_setField ho hd (by simp) (wpAny_pure ⟨x, rfl, wpAny_pure ⟨_, rfl, h _ ?_ (Heap.SameBut.update ..)⟩⟩))
  exact ⟨_, Heap.get?_update_self _ ho (Obj.isFreed_of_fields (Obj.data_mapFields hd _)), (Obj.cls_mapFields ..).trans hc, by rw [Obj.data_mapFields hd]; simp [rawInt]⟩
theorem next_end (hh : A.handled = none) (hit : s.heap.IsListIter I l i) (hl : s.heap.IsList l items) (hx : items[i]? = none) (h : ∀ h₁ h' e, Heap.SameBut I s.heap h₁ → (∃ o, h₁.get? I = some o) → h₁.NewExc h' e "StopIteration" → E (.ref e) { s with heap := h' }) : wpAny (model prog w) A (call (.builtin "next") [.ref I]) Q E s := by
  obtain ⟨o, ho, hc, hd⟩ := id hit
  obtain ⟨ol, hol, _, nl, hdl⟩ := hl
  refine call_function_entry (by decide +kernel) (by decide +kernel) entry_next1 (args_next1 _) ?_
  unfold Builtin.«next»
  refine wpAny_bind (m := someArgs "next" 1 2 _) (wpAny_of_eq (a := [Value.ref I]) (by first | rfl | kernel_rfl!) ?_)
  dsimp only
  refine wpAny_bind (wpAny_specialOf (name := Str.ofString "__next__") hit.typeIs slot_listiter_next.lookup ?_)
  refine wpAny_ite_split (fun hab => absurd hab (by decide)) (fun _ => ?_)
  refine wpAny_bind (wpAny_callSpecial?_slot (name := Str.ofString "__next__") hit.typeIs slot_listiter_next
    (wpAny_call_entry slot_listiter_next hit.typeIs entry_listiter_next ?_ (args_listiter_next _)))
  show wpAny _ _ (field (.ref I) 0 >>= _) _ _ s
  refine wpAny_bind (wpAny_field ho hd (x := .ref l) rfl ?_)
  show wpAny _ _ (if (Value.ref l == Value.none) = true then _ else _) _ _ s
  rw [if_neg (show ¬ ((Value.ref l == Value.none) = true) from Bool.false_ne_true)]
  show wpAny _ _ (field (.ref I) 1 >>= _) _ _ s
  refine wpAny_bind (wpAny_field ho hd (x := .int i 0) rfl ?_)
  show wpAny _ _ (seqItems? (.ref l) >>= _) _ _ s
  refine wpAny_bind (wpAny_seqItems hol hdl ?_)
  simp only [Int.toNat_natCast, hx]
  refine wpAny_bind (wpAny_rule (wpAny_bind (wpAny_setField ho hd (by simp) ?_)))
  show wpAny _ _ (newExc (.type "StopIteration") [] >>= _) _ _ _
  refine wpAny_bind ?_
  simp only [newExc, newTuple]
  refine wpAny_bind (wpAny_newObj_type ?_ (by size_fits))
  refine wpAny_bind (m := firstArgMember _ _) (wpAny_of_eq (a := Value.none) (by first | rfl | (simp only [firstArgMember]; rfl)) ?_)
  refine wpAny_newObj_type ?_ (by size_fits)
  simp only [raiseNew]
  refine wpAny_bind (wpAny_handled ?_)
  rw [show A.in1.in1.handled = none from hh]
  refine wpAny_bind (wpAny_pure (wpAny_throw ?_))
  have e : ownMembersOf (.type "StopIteration") [] = #[] := by first | rfl | decide | kernel_rfl
  rw [e]
  exact h _ _ _ (Heap.SameBut.update ..) ⟨_, Heap.get?_update_self _ ho (Obj.isFreed_of_fields (Obj.data_mapFields hd _))⟩ ⟨fun b o hb => Heap.get?_push_of_some _ (Heap.get?_push_of_some _ hb), Heap.get?_none_of_le (by simp), _, .ref (s.heap.update I (Obj.mapFields fun x => x.setIfInBounds 0 Value.none)).objs.size, Heap.get?_push_size _ rfl, rfl, rfl⟩
end

theorem off_25 : True := by
  w_top off
  exact trivial
/-- the reader, on what is left of the signs: v is the value so far -/
def parse : Int → List Int → Option (Int × List Int)
  | _, [] => none
  | v, k :: r => if k / 64 % 2 = 0 then some (v * 64 + k % 64, r) else parse (v * 64 + k % 64) r
/-- behind the sign b, v the value with it -/
def parseB (v b : Int) (r : List Int) : Option (Int × List Int) := if b / 64 % 2 = 0 then some (v, r) else parse v r
theorem parse_cons (v k : Int) (r : List Int) : parse v (k :: r) = parseB (v * 64 + k % 64) k r := rfl
section
variable {prog : Program} {w : World} {A A₀ : Around} {s : Shared} {K : Frag} {L : Addr} {h₀ base : Heap} {m mg mb : Str → Option Value} {news : List (Addr × Obj)} {p : Program} {loose : List Str} {mean : ExcName → Option Value} {Q E : Value → Shared → Prop}
/-- a call of a def from a frame with a ledger -/
theorem call_loc {env : Env} {outer : List Env} {name qual : Str} {params : Arguments} {body : List Stmt} {scope : Scope} {dV kV doc pm cdv ct oc : Value} {an od : Option Addr} {osl : Array (Option Value)} {f : Addr} {pos : List Value} {kw : List (Str × Value)} {binds : List (Str × Value)}
    (B : Below A₀ base outer h₀) (F : Fr h₀ L s.heap m) (X₀ : K.In h₀) (N : News h₀ L s.heap news) (T : Top p loose mean mg mb h₀) (hA : A.frames = some (env :: outer)) (hf : env.frame = some L) (hke : env.scope.kind = .function)
    (ho : K.lookup f = some ⟨oc, od, .func (fnOf name qual params body scope dV kV doc pm an cdv ct), osl⟩) (hcd : codeIn K cdv qual = true) (hroom : A.depth < recursionLimit)
    (hbind : BindsTo s (fnOf name qual params body scope dV kV doc pm an cdv ct) ⟨pos, kw⟩ binds) (hloc : ∀ y ∈ binds, scope.names.lookup y.1 = some .local)
    (h : ∀ g L' h₁, Fr h₀ L g m → Fr g L' h₁ (fun y => binds.reverse.lookup y) → News g L' h₁ news → Below A base (env :: outer) g → K.In g → Top p loose mean mg mb g →
      wpAny (model prog w) (A.deeper (envOf qual scope L' f cdv)) (execs body (envOf qual scope L' f cdv))
        (fun fl s' => LeaveK h₀ L m g (fun r s' => match r with | .ok (.ret v) => Q v s' | .ok _ => False | .error e => E e s') (match fl with | .ret v => v | _ => .none) s')
        (fun e s' => wpAny (model prog w) (A.deeper (envOf qual scope L' f cdv)) (leaving (envOf qual scope L' f cdv) e) (fun _ s'' => E e s'') (fun e' s'' => E e' s'') s')
        { s with heap := h₁, toks := s.toks + binds.length })
    (hco : scope.isCoroutine = false) (hgen : scope.isGenerator = false) (hk : scope.kind = .function)
    (hcell : ∀ x ∈ scope.names, x.2 ≠ .cell) : wpAny (model prog w) A (call (.ref f) pos kw) Q E s :=
  wpAny_call (codeAny_call_function (fd := fnOf name qual params body scope dV kV doc pm an cdv ct) (body := body) hroom ((X₀.keeps F.keep) _ _ ho) rfl hco hgen rfl (codeRec_of (X₀.keeps F.keep) hcd)
    (hbind _ _ _ _ (kp_frame (cl := []) B F N T.nolimit hA hf hke hloc (fun g L' h₁ FG FL NG BG st => h g L' h₁ FG FL NG BG (X₀.keeps st) (T.keeps st)) hcell hk)))
end
section
variable {prog : Program} {w : World} {A : Around} {E : Value → Shared → Prop} {s : Shared} {I l L : Addr} {i : Nat} {vs : List Value} {ks : List Int} {h₀ : Heap} {m : Str → Option Value} {d : Addr × Obj} {oI : Obj} {rest : List (Addr × Obj)} {Q : Value → Shared → Prop}
theorem news_two {h h' : Heap} {o' : Obj} (N : News h₀ L h (d :: (I, oI) :: rest)) (hd : d.1 ≠ I) (hr : ∀ p ∈ rest, p.1 ≠ I) (hs : Heap.SameBut I h h') (ho : h'.get? I = some o') : News h₀ L h' (d :: (I, o') :: rest) := by
  intro p hp
  rcases List.mem_cons.mp hp with rfl | hp
  · have z := N _ (.head _)
    exact ⟨(hs.2 _ hd).trans z.1, z.2⟩
  rcases List.mem_cons.mp hp with rfl | hp
  · have z := N _ (.tail _ (.head _))
    exact ⟨ho, z.2⟩
  · have z := N _ (.tail _ (.tail _ hp))
    exact ⟨(hs.2 _ (hr p hp)).trans z.1, z.2⟩
theorem next_K (hh : A.handled = none) (F : Fr h₀ L s.heap m) (N : News h₀ L s.heap (d :: (I, oI) :: rest)) (hd : d.1 ≠ I) (hr : ∀ p ∈ rest, p.1 ≠ I) (hit : IterOf oI l i) (hl : ∃ ol, (l, ol) ∈ rest ∧ ol.cls = .type "list" ∧ ∃ n, ol.data = .seq vs.toArray n) (hi : IntsAre vs ks)
    (hok : ∀ k t h' oI', ks[i]? = some k → IterOf oI' l (i + 1) → Fr h₀ L h' m → News h₀ L h' (d :: (I, oI') :: rest) → Q (.int k t) { s with heap := h' })
    (hend : ∀ h₁ h' e oI', ks[i]? = none → Fr h₀ L h₁ m → News h₀ L h₁ (d :: (I, oI') :: rest) → h₁.NewExc h' e "StopIteration" → E (.ref e) { s with heap := h' }) : wpAny (model prog w) A (call (.builtin "next") [.ref I]) Q E s := by
  have zI := N _ (.tail _ (.head _))
  obtain ⟨ol, hol, hc, nn, hdl⟩ := hl
  have hit' : s.heap.IsListIter I l i := ⟨_, zI.1, hit.1, hit.2⟩
  have hls : s.heap.IsList l vs.toArray := ⟨_, (N _ (.tail _ (.tail _ hol))).1, hc, nn, hdl⟩
  cases e : ks[i]? with
  | some k =>
    obtain ⟨v, hv, hvk⟩ : ∃ v, vs.toArray[i]? = some v ∧ ∃ t, v = .int k t := by
      have hlen := hi.length
      have hlt := (List.getElem?_eq_some_iff.mp e).1
      have hv : vs.toArray[i]? = some (vs[i]'(by omega)) := by simp
      obtain ⟨n, t, h1, h2⟩ := IntsAre.at hi i (vs[i]'(by omega)) (by simp)
      rw [e] at h2
      cases h2
      exact ⟨_, hv, t, h1⟩
    obtain ⟨t, rfl⟩ := hvk
    refine next_item hit' hls hv fun h' hj hs => ?_
    obtain ⟨o', ho', hc', hd'⟩ := hj
    exact hok k t h' o' e ⟨hc', hd'⟩ (F.change hs zI.2.1 zI.2.2) (news_two N hd hr hs ho')
  | none =>
    have hv : vs.toArray[i]? = none := by
      have hlen := hi.length
      have := List.getElem?_eq_none_iff.mp e
      simp; omega
    refine next_end hh hit' hls hv fun h₁ h' e' hs hI hx => ?_
    obtain ⟨o', ho'⟩ := hI
    exact hend h₁ h' e' o' e (F.change hs zI.2.1 zI.2.2) (news_two N hd hr hs ho') hx
end
theorem say_25_48 : True := by
  k_with "m stepsH" => (repeat' ((fail_if_success (with_reducible show wpAny _ _ (exec (PySem.Stmt.While _ _ _ _) _) _ _ _)); (fail_if_success (with_reducible show wpAny _ _ (call (Value.builtin "next") _) _ _ _)); first | (k_unfold; (try dsimp only)) | (k_end; wrow_close) | walk1 | (dsimp only; walk1) | (leave1; walk_say "STEP leave1"; try dsimp only) | fail "no step"))
  exact trivial
theorem pow64_le {j : Nat} (h : j ≤ 8) : (64 : Int) ^ j ≤ 281474976710656 := by
  exact (by decide : ∀ j : Nat, j < 9 → (64 : Int) ^ j ≤ 281474976710656) j (Nat.lt_succ_of_le h)
def varM (I : Addr) (v b : Int) (tv tb : Tok) : Str → Option Value := fun y => if y = Str.ofString "val" then some (.int v tv) else if y = Str.ofString "b" then some (.int b tb) else List.lookup y [(Str.ofString "iterator", Value.ref I)].reverse
def varJ (d : Addr × Obj) (I l : Addr) (rest : List (Addr × Obj)) (ks : List Int) (i n : Nat) (m : Str → Option Value) (news : List (Addr × Obj)) : Prop :=
  ∃ (v b : Int) (tv tb : Tok) (j : Nat) (oJ : Obj), m = varM I v b tv tb ∧ news = d :: (I, oJ) :: rest ∧ IterOf oJ l j ∧ i < j ∧ j ≤ ks.length ∧ n = ks.length - j ∧ 0 ≤ v ∧ v < 64 ^ j ∧ 0 ≤ b ∧ b < 256 ∧ parse 0 (ks.drop i) = parseB v b (ks.drop j)
theorem drop_at {ks : List Int} {i : Nat} {k : Int} (h : ks[i]? = some k) : ks.drop i = k :: ks.drop (i + 1) ∧ i < ks.length := by
  obtain ⟨hlt, e⟩ := List.getElem?_eq_some_iff.mp h
  exact ⟨by rw [List.drop_eq_getElem_cons hlt, e], hlt⟩
theorem drop_end {ks : List Int} {i : Nat} (h : ks[i]? = none) : ks.drop i = [] := List.drop_of_length_le (List.getElem?_eq_none_iff.mp h)
section
variable {w : World} {A A₀ : Around} {E : Value → Shared → Prop} {s : Shared} {mg mb : Str → Option Value} {loose : List Str} {mean : ExcName → Option Value} {Q : Value → Shared → Prop} {outer : List Env} {env : Env} {base h₀ : Heap} {L I l : Addr} {i : Nat} {vs : List Value} {ks : List Int} {m : Str → Option Value} {d : Addr × Obj} {oI : Obj} {rest : List (Addr × Obj)}
theorem sp_varint (B : Below A₀ base outer h₀) (F : Fr h₀ L s.heap m) (X₀ : (hd.heap_39 w.params).In h₀) (N : News h₀ L s.heap (d :: (I, oI) :: rest)) (T : Top hd.view_39 loose mean mg mb h₀) (hA : A.frames = some (env :: outer)) (hf : env.frame = some L) (hke : env.scope.kind = .function) (hh : A.handled = none) (hdp : A.depth ≤ 475)
    (hd' : d.1 ≠ I) (hr : ∀ p ∈ rest, p.1 ≠ I) (hit : IterOf oI l i) (hl : ∃ ol, (l, ol) ∈ rest ∧ ol.cls = .type "list" ∧ ∃ n, ol.data = .seq vs.toArray n) (hi : IntsAre vs ks) (hb : KBa.In ks) (hk8 : ks.length ≤ 8)
    (hok : ∀ n j t h' tk oI', parse 0 (ks.drop i) = some (n, ks.drop j) → j ≤ ks.length → i < j → IterOf oI' l j → Fr h₀ L h' m → News h₀ L h' (d :: (I, oI') :: rest) → Q (.int n t) { s with heap := h', toks := tk })
    (herr : ∀ e h' tk g oI', parse 0 (ks.drop i) = none → Fr h₀ L g m → g.UpToSlots h' → RaisedN base (env :: outer) e (.type "StopIteration") (d :: (I, oI') :: rest) h' → E (.ref e) { s with heap := h', toks := tk }) :
    wpAny (model PySem.Challenge.pw_ik0020_01 w) A (call (.ref 58) [.ref I]) Q E s := by
  k_dflt (refine' call_loc (K := hd.heap_39 w.params) (binds := [(Str.ofString "iterator", .ref I)]) B F X₀ N T hA hf hke ?k6 ?k7 ?k8 ?k9 ?kB ?_ ?c2 ?c3 ?c4 ?c5; (case k6 => k_is); (case k7 => k_is); (case k8 => exact Nat.lt_of_le_of_lt (by assumption) (by decide)); (case k9 => first | exact BindsTo.of_eq rfl | exact binds_K (by assumption) rfl (by k_is) rfl rfl rfl); (case kB => exact locs rfl); (case c5 => decide); (case c2 => exact rfl); (case c3 => exact rfl); (case c4 => exact rfl); k_whole)
  intro g' L' h' FG' F' N' B' X' T'
  k_fold
  have hB : True → Below A base (env :: outer) g' := fun _ => B'
  clear B' B
  walk_at "m stepsH"
  refine next_K (A := A.deeper _) hh F' N' hd' hr hit hl hi ?ok ?fin
  case fin =>
    intro h₁ h₂ e oI₁ hk F₁ N₁ hx
    clear F' N'
    k_steps
    exact leave_newK (hB trivial) hx F₁ N₁ fun h' R U => herr _ _ _ _ _ (by rw [drop_end hk]; rfl) FG' U R
  case ok =>
    intro k t h₁ oI₁ hk hit₁ F₁ N₁
    clear F' N'
    obtain ⟨hdr, hlt⟩ := drop_at hk
    have hkb := hb k (List.mem_of_getElem? hk)
    walk_at "m stepsH"
    rename Fr _ _ _ _ => F₂
    rename News _ _ _ _ => N₂
    have hlen : ks.length ≤ 8 := hk8
    refine While_inv2 (varJ d I l rest ks i) (n₀ := ks.length - (i + 1)) F₂ N₂ ⟨k % 64, k, _, t, i + 1, oI₁, rfl, rfl, hit₁, by omega, by omega, rfl, by omega, ?small, hkb.1, hkb.2, ?par⟩ ?turn
    case small => rw [Int.pow_succ]; have : 0 < (64 : Int) ^ i := Int.pow_pos (by decide); omega
    case par => rw [hdr, parse_cons, show (0 : Int) * 64 + k % 64 = k % 64 by omega]
    case turn =>
      rintro n m₁ news₁ h₂ tk₂ F₃ N₃ ⟨v, b, tv, tb, j, oJ, rfl, rfl, hitJ, hij, hjl, rfl, hv0, hv1, hb0, hb1, hpar⟩
      clear F₂ N₂
      have h64 := pow64_le (j := j) (by omega)
      have hvn : v.natAbs < 2 ^ 64 := by omega
      unfold varM at F₃
      walk_at "m stepsH"
      · rename Fr g' _ _ _ => F₄
        rename News g' _ _ _ => N₄
        have hb2 : b / 64 % 2 * 64 ≠ 0 := by assumption
        refine next_K (A := A.deeper _) hh F₄ N₄ hd' hr hitJ hl hi ?ok2 ?fin2
        case fin2 =>
          intro h₁ h₂ e oI₁ hk F₁ N₁ hx
          clear F₄ N₄
          k_steps
          refine leave_newK (hB trivial) hx F₁ N₁ fun h' R U => herr _ _ _ _ _ ?_ FG' U R
          rw [hpar, drop_end hk]
          unfold parseB
          rw [if_neg (by omega)]
          rfl
        case ok2 =>
          intro k₂ t₂ h₅ oI₂ hk₂ hit₂ F₅ N₅
          clear F₄ N₄
          obtain ⟨hdr₂, hlt₂⟩ := drop_at hk₂
          have hkb₂ := hb k₂ (List.mem_of_getElem? hk₂)
          k_steps
          rename Fr g' _ _ _ => F₆
          rename News g' _ _ _ => N₆
          have ho : Builtin.bitOr (v * 2 ^ (Int.toNat 6)) (k₂ % 64) = v * 64 + k₂ % 64 := bitOr_add 6 (x := v) (b := k₂ % 64) (by omega) (by show _ < (64 : Int); omega)
          refine' ⟨_, _, _, _, ks.length - (j + 1), rfl, F₆, N₆, by omega, v * 64 + k₂ % 64, k₂, ?tv, t₂, j + 1, oI₂, ?map, rfl, hit₂, by omega, by omega, rfl, by omega, ?small2, hkb₂.1, hkb₂.2, ?par2⟩
          case map =>
            funext y
            unfold varM
            by_cases h1 : y = Str.ofString "val"
            · rw [if_pos h1, if_pos h1, ho]
            · rw [if_neg h1, if_neg h1]
              by_cases h2 : y = Str.ofString "b"
              · simp only [if_pos h2, if_neg h1]
              · simp only [if_neg h1, if_neg h2]
          case small2 => rw [Int.pow_succ]; omega
          case par2 =>
            rw [hpar, hdr₂]
            unfold parseB
            rw [if_neg (by omega), parse_cons]
            rfl
      · rename Fr h₀ L _ m => F₄
        rename News h₀ L _ _ => N₄
        refine hok v j tv _ _ oJ ?_ hjl hij hitJ F₄ N₄
        rw [hpar]
        unfold parseB
        rw [if_pos (by have : b / 64 % 2 * 64 = 0 := by assumption
                       omega)]
end

theorem off_26 : True := by
  w_top off
  exact trivial
section
variable {w : World} {A A₀ : Around} {E : Value → Shared → Prop} {s : Shared} {mg mb : Str → Option Value} {loose : List Str} {mean : ExcName → Option Value} {Q : Value → Shared → Prop} {outer : List Env} {env : Env} {base h₀ : Heap} {L I l : Addr} {i : Nat} {vs : List Value} {ks : List Int} {m : Str → Option Value} {oI : Obj} {rest : List (Addr × Obj)}
theorem fun_58 {h : Heap} (X : (hd.heap_39 w.params).In h) : ∃ o fd, h.get? 58 = some o ∧ o.data = .func fd := by
  k_dflt (refine' fun_at X ?k6; (case k6 => k_is))
theorem gni_read (B : Below A₀ base outer h₀) (F : Fr h₀ L s.heap m) (X₀ : (hd.heap_39 w.params).In h₀) (N : News h₀ L s.heap ((I, oI) :: rest)) (T : Top hd.view_39 loose mean mg mb h₀) (hA : A.frames = some (env :: outer)) (hf : env.frame = some L) (hke : env.scope.kind = .function) (hh : A.handled = none) (hdp : A.depth ≤ 470)
    (hr : ∀ p ∈ rest, p.1 ≠ I) (hit : IterOf oI l i) (hl : ∃ ol, (l, ol) ∈ rest ∧ ol.cls = .type "list" ∧ ∃ n, ol.data = .seq vs.toArray n) (hi : IntsAre vs ks) (hb : KBa.In ks) (hk8 : ks.length ≤ 8)
    (hok : ∀ n j t h' tk oI' C D' o', parse 0 (ks.drop i) = some (n, ks.drop j) → j ≤ ks.length → i < j → IterOf oI' l j → Fr h₀ L h' m → News h₀ L h' ((C, ({ cls := .type "tuple", data := .seq #[.int n t, .int n t] } : Obj)) :: (D', o') :: (I, oI') :: rest) → D' < C ∧ I < C ∧ AllLt C rest → AllLt D' ((I, oI) :: rest) → Q (.ref C) { s with heap := h', toks := tk })
    (herr : ∀ e h' tk g oI' D' o', parse 0 (ks.drop i) = none → Fr h₀ L g m → g.UpToSlots h' → RaisedN base (env :: outer) e (.type "StopIteration") ((D', o') :: (I, oI') :: rest) h' → E (.ref e) { s with heap := h', toks := tk }) :
    wpAny (model PySem.Challenge.pw_ik0020_01 w) A (call (.ref 51) [.ref I, .ref 58]) Q E s := by
  k_dflt (refine' call_kws (ex := []) (nm := Str.ofString "extrainfo") (front := [(Str.ofString "name_index", .ref I), (Str.ofString "get_name", .ref 58)]) B F X₀ N T hA ?kF ?kK ?k6 ?k7 ?k8 ?kN ?kP ?kT ?kB ?_ ?c2 ?c3 ?c4 ?c5; walk_at "m more")
  intro D' g' L' h' tk' l1 lo' FG' F' N' B' X' T'
  k_fold
  walk_at "m stepsW"
  obtain ⟨o, fd, hfo, hfd⟩ := fun_58 (X'.keeps (Fr.keep F'))
  refine' call_star (o := o) (fd := fd) (av := .ref I) hfo hfd (News.get N' (.head _)) rfl rfl lo' (.inl ⟨rfl, rfl⟩) ?ha ?ht ?hcall
  case ha =>
    intro E' Q' hq
    refine Calls.spliced_cons ?_
    show wpAny _ _ (eval _ _) _ _ _
    k_steps
    exact Calls.spliced_nil hq
  case ht =>
    intro h₂ E' Q' hk hq
    have F₂ := Fr.keptAll F' hk
    clear F' N'
    refine wpAny_bind ?_
    k_steps
    exact wpAny_bind (wpAny_standAt (wpAny_pure hq))
  case hcall =>
    intro h₂ hk
    have F₂ := Fr.keptAll F' hk
    have N₂ := News.grown N' hk
    clear F' N' hfo
    have hDI : D' ≠ I := fun q => absurd l1.1 (q ▸ Nat.lt_irrefl _)
    refine sp_varint (d := (D', _)) B' F₂ X' N₂ T' (Around.frames_deeper B'.stack) rfl rfl hh (by show A.depth + 1 ≤ 475; omega) hDI hr hit hl hi hb hk8 ?ok ?err
    case err =>
      intro e h₃ tk₃ g₃ oI₃ hp FG₃ U₃ R₃
      have hB : True → Below A base (env :: outer) g' := fun _ => B'
      clear B' B
      k_steps
      exact leave_onN (hB trivial) FG₃ R₃ U₃ fun h' R U => herr _ _ _ _ _ _ _ hp FG' U R
    case ok =>
      intro n j t₃ h₃ tk₃ oI₃ hp hj hij hit₃ F₃ N₃
      clear F₂ N₂
      k_steps
      rename Fr h₀ L _ m => F₄
      rename News h₀ L _ _ => N₄
      exact hok _ _ _ _ _ _ _ _ _ hp hj hij hit₃ F₄ N₄ (by assumption) l1
end

theorem off_27 : True := by
  w_top off
  exact trivial
theorem exc_Stop : isSubtype (.type "StopIteration") (.type "BaseException") = pure true := by rw [isSubtype_type]; kernel_rfl
theorem sub_Stop : isSubtype (.type "StopIteration") (.type "StopIteration") = pure true := by rw [isSubtype_type]; kernel_rfl
theorem meta_Stop : isSubtype (.type ((Manifest.find? "StopIteration").elim "type" fun y => y.metatype)) (.type "tuple") = pure false := by
  rw [show ((Manifest.find? "StopIteration").elim "type" fun y => y.metatype) = "type" from by decide +kernel, isSubtype_type]; kernel_rfl
/-- what the reader tells of the signs -/
inductive NumsOf : List Int → List Int → Prop
  | stop {ks} : parse 0 ks = none → NumsOf ks []
  | more {ks r v ns} : parse 0 ks = some (v, r) → NumsOf r ns → NumsOf ks (v :: ns)
def PairOf (p : Addr × Obj) (v : Value) (n : Int) : Prop := v = .ref p.1 ∧ ∃ t, p.2 = { cls := .type "tuple", data := .seq #[.int n t, .int n t] }
inductive PairsOf : List (Addr × Obj) → List Value → List Int → Prop
  | nil : PairsOf [] [] []
  | snoc {ts ps ns p v n} : PairsOf ts ps ns → PairOf p v n → PairsOf (p :: ts) (ps ++ [v]) (ns ++ [n])
section
variable {h₀ g h h' base G : Heap} {L Lr : Addr} {m mr : Str → Option Value} {l : List Env} {e : Addr} {cls : Value} {NL : List (Addr × Obj)}
theorem thin (F : Fr g L h m) : ∃ G, Fr g L G m ∧ (∀ b o, G.get? b = some o → h.get? b = some o) ∧ ∀ b o, G.get? b = some o → b = L ∨ g.get? b = some o := by
  have key : ∀ b o, h.get? b = some o → (b = L ∨ g.get? b ≠ none) → (hideAll h ((List.range h.objs.size).filter fun b => (g.get? b).isNone && b != L)).get? b = some o := fun b o e hb => by
    refine hideAll_get _ e fun hm => ?_
    have := (List.mem_filter.mp hm).2
    rw [Bool.and_eq_true, bne_iff_ne, Option.isNone_iff_eq_none] at this
    rcases hb with q | q
    · exact this.2 q
    · exact q this.1
  refine ⟨hideAll h ((List.range h.objs.size).filter fun b => (g.get? b).isNone && b != L), ⟨F.ns.at' fun o e => key _ o e (.inl rfl), fun b o e => key b o (F.keep b o e) (.inr (by rw [e]; nofun)), F.above⟩, fun b o e => of_hideAll _ e, fun b o e => ?_⟩
  by_cases q : b = L
  · exact .inl q
  · refine .inr ?_
    cases q' : g.get? b with
    | some o' =>
      have := F.keep b o' q'
      rw [of_hideAll _ e] at this
      exact this.symm
    | none =>
      have hm : b ∈ (List.range h.objs.size).filter fun b => (g.get? b).isNone && b != L := List.mem_filter.mpr ⟨List.mem_range.mpr (Heap.lt_size (of_hideAll _ e)), by rw [q']; simp [q]⟩
      rw [hideAll_none _ hm] at e
      cases e
theorem raisedSN_of (R : RaisedN base l e cls NL h') (hG : ∀ b o, G.get? b = some o → b ∉ l.filterMap (·.frame) → base.get? b = some o) (hN : ∀ q ∈ NL, G.get? q.1 = none) : RaisedSN base G l e cls NL h' := by
  obtain ⟨B, a0, hB, hl, hfl⟩ := R
  exact ⟨B, a0, hB, fun b o e n => hB b o (hG b o e n), fun q hq => ⟨(hl q hq).1, hN q hq, (hl q hq).2⟩, hfl⟩
theorem raisedN_sub {NL' : List (Addr × Obj)} (R : RaisedN base l e cls NL h') (hs : ∀ q ∈ NL', q ∈ NL) : RaisedN base l e cls NL' h' := by
  obtain ⟨B, a0, hB, hl, hfl⟩ := R
  exact ⟨B, a0, hB, fun q hq => hl q (hs q hq), hfl⟩
/-- the frame below, behind an exception that went past it -/
theorem fr_turn (FG : Fr h₀ L g m) {g' : Heap} (T : KtsTurn [L] g g') (F : Fr g' Lr h' mr) : Fr h₀ L h' m := by
  refine ⟨Heap.UpToSlots.ns (h := g) (fun b o e _ => ?_) FG.ns, fun b o e => ?_, FG.above⟩
  · obtain ⟨sl, z⟩ := T.up e
    exact ⟨sl, F.keep _ _ z⟩
  · refine F.keep _ _ (T.other b o (FG.keep b o e) fun hm => ?_)
    rw [List.mem_singleton.mp hm, kts_self FG] at e
    cases e
theorem news_turn (FG : Fr h₀ L g m) {g' : Heap} (T : KtsTurn [L] g g') (N : News g' Lr h' NL) : News h₀ L h' NL := fun q hq => by
  obtain ⟨z1, _, z3⟩ := N q hq
  have e1 : g.get? q.1 = none := by
    cases z : g.get? q.1 with
    | none => rfl
    | some o => obtain ⟨sl, y⟩ := T.up z; rw [z3] at y; cases y
  refine ⟨z1, fun y => ?_, ?_⟩
  · obtain ⟨o, _, _, z, _⟩ := FG.ns
    rw [← y, e1] at z
    cases z
  · cases z : h₀.get? q.1 with
    | none => rfl
    | some o => rw [FG.keep _ _ z] at e1; cases e1
end
section
variable {prog : Program} {w : World} {A A₀ : Around} {s : Shared} {K : Frag} {L : Addr} {h₀ base : Heap} {m mg mb : Str → Option Value} {news : List (Addr × Obj)} {p : Program} {loose : List Str} {mean : ExcName → Option Value} {Q E : Value → Shared → Prop}
/-- as call_loc, with what is asked behind the call asked at its end -/
theorem call_locD {env : Env} {outer : List Env} {name qual : Str} {params : Arguments} {body : List Stmt} {scope : Scope} {dV kV doc pm cdv ct oc : Value} {an od : Option Addr} {osl : Array (Option Value)} {f : Addr} {pos : List Value} {kw : List (Str × Value)} {binds : List (Str × Value)}
    (B : Below A₀ base outer h₀) (F : Fr h₀ L s.heap m) (X₀ : K.In h₀) (N : News h₀ L s.heap news) (T : Top p loose mean mg mb h₀) (hA : A.frames = some (env :: outer)) (hf : env.frame = some L) (hke : env.scope.kind = .function)
    (ho : K.lookup f = some ⟨oc, od, .func (fnOf name qual params body scope dV kV doc pm an cdv ct), osl⟩) (hcd : codeIn K cdv qual = true) (hroom : A.depth < recursionLimit)
    (hbind : BindsTo s (fnOf name qual params body scope dV kV doc pm an cdv ct) ⟨pos, kw⟩ binds) (hloc : ∀ y ∈ binds, scope.names.lookup y.1 = some .local)
    (h : ∀ g L' h₁, Fr h₀ L g m → Fr g L' h₁ (fun y => binds.reverse.lookup y) → News g L' h₁ news → Below A base (env :: outer) g → K.In g → Top p loose mean mg mb g →
      wpAny (model prog w) (A.deeper (envOf qual scope L' f cdv)) (execs body (envOf qual scope L' f cdv))
        (fun fl s' => Q (match fl with | .ret v => v | _ => .none) s')
        (fun e s' => wpAny (model prog w) (A.deeper (envOf qual scope L' f cdv)) (leaving (envOf qual scope L' f cdv) e) (fun _ s'' => E e s'') (fun e' s'' => E e' s'') s')
        { s with heap := h₁, toks := s.toks + binds.length })
    (hco : scope.isCoroutine = false) (hgen : scope.isGenerator = false) (hk : scope.kind = .function)
    (hcell : ∀ x ∈ scope.names, x.2 ≠ .cell) : wpAny (model prog w) A (call (.ref f) pos kw) Q E s := by
  refine wpAny_call (codeAny_call_function (fd := fnOf name qual params body scope dV kV doc pm an cdv ct) (body := body) hroom ((X₀.keeps F.keep) _ _ ho) rfl hco hgen rfl (codeRec_of (X₀.keeps F.keep) hcd) (hbind _ _ _ _ ?_))
  obtain ⟨FG, BG, st, _⟩ := groundX (R := fun _ _ => True) B F N hA hf hke
  refine wpAny_newFunctionEnv hcell hloc (fun h₁ hns hsb => ⟨(T.nolimit.keeps F.keep).fresh _ hsb, codeAny_func ?_⟩) hk
  have hk₂ : ∀ b o, s.heap.get? b = some o → h₁.get? b = some o := fun b o e => hsb.extBut b o (Nat.ne_of_lt (Heap.lt_size e)) (Heap.get?_push_of_some _ e)
  exact h _ s.heap.objs.size h₁ FG ⟨hns, fun b o e => hk₂ b o (of_hideAll _ e), Nat.le_of_eq (hideAll_size _ _)⟩
    (fun q hq => ⟨hk₂ _ _ (N q hq).1, Nat.ne_of_lt (Heap.lt_size (N q hq).1), hideAll_none _ (List.mem_map_of_mem hq)⟩) BG (X₀.keeps st) (T.keeps st)
end
theorem say_27_49 : True := by
  k_with "m stepsR" => (repeat' ((fail_if_success (with_reducible show wpAny _ _ (exec (PySem.Stmt.While _ _ _ _) _) _ _ _)); (fail_if_success (with_reducible show wpAny _ _ (exec (PySem.Stmt.Try _ _ _ _ _) _) _ _ _)); (fail_if_success (with_reducible show wpAny _ _ (call (Value.builtin "iter") _) _ _ _)); (fail_if_success (with_reducible show wpAny _ _ (call (Value.ref 51) _ _) _ _ _)); (fail_if_success (with_reducible show wpAny _ _ (call (Value.builtin "list.append") _) _ _ _)); first | (k_unfold; (try dsimp only)) | (k_end; wrow_close) | walk1 | (dsimp only; walk1) | (leave1; walk_say "STEP leave1"; try dsimp only) | fail "no step"))
  exact trivial
theorem rest_ne {D I : Addr} {o o' : Obj} {ts news : List (Addr × Obj)} (lI : ∀ p ∈ (D, o) :: news, p.1 < I) (hts : ∀ p ∈ ts, p.1 ≠ D ∧ p.1 ≠ I) : ∀ p ∈ (D, o') :: (ts ++ news), p.1 ≠ I := fun p hp => by
  rcases List.mem_cons.mp hp with rfl | hp
  · exact Nat.ne_of_lt (lI (D, o) (.head _))
  · rcases List.mem_append.mp hp with hp | hp
    · exact (hts p hp).2
    · exact Nat.ne_of_lt (lI p (.tail _ hp))
def readJ (D I l : Addr) (news : List (Addr × Obj)) (ks : List Int) (n : Nat) (m : Str → Option Value) (led : List (Addr × Obj)) : Prop :=
  ∃ (oI : Obj) (i : Nat) (ts : List (Addr × Obj)) (its : Array Value) (k : Nat) (ns : List Int), m = (fun y => if y = Str.ofString "left" then some (.ref I) else if y = Str.ofString "pairs" then some (.ref D) else List.lookup y [(Str.ofString "signs", Value.ref l)].reverse) ∧
    led = (I, oI) :: (D, W.listOf its k) :: (ts ++ news) ∧ IterOf oI l i ∧ i ≤ ks.length ∧ n = ks.length - i ∧ its.size ≤ i ∧ PairsOf ts its.toList ns ∧ (∀ tl, NumsOf (ks.drop i) tl → NumsOf ks (ns ++ tl)) ∧ (∀ p ∈ ts, p.1 ≠ D ∧ p.1 ≠ I)
section
variable {w : World} {A A₀ : Around} {E : Value → Shared → Prop} {s : Shared} {mg mb : Str → Option Value} {loose : List Str} {mean : ExcName → Option Value} {Q : Value → Shared → Prop} {env : Env} {base h₀ : Heap} {L l : Addr} {vs : List Value} {ks : List Int} {m : Str → Option Value} {news : List (Addr × Obj)}
theorem sp_read (B : Below A₀ base [] h₀) (F : Fr h₀ L s.heap m) (X₀ : (hd.heap_39 w.params).In h₀) (N : News h₀ L s.heap news) (T : Top hd.view_39 loose mean mg mb h₀) (hA : A.frames = some [env]) (hf : env.frame = some L) (hke : env.scope.kind = .function) (hh : A.handled = none) (hdp : A.depth ≤ 460)
    (hl : ∃ ol, (l, ol) ∈ news ∧ ol.cls = .type "list" ∧ ∃ n, ol.data = .seq vs.toArray n) (hi : IntsAre vs ks) (hb : KBa.In ks) (hk8 : ks.length ≤ 8)
    (h : ∀ h' tk D ts ps ns k, NumsOf ks ns → PairsOf ts ps ns → Fr h₀ L h' m → News h₀ L h' ((D, W.listOf ps.toArray k) :: (ts ++ news)) → Q (.ref D) { s with heap := h', toks := tk }) :
    wpAny (model PySem.Challenge.pw_ik0020_01 w) A (call (.ref 135) [.ref l]) Q E s := by
  k_dflt (refine' call_locD (K := hd.heap_39 w.params) (binds := [(Str.ofString "signs", .ref l)]) B F X₀ N T hA hf hke ?k6 ?k7 ?k8 ?k9 ?kB ?_ ?c2 ?c3 ?c4 ?c5; (case k6 => k_is); (case k7 => k_is); (case k8 => exact Nat.lt_of_le_of_lt (by assumption) (by decide)); (case k9 => first | exact BindsTo.of_eq rfl | exact binds_K (by assumption) rfl (by k_is) rfl rfl rfl); (case kB => exact locs rfl); (case c5 => decide); (case c2 => exact rfl); (case c3 => exact rfl); (case c4 => exact rfl); k_whole)
  intro g' L' h' FG' F' N' B' X' T'
  k_fold
  have B₂ : Below A (hideAll g' ([env].filterMap (·.frame))) [env] g' := below_hide B'
  have hB : True → Below A (hideAll g' ([env].filterMap (·.frame))) [env] g' := fun _ => B₂
  clear B' B B₂
  walk_at "m stepsR"
  rename Fr g' _ _ _ => F₁
  rename News g' _ _ _ => N₁
  rename (∀ p : Addr × Obj, p ∈ news → p.1 < _) => lD
  obtain ⟨ol, hol, hoc, nn, hod⟩ := hl
  refine iter_list ⟨ol, (N₁ _ (.tail _ hol)).1, hoc, nn, hod⟩ ?_
  have F₂ := F₁.push { cls := .type "list_iterator", data := .fields #[.ref l, .int 0 0] }
  have N₂ := News.push F₁ N₁ { cls := .type "list_iterator", data := .fields #[.ref l, .int 0 0] } rfl
  have lI := fun p hp => Heap.lt_size (N₁ p hp).1
  clear F₁ N₁
  walk_at "m stepsR"
  refine wpAny_Try_except ?_
  walk_at "m stepsR"
  rename Fr g' _ _ _ => F₃
  rename News g' _ _ _ => N₃
  refine While_inv2 (readJ _ _ l news ks) (n₀ := ks.length) F₃ N₃ ⟨_, 0, [], #[], 0, [], rfl, rfl, ⟨rfl, rfl⟩, Nat.zero_le _, rfl, Nat.le_refl _, .nil, fun _ y => y, fun _ y => nomatch y⟩ ?turn
  case turn =>
    rintro n m₁ news₁ h₂ tk₂ F₄ N₄ ⟨oI, i, ts, its, k, ns, rfl, rfl, hit, hil, rfl, hsz, hps, hns, hts⟩
    clear F₃ N₃
    walk_at "m stepsR"
    have hrI := rest_ne (o' := W.listOf its k) lI hts
    refine gni_read (base := hideAll g' ([env].filterMap (·.frame))) (hB trivial) F₄ X' N₄ T' (Around.frames_deeper (hB trivial).stack) rfl rfl hh (by show A.depth + 1 ≤ 470; omega) hrI hit ⟨ol, .tail _ (List.mem_append_right _ hol), hoc, nn, hod⟩ hi hb hk8 ?ok ?err
    case ok =>
      intro v j t h₃ tk₃ oI₃ C D' o' hp hj hij hit₃ F₅ N₅ l₄ l₅
      clear F₄ N₄
      walk_at "m stepsR"
      have hCD := Nat.ne_of_gt l₄.2.2.1
      have hDD := Nat.ne_of_gt l₅.2.1
      have hID := Nat.ne_of_gt (lI _ (.head _))
      refine append_K F₅ N₅ (.tail hCD (.tail hDD (.tail hID (.head fun p hp => (List.mem_append.mp hp).elim (fun y => (hts p y).1) fun y => Nat.ne_of_lt (lD p y))))) ?_ ?sz
      case sz => rw [sizeLine_eq]; omega
      intro h₆ F₆ N₆
      clear F₅ N₅
      k_steps
      rename Fr g' _ _ _ => F₇
      rename News g' _ _ _ => N₇
      refine ⟨_, _, _, _, ks.length - j, rfl, F₇, ?nw, by omega, oI₃, j, (C, ({ cls := .type "tuple", data := .seq #[.int v t, .int v t] } : Obj)) :: ts, its.push (.ref C), k + 1, ns ++ [v], rfl, rfl, hit₃, hj, rfl, by rw [Array.size_push]; omega, ?prs, ?nms, ?oth⟩
      case nw =>
        intro p hp
        refine N₇ p ?_
        rcases List.mem_cons.mp hp with rfl | hp
        · exact .tail _ (.tail _ (.head _))
        rcases List.mem_cons.mp hp with rfl | hp
        · exact .tail _ (.tail _ (.tail _ (.head _)))
        rcases List.mem_append.mp hp with hp | hp
        · rcases List.mem_cons.mp hp with rfl | hp
          · exact .head _
          · exact .tail _ (.tail _ (.tail _ (.tail _ (List.mem_append_left _ hp))))
        · exact .tail _ (.tail _ (.tail _ (.tail _ (List.mem_append_right _ hp))))
      case prs =>
        rw [Array.toList_push]
        exact .snoc hps ⟨rfl, t, rfl⟩
      case nms =>
        intro tl htl
        rw [List.append_assoc]
        exact hns _ (.more hp htl)
      case oth =>
        intro p hp
        rcases List.mem_cons.mp hp with rfl | hp
        · exact ⟨hCD, Nat.ne_of_gt l₄.2.1⟩
        · exact hts p hp
    case err =>
      intro e h₃ tk₃ g₃ oI₃ D' o' hp FG₃ U₃ R₃
      clear F₄
      have hfm : [env].filterMap (·.frame) = [L] := by simp [hf]
      obtain ⟨G, FGt, hGh, hGg⟩ := thin FG₃
      have R' := raisedSN_of (G := G) (raisedN_sub R₃ (fun q hq => .tail _ hq)) (fun b o e hn => by
          rcases hGg b o e with q | q
          · exact absurd (List.mem_cons.mpr (.inl q)) hn
          · exact hideAll_get _ q fun hm => hn (List.mem_cons.mpr (.inr hm))) (fun q hq => by
          have z : q.1 ≠ L' ∧ g'.get? q.1 = none := by
            rcases List.mem_cons.mp hq with rfl | hq
            · exact (N₄ _ (.head _)).2
            · exact (N₄ _ (.tail _ hq)).2
          cases y : G.get? q.1 with
          | none => rfl
          | some o =>
            rcases hGg _ _ y with y | y
            · exact absurd y z.1
            · rw [z.2] at y; cases y)
      have stB : h₀.StaysIn (hideAll g' ([env].filterMap (·.frame))) := fun b o y => hideAll_get _ (FG'.keep b o y) (by
        rw [hfm]; intro hm; rw [List.mem_singleton.mp hm, kts_self FG'] at y; cases y)
      have DD : KtsDicts ([env].filterMap (·.frame)) g' := fun b hm => by
        rw [hfm] at hm
        rw [List.mem_singleton.mp hm]
        obtain ⟨o, es, ep, z, z2, _⟩ := FG'.ns
        exact ⟨o, es, ep, z, z2⟩
      refine caught_SN0 (A₀ := A) (g₀ := g') (KF := hd.heap_39 w.params) R' FGt (hB trivial) (fun b o e hn => U₃ b o (hGh b o e) hn) (X₀.keeps stB) (T.keeps stB) DD .refl ?ex PyProof.Rows.Boot.«StopIteration» (by decide) exc_Stop meta_Stop sub_Stop ?kk
      case ex => k_is
      intro h₅ g₅ T₅ F₅ N₅ _ _ _ _
      rw [hfm] at T₅
      clear FGt FG₃ N₄
      k_steps
      exact h _ _ _ ts its.toList ns k (by have z := hns [] (.stop hp); rwa [List.append_nil] at z) hps (fr_turn FG' T₅ F₅) (fun q hq => news_turn FG' T₅ N₅ q (.tail _ hq))
end

theorem off_28 : True := by
  w_top off
  exact trivial
theorem sum_shift (c : Int) : ∀ (l : List Int) (f : Nat → Int → Int), (∀ i x, f (i + 1) x = c * f i x) → (l.mapIdx fun i x => f (i + 1) x).sum = c * (l.mapIdx f).sum
  | [], _, _ => by simp
  | a :: r, f, h => by
    rw [List.mapIdx_cons, List.mapIdx_cons, List.sum_cons, List.sum_cons, sum_shift c r (fun i x => f (i + 1) x) (fun i x => h (i + 1) x), Int.mul_add, h 0 a]
theorem num64_nil : num64 [] = 0 := by simp [num64]
theorem num64_snoc (fs : List Int) (x : Int) : num64 (fs ++ [x]) = num64 fs * 64 + x := by
  unfold num64
  rw [List.reverse_append, List.reverse_singleton, List.singleton_append, List.mapIdx_cons, List.sum_cons]
  rw [sum_shift 64 fs.reverse (fun i x => x * 64 ^ i) (fun i x => by rw [Int.pow_succ, Int.mul_comm 64 (x * 64 ^ i), Int.mul_assoc])]
  simp
  omega
theorem step_yes {k : Int} {figs nums : List Int} (h : k / 64 % 2 = 0) : numStep (figs, nums) k = ([], nums ++ [num64 figs * 64 + k % 64]) := by
  unfold numStep
  rw [Int.fdiv_eq_ediv_of_nonneg _ (by decide), Int.fmod_eq_emod_of_nonneg _ (by decide), if_pos h, num64_snoc, Int.fmod_eq_emod_of_nonneg _ (by decide)]
theorem step_no {k : Int} {figs nums : List Int} (h : ¬ k / 64 % 2 = 0) : numStep (figs, nums) k = (figs ++ [k % 64], nums) := by
  unfold numStep
  rw [Int.fdiv_eq_ediv_of_nonneg _ (by decide), Int.fmod_eq_emod_of_nonneg _ (by decide), if_neg h, Int.fmod_eq_emod_of_nonneg _ (by decide)]
theorem fold_none : ∀ (ks figs nums : List Int), parse (num64 figs) ks = none → (ks.foldl numStep (figs, nums)).2 = nums
  | [], _, _, _ => rfl
  | k :: r, figs, nums, h => by
    rw [parse_cons] at h
    unfold parseB at h
    by_cases q : k / 64 % 2 = 0
    · rw [if_pos q] at h; cases h
    · rw [if_neg q, ← num64_snoc] at h
      rw [List.foldl_cons, step_no q]
      exact fold_none r _ _ h
theorem fold_some : ∀ (ks figs nums : List Int) (n : Int) (r : List Int), parse (num64 figs) ks = some (n, r) → ks.foldl numStep (figs, nums) = r.foldl numStep ([], nums ++ [n])
  | [], _, _, _, _, h => by cases h
  | k :: r, figs, nums, n, r', h => by
    rw [parse_cons] at h
    unfold parseB at h
    by_cases q : k / 64 % 2 = 0
    · rw [if_pos q] at h
      cases h
      rw [List.foldl_cons, step_yes q]
    · rw [if_neg q, ← num64_snoc] at h
      rw [List.foldl_cons, step_no q]
      exact fold_some r _ _ _ _ h
theorem fold_nums {ks ns : List Int} (h : NumsOf ks ns) : ∀ nums, (ks.foldl numStep ([], nums)).2 = nums ++ ns := by
  induction h with
  | stop h => intro nums; rw [fold_none _ [] _ (by rw [num64_nil]; exact h), List.append_nil]
  | more h _ ih => intro nums; rw [fold_some _ [] _ _ _ (by rw [num64_nil]; exact h), ih, List.append_assoc]; rfl
/-- both readers agree -/
theorem nums_agree {ks ns : List Int} (h : NumsOf ks ns) : numbersOf ks = ns := by
  unfold numbersOf
  rw [fold_nums h, List.nil_append]
theorem signs4_at (al os : List Int) {c n : Int} (hc : cnt4 os = c) (hn : num256 os = n) :
    signs4 al os = ((List.range c.toNat).map fun i : Nat => al.getD (((n * 4 ^ Int.toNat 0).fdiv (2 ^ (4 * (c - 1 - (i : Int))).toNat)).fmod 16).toNat 0) ++ (List.replicate (Int.toNat 0) [61]).flatten := by
  subst hc hn; rfl
abbrev hexL : List Int := List.drop 52 comL ++ List.take 6 comL
theorem hexL_at {i : Int} (h0 : 0 ≤ i) (h1 : i < 16) : hexL.getD i.toNat 0 = hexC i := by
  obtain ⟨n, rfl⟩ := Int.eq_ofNat_of_zero_le h0
  exact (by decide +kernel : ∀ n : Nat, n < 16 → hexL.getD (n : Int).toNat 0 = hexC (n : Int)) n (Int.ofNat_lt.mp h1)
theorem hexL_mod (x : Int) {d : Int} (h : 0 ≤ d) {y : Int} (e : x / d % 16 = y) : hexL.getD ((x.fdiv d).fmod 16).toNat 0 = hexC y := by
  rw [fdf16 _ h, hexL_at (Int.emod_nonneg _ (by decide)) (Int.emod_lt_of_pos _ (by decide)), e]
theorem signs_hex {os : List Int} (hl : os.length ≤ 3) (hr : KBa.In os) : signs4 hexL os = hexU os := by
  match os, hl, hr with
  | [], _, _ => rfl
  | [a], _, hr =>
    have ha := hr a (.head _)
    rw [signs4_at hexL [a] (c := 2) (n := a * 1 + 0) (by show (8 * ((1 : Nat) : Int) + 2 * 0).fdiv 4 = 2; decide) (by simp [num256])]
    show [hexL.getD ((((a * 1 + 0) * 1).fdiv 16).fmod 16).toNat 0, hexL.getD ((((a * 1 + 0) * 1).fdiv 1).fmod 16).toNat 0] = [hexC (a / 16), hexC (a % 16)]
    obtain ⟨ea, hx, hy⟩ := parts (d := 16) (e := 16) ha (by decide) rfl
    obtain ⟨-, -, -, -, e1, e0⟩ := six16 (lin16a ea) (zin (by decide)) (zin (by decide)) (zin (by decide)) (zin (by decide)) hx hy
    rw [hexL_mod _ (by decide) e1, hexL_mod _ (by decide) e0]
  | [a, b], _, hr =>
    have ha := hr a (.head _)
    have hb := hr b (.tail _ (.head _))
    rw [signs4_at hexL [a, b] (c := 4) (n := b * 1 + (a * 256 + 0)) (by show (8 * ((2 : Nat) : Int) + 2 * 0).fdiv 4 = 4; decide) (by simp [num256])]
    show [hexL.getD ((((b * 1 + (a * 256 + 0)) * 1).fdiv 4096).fmod 16).toNat 0, hexL.getD ((((b * 1 + (a * 256 + 0)) * 1).fdiv 256).fmod 16).toNat 0, hexL.getD ((((b * 1 + (a * 256 + 0)) * 1).fdiv 16).fmod 16).toNat 0, hexL.getD ((((b * 1 + (a * 256 + 0)) * 1).fdiv 1).fmod 16).toNat 0]
      = [hexC (a / 16), hexC (a % 16), hexC (b / 16), hexC (b % 16)]
    obtain ⟨ea, hx, hy⟩ := parts (d := 16) (e := 16) ha (by decide) rfl
    obtain ⟨eb, hz, hw⟩ := parts (d := 16) (e := 16) hb (by decide) rfl
    obtain ⟨-, -, e3, e2, e1, e0⟩ := six16 (lin16b ea eb) (zin (by decide)) (zin (by decide)) hx hy hz hw
    rw [hexL_mod _ (by decide) e3, hexL_mod _ (by decide) e2, hexL_mod _ (by decide) e1, hexL_mod _ (by decide) e0]
  | [a, b, c], _, hr =>
    have ha := hr a (.head _)
    have hb := hr b (.tail _ (.head _))
    have hc := hr c (.tail _ (.tail _ (.head _)))
    rw [signs4_at hexL [a, b, c] (c := 6) (n := c * 1 + (b * 256 + (a * 65536 + 0))) (by show (8 * ((3 : Nat) : Int) + 2 * 0).fdiv 4 = 6; decide) (by simp [num256])]
    show [hexL.getD ((((c * 1 + (b * 256 + (a * 65536 + 0))) * 1).fdiv 1048576).fmod 16).toNat 0, hexL.getD ((((c * 1 + (b * 256 + (a * 65536 + 0))) * 1).fdiv 65536).fmod 16).toNat 0, hexL.getD ((((c * 1 + (b * 256 + (a * 65536 + 0))) * 1).fdiv 4096).fmod 16).toNat 0, hexL.getD ((((c * 1 + (b * 256 + (a * 65536 + 0))) * 1).fdiv 256).fmod 16).toNat 0, hexL.getD ((((c * 1 + (b * 256 + (a * 65536 + 0))) * 1).fdiv 16).fmod 16).toNat 0, hexL.getD ((((c * 1 + (b * 256 + (a * 65536 + 0))) * 1).fdiv 1).fmod 16).toNat 0]
      = [hexC (a / 16), hexC (a % 16), hexC (b / 16), hexC (b % 16), hexC (c / 16), hexC (c % 16)]
    obtain ⟨ea, hx, hy⟩ := parts (d := 16) (e := 16) ha (by decide) rfl
    obtain ⟨eb, hz, hw⟩ := parts (d := 16) (e := 16) hb (by decide) rfl
    obtain ⟨ec, hu, hv⟩ := parts (d := 16) (e := 16) hc (by decide) rfl
    obtain ⟨e5, e4, e3, e2, e1, e0⟩ := six16 (lin16 ea eb ec) hx hy hz hw hu hv
    rw [hexL_mod _ (by decide) e5, hexL_mod _ (by decide) e4, hexL_mod _ (by decide) e3, hexL_mod _ (by decide) e2, hexL_mod _ (by decide) e1, hexL_mod _ (by decide) e0]
  | _ :: _ :: _ :: _ :: _, hl, _ => exact absurd hl (by simp)
theorem in_hexU {os : List Int} (hr : KBa.In os) : KBa.In (hexU os) := by
  have hc : ∀ i : Int, 0 ≤ i → i < 16 → 0 ≤ hexC i ∧ hexC i < 256 := fun i h0 h1 => by unfold hexC; split <;> omega
  intro x hx
  obtain ⟨k, hk, hx⟩ := List.mem_flatMap.mp hx
  have h := hr k hk
  rcases List.mem_cons.mp hx with rfl | hx
  · exact hc _ (by omega) (by omega)
  · rw [List.mem_singleton.mp hx]
    exact hc _ (by omega) (by omega)
theorem in_b64m {os : List Int} {p q : Int} (hp : 0 ≤ p ∧ p < 256) (hq : 0 ≤ q ∧ q < 256) : KBa.In ((b64 tabL os).map (trI p q)) := by
  intro x hx
  obtain ⟨k, hk, rfl⟩ := List.mem_map.mp hx
  have := in_b64 tabL_in os k hk
  unfold trI
  split
  · exact hp
  · split
    · exact hq
    · exact this
theorem len_hexU {os : List Int} (hl : os.length ≤ 3) : (hexU os).length ≤ 6 := by
  match os, hl with
  | [], _ => decide
  | [a], _ => exact (by decide : 2 ≤ 6)
  | [a, b], _ => exact (by decide : 4 ≤ 6)
  | [a, b, c], _ => exact Nat.le_refl 6
  | _ :: _ :: _ :: _ :: _, hl => exact absurd hl (by simp)
theorem len_b64m {os : List Int} {p q : Int} : ((b64 tabL os).map (trI p q)).length ≤ 6 := by
  rw [List.length_map]; exact Nat.le_trans (b64_len _ _) (by decide)

theorem off_29 : True := by
  w_top off
  exact trivial
section
variable {prog : Program} {w : World} {A : Around} {E : Value → Shared → Prop} {s : Shared} {env : Env} {elt : Expr} {scope : Scope} {cl : List (Str × Addr)} {Q : Value → Shared → Prop}
theorem comp_bytes {z : Str} {px : Pos} {b : Array UInt8} {t : Tok} {ks : List Int} (hh : A.handled = none) (hk : KBw.bInts b = ks) (hz : ks.length ≤ 1000)
    (hkind : scope.kind = .function) (hx : scope.names.lookup z = some .local)
    (turn : ∀ (k : Int) tc C m₂ h tk (E' : Value → Shared → Prop), h.Ns C m₂ → m₂ z = some (.int k tc) → s.heap.StaysIn h →
      wpAny (model prog w) A (eval elt (compEnvC scope cl C env)) (IntAt k h s) E' { s with heap := h, toks := tk })
    (fin : ∀ D ys h tk, h.get? D = some (LCg.lst ys) → IntsAre ys ks → s.heap.get? D = none → s.heap.StaysIn h → Q (.ref D) { s with heap := h, toks := tk }) :
    wpAny (model prog w) A (pyIter (.bytes b t)) (SrcK prog w A env elt (.Name z px) scope cl Q) E s := by
  subst hk
  refine KBw.pyIter_bytes ?_
  have W := KBw.walks (prog := prog) (w := w) hh s.heap.objs.size b t
  rw [KBw.ints_length] at hz
  refine srcK_walk (fun i y _ => ∃ t, y = .int ((KBw.bInts b).getD i 0) t) W hkind hx (fun b hb => ?_) ⟨_, Heap.get?_push_size _ rfl, rfl, rfl⟩ hz (fun _ _ _ _ h _ => h) ?_ ?_
  · rw [List.mem_singleton.mp hb]
    show s.heap.objs.size < (s.heap.push _).objs.size
    rw [Heap.size_push]; exact Nat.lt_succ_self _
  · rintro i v C m₂ h tk E' hin ⟨c, u, hc, rfl⟩ hC hx' hkeep hbig
    have e : (KBw.bInts b).getD i 0 = (c.toNat : Int) := by
      rw [List.getD_eq_getElem?_getD, KBw.ints_get hc]; rfl
    refine wpAny_mono (turn _ u C m₂ h tk E' hC hx' fun b o e => hkeep b o (fun hm => ?_) (Heap.get?_push_of_some _ e)) (fun y s₅ h₅ => ?_) fun _ _ e => e
    · rw [List.mem_singleton.mp hm] at e
      exact absurd (Heap.lt_size e) (Nat.lt_irrefl _)
    · obtain ⟨ty, k, rfl, rfl⟩ := h₅
      exact ⟨h, k, rfl, ⟨ty, by rw [e]⟩, fun _ _ e => e⟩
  · intro D ys h tk hD hyl hY hD0 hDs hkeep
    have q := intsOf (f := fun i => (KBw.bInts b).getD i 0) hyl hY
    have e : (List.range b.size).map (fun i => (KBw.bInts b).getD i 0) = KBw.bInts b := by
      apply List.ext_getElem?
      intro i
      rw [List.getElem?_map]
      by_cases hi' : i < b.size
      · have hi2 : i < (KBw.bInts b).length := by rw [KBw.ints_length]; exact hi'
        rw [List.getElem?_range hi', Option.map_some, List.getD_eq_getElem?_getD, List.getElem?_eq_getElem hi2]
        rfl
      · rw [List.getElem?_eq_none (by rw [List.length_range]; omega), List.getElem?_eq_none (by rw [KBw.ints_length]; omega)]
        rfl
    rw [e] at q
    refine fin D ys h tk hD q ?_ fun b o e => hkeep b o (fun hm => ?_) (Heap.get?_push_of_some _ e)
    · cases e : s.heap.get? D with
      | none => rfl
      | some o => have := hD0; rw [Heap.get?_push_of_some _ e] at this; cases this
    · rw [List.mem_singleton.mp hm] at e
      exact absurd (Heap.lt_size e) (Nat.lt_irrefl _)
/-- a list of pairs, as data -/
def pairsD (ns : List Int) : PyData := .list (ns.map fun n => .tuple [.int n, .int n])
theorem reads_pairs {h : Heap} : ∀ (ys : List Value) (ns : List Int), ys.length = ns.length → (∀ (i : Nat) (y : Value), ys[i]? = some y → ∃ C t n, y = .ref C ∧ ns[i]? = some n ∧ h.get? C = some { cls := .type "tuple", data := .seq #[.int n t, .int n t] }) →
    ∃ as, ReadsAll h ys (ns.map fun n => .tuple [.int n, .int n]) as
  | [], [], _, _ => ⟨[], .nil⟩
  | y :: r, n :: ns, hl, H => by
    obtain ⟨C, t, n', rfl, e, hC⟩ := H 0 y rfl
    cases e
    obtain ⟨as, hr⟩ := reads_pairs r ns (by simpa using hl) fun i y hy => H (i + 1) y (by simpa using hy)
    exact ⟨_, .cons (.tuple hC rfl rfl (.cons (.int _ _) (.cons (.int _ _) .nil))) hr⟩
  | [], _ :: _, hl, _ => by cases hl
  | _ :: _, [], hl, _ => by cases hl
theorem comp_pairs {z : Str} {px p1 p2 tp : Pos} {kk : Nat} {l : Addr} {vs : List Value} {ns : List Int} (hh : A.handled = none) (hl : s.heap.IsList l vs.toArray) (hi : IntsAre vs ns) (hz : ns.length ≤ 1000)
    (hkind : scope.kind = .function) (hx : scope.names.lookup z = some .local) (hkd : ∀ C, (compEnvC scope cl C env).scope.kind = .function) (hkl : ∀ C, (compEnvC scope cl C env).kindOf z = some .local) (hdb : (z == ("__debug__" : Str)) = false)
    (fin : ∀ D h tk as, Reads h (.ref D) (pairsD ns) as → s.heap.StaysIn h → Q (.ref D) { s with heap := h, toks := tk }) :
    wpAny (model prog w) A (pyIter (.ref l)) (SrcK prog w A env (.Tuple [.Name z p1, .Name z p2] kk tp) (.Name z px) scope cl Q) E s := by
  have hlt : l < s.heap.objs.size := by obtain ⟨_, e, _⟩ := id hl; exact Heap.lt_size e
  refine wpAny_pyIter_list hl ?_
  have W := Walks.list (prog := prog) (w := w) hh s.heap.objs.size l (Nat.ne_of_lt hlt) vs.toArray
  have hsz : vs.toArray.size = ns.length := by simp [hi.length]
  rw [hsz] at W
  refine srcK_walk (fun i y h => ∃ C t, y = .ref C ∧ s.heap.objs.size + 3 ≤ C ∧ h.get? C = some { cls := .type "tuple", data := .seq #[.int (ns.getD i 0) t, .int (ns.getD i 0) t] }) W hkind hx (fun b hb => ?_) ⟨⟨_, Heap.get?_push_size _ rfl, rfl, rfl⟩, hl.push _⟩ hz ?_ ?_ ?_
  · have : b = s.heap.objs.size ∨ b = l := by simpa using hb
    show b < (s.heap.push _).objs.size
    rw [Heap.size_push]
    rcases this with rfl | rfl
    · exact Nat.lt_succ_self _
    · exact Nat.lt_succ_of_lt hlt
  · rintro i y h h' ⟨C, t, rfl, hC, e⟩ hk
    refine ⟨C, t, rfl, hC, hk C _ ?_ e⟩
    show (s.heap.push _).objs.size + 2 ≤ C
    rw [Heap.size_push]; exact hC
  · rintro i v C m₂ h tk E' hin hv hC hx' hkeep hbig
    obtain ⟨n, t, rfl, hn⟩ := IntsAre.at hi i v (by simpa using hv)
    have e : ns.getD i 0 = n := by rw [List.getD_eq_getElem?_getD, hn]; rfl
    refine wpAny_Tuple (Calls.spliced_cons (nameQ hC hx' (Calls.spliced_cons (nameQ hC hx' (Calls.spliced_nil ?_) (hkd C) (hkl C) hdb)) (hkd C) (hkl C) hdb))
    refine ⟨by rw [sizeLine_eq]; exact (by decide : 2 ≤ 16777216), _, _, rfl, ⟨_, t, rfl, ?_, ?_⟩, ?_⟩
    · have hb : (s.heap.push _).objs.size + 2 ≤ h.objs.size := hbig
      rw [Heap.size_push] at hb; exact hb
    · rw [e]; exact Heap.get?_push_size _ rfl
    · exact fun b o e => Heap.get?_push_of_some _ e
  · intro D ys h tk hD hyl hY hD0 hDs hkeep
    obtain ⟨as, hr⟩ := reads_pairs ys ns hyl fun i y hy => by
      obtain ⟨C, t, rfl, _, e⟩ := hY i y hy
      have hi' : i < ns.length := by rw [← hyl]; exact (List.getElem?_eq_some_iff.mp hy).1
      have e2 : ns[i]? = some (ns.getD i 0) := by rw [List.getD_eq_getElem?_getD, List.getElem?_eq_getElem hi']; rfl
      exact ⟨C, t, _, rfl, e2, e⟩
    refine fin D h tk _ (.list hD rfl rfl hr) fun b o e => hkeep b o (fun hm => ?_) (Heap.get?_push_of_some _ e)
    rw [List.mem_singleton.mp hm] at e
    exact absurd (Heap.lt_size e) (Nat.lt_irrefl _)
end

theorem off_30 : True := by
  w_top off
  exact trivial
section
variable {h₀ h' : Heap} {L : Addr} {m' m : Str → Option Value} {news news' own : List (Addr × Obj)} {C c : Addr} {cv : List Value} {o : Obj} {v : Option Value} {s : Shared} {tk : Nat}
/-- the end of a turn of the law's loop -/
theorem turn_end (F : Fr h₀ L h' m') (N : News h₀ L h' news') (hm : m' (Str.ofString "common") = some (.ref C)) (ho : o.data = .cell v) (h1 : (C, LCg.lst cv) ∈ news') (h2 : (c, o) ∈ news') (h3 : ∀ p ∈ own, p ∈ news')
    (hoff : ∀ p ∈ own, p.1 ≠ C ∧ p.1 ≠ c) : TbEnd h₀ L (lawJ C c cv) own s { s with heap := h', toks := tk } := by
  refine ⟨h', tk, m', news', [(C, LCg.lst cv), (c, o)], rfl, F, N, ?_, h3, ?_, o, v, m', ?_, ho, rfl⟩
  · intro p hp
    rcases List.mem_cons.mp hp with rfl | hp
    · exact h1
    · rw [List.mem_singleton.mp hp]; exact h2
  · intro p hp q hq
    rcases List.mem_cons.mp hq with rfl | hq
    · exact (hoff p hp).1
    · rw [List.mem_singleton.mp hq]; exact (hoff p hp).2
  · funext y
    by_cases e : y = Str.ofString "common"
    · rw [if_pos e, e, hm]
    · rw [if_neg e]
/-- where the signs that the law has written stand beside what it was told -/
def TailP (h₀ : Heap) (L : Addr) (m : Str → Option Value) (news : List (Addr × Obj)) (s s' : Shared) : Prop :=
  ∃ (La : Value) (D S : Addr) (oS : Obj) (t' nS : Nat) (ks : List Int) (ss : List Value) (h' : Heap) (tk' : Nat), s' = { s with heap := h', toks := tk' } ∧ t' ≠ 0 ∧ KBa.In ks ∧ ks.length ≤ 6 ∧ IntsAre ss ks ∧ oS.cls = .type "list" ∧ oS.data = .seq ss.toArray nS ∧
    Fr h₀ L h' (fun y => if y = Str.ofString "signs" then some (.ref S) else if y = Str.ofString "last" then some La else if y = Str.ofString "told" then some (.ref D) else m y) ∧
    News h₀ L h' ((S, oS) :: (D, { cls := .type "tuple", data := .seq #[.bytes (byteArr ks) t', .bytes (byteArr ks) t'] }) :: news)
end
section
variable {prog : Program} {w : World} {A : Around} {E : Value → Shared → Prop} {s : Shared} {env : Env} {Q : Flow → Shared → Prop} {R : Value → Shared → Prop}
theorem isnot_bytes {M : Model} {b : Array UInt8} {t : Nat} (ht : t ≠ 0) (h : R (.bool false) s) : wpAny M A (compareOp .IsNot (.bytes b t) (.bytes b t)) R E s := by
  have q : (t == 0) = false := by simpa using ht
  have e : isSame (.bytes b t) (.bytes b t) = pure true := by
    show isSame.created (b == b) t t = _
    unfold isSame.created
    have q' : ((t : Tok) == 0) = false := q
    simp [q']
  show wpAny _ _ (isSame _ _ >>= fun x => pure (Value.bool (!x))) _ _ _
  rw [e]
  exact wpAny_bind (wpAny_pure (wpAny_pure h))
theorem tail_cut {h₀ : Heap} {L : Addr} {m : Str → Option Value} {news : List (Addr × Obj)} {t4 t3 t2 : Expr} {b4 b3 b2 : List Stmt} {A1 A2 I1 I2 T : Stmt} {p4 p3 p2 : Pos} (_F : Fr h₀ L s.heap m) (_N : News h₀ L s.heap news)
    (main : (∀ s', TailP h₀ L m news s s' → wpAny (model prog w) A (execs [I1, I2] env) Q E s') → wpC (model prog w) A (execs [T, .If t4 b4 [.If t3 b3 [.If t2 b2 [A1, A2, I1, I2] p2] p3] p4] env) Q E s)
    (tail : ∀ s', TailP h₀ L m news s s' → wpAny (model prog w) A (execs [I1, I2] env) Q E s') : wpC (model prog w) A (execs [T, .If t4 b4 [.If t3 b3 [.If t2 b2 [A1, A2, I1, I2] p2] p3] p4] env) Q E s := main tail
end
theorem pairs_lay : ∀ ns : List Int, PyData.canLayAll0 (ns.map fun n => PyData.tuple [.int n, .int n]) = true
  | [] => by simp [PyData.canLayAll0]
  | n :: r => by simp [PyData.canLayAll0, PyData.canLay0, pairs_lay r]
theorem pairs_depth : ∀ ns : List Int, PyData.depthAll (ns.map fun n => PyData.tuple [.int n, .int n]) ≤ 1
  | [] => by simp [PyData.depthAll]
  | n :: r => by
    have h := pairs_depth r
    simp [PyData.depthAll, PyData.depth, h]
theorem pairsD_lay (ns : List Int) : (pairsD ns).canLay0 = true := by
  unfold pairsD
  rw [PyData.canLay0]
  exact pairs_lay ns
theorem pairsD_shaped (ns : List Int) : SeqAt.shaped (pairsD ns) = true := by
  have h := pairs_depth ns
  have : PyData.depth (pairsD ns) ≤ 64 := by
    unfold pairsD
    rw [PyData.depth]
    omega
  unfold SeqAt.shaped
  rw [pairsD_lay, decide_eq_true this]
  rfl
theorem pairsOf_at {h : Heap} {ts : List (Addr × Obj)} {ps : List Value} {ns : List Int} (H : PairsOf ts ps ns) (hh : ∀ p ∈ ts, h.get? p.1 = some p.2) :
    ps.length = ns.length ∧ ∀ (i : Nat) (y : Value), ps[i]? = some y → ∃ C t n, y = .ref C ∧ ns[i]? = some n ∧ h.get? C = some { cls := .type "tuple", data := .seq #[.int n t, .int n t] } := by
  induction H with
  | nil => exact ⟨rfl, fun i y e => by cases e⟩
  | @snoc ts ps ns p v n _ hp ih =>
    obtain ⟨i1, i2⟩ := ih fun q hq => hh q (.tail _ hq)
    refine ⟨by simp [i1], fun i y e => ?_⟩
    rcases Nat.lt_or_ge i ps.length with hi | hi
    · rw [List.getElem?_append_left hi] at e
      obtain ⟨C, t, n', q1, q2, q3⟩ := i2 i y e
      exact ⟨C, t, n', q1, by rw [List.getElem?_append_left (by omega)]; exact q2, q3⟩
    · rw [List.getElem?_append_right hi] at e
      have e0 : i - ps.length = 0 := by
        rcases Nat.eq_zero_or_pos (i - ps.length) with z | z
        · exact z
        · rw [List.getElem?_eq_none (show [v].length ≤ i - ps.length from z)] at e; cases e
      rw [e0] at e
      obtain rfl : v = y := by simpa using e
      obtain ⟨rfl, t, ht⟩ := hp
      refine ⟨p.1, t, n, rfl, ?_, by rw [← ht]; exact hh p (.head _)⟩
      rw [List.getElem?_append_right (by omega), ← i1, e0]; rfl
theorem reads_left {h : Heap} {D : Addr} {k : Nat} {ts : List (Addr × Obj)} {ps : List Value} {ns : List Int} (H : PairsOf ts ps ns) (hh : ∀ p ∈ ts, h.get? p.1 = some p.2) (hD : h.get? D = some (W.listOf ps.toArray k)) : ∃ as, Reads h (.ref D) (pairsD ns) as := by
  obtain ⟨h1, h2⟩ := pairsOf_at H hh
  obtain ⟨as, hr⟩ := reads_pairs ps ns h1 h2
  exact ⟨_, .list hD rfl rfl (by simpa using hr)⟩
theorem parse_len : ∀ (ks : List Int) (v n : Int) (r : List Int), parse v ks = some (n, r) → r.length < ks.length
  | [], _, _, _, h => by cases h
  | k :: q, v, n, r, h => by
    unfold parse at h
    split at h
    · cases h; exact Nat.lt_succ_self _
    · exact Nat.lt_succ_of_lt (parse_len q _ _ _ h)
theorem nums_len {ks ns : List Int} (h : NumsOf ks ns) : ns.length ≤ ks.length := by
  induction h with
  | stop => exact Nat.zero_le _
  | more h _ ih => exact Nat.le_trans (Nat.succ_le_succ ih) (parse_len _ _ _ _ h)
section
variable {prog : Program} {w : World} {A : Around} {E : Value → Shared → Prop} {s : Shared} {R : Value → Shared → Prop}
theorem ne_pairs {a b : Value} {ns : List Int} {as bs : List Addr} (ha : Reads s.heap a (pairsD ns) as) (hb : Reads s.heap b (pairsD ns) bs) (hu : A.units + 64 < cLine) (h : R (.bool false) s) : wpAny (model prog w) A (compareOp .NotEq a b) R E s := by
  refine PyProof.Rows.ne_dataH ha hb (pairsD_shaped _) (pairsD_shaped _) hu ?_
  rw [SeqAt.eqv_refl _ (pairsD_lay _)]
  exact h
end
section
variable {M : Model} {A : Around} {E E' : Value → Shared → Prop} {s : Shared} {env : Env} {Q Q' : Flow → Shared → Prop} {h₀ h' : Heap} {L D S : Addr} {m : Str → Option Value} {news nl : List (Addr × Obj)} {l : List Stmt} {La : Value} {oS : Obj} {t' nS tk' : Nat} {ks : List Int} {ss : List Value}
theorem tail_go (tail : ∀ s', TailP h₀ L m news s s' → wpAny M A (execs l env) Q E s')
    (F : Fr h₀ L h' (fun y => if y = Str.ofString "signs" then some (.ref S) else if y = Str.ofString "last" then some La else if y = Str.ofString "told" then some (.ref D) else m y)) (N : News h₀ L h' nl) (hS : (S, oS) ∈ nl)
    (hD : (D, ({ cls := .type "tuple", data := .seq #[.bytes (byteArr ks) t', .bytes (byteArr ks) t'] } : Obj)) ∈ nl) (hn : ∀ p ∈ news, p ∈ nl) (ht' : t' ≠ 0) (hIn : KBa.In ks) (hLn : ks.length ≤ 6) (hSs : IntsAre ss ks) (hcS : oS.cls = .type "list") (hdS : oS.data = .seq ss.toArray nS)
    (hQ : ∀ f s', Q f s' → Q' f s') (hE : ∀ e s', E e s' → E' e s') : wpAny M A (execs l env) Q' E' { s with heap := h', toks := tk' } := by
  refine wpAny_mono (tail _ ⟨La, D, S, oS, t', nS, ks, ss, h', tk', rfl, ht', hIn, hLn, hSs, hcS, hdS, F, fun p hp => ?_⟩) hQ hE
  rcases List.mem_cons.mp hp with rfl | hp
  · exact N _ hS
  rcases List.mem_cons.mp hp with rfl | hp
  · exact N _ hD
  exact N _ (hn p hp)
end
theorem sub_AE : isSubtype (.type "AssertionError") (.type "BaseException") = pure true := by rw [isSubtype_type]; kernel_rfl
theorem sub_TE : isSubtype (.type "TypeError") (.type "BaseException") = pure true := by rw [isSubtype_type]; kernel_rfl
theorem sub_AN : isSubtype (.type ((Manifest.find? "AssertionError").elim "type" fun y => y.metatype)) (.type "tuple") = pure false := by rw [isSubtype_type]; kernel_rfl
theorem sub_TN : isSubtype (.type ((Manifest.find? "TypeError").elim "type" fun y => y.metatype)) (.type "tuple") = pure false := by rw [isSubtype_type]; kernel_rfl
theorem fun_51 {w : World} {h : Heap} (X : (hd.heap_39 w.params).In h) : ∃ o fd, h.get? 51 = some o ∧ o.data = .func fd := by
  k_dflt (refine' fun_at X ?k6; (case k6 => k_is))

theorem off_40 : True := by
  w_top off
  exact trivial
theorem say_40_50 : True := by
  k_with "m stepsC" => (repeat' ((fail_if_success (with_reducible show wpAny _ _ (exec (PySem.Stmt.Assign _ (PySem.Expr.ListComp _ _ _ _) _) _) _ _ _)); first | (k_unfold; (try dsimp only)) | (k_end; wrow_close) | walk1 | (dsimp only; walk1) | (leave1; walk_say "STEP leave1"; try dsimp only) | fail "no step"))
  exact trivial
theorem say_40_51 : True := by
  k_with "m stepsM" => (repeat' ((fail_if_success (with_reducible show ForMid _ _ _ _ _ _ _)); first | (k_unfold; (try dsimp only)) | (k_end; wrow_close) | walk1 | (dsimp only; walk1) | (leave1; walk_say "STEP leave1"; try dsimp only) | fail "no step"))
  exact trivial
section
variable {prog : Program} {w : World} {A : Around} {E : Value → Shared → Prop} {s : Shared} {l : Addr} {vs : List Value} {ns : List Int} {Q : Value → Shared → Prop}
theorem len_ints (hl : s.heap.IsList l vs.toArray) (hi : IntsAre vs ns) (hz : ns.length ≤ 1000) (h : ∀ t k, Q (.int ns.length t) { s with toks := k }) : wpAny (model prog w) A (call (.builtin "len") [.ref l]) Q E s := by
  have e : vs.toArray.size = ns.length := by rw [List.size_toArray, hi.length]
  refine len_list hl (by rw [e]; omega) ?_
  rw [e]
  exact h _ _
end
theorem up_gen {vs : List Value} {f : Int → Int} {a c : Int} (h : IntsAre vs ((List.range (c - a).toNat).map fun i : Nat => f (a + (i : Int)))) (h0 : a ≤ c) (hf : ∀ k, 0 ≤ f k ∧ f k < 256) : ∃ os, IntsAre vs os ∧ (os.length : Int) = c - a ∧ KBa.In os := by
  refine ⟨_, h, ?_, ?_⟩
  · rw [List.length_map, List.length_range]; omega
  · intro x hx
    obtain ⟨i, _, rfl⟩ := List.mem_map.mp hx
    exact hf _
theorem fmod256 (n : Int) : 0 ≤ n.fmod 256 ∧ n.fmod 256 < 256 := ⟨Int.fmod_nonneg_of_pos n (by decide), Int.fmod_lt_of_pos n (by decide)⟩
theorem say_40_52 : True := by
  k_with "call builtin:len" => ((k_here; (with_reducible show wpAny _ _ (call (Value.builtin "len") [Value.ref _]) _ _ _); k_dflt (refine' len_ints ?l_q ?i_q ?a_q ?_; (case l_q => exact News.isList (by k_asm) (by k_mem)); (case i_q => assumption); (case a_q => omega)); intro _ _))
  exact trivial
theorem say_40_53 : True := by
  k_with "call type:bytes" => ((k_here; (with_reducible show wpAny _ _ (call (Value.type "bytes") [Value.ref _]) _ _ _); k_dflt (refine' KBa.make_K ?F_q ?N_q ?h_q ?l_q ?i_q ?r_q ?z_q ?_; (case F_q => k_asm); (case N_q => k_asm); (case h_q => rfl); (case l_q => exact News.isList (by k_asm) (by k_mem)); (case i_q => assumption); (case r_q => assumption); (case z_q => omega)); intro h_r' t_r' k_r' F_r' N_r' hin_r'; (try dsimp only at F_r' N_r'); (try k_sweep)))
  exact trivial
theorem say_40_54 : True := by
  k_with "m stepsE" => (repeat' ((fail_if_success (with_reducible show wpAny _ _ (execs [PySem.Stmt.If _ _ _ _, PySem.Stmt.If _ _ _ _] _) _ _ _)); first | (k_unfold; (try dsimp only)) | (k_end; wrow_close) | walk1 | (dsimp only; walk1) | (leave1; walk_say "STEP leave1"; try dsimp only) | fail "no step"))
  exact trivial
theorem fmod5 (n : Int) : n.fmod 5 = 0 ∨ n.fmod 5 = 1 ∨ n.fmod 5 = 2 ∨ n.fmod 5 = 3 ∨ n.fmod 5 = 4 := by
  have h1 := Int.fmod_nonneg_of_pos n (b := 5) (by decide)
  have h2 := Int.fmod_lt_of_pos n (b := 5) (by decide)
  omega
theorem fmod5_lt (n : Int) : n.fmod 5 < 2 ^ 63 := by
  have h2 := Int.fmod_lt_of_pos n (b := 5) (by decide)
  omega
def wrV (r : Int) : Value := ([.ref 97, .ref 104, .ref 111, .ref 118, .none] : List Value).getD r.toNat .none
theorem fmod4 (n : Int) : 0 ≤ n.fmod 4 ∧ n.fmod 4 < 4 := ⟨Int.fmod_nonneg_of_pos n (by decide), Int.fmod_lt_of_pos n (by decide)⟩
theorem fmod5b (n : Int) : 0 ≤ n.fmod 5 ∧ n.fmod 5 < 5 := ⟨Int.fmod_nonneg_of_pos n (by decide), Int.fmod_lt_of_pos n (by decide)⟩
theorem say_40_55 : True := by
  k_with "m stepsT" => (repeat' ((fail_if_success (with_reducible show wpAny _ _ (exec (PySem.Stmt.Try _ _ _ _ _) _) _ _ _)); first | (k_unfold; (try dsimp only)) | (k_end; wrow_close) | walk1 | (dsimp only; walk1) | (leave1; walk_say "STEP leave1"; try dsimp only) | fail "no step"))
  exact trivial
theorem say_40_56 : True := by
  k_with "m stepsG" => (repeat' ((fail_if_success (with_reducible show wpAny _ _ (call (Value.ref 51) _ _) _ _ _)); first | (k_unfold; (try dsimp only)) | (k_end; wrow_close) | walk1 | (dsimp only; walk1) | (leave1; walk_say "STEP leave1"; try dsimp only) | fail "no step"))
  exact trivial
theorem say_40_57 : True := by
  k_with "m stepsW" => (repeat' ((fail_if_success (with_reducible show wpAny _ _ (callWith _ (Value.ref _) _ _ [_]) _ _ _)); first | (k_unfold; (try dsimp only)) | (k_end; wrow_close) | walk1 | (dsimp only; walk1) | (leave1; walk_say "STEP leave1"; try dsimp only) | fail "no step"))
  exact trivial
theorem say_40_58 : True := by
  k_with "m stepsK" => (repeat' ((fail_if_success (with_reducible show wpAny _ _ (call (Value.ref 123) _ _) _ _ _)); (fail_if_success (with_reducible show wpAny _ _ (call (Value.ref 128) _ _) _ _ _)); (fail_if_success (with_reducible show wpAny _ _ (call (Value.ref 135) _ _) _ _ _)); (fail_if_success (with_reducible show wpAny _ _ (compareOp CmpOp.NotEq (Value.ref _) (Value.ref _)) _ _ _)); first | (k_unfold; (try dsimp only)) | (k_end; wrow_close) | walk1 | (dsimp only; walk1) | (leave1; walk_say "STEP leave1"; try dsimp only) | fail "no step"))
  exact trivial
theorem say_40_59 : True := by
  k_with "m stepsY" => (repeat' ((fail_if_success (with_reducible show wpAny _ _ (call (Value.ref 123) _ _) _ _ _)); (fail_if_success (with_reducible show wpAny _ _ (call (Value.ref 128) _ _) _ _ _)); (fail_if_success (with_reducible show wpAny _ _ (call (Value.ref 135) _ _) _ _ _)); (fail_if_success (with_reducible show wpAny _ _ (call (Value.type "bytes") [Value.ref _] _) _ _ _)); (fail_if_success (with_reducible show wpAny _ _ (pyIter _) _ _ _)); (fail_if_success (with_reducible show wpAny _ _ (compareOp CmpOp.NotEq (Value.ref _) (Value.ref _)) _ _ _)); first | (k_unfold; (try dsimp only)) | (k_end; wrow_close) | walk1 | (dsimp only; walk1) | (leave1; walk_say "STEP leave1"; try dsimp only) | fail "no step"))
  exact trivial
theorem final_try : PySem.Challenge.rw_ik0020_01.Holds := by
  refine hd ?_
  w_strict (
    k_fill
    intro w s₀ s₁ mg mb G Y fa o pm cd doc dV kV ho hd' hcd hD hmg hg args vals as hpre hlay hrd hwl hlo
    have KX := kIn_of Y
    have X := (Ground.X G).1
    have V := (Ground.X G).2
    have GL := glob_more (Ground.glob G (by first | k_qdec | decide +kernel) (by first | k_qdec | decide +kernel)) V
    refine Ground.open G ?_
    intro T B D TE TW
    clear D
    obtain ⟨_, _, M⟩ := bmod_of_top T
    have TA := at_of_top T
    (obtain ⟨_, _, he, B0⟩ := based_of_top T rfl hmg ho hd'; have he' : cd = _ := he; subst he'; clear he)
    clear hmg
    wrow_args hpre hlay hrd hwl hlo
    have he := Dflts.none hD rfl
    subst he
    have he := Dflts.noKw hD
    subst he
    have K0 := below_caller (Top.heap T)
    w_top on
    refine wpC_call (law_callC (by decide) ho (fd_plain hd') (Top.nolimit T) hcd rfl (by rfl) (by decide) fun h₁ tk₁ cells F N0 X0 => ?_)
    cells_open X0
    clear hd' TA
    k_drop
    refine C_app (k := [_]) (l := [_, _]) ?_
    k_fold
    walk_at "m stepsC"
    (try dsimp only)
    walk_at "m asg"
    walk_at "m stepsI"
    refine comp_str (by rfl) (by decide +kernel) (by decide +kernel) (by rfl) (by rfl) ?turn ?fin
    case' turn => (intro i' c' tc' C' m2' h' tk' E' hc' hn' hm' hst')
    case turn =>
      k_steps
    case' fin => walk_at "m fin"
    k_steps
    rename Fr _ _ _ _ => kF
    rename News _ _ _ _ => kN
    rename IntsAre _ (List.map _ _) => hcom
    rename (∀ (p : Addr × Obj), p ∈ _ → p.1 ≠ _) => ap'
    refine C_cons (C_For kF kN rfl (by rfl) (by rfl) (by rfl) (by intro _; rfl) (lawJ _ _ _) ⟨_, _, _, rfl, by assumption, rfl⟩ ?midL ?turnL ?doneL)
    case midL =>
      walk_at "m stepsM"
      · refine forMid_of (by assumption) (by assumption) (by k_mem) (News.isList (by k_asm) (by k_mem)) (.cons _ _ .nil) (by decide) (fun p hp => .tail _ (.tail _ hp)) fun p hp => ?_
        rcases List.mem_cons.mp hp with rfl | hp
        · exact Nat.ne_of_lt (by assumption : _ < _ ∧ _ < _ ∧ _ < _).2.1
        · rw [List.mem_singleton.mp hp]; exact Nat.ne_of_lt (by assumption : _ < _ ∧ _ < _ ∧ _ < _).2.2
      · refine forMid_of (by assumption) (by assumption) (by k_mem) (News.isList (by k_asm) (by k_mem)) (by assumption) (by rw [List.length_take]; exact Nat.min_le_left _ _) (fun p hp => .tail _ (.tail _ hp)) fun p hp => ?_
        rcases List.mem_cons.mp hp with rfl | hp
        · exact Nat.ne_of_lt (by assumption : _ < _ ∧ _ < _ ∧ _ < _).2.1
        · rw [List.mem_singleton.mp hp]; exact Nat.ne_of_lt (by assumption : _ < _ ∧ _ < _ ∧ _ < _).2.2
    case doneL =>
      rintro m₁ nx h tk ⟨o, v, u, rfl, ho, rfl⟩ F₂ N₂
      clear kF kN
      refine wpC_of ?_
      k_steps
      (try dsimp only)
      refine GoodW.toG ?_
      k_steps
    case turnL =>
      rintro n t m₁ nx h₂ tk own hoff ⟨o, v, u, rfl, hov, rfl⟩ F₂ N₂
      clear kF kN
      dsimp only at F₂
      try simp only [List.cons_append, List.nil_append] at N₂
      refine C_app (k := [_, _, _, _]) (l := [_, _]) ?_
      k_fold
      walk_at "m stepsS"
      have hCc := Ne.symm (ap' _ (.head _))
      refine storeX_C (by k_asm) (by k_asm) (by rfl) (.tail hCc (.head (fun p hp => hoff p hp _ (.tail _ (.head _))))) hov ?_
      intro h₃ o₃ F₃ N₃ hov₃
      dsimp only at N₃
      clear N₂ F₂
      have hOC : ∀ p ∈ own, p.1 ≠ _ := fun p hp => hoff p hp _ (.head _)
      walk_at "m stepsS"
      have h5 : n.fmod 5 = 0 ∨ n.fmod 5 = 1 ∨ n.fmod 5 = 2 ∨ n.fmod 5 = 3 ∨ n.fmod 5 = 4 := fmod5 n
      refine item_listR (x := wrV (n.fmod 5)) (News.isList (by k_asm) (by k_mem)) (Int.fmod_nonneg_of_pos n (by decide)) (fmod5_lt n) ?hx5 ?_
      case hx5 => rcases h5 with e | e | e | e | e <;> rw [e] <;> rfl
      k_sweep
      walk_at "m stepsC"
      have hb4 := fmod4 (n.fdiv 5)
      have hb5 := fmod5b (n.fdiv 20)
      walk_at "m asg"
      walk_at "m stepsI"
      refine comp_up (fun k => ((n.fdiv 100 + 194871471361).fdiv (256 ^ k.toNat)).fmod 256) (by rfl) (by assumption) (by decide) (by omega) (by omega) (by rfl) (by rfl) ?turnO ?finO
      case' turnO => (intro i' tx' C' m2' h' tk' E' hi0' hi1' hC' hm' hst')
      case' turnO => k_steps
      case' finO => walk_at "m fin"
      rename IntsAre _ (List.map (fun i => Int.fmod _ _) (List.range _)) => hys
      obtain ⟨os, hos, hosL, hosR⟩ := up_gen (f := fun k => ((n.fdiv 100 + 194871471361).fdiv (256 ^ k.toNat)).fmod 256) hys (by omega) (fun k => fmod256 _)
      clear hys
      walk_at "m stepsC"
      walk_at "m asg"
      walk_at "m stepsI"
      refine comp_up (fun k => ((n.fdiv 100 + 194871471361).fdiv (256 ^ k.toNat)).fmod 256) (by rfl) (by assumption) (by decide) (by omega) (by omega) (by rfl) (by rfl) ?turnA ?finA
      case' turnA => (intro i' tx' C' m2' h' tk' E' hi0' hi1' hC' hm' hst')
      case' turnA => k_steps
      case' finA => walk_at "m fin"
      rename IntsAre _ (List.map (fun i => Int.fmod _ _) (List.range _)) => hys
      obtain ⟨bs, hbs, hbsL, hbsR⟩ := up_gen (f := fun k => ((n.fdiv 100 + 194871471361).fdiv (256 ^ k.toNat)).fmod 256) hys (by omega) (fun k => fmod256 _)
      clear hys
      k_steps
      rename Fr _ _ _ _ => kF
      rename News _ _ _ _ => kN
      refine tail_cut kF kN ?mainT ?tailT
      case tailT =>
        rintro s' ⟨La, D, S, oS, t', nS, ks, ss, h', tk', rfl, ht', hIn, hLn, hSs, hcS, hdS, F, N⟩
        clear kF kN
        k_fold
        walk_at "m stepsY"
        rename Fr _ _ _ _ => kF
        rename News _ _ _ _ => kN
        refine KBa.make_K kF kN rfl ⟨oS, (kN (S, oS) (by k_mem)).1, hcS, nS, hdS⟩ hSs hIn (by omega) ?_
        intro h₇ t₇ k₇ F₇ N₇ _
        clear kF kN
        walk_at "m stepsY"
        rename Fr _ _ _ _ => kF
        rename News _ _ _ _ => kN
        refine KBa.make_K kF kN rfl ⟨oS, (kN (S, oS) (by k_mem)).1, hcS, nS, hdS⟩ hSs hIn (by omega) ?_
        intro h₈ t₈ k₈ F₈ N₈ _
        clear kF kN
        walk_at "m stepsY"
        rename Fr _ _ _ _ => kF
        rename News _ _ _ _ => kN
        refine ne_pair (kN.get (by k_mem)) (kN.get (by k_mem)) (by first | units_room | exact Nat.le_of_ble_eq_true rfl) eqAt_bytes eqAt_bytes ?_
        walk_at "m stepsY"
        refine isnot_bytes ht' ?_
        walk_at "m stepsY"
        rename Fr _ _ _ _ => kF
        rename News _ _ _ _ => kN
        refine comp_bytes (by rfl) (KBa.ints_make hIn) (by omega) (by rfl) (by rfl) ?turnS ?finS
        case' turnS => (intro k' tc' C' m2' h' tk' E' hC' hm' hst')
        case turnS => k_steps
        case' finS => (intro lS yS h' tk' hlS hyS hlS0 hst')
        have F₉ := Fr.keptAll kF hst'
        have N₉ := news_add kF kN hst' hlS hlS0
        clear kF kN hst' hlS0 hlS
        walk_at "m stepsY"
        rename Fr _ _ _ _ => kF
        rename News _ _ _ _ => kN
        refine sp_read K0 kF KX kN T rfl rfl rfl rfl (Nat.le_of_ble_eq_true rfl) ⟨LCg.lst yS, by k_mem, rfl, _, rfl⟩ hyS hIn (by omega) ?_
        intro h₁₀ tk₁₀ R ts ps ns kR hNums hPairs F₁₀ N₁₀
        clear kF kN
        walk_at "m stepsY"
        rename Fr _ _ _ _ => kF
        rename News _ _ _ _ => kN
        refine lift (sp_numbers ⟨oS, (kN (S, oS) (.tail _ (List.mem_append_right _ (by k_mem)))).1, hcS, nS, hdS⟩ hSs (by omega) (KX.keeps kF.keep) (T.keeps kF.keep) ?_) rfl (Nat.le_of_ble_eq_true rfl) (Nat.le_of_ble_eq_true rfl)
        intro h₁₁ tk₁₁ Z vZ hZ hZi hZ0 hst₁₁
        rw [nums_agree hNums] at hZi
        have F₁₁ := Fr.keptAll kF hst₁₁
        have N₁₁ := News.grown kN hst₁₁
        clear kF kN hst₁₁
        obtain ⟨aL, hL⟩ := reads_left hPairs (fun p hp => (N₁₁ p (.tail _ (List.mem_append_left _ hp))).1) (N₁₁ _ (.head _)).1
        walk_at "m stepsY"
        rename Fr _ _ _ _ => kF
        rename News _ _ _ _ => kN
        refine comp_pairs (by rfl) hZ hZi (by have := nums_len hNums; omega) (by rfl) (by rfl) (by intro _; rfl) (by intro _; rfl) (by decide) ?_
        intro W₁₂ h₁₂ tk₁₂ aR hR hst₁₂
        have F₁₂ := Fr.keptAll kF hst₁₂
        have N₁₂ := News.grown kN hst₁₂
        have hL := Reads.keeps hst₁₂ hL
        clear kF kN hst₁₂
        walk_at "m stepsY"
        refine ne_pairs hL hR (by first | units_room | exact Nat.le_of_ble_eq_true rfl) ?_
        k_steps
        refine turn_end F₁₂ N₁₂ (by with_unfolding_all rfl) hov₃ (.tail _ (List.mem_append_right _ (by k_mem))) (.tail _ (List.mem_append_right _ (by k_mem))) (fun p hp => .tail _ (List.mem_append_right _ (by simp [hp]))) fun p hp => ⟨hoff p hp _ (.head _), hoff p hp _ (.tail _ (.head _))⟩
      case mainT =>
        intro tail
        rcases h5 with e | e | e | e | e
        · have hw : wrV (n.fmod 5) = .ref 97 := by rw [e]; rfl
          rw [hw] at kF tail
          have q4 : (n.fmod 5 == 4) = false := by rw [e]; rfl
          have q2 : (n.fmod 5 == 2) = false := by rw [e]; rfl
          have q3 : (n.fmod 5 == 3) = false := by rw [e]; rfl
          have q0 : decide (n.fmod 5 > 0) = false := by rw [e]; rfl
          by_cases b4 : (bs.length : Int) = 4
          · have b4b : ((bs.length : Int) == 4) = true := by rw [b4]; rfl
            have b4l : decide ((bs.length : Int) < 4) = false := by rw [b4]; rfl
            refine wpC_of ?_
            k_fold
            walk_at "m stepsT"
            refine wpAny_Try_except ?_
            walk_at "m stepsG"
            rename Fr _ _ _ _ => kF
            rename News _ _ _ _ => kN
            have hB := KBa.ints_make hosR
            refine' gni_ok0 (rb := byteArr (b64 tabL os)) K0 kF KX kN T ?hA ?hf ?hke ?hh ?hdp ?hu ?hfun ?hw ?_
            case hA => rfl
            case hf => rfl
            case hke => rfl
            case hh => rfl
            case hdp => exact Nat.le_of_ble_eq_true rfl
            case hu => exact Nat.le_of_ble_eq_true rfl
            case hfun => exact fun h X => fun_97 X
            case hw => exact fun hh hd hu X T h => w_b64 hB (by omega) hh hd hu X T h
            intro h₄ tk₄ D D' o' t' F₄ ht' N₄ l₄ l₅
            clear kF kN
            walk_at "m stepsK"
            rename Fr _ _ _ _ => kF
            rename News _ _ _ _ => kN
            rename IntsAre _ os => hos
            rename IntsAre _ (_ ++ [43, 47]) => hal
            refine lift (sp_signs6 (News.isList kN (by k_mem)) hos (by omega) (News.isList kN (by k_mem)) hal (by decide +kernel) (KX.keeps kF.keep) (T.keeps kF.keep) ?_) rfl (Nat.le_of_ble_eq_true rfl) (Nat.le_of_ble_eq_true rfl)
            intro h₆ tk₆ S ss hS hSs hS0 hst₆
            rw [signs_b64s (by omega) hosR] at hSs
            obtain ⟨oS, hoS, hcS, nS, hdS⟩ := hS
            have F₆ := Fr.keptAll kF hst₆
            have N₆ := news_add kF kN hst₆ hoS hS0
            clear kF kN
            have hIn : KBa.In (b64 tabL os) := in_b64 tabL_in os
            have hLn : ((b64 tabL os)).length ≤ 6 := Nat.le_trans (b64_len _ _) (by decide)
            walk_at "m stepsE"
            rename Fr _ _ _ _ => kF
            rename News _ _ _ _ => kN
            refine tail_go tail kF kN (by k_mem) (by k_mem) ?sub ht' hIn hLn hSs hcS hdS ?hq ?he
            case sub => (intro p hp; repeat (first | exact hp | refine List.Mem.tail _ ?_))
            case he => exact fun _ _ h => h
            case hq =>
              intro f s' h
              cases f <;> repeat (first | exact h | refine wpAny_execs_nil ?_)
          · by_cases b2 : bs.length = 2
            · obtain ⟨p, q, rfl⟩ : ∃ p q, bs = [p, q] := by
                match bs, b2 with
                | [p, q], _ => exact ⟨p, q, rfl⟩
              have b4b : ((([p, q] : List Int).length : Int) == 4) = false := rfl
              have b4l : decide ((([p, q] : List Int).length : Int) < 4) = true := rfl
              have b2b : ((([p, q] : List Int).length : Int) == 2) = true := rfl
              have b2c : ((([p, q] : List Int).length : Int) != 2) = false := rfl
              refine wpC_of ?_
              k_fold
              walk_at "m stepsT"
              refine wpAny_Try_except ?_
              walk_at "m stepsG"
              rename Fr _ _ _ _ => kF
              rename News _ _ _ _ => kN
              have hB := KBa.ints_make hosR
              have hC := KBa.ints_make hbsR
              refine' gni_ok1 (rb := byteArr ((b64 tabL os).map (trI p q))) K0 kF KX kN T ?hA ?hf ?hke ?hh ?hdp ?hu ?hfun ?hw ?_
              case hA => rfl
              case hf => rfl
              case hke => rfl
              case hh => rfl
              case hdp => exact Nat.le_of_ble_eq_true rfl
              case hu => exact Nat.le_of_ble_eq_true rfl
              case hfun => exact fun h X => fun_97 X
              case hw => exact fun hh hd hu X T h => w_alt hB (by omega) hC hh hd hu X T h
              intro h₄ tk₄ D D' o' t' F₄ ht' N₄ l₄ l₅
              clear kF kN
              walk_at "m stepsK"
              rename Fr _ _ _ _ => kF
              rename News _ _ _ _ => kN
              rename IntsAre _ os => hos
              rename IntsAre _ (_ ++ [p, q]) => hal
              refine lift (sp_signs6 (News.isList kN (by k_mem)) hos (by omega) (News.isList kN (by k_mem)) hal (by rw [List.length_append]; rfl) (KX.keeps kF.keep) (T.keeps kF.keep) ?_) rfl (Nat.le_of_ble_eq_true rfl) (Nat.le_of_ble_eq_true rfl)
              intro h₆ tk₆ S ss hS hSs hS0 hst₆
              rw [signs_b64 (by omega) hosR p q] at hSs
              obtain ⟨oS, hoS, hcS, nS, hdS⟩ := hS
              have F₆ := Fr.keptAll kF hst₆
              have N₆ := news_add kF kN hst₆ hoS hS0
              clear kF kN
              have hIn : KBa.In ((b64 tabL os).map (trI p q)) := in_b64m (hbsR p (by simp)) (hbsR q (by simp))
              have hLn : (((b64 tabL os).map (trI p q))).length ≤ 6 := len_b64m
              walk_at "m stepsE"
              rename Fr _ _ _ _ => kF
              rename News _ _ _ _ => kN
              refine tail_go tail kF kN (by k_mem) (by k_mem) ?sub ht' hIn hLn hSs hcS hdS ?hq ?he
              case sub => (intro p hp; repeat (first | exact hp | refine List.Mem.tail _ ?_))
              case he => exact fun _ _ h => h
              case hq =>
                intro f s' h
                cases f <;> repeat (first | exact h | refine wpAny_execs_nil ?_)
            · have b4b : ((bs.length : Int) == 4) = false := by rw [beq_eq_false_iff_ne]; exact b4
              have b4l : decide ((bs.length : Int) < 4) = true := by rw [decide_eq_true_iff]; omega
              have b2b : ((bs.length : Int) == 2) = false := by rw [beq_eq_false_iff_ne]; omega
              have b2c : ((bs.length : Int) != 2) = true := by rw [bne_iff_ne]; omega
              refine wpC_of ?_
              k_fold
              walk_at "m stepsT"
              refine wpAny_Try_except ?_
              walk_at "m stepsG"
              rename Fr _ _ _ _ => kF
              rename News _ _ _ _ => kN
              have hB := KBa.ints_make hosR
              have hC := KBa.ints_make hbsR
              refine' gni_assert (cls := "AssertionError") K0 kF KX kN T ?hA ?hf ?hke ?hh ?hdp ?hu ?hfun ?hw ?_
              case hA => rfl
              case hf => rfl
              case hke => rfl
              case hh => rfl
              case hdp => exact Nat.le_of_ble_eq_true rfl
              case hu => exact Nat.le_of_ble_eq_true rfl
              case hfun => exact fun h X => fun_97 X
              case hw => exact fun B X T h => w_ra hB (by omega) hC (by omega) b2 B X T h
              intro e₄ h₄ tk₄ g₄ D' o' F₄ U₄ R₄
              clear kF kN
              refine caught_1 (T' := "AssertionError") rfl rfl F₄ U₄ R₄ ?hname sub_AE sub_AN sub_AA ?kk
              case hname =>
                intro A₅ s₅ Q₅ E₅ F₅ hQ₅
                clear F₄ R₄ U₄
                k_steps
                exact hQ₅
              case kk =>
                intro h₅ E₅ F₅ N₅
                clear F₄ R₄ U₄
                k_fold
                k_steps
                rename Fr _ _ _ _ => kF
                rename News _ _ _ _ => kN
                refine turn_end kF kN (by with_unfolding_all rfl) hov₃ (by k_mem) (by k_mem) (fun p hp => by simp [hp]) fun p hp => ⟨hoff p hp _ (.head _), hoff p hp _ (.tail _ (.head _))⟩
        · have hw : wrV (n.fmod 5) = .ref 104 := by rw [e]; rfl
          rw [hw] at kF tail
          have q4 : (n.fmod 5 == 4) = false := by rw [e]; rfl
          have q2 : (n.fmod 5 == 2) = false := by rw [e]; rfl
          have q3 : (n.fmod 5 == 3) = false := by rw [e]; rfl
          have q0 : decide (n.fmod 5 > 0) = true := by rw [e]; rfl
          by_cases b4 : (bs.length : Int) = 4
          · have b4b : ((bs.length : Int) == 4) = true := by rw [b4]; rfl
            have b4l : decide ((bs.length : Int) < 4) = false := by rw [b4]; rfl
            refine wpC_of ?_
            k_fold
            walk_at "m stepsT"
            refine wpAny_Try_except ?_
            walk_at "m stepsG"
            rename Fr _ _ _ _ => kF
            rename News _ _ _ _ => kN
            have hB := KBa.ints_make hosR
            refine' gni_ok0 (rb := byteArr (b64 tabL os)) K0 kF KX kN T ?hA ?hf ?hke ?hh ?hdp ?hu ?hfun ?hw ?_
            case hA => rfl
            case hf => rfl
            case hke => rfl
            case hh => rfl
            case hdp => exact Nat.le_of_ble_eq_true rfl
            case hu => exact Nat.le_of_ble_eq_true rfl
            case hfun => exact fun h X => fun_104 X
            case hw => exact fun hh hd hu X T h => w_std hB (by omega) hh hd hu X T h
            intro h₄ tk₄ D D' o' t' F₄ ht' N₄ l₄ l₅
            clear kF kN
            walk_at "m stepsK"
            rename Fr _ _ _ _ => kF
            rename News _ _ _ _ => kN
            rename IntsAre _ os => hos
            rename IntsAre _ (_ ++ [43, 47]) => hal
            refine lift (sp_signs6 (News.isList kN (by k_mem)) hos (by omega) (News.isList kN (by k_mem)) hal (by decide +kernel) (KX.keeps kF.keep) (T.keeps kF.keep) ?_) rfl (Nat.le_of_ble_eq_true rfl) (Nat.le_of_ble_eq_true rfl)
            intro h₆ tk₆ S ss hS hSs hS0 hst₆
            rw [signs_b64s (by omega) hosR] at hSs
            obtain ⟨oS, hoS, hcS, nS, hdS⟩ := hS
            have F₆ := Fr.keptAll kF hst₆
            have N₆ := news_add kF kN hst₆ hoS hS0
            clear kF kN
            have hIn : KBa.In (b64 tabL os) := in_b64 tabL_in os
            have hLn : ((b64 tabL os)).length ≤ 6 := Nat.le_trans (b64_len _ _) (by decide)
            walk_at "m stepsE"
            rename Fr _ _ _ _ => kF
            rename News _ _ _ _ => kN
            refine tail_go tail kF kN (by k_mem) (by k_mem) ?sub ht' hIn hLn hSs hcS hdS ?hq ?he
            case sub => (intro p hp; repeat (first | exact hp | refine List.Mem.tail _ ?_))
            case he => exact fun _ _ h => h
            case hq =>
              intro f s' h
              cases f <;> repeat (first | exact h | refine wpAny_execs_nil ?_)
          · have b4b : ((bs.length : Int) == 4) = false := by rw [beq_eq_false_iff_ne]; exact b4
            have b4l : decide ((bs.length : Int) < 4) = true := by rw [decide_eq_true_iff]; omega
            refine C_cons (C_Try ?_)
            refine C_cons (C_If ?_)
            k_fold
            k_steps
            refine C_cons (C_Assign (C_Call ?_) rfl)
            k_steps
            obtain ⟨o51, fd51, hfo, hfd⟩ := fun_51 KX
            rename Fr _ _ _ _ => kF
            rename News _ _ _ _ => kN
            refine C_callWith (o := o51) (fd := fd51) ?_
            k_steps
            rename Fr _ _ _ _ => kF
            rename News _ _ _ _ => kN
            refine gni_refuse K0 kF KX kN T rfl rfl rfl rfl (Nat.le_of_ble_eq_true rfl) (fun h X => fun_104 X) (fun hh X h => refuse_std X hh h) ?_
            intro e₄ h₄ tk₄ g₄ D' o' F₄ U₄ R₄
            clear kF kN
            refine caught_2 (T' := "AssertionError") (T'' := "TypeError") rfl rfl F₄ U₄ R₄ ?hname ?hname₁ sub_AE sub_AN sub_TA sub_TE sub_TN sub_TT ?kk
            case hname =>
              intro A₅ s₅ Q₅ E₅ F₅ hQ₅
              clear F₄ R₄ U₄
              k_steps
              exact hQ₅
            case hname₁ =>
              intro A₅ s₅ Q₅ E₅ F₅ hQ₅
              clear F₄ R₄ U₄
              k_steps
              exact hQ₅
            case kk =>
              intro h₅ E₅ F₅ N₅
              clear F₄ R₄ U₄
              k_fold
              k_steps
              refine wpC_of ?_
              k_fold
              k_steps
              rename Fr _ _ _ _ => kF
              rename News _ _ _ _ => kN
              refine turn_end kF kN (by with_unfolding_all rfl) hov₃ (by k_mem) (by k_mem) (fun p hp => by simp [hp]) fun p hp => ⟨hoff p hp _ (.head _), hoff p hp _ (.tail _ (.head _))⟩
        · have hw : wrV (n.fmod 5) = .ref 111 := by rw [e]; rfl
          rw [hw] at kF tail
          have q4 : (n.fmod 5 == 4) = false := by rw [e]; rfl
          have q2 : (n.fmod 5 == 2) = true := by rw [e]; rfl
          have q3 : (n.fmod 5 == 3) = false := by rw [e]; rfl
          have q0 : decide (n.fmod 5 > 0) = true := by rw [e]; rfl
          by_cases b4 : (bs.length : Int) = 4
          · have b4b : ((bs.length : Int) == 4) = true := by rw [b4]; rfl
            have b4l : decide ((bs.length : Int) < 4) = false := by rw [b4]; rfl
            refine wpC_of ?_
            k_fold
            walk_at "m stepsT"
            refine wpAny_Try_except ?_
            walk_at "m stepsG"
            rename Fr _ _ _ _ => kF
            rename News _ _ _ _ => kN
            have hB := KBa.ints_make hosR
            refine' gni_ok0 (rb := byteArr ((b64 tabL os).map (trI 45 95))) K0 kF KX kN T ?hA ?hf ?hke ?hh ?hdp ?hu ?hfun ?hw ?_
            case hA => rfl
            case hf => rfl
            case hke => rfl
            case hh => rfl
            case hdp => exact Nat.le_of_ble_eq_true rfl
            case hu => exact Nat.le_of_ble_eq_true rfl
            case hfun => exact fun h X => fun_111 X
            case hw => exact fun hh hd hu X T h => w_url hB (by omega) hh hd hu X T h
            intro h₄ tk₄ D D' o' t' F₄ ht' N₄ l₄ l₅
            clear kF kN
            walk_at "m stepsK"
            rename Fr _ _ _ _ => kF
            rename News _ _ _ _ => kN
            rename IntsAre _ os => hos
            rename IntsAre _ (_ ++ [45, 95]) => hal
            refine lift (sp_signs6 (News.isList kN (by k_mem)) hos (by omega) (News.isList kN (by k_mem)) hal (by decide +kernel) (KX.keeps kF.keep) (T.keeps kF.keep) ?_) rfl (Nat.le_of_ble_eq_true rfl) (Nat.le_of_ble_eq_true rfl)
            intro h₆ tk₆ S ss hS hSs hS0 hst₆
            rw [signs_b64 (by omega) hosR 45 95] at hSs
            obtain ⟨oS, hoS, hcS, nS, hdS⟩ := hS
            have F₆ := Fr.keptAll kF hst₆
            have N₆ := news_add kF kN hst₆ hoS hS0
            clear kF kN
            have hIn : KBa.In ((b64 tabL os).map (trI 45 95)) := in_b64m (by decide) (by decide)
            have hLn : (((b64 tabL os).map (trI 45 95))).length ≤ 6 := len_b64m
            walk_at "m stepsE"
            rename Fr _ _ _ _ => kF
            rename News _ _ _ _ => kN
            refine tail_go tail kF kN (by k_mem) (by k_mem) ?sub ht' hIn hLn hSs hcS hdS ?hq ?he
            case sub => (intro p hp; repeat (first | exact hp | refine List.Mem.tail _ ?_))
            case he => exact fun _ _ h => h
            case hq =>
              intro f s' h
              cases f <;> repeat (first | exact h | refine wpAny_execs_nil ?_)
          · have b4b : ((bs.length : Int) == 4) = false := by rw [beq_eq_false_iff_ne]; exact b4
            have b4l : decide ((bs.length : Int) < 4) = true := by rw [decide_eq_true_iff]; omega
            refine C_cons (C_Try ?_)
            refine C_cons (C_If ?_)
            k_fold
            k_steps
            refine C_cons (C_Assign (C_Call ?_) rfl)
            k_steps
            obtain ⟨o51, fd51, hfo, hfd⟩ := fun_51 KX
            rename Fr _ _ _ _ => kF
            rename News _ _ _ _ => kN
            refine C_callWith (o := o51) (fd := fd51) ?_
            k_steps
            rename Fr _ _ _ _ => kF
            rename News _ _ _ _ => kN
            refine gni_refuse K0 kF KX kN T rfl rfl rfl rfl (Nat.le_of_ble_eq_true rfl) (fun h X => fun_111 X) (fun hh X h => refuse_url X hh h) ?_
            intro e₄ h₄ tk₄ g₄ D' o' F₄ U₄ R₄
            clear kF kN
            refine caught_2 (T' := "AssertionError") (T'' := "TypeError") rfl rfl F₄ U₄ R₄ ?hname ?hname₁ sub_AE sub_AN sub_TA sub_TE sub_TN sub_TT ?kk
            case hname =>
              intro A₅ s₅ Q₅ E₅ F₅ hQ₅
              clear F₄ R₄ U₄
              k_steps
              exact hQ₅
            case hname₁ =>
              intro A₅ s₅ Q₅ E₅ F₅ hQ₅
              clear F₄ R₄ U₄
              k_steps
              exact hQ₅
            case kk =>
              intro h₅ E₅ F₅ N₅
              clear F₄ R₄ U₄
              k_fold
              k_steps
              refine wpC_of ?_
              k_fold
              k_steps
              rename Fr _ _ _ _ => kF
              rename News _ _ _ _ => kN
              refine turn_end kF kN (by with_unfolding_all rfl) hov₃ (by k_mem) (by k_mem) (fun p hp => by simp [hp]) fun p hp => ⟨hoff p hp _ (.head _), hoff p hp _ (.tail _ (.head _))⟩
        · have hw : wrV (n.fmod 5) = .ref 118 := by rw [e]; rfl
          rw [hw] at kF tail
          have q4 : (n.fmod 5 == 4) = false := by rw [e]; rfl
          have q2 : (n.fmod 5 == 2) = false := by rw [e]; rfl
          have q3 : (n.fmod 5 == 3) = true := by rw [e]; rfl
          have q0 : decide (n.fmod 5 > 0) = true := by rw [e]; rfl
          by_cases b4 : (bs.length : Int) = 4
          · have b4b : ((bs.length : Int) == 4) = true := by rw [b4]; rfl
            have b4l : decide ((bs.length : Int) < 4) = false := by rw [b4]; rfl
            refine wpC_of ?_
            k_fold
            walk_at "m stepsT"
            refine wpAny_Try_except ?_
            walk_at "m stepsG"
            rename Fr _ _ _ _ => kF
            rename News _ _ _ _ => kN
            have hB := KBa.ints_make hosR
            refine' gni_ok0 (rb := byteArr (hexU os)) K0 kF KX kN T ?hA ?hf ?hke ?hh ?hdp ?hu ?hfun ?hw ?_
            case hA => rfl
            case hf => rfl
            case hke => rfl
            case hh => rfl
            case hdp => exact Nat.le_of_ble_eq_true rfl
            case hu => exact Nat.le_of_ble_eq_true rfl
            case hfun => exact fun h X => fun_118 X
            case hw => exact fun hh hd hu X T h => w_b16 hB (by omega) hh hd hu X T h
            intro h₄ tk₄ D D' o' t' F₄ ht' N₄ l₄ l₅
            clear kF kN
            walk_at "m stepsK"
            rename Fr _ _ _ _ => kF
            rename News _ _ _ _ => kN
            rename IntsAre _ os => hos
            rename IntsAre _ (List.drop _ _ ++ List.take _ _) => hal
            refine lift (sp_signs4 (News.isList kN (by k_mem)) hos (by omega) (News.isList kN (by k_mem)) hal (by decide +kernel) (KX.keeps kF.keep) (T.keeps kF.keep) ?_) rfl (Nat.le_of_ble_eq_true rfl) (Nat.le_of_ble_eq_true rfl)
            intro h₆ tk₆ S ss hS hSs hS0 hst₆
            rw [signs_hex (by omega) hosR] at hSs
            obtain ⟨oS, hoS, hcS, nS, hdS⟩ := hS
            have F₆ := Fr.keptAll kF hst₆
            have N₆ := news_add kF kN hst₆ hoS hS0
            clear kF kN
            have hIn : KBa.In (hexU os) := in_hexU hosR
            have hLn : ((hexU os)).length ≤ 6 := len_hexU (by omega)
            walk_at "m stepsE"
            rename Fr _ _ _ _ => kF
            rename News _ _ _ _ => kN
            refine tail_go tail kF kN (by k_mem) (by k_mem) ?sub ht' hIn hLn hSs hcS hdS ?hq ?he
            case sub => (intro p hp; repeat (first | exact hp | refine List.Mem.tail _ ?_))
            case he => exact fun _ _ h => h
            case hq =>
              intro f s' h
              cases f <;> repeat (first | exact h | refine wpAny_execs_nil ?_)
          · have b4b : ((bs.length : Int) == 4) = false := by rw [beq_eq_false_iff_ne]; exact b4
            have b4l : decide ((bs.length : Int) < 4) = true := by rw [decide_eq_true_iff]; omega
            refine C_cons (C_Try ?_)
            refine C_cons (C_If ?_)
            k_fold
            k_steps
            refine C_cons (C_Assign (C_Call ?_) rfl)
            k_steps
            obtain ⟨o51, fd51, hfo, hfd⟩ := fun_51 KX
            rename Fr _ _ _ _ => kF
            rename News _ _ _ _ => kN
            refine C_callWith (o := o51) (fd := fd51) ?_
            k_steps
            rename Fr _ _ _ _ => kF
            rename News _ _ _ _ => kN
            refine gni_refuse K0 kF KX kN T rfl rfl rfl rfl (Nat.le_of_ble_eq_true rfl) (fun h X => fun_118 X) (fun hh X h => refuse_b16 X hh h) ?_
            intro e₄ h₄ tk₄ g₄ D' o' F₄ U₄ R₄
            clear kF kN
            refine caught_2 (T' := "AssertionError") (T'' := "TypeError") rfl rfl F₄ U₄ R₄ ?hname ?hname₁ sub_AE sub_AN sub_TA sub_TE sub_TN sub_TT ?kk
            case hname =>
              intro A₅ s₅ Q₅ E₅ F₅ hQ₅
              clear F₄ R₄ U₄
              k_steps
              exact hQ₅
            case hname₁ =>
              intro A₅ s₅ Q₅ E₅ F₅ hQ₅
              clear F₄ R₄ U₄
              k_steps
              exact hQ₅
            case kk =>
              intro h₅ E₅ F₅ N₅
              clear F₄ R₄ U₄
              k_fold
              k_steps
              refine wpC_of ?_
              k_fold
              k_steps
              rename Fr _ _ _ _ => kF
              rename News _ _ _ _ => kN
              refine turn_end kF kN (by with_unfolding_all rfl) hov₃ (by k_mem) (by k_mem) (fun p hp => by simp [hp]) fun p hp => ⟨hoff p hp _ (.head _), hoff p hp _ (.tail _ (.head _))⟩
        · have hw : wrV (n.fmod 5) = .none := by rw [e]; rfl
          rw [hw] at kF tail
          have q4 : (n.fmod 5 == 4) = true := by rw [e]; rfl
          have q2 : (n.fmod 5 == 2) = false := by rw [e]; rfl
          have q3 : (n.fmod 5 == 3) = false := by rw [e]; rfl
          have q0 : decide (n.fmod 5 > 0) = true := by rw [e]; rfl
          by_cases b4 : (bs.length : Int) = 4
          · have b4b : ((bs.length : Int) == 4) = true := by rw [b4]; rfl
            have b4l : decide ((bs.length : Int) < 4) = false := by rw [b4]; rfl
            refine wpC_of ?_
            k_fold
            walk_at "m stepsT"
            refine wpAny_Try_except ?_
            walk_at "m stepsG"
            rename Fr _ _ _ _ => kF
            rename News _ _ _ _ => kN
            have hB := KBa.ints_make hosR
            refine' gni_none0 K0 kF KX kN T ?hA ?hf ?hke ?hdp ?_
            case hA => rfl
            case hf => rfl
            case hke => rfl
            case hdp => exact Nat.le_of_ble_eq_true rfl
            intro h₄ tk₄ D D' o' t' F₄ N₄ l₄ l₅
            clear kF kN
            walk_at "m stepsK"
            rename Fr _ _ _ _ => kF
            rename News _ _ _ _ => kN
            refine ne_pair (kN.get (by k_mem)) (kN.get (by k_mem)) (by first | units_room | exact Nat.le_of_ble_eq_true rfl) eqAt_ref eqAt_str ?_
            k_steps
            rename Fr _ _ _ _ => kF
            rename News _ _ _ _ => kN
            refine turn_end kF kN (by with_unfolding_all rfl) hov₃ (by k_mem) (by k_mem) (fun p hp => by simp [hp]) fun p hp => ⟨hoff p hp _ (.head _), hoff p hp _ (.tail _ (.head _))⟩
          · have b4b : ((bs.length : Int) == 4) = false := by rw [beq_eq_false_iff_ne]; exact b4
            refine wpC_of ?_
            k_fold
            walk_at "m stepsT"
            refine wpAny_Try_except ?_
            walk_at "m stepsG"
            rename Fr _ _ _ _ => kF
            rename News _ _ _ _ => kN
            have hB := KBa.ints_make hosR
            refine' gni_none1 K0 kF KX kN T ?hA ?hf ?hke ?hdp ?_
            case hA => rfl
            case hf => rfl
            case hke => rfl
            case hdp => exact Nat.le_of_ble_eq_true rfl
            intro h₄ tk₄ D D' o' t' F₄ N₄ l₄ l₅
            clear kF kN
            walk_at "m stepsK"
            rename Fr _ _ _ _ => kF
            rename News _ _ _ _ => kN
            refine ne_pair (kN.get (by k_mem)) (kN.get (by k_mem)) (by first | units_room | exact Nat.le_of_ble_eq_true rfl) eqAt_ref eqAt_str ?_
            k_steps
            rename Fr _ _ _ _ => kF
            rename News _ _ _ _ => kN
            refine turn_end kF kN (by with_unfolding_all rfl) hov₃ (by k_mem) (by k_mem) (fun p hp => by simp [hp]) fun p hp => ⟨hoff p hp _ (.head _), hoff p hp _ (.tail _ (.head _))⟩)

end Mine

theorem PySem.Challenge.cw_ik0020_01_holds : PySem.Challenge.rw_ik0020_01.Holds := by
  exact Mine.final_try
