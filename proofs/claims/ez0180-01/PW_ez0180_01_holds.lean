import PyProof.Rows.All
import Wide.All
import OpenK.AllK
import Wide.FinOn
import KE.KDictOf
import PySem.Challenge.RW_ez0180_01
set_option Elab.async false
set_option linter.unusedVariables false
/-! H0 -/
section
open PySem PySem.W PySem.Spec PyProof.Rows PySem.Calls
open Sem (wp)
set_option maxRecDepth 100000
namespace Mine
/-! ## the logic again, for contexts with no collection under way -/
def isFin : Code → Bool
  | .builtin "lifetime.gc.finalise" _ => true
  | _ => false
def NoFin (Γ : PySem.Ctx) : Prop := isFin Γ.code = false ∧ ∀ x ∈ Γ.below, isFin x.1 = false
def wpN {α : Type} (M : Model) (A : Around) (t : Sem α) (Q : α → Shared → Prop) (E : Value → Shared → Prop) (s : Shared) : Prop :=
  ∀ Γ p, Γ.In A → NoFin Γ → wp M Γ t (fun a _ s' => Q a s') (fun e _ s' => E e s') p s
def codeN (M : Model) (A : Around) (c : Code) (R : Result → Shared → Prop) (s : Shared) : Prop :=
  ∀ Γ p, Γ.code = c → Γ.Below A → NoFin Γ → wpCode M Γ R p s
section
variable {α β : Type} {M : Model} {A : Around} {E : Value → Shared → Prop} {s : Shared}
theorem wpN.of {t : Sem α} {Q : α → Shared → Prop} (h : wpAny M A t Q E s) : wpN M A t Q E s := fun Γ p hΓ _ => h Γ p hΓ
theorem codeN.of {c : Code} {R : Result → Shared → Prop} (h : codeAny M A c R s) : codeN M A c R s := fun Γ p hc hΓ _ => h Γ p hc hΓ
theorem wpN.mono {t : Sem α} {Q Q' : α → Shared → Prop} {E' : Value → Shared → Prop} (h : wpN M A t Q E s) (hQ : ∀ a s, Q a s → Q' a s) (hE : ∀ e s, E e s → E' e s) : wpN M A t Q' E' s :=
  fun Γ p hΓ hn => Sem.wp_mono M Γ t (fun a _ s => hQ a s) (fun e _ s => hE e s) p s (h Γ p hΓ hn)
theorem wpN.bind {m : Sem α} {f : α → Sem β} {Q : β → Shared → Prop} (h : wpN M A m (fun a s' => wpN M A (f a) Q E s') E s) : wpN M A (m >>= f) Q E s := fun Γ p hΓ hn => by
  rw [Sem.wp_bind']
  exact Sem.wp_mono M Γ m (fun a p' s' h' => h' Γ p' hΓ hn) (fun _ _ _ h' => h') p s (h Γ p hΓ hn)
theorem wpN.tryCatch {m : Sem α} {k : Value → Sem α} {Q : α → Shared → Prop} (h : wpN M A m Q (fun e s' => wpN M A (k e) Q E s') s) : wpN M A (MonadExcept.tryCatch m k) Q E s := fun Γ p hΓ hn => by
  rw [Sem.wp_tryCatch']
  exact Sem.wp_mono M Γ m (fun _ _ _ h' => h') (fun e p' s' h' => h' Γ p' hΓ hn) p s (h Γ p hΓ hn)
theorem wpN.onRaise {m : Sem α} {k : Value → Sem Unit} {Q : α → Shared → Prop} (h : wpN M A m Q (fun e s' => wpN M A (k e) (fun _ s'' => E e s'') E s') s) : wpN M A (m.onRaise k) Q E s := fun Γ p hΓ hn => by
  rw [Sem.wp_onRaise]
  exact Sem.wp_mono M Γ m (fun _ _ _ h' => h') (fun e p' s' h' => h' Γ p' hΓ hn) p s (h Γ p hΓ hn)
theorem wpN.attempt {m : Sem α} {Q : Except Value α → Shared → Prop} (h : wpN M A m (fun a => Q (.ok a)) (fun e => Q (.error e)) s) : wpN M A m.attempt Q E s := fun Γ p hΓ hn => by rw [Sem.wp_attempt]; exact h Γ p hΓ hn
theorem wpN.holding {vs : List Value} {m : Sem α} {Q : α → Shared → Prop} (h : wpN M A m Q E s) : wpN M A (PySem.holding vs m) Q E s := fun Γ p hΓ hn => by rw [Sem.wp_holding]; exact h Γ p hΓ hn
theorem wpN.pure {a : α} {Q : α → Shared → Prop} (h : Q a s) : wpN M A (Pure.pure a) Q E s := .of (wpAny_pure h)
theorem codeN.mono {c : Code} {R R' : Result → Shared → Prop} (h : codeN M A c R s) (hR : ∀ r s, R r s → R' r s) : codeN M A c R' s := fun Γ p hc hΓ hn => wpCode_mono hR (h Γ p hc hΓ hn)
theorem NoFin.enter {Γ : PySem.Ctx} (hn : NoFin Γ) (c : Code) (hc : isFin c = false) (hd : Option Value) (p : Pos) : NoFin (Γ.enter c hd p) := ⟨hc, fun x hx => by
  rcases List.mem_cons.mp hx with rfl | hx
  · exact hn.1
  · exact hn.2 x hx⟩
theorem wpN.run {c : Code} {h : Option Value} {Q : Flow → Shared → Prop}
    (hc : codeN M (A.mark h) c (fun r s' => match r with | .ok f => Q f s' | .error e => E e s') s) (hf : isFin c = false) (hnb : h ≠ some byPass := by intro x; cases x) : wpN M A (PySem.run c h) Q E s :=
  fun Γ p hΓ hn => by rw [Sem.wp_run]; exact hc _ p rfl (hΓ.enter c h p hnb) (hn.enter c hf h p)
theorem wpN.runValue {c : Code} {Q : Value → Shared → Prop}
    (hc : codeN M A c (fun r s' => match r with | .ok (.ret v) => Q v s' | .ok _ => False | .error e => E e s') s) (hf : isFin c = false) : wpN M A (PySem.runValue c) Q E s := fun Γ p hΓ hn => by
  rw [Sem.wp_runValue]; exact hc _ p rfl (hΓ.enter c none p (by intro x; cases x)) (hn.enter c hf none p)
theorem wpN.call {f : Value} {pos : List Value} {kw : List (Str × Value)} {Q : Value → Shared → Prop}
    (hc : codeN M A (.call f ⟨pos, kw⟩) (fun r s' => match r with | .ok (.ret v) => Q v s' | .ok _ => False | .error e => E e s') s) : wpN M A (PySem.call f pos kw) Q E s := wpN.runValue hc rfl
theorem codeN.tree {c : Code} {R : Result → Shared → Prop}
    (h : wpN M (A.under c) (M.den c) (fun fin s' => match fin with | .done f => R (.ok f) s' | .again c' => (c'.quiet = true ∧ isFin c' = false) ∧ codeN M A c' R s') (fun e s' => R (.error e) s') s) : codeN M A c R s := fun Γ p hc hΓ hn => by
  rw [wpCode_iff_wp, hc]
  refine Sem.wp_mono M Γ _ (fun fin p' s' h' => ?_) (fun _ _ _ h' => h') p s (h Γ p (hc ▸ hΓ.in) hn)
  cases fin with
  | done f => exact h'
  | again c' => exact ⟨h'.1.1, h'.2 (Γ.goto c') p' rfl (hΓ.goto c') ⟨h'.1.2, hn.2⟩⟩
end
def callerCtx : PySem.Ctx := ⟨.builtin "claim.caller" {}, none, none, [], none⟩
theorem noFin_caller : NoFin callerCtx := ⟨rfl, fun x hx => absurd (show x ∈ ([] : List (Code × Pos)) from hx) List.not_mem_nil⟩
theorem endsN {prog : Program} {w : World} {t : Sem PySem.Fin} {s : Shared} {R : Result → Shared → Prop} (hreg : s.asleep)
    (h : wpN (model prog w) callerA t (fun fin s' => ∃ f, fin = .done f ∧ (R (.ok f) s' ∧ leftWithCleanup s'.gens = false)) (fun e s' => R (.error e) s' ∧ leftWithCleanup s'.gens = false) s) :
    ∃ n r s' s'', runN (denote table) prog w n s ⟨t, .builtin "claim.caller" {}, default, []⟩ = .halted (outcomeOf r) s' ∧
      schedN (denote table) prog w n (.single s ⟨t, .builtin "claim.caller" {}, default, []⟩) = .halted (outcomeOf r) s' ∧ s'.forget = s''.forget ∧ R r s'' := by
  have hw : wp (model prog w) callerCtx t (Sem.finPost (model prog w) callerCtx (fun r s' => R r s' ∧ leftWithCleanup s'.gens = false)) (fun e _ s' => R (.error e) s' ∧ leftWithCleanup s'.gens = false) default s :=
    Sem.wp_mono (model prog w) callerCtx t (fun fin p' s' h' => by
      obtain ⟨f, rfl, hf⟩ := h'
      exact hf) (fun _ _ _ h' => h') default s (h callerCtx default caller_in noFin_caller)
  obtain ⟨n, r, s₁, s₂, hs, hn, hfo, hR⟩ := wp_halts_full (M := model prog w) (R := R) hreg hw
  exact ⟨n, r, s₂, s₁, hn, hs, hfo, hR⟩
theorem callFromN {c : ClaimW} {tree : List Value → Sem PySem.Fin} {w : World} {s : Shared} {free : Addr → Prop} {gens : Prop} {kept : Heap → Prop} (hz : s.asleep) (hgens : s.gens = #[])
    (hspec : ∀ args, c.pre args = true → WData.layableAll args = true →
      ∀ ord : List DictEntry → List DictEntry, (∀ l, (ord l).Perm l) →
      ∃ vs s₁, layAllW c.records (classAt s.heap) w.params ord args s = some (vs, s₁) ∧
        wpN (model c.prog w) callerA (tree vs) (fun fin s' => ∃ f, fin = .done f ∧ (c.Ends s args vs s₁ (.ok f) s' ∧ s'.os = s.os ∧ AllBare s'.gens ∧ kept s'.heap))
          (fun e s' => c.Ends s args vs s₁ (.error e) s' ∧ s'.os = s.os ∧ AllBare s'.gens ∧ kept s'.heap) s₁) :
    c.CallFrom (fun vs => ⟨tree vs, .builtin "claim.caller" {}, default, []⟩) w free gens kept s := by
  intro args hpre hlay ord hord
  obtain ⟨vs, s₁, hlaid, hcode⟩ := hspec args hpre hlay ord hord
  have hal := layAllW_rest _ _ _ hlaid
  obtain ⟨k, r, s', s'', hrun, hsched, hfo, hcase, hos, hkp⟩ := endsN (prog := c.prog) (w := w) (t := tree vs) (s := s₁)
    (R := fun r s' => c.Ends s args vs s₁ r s' ∧ s'.os = s.os ∧ kept s'.heap) (Shared.asleep_of_life hal.2.2.2 hz)
    (hcode.mono (fun fin s' ⟨f, e, h1, h2, h3, h4⟩ => ⟨f, e, ⟨h1, h2, h4⟩, leftWithCleanup_false_of_bare h3⟩) fun e s' ⟨h1, h2, h3, h4⟩ => ⟨⟨h1, h2, h4⟩, leftWithCleanup_false_of_bare h3⟩)
  obtain ⟨eh, _, _, eo, _⟩ := Shared.forget_eq hfo
  have hcase := hcase.congr eh
  have hkp : kept s'.heap := by first | exact eh ▸ hkp | (rw [eh] at hkp; exact hkp) | (rw [← eh] at hkp; exact hkp)
  rw [← eo] at hos
  have hlife : s'.heap.life = s.heap.life := (runN_life _ _ _ hrun).trans hal.2.2.2
  refine ⟨vs, s₁, hlaid, k, _, s', hsched, ?_, (fun _ i x hx => by rw [hgens] at hx; simp at hx), hkp, by rw [hlife], Shared.rest_eq hos⟩
  rcases hcase with ⟨v, rfl, d1, d2, d3, d4, d5⟩ | ⟨e, ob, cls, rfl, d1, d2, d3, d4, d5⟩
  · exact .inl ⟨v, rfl, d1, d2, d3, fun b o y _ => d4 b o y, d5⟩
  · exact .inr ⟨e, ob, cls, rfl, d1, d2, d3, d4, fun b o y _ => d5 b o y⟩
/-! the head again: the walk is asked for the caller's own context alone -/
theorem open_anyR {r : RowW} {run : Value → List Value → Sem Value} {tree : List Value → Sem PySem.Fin} {q : Program} {loose defs kps : List Str} {writes : Bool} {Xt : Shared → Bool} {XP : (Str → Option Value) → Heap → Prop} {α : Type} {Yf : Shared → α} {Ya : World → α} {YP : World → Heap → Prop} {N : Nat}
    (left : LeftO r.prog q loose Xt Yf Ya N) (hY : ∀ w s, Yf s = Ya w → YP w s.heap) (hYk : ∀ w h h', YP w h → (∀ b o, h.get? b = some o → h'.get? b = some o) → YP w h') (hX : ∀ s, Xt s = true → XP (s.heap.nsMap mainGlobals) s.heap) (hXk : ∀ mg h h', XP mg h → (∀ b o, h.get? b = some o → h'.get? b = some o) → XP mg h')
    (hRf : ∀ s, Xt s = true → RecFacts r.records s.heap) (hwr : (!writes || r.records.isEmpty) = true) (ok : (chainsOk q && opensWell r.prog && (frees r && r.within.isEmpty)) = true) (hb : r.prog.bare) (hw : r.promised)
    (ht : ∀ vs (w : World) (s : Shared) mg f (Q : PySem.Fin → Shared → Prop) (E : Value → Shared → Prop), s.heap.Ns mainGlobals mg → mg r.name = some f → wpN (model r.prog w) callerA (run f vs) (fun v s' => Q (.done (.ret v)) s') E s → wpN (model r.prog w) callerA (tree vs) Q E s)
    (pin : ∀ w s, s.heap.isNs mainGlobals = true → Ground q loose [] XP w s (s.heap.nsMap mainGlobals) (s.heap.nsMap builtinsNs) s.heap → ∀ n ∈ defs, isTheDefsW r.prog s.heap n)
    (call : ∀ (w : World) (s₀ s₁ : Shared) (mg mb : Str → Option Value), Ground q loose r.records XP w s₀ mg mb s₁.heap → YP w s₁.heap → ∀ (args : List WData) (vs : List Value) (as : List Addr),
      r.claim.pre args = true → WData.layableAll args = true → Laid r.records w s₀ s₁ args vs as → sysModules < s₀.heap.objs.size → ∃ f, mg r.name = some f ∧
        wpN (model r.prog w) callerA (run f vs) (fun v s' => GoodWG r.claim (classAt s₀.heap) (ExcName.means s₀.heap) args s₁ (.ok (.ret v)) s')
          (fun e s' => GoodWG r.claim (classAt s₀.heap) (ExcName.means s₀.heap) args s₁ (.error e) s') s₁) : r.claim.HoldsOpenBy (fun vs => ⟨tree vs, .builtin "claim.caller" {}, default, []⟩) defs kps writes := by
  obtain ⟨ok, k5⟩ := Bool.and_eq_true_iff.mp ok
  obtain ⟨hch, o1⟩ := Bool.and_eq_true_iff.mp ok
  obtain ⟨k5, k6⟩ := Bool.and_eq_true_iff.mp k5
  obtain ⟨hsame, hu, ha, hap, hm⟩ := frees_parts k5
  refine ⟨⟨hb, o1, by show r.makers.map _ = []; rw [hm]; rfl⟩, hw.witness, fun w => ⟨(left.behind hX hch w).1, fun s' hs' => ?_⟩⟩
  obtain ⟨s₀, hf, hg0, s, hT, hz, hgens, hg, G00, y⟩ := (left.behind (XP := fun mg h => XP mg h ∧ RecFacts r.records h) (fun s hs => ⟨hX s hs, hRf s hs⟩) hch w).2 s' hs'
  have G0 : Ground q loose [] XP w s (s.heap.nsMap mainGlobals) (s.heap.nsMap builtinsNs) s.heap := ⟨G00.T, G00.B, G00.D, G00.TE, G00.TD, G00.W, G00.X.1, G00.cls, G00.has, G00.apart, G00.once, G00.K⟩
  have RF := G00.X.2
  have hT' := hT
  refine ⟨s₀, hf, hg0, s, hT, pin w s hg G0, RF.1, RF.2.1, ?_⟩
  have hgens : s.gens = #[] := Array.eq_empty_of_size_eq_zero (beq_iff_eq.mp hgens)
  have G : Ground q loose r.records XP w s _ _ s.heap := RF.ground G0
  refine callFromN (c := r.claim) hz hgens fun args hpre hlay ord hord => ?_
  obtain ⟨⟨vs, s₁⟩, hlaid⟩ := Option.isSome_iff_exists.mp (layAllW_isSome (P := w.params) (ord := ord) G.has args r.args s (pre_splitW hpre).1)
  have keeps := layAllW_keeps _ _ _ hlaid
  have hal := layAllW_rest _ _ _ hlaid
  obtain ⟨as, hrd, hin, hold⟩ := reads_layAllW hord _ _ _ hlaid hlay s₁.heap (fun _ _ e => e)
  have L : Laid r.records w s s₁ args vs as := ⟨⟨ord, hord, hlaid⟩, hrd, hin, hold, keeps, hal.1.trans hgens, hal.2.2.1⟩
  have G₁ := G.keeps hXk keeps
  obtain ⟨f, hf, h⟩ := call w s s₁ _ _ G₁ (hYk _ _ _ (hY w s y) keeps) args vs as hpre hlay L G.low
  have hi := ident_freeW hu ha hap
  have hwi : r.claim.within = [] := List.isEmpty_iff.mp k6
  exact ⟨vs, s₁, hlaid, ht vs w s₁ _ f _ _ G₁.T.g hf (wpN.mono h (fun v s' g => ⟨_, rfl, have z := g.laid (c := r.claim) hsame hwi hi L; ⟨z.1, z.2.1, z.2.2, fun q => ⟨namesKept_of hT' hg kps keeps g.2.1.old, noTable hwr q⟩⟩⟩) fun e s' g => have z := g.laid (c := r.claim) hsame hwi hi L; ⟨z.1, z.2.1, z.2.2, fun q => ⟨namesKept_of hT' hg kps keeps g.2.1.old, noTable hwr q⟩⟩)⟩
abbrev WalkR (q : Program) (loose : List Str) (XP : (Str → Option Value) → Heap → Prop) (YP : World → Heap → Prop) (r : RowW) (d : DefRec) (kwd : List (Str × Expr)) (run : Value → List Value → Sem Value) : Prop :=
  ∀ (w : World) (s₀ s₁ : Shared) (mg mb : Str → Option Value), Ground q loose r.records XP w s₀ mg mb s₁.heap → YP w s₁.heap → ∀ (a : Addr) (o : Obj) (pm cd doc dV kV : Value), s₁.heap.get? a = some o →
    o.data = .func { docDef d.name d.params d.body d.scope pm cd doc with defaults := dV, kwdefaults := kV } → s₁.heap.CodeRec cd d.name → Dflts mg s₁.heap d.params kwd dV kV → mg d.name = some (.ref a) → s₁.gens = #[] →
    ∀ (args : List WData) (vals : List Value) (as : List Addr), r.claim.pre args = true → WData.layableAll args = true → ReadsAllW r.records (classAt s₀.heap) s₁.heap vals args as → WellAll w.params s₁.heap vals args → (∀ a ∈ as, (a == sysModules) = false) →
      wpN (model r.prog w) callerA (run (.ref a) vals) (fun v s' => GoodWG r.claim (classAt s₀.heap) (ExcName.means s₀.heap) args s₁ (.ok (.ret v)) s')
        (fun e s' => GoodWG r.claim (classAt s₀.heap) (ExcName.means s₀.heap) args s₁ (.error e) s') s₁
theorem PySem.W.holds_open {r : OpenRow} {q : Program} {loose : List Str} {Xt : Shared → Bool} {XP : (Str → Option Value) → Heap → Prop} {α : Type} {Yf : Shared → α} {Ya : World → α} {YP : World → Heap → Prop} {d : DefRec} {kwd : List (Str × Expr)} {N : Nat}
    (left : LeftO r.prog q loose Xt Yf Ya N) (hY : ∀ w s, Yf s = Ya w → YP w s.heap) (hYk : ∀ w h h', YP w h → (∀ b o, h.get? b = some o → h'.get? b = some o) → YP w h')
    (hX : ∀ s, Xt s = true → XP (s.heap.nsMap mainGlobals) s.heap) (hXk : ∀ mg h h', XP mg h → (∀ b o, h.get? b = some o → h'.get? b = some o) → XP mg h')
    (hdef : defOf q r.name = some (d, kwd)) (hp : r.prog.theDef r.name = some (d.params, d.body, d.scope)) (hk : kwWritten? d.params.kwonlyargs d.params.kw_defaults = some kwd) (hRf : ∀ s, Xt s = true → RecFacts r.records s.heap) (hwr : (!r.writes || r.records.isEmpty) = true)
    (k1 : r.wellSaid = true) (ok : (chainsOk q && opensWell r.prog && (frees r.toRowW && r.within.isEmpty)) = true) (hb : r.prog.bare) (hw : r.toRowW.promised)
    (call : WalkR q loose XP YP r.toRowW d kwd fun f vs => PySem.call f vs) : r.Holds := by
  refine ⟨k1, hw, open_anyR (r := r.toRowW) (run := fun f vs => PySem.call f vs) (tree := fun vs => do match ← nsGet mainNs r.name with
      | some f => do ret (← PySem.call f vs)
      | none => unsupported "claim.caller:no-such-global") left hY hYk hX hXk hRf hwr ok hb hw
    (fun vs w s mg f Q E hg hf h => wpN.bind (wpN.of (wpAny_nsGet hg (by rw [hf]; exact wpN.bind (wpN.mono h (fun _ _ x => wpN.of (wpAny_pure x)) fun _ _ x => x)))))
    (fun w s hg G n hn => ?_) fun w s₀ s₁ mg mb G Y args vs as hpre hlay L low => ?_⟩
  · obtain rfl : n = r.name := by split at hn <;> simp_all
    exact pinned_of_view hg G hdef hp hk
  · obtain ⟨a, o, pm, cd, doc, dV, kV, h1, h2, h3, h4, h5⟩ := G.fn hdef
    exact ⟨.ref a, h1, call w s₀ s₁ mg mb G Y a o pm cd doc dV kV h2 h3 h4 h5 (defOf_name hdef ▸ h1) L.gens args vs as hpre hlay L.reads L.well (L.low low)⟩
end Mine
end
/-! Hd2 -/
section
open PySem PySem.W PyProof.Rows
set_option maxRecDepth 100000
set_option maxHeartbeats 8000000
namespace Mine
abbrev kmHookB (K : Params → Frag) (as : List Addr) (e : ∀ P, as = (K P).map (·.1)) : Hook := kmHook K as e [57, 47]
local macro_rules | `(tactic| o_head ($_ $K $as $e $_)) => `(tactic| o_head (Mine.kmHookB $K $as $e))
open_top kopf for PySem.Challenge.rw_ez0180_01
end Mine
end
/-! Tl0 -/
section
open PySem PySem.W PyProof.Rows PySem.Calls
set_option maxRecDepth 100000
namespace Mine
/-- what is asked of one object -/
abbrev Pr := Obj → Prop
/-- the objects that the call has made and still speaks of -/
abbrev Hp := List (Addr × Pr)
/-- the program -/
abbrev PG : Program := PySem.Challenge.pw_ez0180_01
structure Cx where
  w : World
  h₀ : Heap
  d : Drawn
  os : OsState
  kin : (kopf.heap_39 w.params).In h₀
  p : Program
  loose : List Str
  mean : ExcName → Option Value
  mg : Str → Option Value
  mb : Str → Option Value
  top : Top p loose mean mg mb h₀
structure St (c : Cx) (Δ : Hp) (s : Shared) : Prop where
  keep : ∀ b o, c.h₀.get? b = some o → s.heap.get? b = some o
  own : ∀ p ∈ Δ, (∃ o, s.heap.get? p.1 = some o ∧ p.2 o) ∧ c.h₀.get? p.1 = none ∧ p.1 ≠ sysModules
  nd : (Δ.map (·.1)).Nodup
  drawn : s.drawn = c.d
  os : s.os = c.os
  gens : AllBare s.gens
inductive Upd (a : Addr) (P P' : Pr) : Hp → Hp → Prop
  | head {Δ} : Upd a P P' ((a, P) :: Δ) ((a, P') :: Δ)
  | tail {x Δ Δ'} : Upd a P P' Δ Δ' → Upd a P P' (x :: Δ) (x :: Δ')
inductive Del (a : Addr) (P : Pr) : Hp → Hp → Prop
  | head {Δ} : Del a P ((a, P) :: Δ) Δ
  | tail {x Δ Δ'} : Del a P Δ Δ' → Del a P (x :: Δ) (x :: Δ')
theorem Upd.mem {a P P' Δ Δ'} (h : Upd a P P' Δ Δ') : (a, P) ∈ Δ := by
  induction h with
  | head => exact .head _
  | tail _ ih => exact .tail _ ih
theorem Upd.keys {a P P' Δ Δ'} (h : Upd a P P' Δ Δ') : Δ'.map (·.1) = Δ.map (·.1) := by
  induction h with
  | head => rfl
  | tail _ ih => rw [List.map_cons, List.map_cons, ih]
theorem Upd.of_mem {a P P' Δ Δ'} (h : Upd a P P' Δ Δ') (nd : (Δ.map (·.1)).Nodup) : ∀ p ∈ Δ', p = (a, P') ∨ (p ∈ Δ ∧ p.1 ≠ a) := by
  induction h with
  | @head Δ =>
    rw [List.map_cons, List.nodup_cons] at nd
    intro p hp
    cases hp with
    | head => exact .inl rfl
    | tail _ hp => exact .inr ⟨.tail _ hp, fun e => nd.1 (List.mem_map.mpr ⟨p, hp, e⟩)⟩
  | @tail x Δ Δ' h ih =>
    rw [List.map_cons, List.nodup_cons] at nd
    intro p hp
    cases hp with
    | head =>
      refine .inr ⟨.head _, fun e => nd.1 ?_⟩
      rw [e]; exact List.mem_map_of_mem h.mem
    | tail _ hp =>
      rcases ih nd.2 p hp with e | e
      · exact .inl e
      · exact .inr ⟨.tail _ e.1, e.2⟩
theorem Del.sub {a P Δ Δ'} (h : Del a P Δ Δ') : List.Sublist Δ' Δ := by
  induction h with
  | head => exact List.sublist_cons_self _ _
  | tail _ ih => exact ih.cons_cons _
theorem Del.mem {a P Δ Δ'} (h : Del a P Δ Δ') : (a, P) ∈ Δ := by
  induction h with
  | head => exact .head _
  | tail _ ih => exact .tail _ ih
theorem Del.ne {a P Δ Δ'} (h : Del a P Δ Δ') (nd : (Δ.map (·.1)).Nodup) : ∀ p ∈ Δ', p.1 ≠ a := by
  induction h with
  | head =>
    rw [List.map_cons, List.nodup_cons] at nd
    exact fun p hp e => nd.1 (List.mem_map.mpr ⟨p, hp, e⟩)
  | @tail x Δ Δ' h ih =>
    rw [List.map_cons, List.nodup_cons] at nd
    intro p hp e
    cases hp with
    | head => refine nd.1 ?_; rw [e]; exact List.mem_map_of_mem h.mem
    | tail _ hp => exact ih nd.2 p hp e
section
variable {c : Cx} {Δ Δ' : Hp} {s : Shared} {a : Addr} {P P' : Pr}
theorem St.has (x : St c Δ s) (h : (a, P) ∈ Δ) : ∃ o, s.heap.get? a = some o ∧ P o := (x.own _ h).1
theorem St.new (x : St c Δ s) (h : (a, P) ∈ Δ) : c.h₀.get? a = none := (x.own _ h).2.1
theorem St.noSys (x : St c Δ s) (h : (a, P) ∈ Δ) : (a == sysModules) = false := by
  rw [beq_eq_false_iff_ne]; exact (x.own _ h).2.2
theorem St.toks (x : St c Δ s) {n : Nat} : St c Δ { s with toks := n } := ⟨x.keep, x.own, x.nd, x.drawn, x.os, x.gens⟩
theorem St.upd (x : St c Δ s) (u : Upd a P P' Δ Δ') {h' : Heap} (hs : Heap.SameBut a s.heap h') (hp : ∃ o, h'.get? a = some o ∧ P' o) {n : Nat} : St c Δ' { s with heap := h', toks := n } := by
  have hn := x.new u.mem
  refine ⟨fun b o e => (hs.2 b fun q => ?_).trans (x.keep b o e), fun p hm => ?_, u.keys ▸ x.nd, x.drawn, x.os, x.gens⟩
  · rw [q, hn] at e; cases e
  · rcases u.of_mem x.nd p hm with e | ⟨e, ne⟩
    · subst e; exact ⟨hp, x.own _ u.mem |>.2⟩
    · obtain ⟨⟨o, e1, e2⟩, e3⟩ := x.own p e
      exact ⟨⟨o, (hs.2 _ ne).trans e1, e2⟩, e3⟩
theorem St.drop (x : St c Δ s) (h : List.Sublist Δ' Δ) : St c Δ' s := ⟨x.keep, fun p hp => x.own p (h.subset hp), (h.map _).nodup x.nd, x.drawn, x.os, x.gens⟩
theorem St.del (x : St c Δ s) (u : Del a P Δ Δ') {h' : Heap} (hs : Heap.ExtBut a s.heap h') {n : Nat} : St c Δ' { s with heap := h', toks := n } := by
  have hn := x.new u.mem
  refine ⟨fun b o e => hs b o (fun q => ?_) (x.keep b o e), fun p hm => ?_, (u.sub.map _).nodup x.nd, x.drawn, x.os, x.gens⟩
  · rw [q, hn] at e; cases e
  · obtain ⟨⟨o, e1, e2⟩, e3⟩ := x.own p (u.sub.subset hm)
    exact ⟨⟨o, hs _ o (u.ne x.nd p hm) e1, e2⟩, e3⟩
theorem St.grow (x : St c Δ s) {h' : Heap} (hs : ∀ b o, s.heap.get? b = some o → h'.get? b = some o) {n : Nat} : St c Δ { s with heap := h', toks := n } :=
  ⟨fun b o e => hs _ _ (x.keep b o e), fun p hp => let ⟨⟨o, e1, e2⟩, e3⟩ := x.own p hp; ⟨⟨o, hs _ _ e1, e2⟩, e3⟩, x.nd, x.drawn, x.os, x.gens⟩
theorem get_above {h : Heap} {b : Addr} (hb : h.objs.size ≤ b) : h.get? b = none := by
  cases q : h.get? b with
  | none => rfl
  | some o => exact absurd (Heap.lt_size q) (Nat.not_lt.mpr hb)
theorem St.above (x : St c Δ s) {b : Addr} (hb : s.heap.objs.size ≤ b) : b ≠ sysModules := by
  obtain ⟨mc, ⟨o, es, ep, e, _⟩, _⟩ := c.top.nolimit
  have := Heap.lt_size (x.keep _ _ e)
  have h2 : sysModules < cStatics := by decide
  exact fun q => absurd (Nat.lt_trans h2 this) (Nat.not_lt.mpr (q ▸ hb))
theorem St.add (x : St c Δ s) {h' : Heap} {b : Addr} (hs : ∀ b o, s.heap.get? b = some o → h'.get? b = some o) (hb' : s.heap.objs.size ≤ b) (hp : ∃ o, h'.get? b = some o ∧ P o) {n : Nat} :
    St c ((b, P) :: Δ) { s with heap := h', toks := n } := by
  have hb := get_above hb'
  have hn : c.h₀.get? b = none := by
    cases q : c.h₀.get? b with
    | none => rfl
    | some o => rw [x.keep b o q] at hb; cases hb
  refine ⟨(x.grow hs (n := n)).keep, fun p hm => ?_, ?_, x.drawn, x.os, x.gens⟩
  · cases hm with
    | head => exact ⟨hp, hn, x.above hb'⟩
    | tail _ hm => exact (x.grow hs (n := n)).own p hm
  · rw [List.map_cons, List.nodup_cons]
    refine ⟨fun hm => ?_, x.nd⟩
    obtain ⟨q, hq, e⟩ := List.mem_map.mp hm
    obtain ⟨⟨o, e1, _⟩, _⟩ := x.own q hq
    rw [e, hb] at e1; cases e1
theorem St.push (x : St c Δ s) {o : Obj} (hp : P o) (hf : o.isFreed = false := by k_dflt rfl) {n : Nat} : St c ((s.heap.objs.size, P) :: Δ) { s with heap := s.heap.push o, toks := n } :=
  x.add (fun _ _ e => Heap.get?_push_of_some _ e) (Nat.le_refl _) ⟨o, Heap.get?_push_size _ hf, hp⟩
theorem St.pushG (x : St c Δ s) (o : Obj) {n : Nat} : St c Δ { s with heap := s.heap.push o, toks := n } := x.grow fun _ _ e => Heap.get?_push_of_some _ e
theorem St.kin (x : St c Δ s) : (kopf.heap_39 c.w.params).In s.heap := c.kin.keeps x.keep
theorem St.nolimit (x : St c Δ s) : s.heap.NoLimit := c.top.nolimit.keeps x.keep
theorem St.weak (x : St c Δ s) (u : Upd a P P' Δ Δ') (h : ∀ o, P o → P' o) : St c Δ' s := by
  refine ⟨x.keep, fun p hm => ?_, u.keys ▸ x.nd, x.drawn, x.os, x.gens⟩
  rcases u.of_mem x.nd p hm with e | ⟨e, _⟩
  · subst e
    obtain ⟨⟨o, e1, e2⟩, e3⟩ := x.own _ u.mem
    exact ⟨⟨o, e1, h o e2⟩, e3⟩
  · exact x.own p e
theorem St.perm (x : St c Δ s) (h : List.Perm Δ Δ') : St c Δ' s := ⟨x.keep, fun p hp => x.own p (h.mem_iff.mpr hp), (h.map _).nodup_iff.mp x.nd, x.drawn, x.os, x.gens⟩
end
/-! ## the judgement -/
def Lf {α : Type} (c : Cx) (Q : α → Hp → Prop) : α → Shared → Prop := fun a s => ∃ Δ, St c Δ s ∧ Q a Δ
def T {α : Type} (c : Cx) (A : Around) (Δ : Hp) (t : Sem α) (Q : α → Hp → Prop) (E : Value → Hp → Prop) : Prop :=
  ∀ s, St c Δ s → wpAny (model PG c.w) A t (Lf c Q) (Lf c E) s
def TC (c : Cx) (A : Around) (Δ : Hp) (k : Code) (R : Result → Hp → Prop) : Prop :=
  ∀ s, St c Δ s → codeAny (model PG c.w) A k (Lf c R) s
/-- no exception -/
abbrev NoE : Value → Hp → Prop := fun _ _ => False
section
variable {α β : Type} {c : Cx} {A : Around} {Δ Δ' : Hp} {E : Value → Hp → Prop}
theorem T.mono {t : Sem α} {Q Q' : α → Hp → Prop} {E' : Value → Hp → Prop} (h : T c A Δ t Q E) (hQ : ∀ a Δ, Q a Δ → Q' a Δ) (hE : ∀ a Δ, E a Δ → E' a Δ) : T c A Δ t Q' E' :=
  fun s hs => wpAny_mono (h s hs) (fun _ _ ⟨Δ, x, q⟩ => ⟨Δ, x, hQ _ _ q⟩) fun _ _ ⟨Δ, x, q⟩ => ⟨Δ, x, hE _ _ q⟩
theorem T.use {t : Sem α} {Q Q' : α → Hp → Prop} (h : T c A Δ t Q NoE) (hQ : ∀ a Δ, Q a Δ → Q' a Δ) : T c A Δ t Q' E := h.mono hQ fun _ _ x => x.elim
theorem T.pre {t : Sem α} {Q : α → Hp → Prop} (hs : ∀ s, St c Δ s → St c Δ' s) (h : T c A Δ' t Q E) : T c A Δ t Q E := fun s x => h s (hs s x)
theorem T.drp {t : Sem α} {Q : α → Hp → Prop} (hs : List.Sublist Δ' Δ) (h : T c A Δ' t Q E) : T c A Δ t Q E := h.pre fun _ x => x.drop hs
theorem T.weak {t : Sem α} {Q : α → Hp → Prop} {a : Addr} {P P' : Pr} (u : Upd a P P' Δ Δ') (hp : ∀ o, P o → P' o) (h : T c A Δ' t Q E) : T c A Δ t Q E := h.pre fun _ x => x.weak u hp
/-- what holds of an object may be taken out -/
theorem T.fact {t : Sem α} {Q : α → Hp → Prop} {a : Addr} {P : Pr} (hm : (a, P) ∈ Δ) (h : ∀ o, P o → T c A Δ t Q E) : T c A Δ t Q E := fun s x =>
  let ⟨o, _, p⟩ := x.has hm; h o p s x
theorem T.ex {γ : Sort _} {t : Sem α} {Q : α → Hp → Prop} {a : Addr} {P : γ → Pr} {Δ' : γ → Hp} (u : ∀ x, Upd a (fun o => ∃ x, P x o) (P x) Δ (Δ' x)) (h : ∀ x, T c A (Δ' x) t Q E) [Nonempty γ] : T c A Δ t Q E := by
  intro s hs
  have ⟨z⟩ := (inferInstance : Nonempty γ)
  obtain ⟨o, e, x, p⟩ := hs.has (u z).mem
  refine h x s ⟨hs.keep, fun q hq => ?_, (u x).keys ▸ hs.nd, hs.drawn, hs.os, hs.gens⟩
  rcases (u x).of_mem hs.nd q hq with e' | ⟨e', _⟩
  · subst e'; exact ⟨⟨o, e, p⟩, (hs.own _ (u x).mem).2⟩
  · exact hs.own q e'
theorem T.ne {t : Sem α} {Q : α → Hp → Prop} {a b : Addr} {P P' : Pr} (ha : (a, P) ∈ Δ) (hb : (b, P') ∈ Δ) (hne : ∀ o, P o → P' o → False) (h : a ≠ b → T c A Δ t Q E) : T c A Δ t Q E := fun s x => by
  refine h (fun e => ?_) s x
  subst e
  obtain ⟨o, e1, p1⟩ := x.has ha
  obtain ⟨o', e2, p2⟩ := x.has hb
  rw [e1] at e2; cases e2
  exact hne o p1 p2
theorem Lf.t {Q : α → Hp → Prop} {s : Shared} {γ : Type} {f : γ → Sem α} {a : γ} (h : Lf c (fun (a : γ) Δ => T c A Δ (f a) Q E) a s) : wpAny (model PG c.w) A (f a) (Lf c Q) (Lf c E) s :=
  let ⟨_, x, q⟩ := h; q s x
theorem T.pur {a : α} {Q : α → Hp → Prop} (h : Q a Δ) : T c A Δ (pure a) Q E := fun s hs => wpAny_pure ⟨Δ, hs, h⟩
theorem T.sq {m : Sem β} {f : β → Sem α} {Q : α → Hp → Prop} {s : Shared} (h : T c A Δ m (fun b Δ => T c A Δ (f b) Q E) E) (hs : St c Δ s) :
    wpAny (model PG c.w) A m (fun b s' => wpAny (model PG c.w) A (f b) (Lf c Q) (Lf c E) s') (Lf c E) s :=
  wpAny_mono (h s hs) (fun _ _ ⟨_, x, q⟩ => q _ x) fun _ _ e => e
theorem T.bnd {m : Sem β} {f : β → Sem α} {Q : α → Hp → Prop} (h : T c A Δ m (fun b Δ => T c A Δ (f b) Q E) E) : T c A Δ (m >>= f) Q E :=
  fun _ hs => wpAny_bind (T.sq h hs)
/-- sequencing inside a library rule with two, three, .. steps -/
theorem T.to {m : Sem β} {G : β → Shared → Prop} {Q : β → Hp → Prop} {s : Shared} (h : T c A Δ m Q E) (hs : St c Δ s) (g : ∀ b s', Lf c Q b s' → G b s') : wpAny (model PG c.w) A m G (Lf c E) s :=
  wpAny_mono (h s hs) g fun _ _ e => e
theorem T.call_of {f : Value} {pos : List Value} {kw : List (Str × Value)} {Q : Value → Hp → Prop}
    (h : TC c A Δ (.call f ⟨pos, kw⟩) (fun r Δ' => match r with | .ok (.ret v) => Q v Δ' | .ok _ => False | .error e => E e Δ')) : T c A Δ (call f pos kw) Q E := fun s hs =>
  wpAny_call (codeAny_mono (h s hs) fun r s' ⟨Δ', x, q⟩ => by
    rcases r with e | f
    · exact ⟨Δ', x, q⟩
    · cases f <;> first | exact ⟨Δ', x, q⟩ | exact q.elim)
end
end Mine
end
/-! Tl1 -/
section
open PySem PySem.W PyProof.Rows PySem.Calls
set_option maxRecDepth 100000
namespace Mine
/-! ## kinds of objects -/
def PNs (m : Str → Option Value) : Pr := fun o => ∃ es ep, o.data = .dict es ep ∧ StrKeys es ∧ ∀ name, nsFind es name = m name
/-- a frame: at least these names are bound so -/
def PFr (l : List (Str × Value)) : Pr := fun o => ∃ m, PNs m o ∧ ∀ p ∈ l, m p.1 = some p.2
def PCell (v : Option Value) : Pr := fun o => o.data = .cell v
def PList (items : Array Value) : Pr := fun o => ∃ n, o = { cls := .type "list", data := .seq items n }
def PLIter (l : Addr) (i : Nat) : Pr := fun o => o.cls = .type "list_iterator" ∧ o.data = .fields #[.ref l, .int i 0]
def PTup (items : Array Value) : Pr := fun o => o.cls = .type "tuple" ∧ ∃ n, o.data = .seq items n
section
variable {c : Cx} {Δ Δ' : Hp} {s : Shared} {a : Addr}
theorem St.ns {m} (x : St c Δ s) (h : (a, PNs m) ∈ Δ) : s.heap.Ns a m := let ⟨o, e, es, ep, r⟩ := x.has h; ⟨o, es, ep, e, r⟩
theorem St.cell {v} (x : St c Δ s) (h : (a, PCell v) ∈ Δ) : s.heap.IsCell a v := x.has h
theorem St.plain {v} (x : St c Δ s) (h : (a, PList v) ∈ Δ) : s.heap.PlainList a v := let ⟨o, e, n, q⟩ := x.has h; ⟨n, q ▸ e⟩
theorem St.list {v} (x : St c Δ s) (h : (a, PList v) ∈ Δ) : s.heap.IsList a v := (x.plain h).isList
theorem St.liter {v i} (x : St c Δ s) (h : (a, PLIter v i) ∈ Δ) : s.heap.IsListIter a v i := x.has h
theorem St.tup {v} (x : St c Δ s) (h : (a, PTup v) ∈ Δ) : s.heap.IsTuple a v := x.has h
end
/-- the names of a frame behind a store -/
inductive SetV (x : Str) (v : Value) : List (Str × Value) → List (Str × Value) → Prop
  | nil : SetV x v [] [(x, v)]
  | hit {u l} : (l.map (·.1)).contains x = false → SetV x v ((x, u) :: l) ((x, v) :: l)
  | miss {y u l l'} : (x == y) = false → SetV x v l l' → SetV x v ((y, u) :: l) ((y, u) :: l')
theorem SetV.ok {x v l l'} (h : SetV x v l l') {m : Str → Option Value} (hm : ∀ p ∈ l, m p.1 = some p.2) : ∀ p ∈ l', (if p.1 = x then some v else m p.1) = some p.2 := by
  induction h with
  | nil => intro p hp; cases hp with | head => exact if_pos rfl | tail _ h => cases h
  | hit hc =>
    intro p hp
    cases hp with
    | head => exact if_pos rfl
    | tail _ hp =>
      rw [if_neg]
      · exact hm p (.tail _ hp)
      · intro e
        rw [List.contains_eq_mem, decide_eq_false_iff_not] at hc
        exact hc (List.mem_map.mpr ⟨p, hp, e⟩)
  | miss hc h ih =>
    intro p hp
    cases hp with
    | head =>
      rw [if_neg]
      · exact hm _ (.head _)
      · intro e; rw [← e, beq_self_eq_true] at hc; cases hc
    | tail _ hp => exact ih (fun q hq => hm q (.tail _ hq)) p hp
section
variable {c : Cx} {A : Around} {Δ Δ' : Hp} {E : Value → Hp → Prop} {env : Env}
/-! ## names -/
theorem T.loadLocal {x : Str} {v : Value} {L : Addr} {l : List (Str × Value)} {Q : Value → Hp → Prop} (hL : env.locals = L) (hm : (L, PFr l) ∈ Δ) (hv : (x, v) ∈ l) (h : Q v Δ)
    (hk : env.scope.kind = .function) (hx : env.kindOf x = some .local) : T c A Δ (loadName env x) Q E := fun s hs => by
  subst hL
  obtain ⟨o, e, m, ⟨es, ep, r⟩, f⟩ := hs.has hm
  exact wpAny_loadName_local hk hx ⟨o, es, ep, e, r⟩ (f _ hv) ⟨Δ, hs, h⟩
theorem T.loadCell {x : Str} {v : Value} {a : Addr} {Q : Value → Hp → Prop} (hc : env.cells.lookup x = some a) (hm : (a, PCell (some v)) ∈ Δ) (h : Q v Δ)
    (hk : env.scope.kind = .function) (hx : env.kindOf x = some .cell) : T c A Δ (loadName env x) Q E := fun s hs =>
  wpAny_loadName_cell hk hx hc (hs.cell hm) ⟨Δ, hs, h⟩
theorem T.loadFree {x : Str} {v : Value} {a : Addr} {Q : Value → Hp → Prop} (hc : env.cells.lookup x = some a) (hm : (a, PCell (some v)) ∈ Δ) (h : Q v Δ)
    (hk : env.scope.kind = .function) (hx : env.kindOf x = some .free) (hd : (x == ("__classdict__" : Str)) = false) : T c A Δ (loadName env x) Q E := fun s hs =>
  wpAny_loadName_free hk hx hc (hs.cell hm) ⟨Δ, hs, h⟩ hd
theorem T.name {x : Str} {p : Pos} {Q : Value → Hp → Prop} (hd : (x == ("__debug__" : Str)) = false) (h : T c A Δ (loadName env x) Q E) : T c A Δ (eval (.Name x p) env) Q E := fun s hs =>
  wpAny_Name (h s hs) hd
theorem T.nameLocal {x : Str} {p : Pos} {v : Value} {L : Addr} {l : List (Str × Value)} {Q : Value → Hp → Prop} (hL : env.locals = L) (hm : (L, PFr l) ∈ Δ) (hv : (x, v) ∈ l) (h : Q v Δ)
    (hk : env.scope.kind = .function) (hx : env.kindOf x = some .local) (hd : (x == ("__debug__" : Str)) = false) : T c A Δ (eval (.Name x p) env) Q E := T.name hd (T.loadLocal hL hm hv h hk hx)
theorem T.nameCell {x : Str} {p : Pos} {v : Value} {a : Addr} {Q : Value → Hp → Prop} (hc : env.cells.lookup x = some a) (hm : (a, PCell (some v)) ∈ Δ) (h : Q v Δ)
    (hk : env.scope.kind = .function) (hx : env.kindOf x = some .cell) (hd : (x == ("__debug__" : Str)) = false) : T c A Δ (eval (.Name x p) env) Q E := T.name hd (T.loadCell hc hm h hk hx)
theorem T.nameFree {x : Str} {p : Pos} {v : Value} {a : Addr} {Q : Value → Hp → Prop} (hc : env.cells.lookup x = some a) (hm : (a, PCell (some v)) ∈ Δ) (h : Q v Δ)
    (hk : env.scope.kind = .function) (hx : env.kindOf x = some .free) (hd : (x == ("__debug__" : Str)) = false) (hd2 : (x == ("__classdict__" : Str)) = false) : T c A Δ (eval (.Name x p) env) Q E :=
  T.name hd (T.loadFree hc hm h hk hx hd2)
theorem T.nameGlobal {x : Str} {p : Pos} {v : Value} {Q : Value → Hp → Prop} (e : nsIn (kopf.heap_39 c.w.params) mainGlobals x = some (some v)) (h : Q v Δ) (hg : env.globals = mainGlobals)
    (hk : env.scope.kind = .function) (hx : env.kindOf x = some .globalImplicit) (hd : (x == ("__debug__" : Str)) = false) : T c A Δ (eval (.Name x p) env) Q E := fun s hs =>
  Name_function_global hk hx (loadGlobal_global (env := env) (hg ▸ c.top.g.keeps hs.keep) (mg_of c.kin c.top.g e) ⟨Δ, hs, h⟩) hd
theorem T.nameBuiltin {x : Str} {p : Pos} {v : Value} {Q : Value → Hp → Prop} (e : nsIn (kopf.heap_39 c.w.params) mainGlobals x = some none) (hv : bootBuiltins x = some v) (hn : x ≠ "__name__") (h : Q v Δ)
    (hg : env.globals = mainGlobals) (hb : env.builtins = builtinsNs)
    (hk : env.scope.kind = .function) (hx : env.kindOf x = some .globalImplicit) (hd : (x == ("__debug__" : Str)) = false) : T c A Δ (eval (.Name x p) env) Q E := fun s hs =>
  Name_function_global hk hx (loadGlobal_builtin (env := env) (hg ▸ c.top.g.keeps hs.keep) (mg_none_of c.kin c.top.g e) (hb ▸ c.top.b.keeps hs.keep) ((c.top.builtins x hn).trans hv) ⟨Δ, hs, h⟩) hd
theorem T.storeLocal {x : Str} {v : Value} {L : Addr} {l l' : List (Str × Value)} {Q : Unit → Hp → Prop} (hL : env.locals = L) (hv : SetV x v l l') (hu : Upd L (PFr l) (PFr l') Δ Δ') (h : Q () Δ')
    (hk : env.scope.kind = .function) (hx : env.kindOf x = some .local) : T c A Δ (storeName env x v) Q E := fun s hs => by
  subst hL
  obtain ⟨o, e, m, ⟨es, ep, r⟩, f⟩ := hs.has hu.mem
  refine wpAny_storeName_local hx ⟨o, es, ep, e, r⟩ (fun h' hn hs' => ⟨Δ', hs.upd hu hs' ?_, h⟩) (by rw [hk]; rfl)
  obtain ⟨o', es', ep', e', r'⟩ := hn
  exact ⟨o', e', _, ⟨es', ep', r'⟩, hv.ok f⟩
theorem T.storeCell {x : Str} {v : Value} {u : Option Value} {a : Addr} {Q : Unit → Hp → Prop} (hc : env.cells.lookup x = some a) (hu : Upd a (PCell u) (PCell (some v)) Δ Δ') (h : Q () Δ')
    (hk : env.scope.kind = .function) (hx : env.kindOf x = some .cell) : T c A Δ (storeName env x v) Q E := fun s hs =>
  wpAny_storeName_cell hk hx hc (hs.cell hu.mem) fun h' hn hs' => ⟨Δ', hs.upd hu hs' hn, h⟩
theorem T.bindName {x : Str} {v : Value} {Q : Unit → Hp → Prop} (h : T c A Δ (storeName env x v) Q E) : T c A Δ (bindName env x v) Q E := fun s hs => wpAny_bindName (h s hs)
/-! ## expressions -/
theorem T.constInt {i : Int} {k : Nat} {pos : Pos} {Q : Value → Hp → Prop} (h : ∀ t, Q (.int i t) Δ) : T c A Δ (eval (.Constant (.int i) k pos) env) Q E := fun s hs => wpAny_Constant_int ⟨Δ, hs.toks, h _⟩
theorem T.constStr {x : Str} {k : Nat} {pos : Pos} {Q : Value → Hp → Prop} (h : ∀ t, Q (.str x t) Δ) : T c A Δ (eval (.Constant (.str x) k pos) env) Q E := fun s hs => wpAny_Constant_str ⟨Δ, hs.toks, h _⟩
theorem T.constNone {k : Nat} {pos : Pos} {Q : Value → Hp → Prop} (h : Q .none Δ) : T c A Δ (eval (.Constant .none k pos) env) Q E := fun s hs => wpAny_Constant_none ⟨Δ, hs, h⟩
theorem T.constBool {b : Bool} {k : Nat} {pos : Pos} {Q : Value → Hp → Prop} (h : Q (.bool b) Δ) : T c A Δ (eval (.Constant (.bool b) k pos) env) Q E := fun s hs => wpAny_Constant_bool ⟨Δ, hs, h⟩
theorem T.binOp {l r : Expr} {op : Operator} {pos : Pos} {Q : Value → Hp → Prop}
    (h : T c A Δ (eval l env) (fun a Δ₁ => T c A Δ₁ (eval r env) (fun b Δ₂ => T c A Δ₂ (binaryOp op a b) Q E) E) E) : T c A Δ (eval (.BinOp l op r pos) env) Q E := fun s hs =>
  wpAny_BinOp (h.to hs fun a s₁ ⟨Δ₁, h₁, q⟩ => T.sq q h₁)
theorem T.compare {l r : Expr} {op : CmpOp} {pos : Pos} {Q : Value → Hp → Prop}
    (h : T c A Δ (eval l env) (fun a Δ₁ => T c A Δ₁ (eval r env) (fun b Δ₂ => T c A Δ₂ (compareOp op a b) Q E) E) E)
    (hm : behindInMarks op r = false := by with_unfolding_all rfl) : T c A Δ (eval (.Compare l [op] [r] pos) env) Q E := fun s hs =>
  wpAny_Compare1 (h.to hs fun a s₁ ⟨Δ₁, h₁, q⟩ => T.sq q h₁) hm
theorem T.testCompare {l r : Expr} {op : CmpOp} {pos : Pos} {whole : Sem Value} {Q : Bool → Hp → Prop}
    (h : T c A Δ (eval l env) (fun a Δ₁ => T c A Δ₁ (eval r env) (fun b Δ₂ => T c A Δ₂ (compareOp op a b) (fun v Δ₃ => T c A Δ₃ (truthy v) Q E) E) E) E)
    (hm : behindInMarks op r = false := by with_unfolding_all rfl) : T c A Δ (isTrue (.Compare l [op] [r] pos) env whole) Q E := fun s hs =>
  wpAny_isTrue_Compare1 (h.to hs fun a s₁ ⟨Δ₁, h₁, q⟩ => q.to h₁ fun b s₂ ⟨Δ₂, h₂, q⟩ => T.sq q h₂) hm
theorem T.truthyBool {b : Bool} {Q : Bool → Hp → Prop} (h : Q b Δ) : T c A Δ (truthy (.bool b)) Q E := fun s hs => wpAny_truthy_bool ⟨Δ, hs, h⟩
theorem T.testPlain {e : Expr} {whole : Sem Value} {Q : Bool → Hp → Prop} (h : T c A Δ whole (fun v Δ₁ => T c A Δ₁ (truthy v) Q E) E)
    (he : isTrue e env whole = (do let v ← whole; standAt e.pos; holding [v] (truthy v)) := by k_dflt rfl) : T c A Δ (isTrue e env whole) Q E := fun s hs => isTrue_plain (T.sq h hs) he
theorem T.testNot {x : Expr} {pos : Pos} {whole : Sem Value} {Q : Bool → Hp → Prop} (h : T c A Δ (isTrue x env (eval x env)) (fun b Δ₁ => Q (!b) Δ₁) E) : T c A Δ (isTrue (.UnaryOp .Not x pos) env whole) Q E := fun s hs =>
  isTrue_not (h s hs)
theorem T.notE {x : Expr} {pos : Pos} {Q : Value → Hp → Prop} (h : T c A Δ (eval x env) (fun v Δ₁ => T c A Δ₁ (truthy v) (fun b Δ₂ => Q (.bool !b) Δ₂) E) E) : T c A Δ (eval (.UnaryOp .Not x pos) env) Q E := fun s hs =>
  wpAny_UnaryOp (h.to hs fun v s₁ ⟨Δ₁, h₁, q⟩ => not_of (q s₁ h₁))
theorem T.ifExp {t b o : Expr} {pos : Pos} {Q : Value → Hp → Prop} (h : T c A Δ (isTrue t env (eval t env)) (fun x Δ₁ => if x = true then T c A Δ₁ (eval b env) Q E else T c A Δ₁ (eval o env) Q E) E) : T c A Δ (eval (.IfExp t b o pos) env) Q E := fun s hs =>
  wpAny_IfExp (h.to hs fun x s₁ ⟨Δ₁, h₁, q⟩ => by cases x <;> exact q s₁ h₁)
theorem T.and2 {x y : Expr} {pos : Pos} {Q : Value → Hp → Prop} (h : T c A Δ (eval x env) (fun v Δ₁ => T c A Δ₁ (truthy v) (fun t Δ₂ => if t = true then T c A Δ₂ (eval y env) Q E else Q v Δ₂) E) E) :
    T c A Δ (eval (.BoolOp .And [x, y] pos) env) Q E := fun s hs =>
  wpAny_And2 (h.to hs fun v s₁ ⟨Δ₁, h₁, q⟩ => q.to h₁ fun t s₂ ⟨Δ₂, h₂, q⟩ => by
    cases t
    · exact ⟨Δ₂, h₂, q⟩
    · exact q s₂ h₂)
theorem T.or2 {x y : Expr} {pos : Pos} {Q : Value → Hp → Prop} (h : T c A Δ (eval x env) (fun v Δ₁ => T c A Δ₁ (truthy v) (fun t Δ₂ => if t = true then Q v Δ₂ else T c A Δ₂ (eval y env) Q E) E) E) :
    T c A Δ (eval (.BoolOp .Or [x, y] pos) env) Q E := fun s hs =>
  wpAny_Or2 (h.to hs fun v s₁ ⟨Δ₁, h₁, q⟩ => q.to h₁ fun t s₂ ⟨Δ₂, h₂, q⟩ => by
    cases t
    · exact q s₂ h₂
    · exact ⟨Δ₂, h₂, q⟩)
theorem T.testBool {op : BoolOp} {vs : List Expr} {pos : Pos} {whole : Sem Value} {Q : Bool → Hp → Prop} (h : T c A Δ (allTrue op vs env) Q E) : T c A Δ (isTrue (.BoolOp op vs pos) env whole) Q E := fun s hs => wpAny_isTrue_BoolOp (h s hs)
theorem T.allAndNil {Q : Bool → Hp → Prop} (h : Q true Δ) : T c A Δ (allTrue .And [] env) Q E := fun s hs => wpAny_allTrue_And_nil ⟨Δ, hs, h⟩
theorem T.allOrNil {Q : Bool → Hp → Prop} (h : Q false Δ) : T c A Δ (allTrue .Or [] env) Q E := fun s hs => wpAny_allTrue_Or_nil ⟨Δ, hs, h⟩
theorem T.allAndCons {x : Expr} {r : List Expr} {Q : Bool → Hp → Prop} (h : T c A Δ (isTrue x env (eval x env)) (fun b Δ₁ => if b = true then T c A Δ₁ (allTrue .And r env) Q E else Q false Δ₁) E) : T c A Δ (allTrue .And (x :: r) env) Q E := by
  rw [arm_allTrue_cons]
  refine T.bnd (h.mono (fun b Δ₁ q => ?_) fun _ _ e => e)
  cases b
  · exact T.pur q
  · exact q
theorem T.allOrCons {x : Expr} {r : List Expr} {Q : Bool → Hp → Prop} (h : T c A Δ (isTrue x env (eval x env)) (fun b Δ₁ => if b = true then Q true Δ₁ else T c A Δ₁ (allTrue .Or r env) Q E) E) : T c A Δ (allTrue .Or (x :: r) env) Q E := by
  rw [arm_allTrue_cons]
  refine T.bnd (h.mono (fun b Δ₁ q => ?_) fun _ _ e => e)
  cases b
  · exact q
  · exact T.pur q
/-! ### ints -/
section
variable {a b : Int} {t u : Tok}
theorem T.addInt {Q : Value → Hp → Prop} (h : ∀ t, Q (.int (a + b) t) Δ) : T c A Δ (binaryOp .Add (.int a t) (.int b u)) Q E := fun s hs => add_int ⟨Δ, hs.toks, h _⟩
theorem T.subInt {Q : Value → Hp → Prop} (h : ∀ t, Q (.int (a - b) t) Δ) : T c A Δ (binaryOp .Sub (.int a t) (.int b u)) Q E := fun s hs => sub_int ⟨Δ, hs.toks, h _⟩
theorem T.modInt {Q : Value → Hp → Prop} (hb : b ≠ 0) (h : ∀ t, Q (.int (a.fmod b) t) Δ) : T c A Δ (binaryOp .Mod (.int a t) (.int b u)) Q E := fun s hs => mod_int' hb ⟨Δ, hs.toks, h _⟩
theorem T.divInt {Q : Value → Hp → Prop} (hb : b ≠ 0) (hp : Builtin.divisionGoesByPylong a b = false) (h : ∀ t, Q (.int (a.fdiv b) t) Δ) : T c A Δ (binaryOp .FloorDiv (.int a t) (.int b u)) Q E := fun s hs => floordiv_int hb ⟨Δ, hs.toks, h _⟩ (.inl hp)
theorem T.eqInt {Q : Value → Hp → Prop} (h : Q (.bool (a == b)) Δ) : T c A Δ (compareOp .Eq (.int a t) (.int b u)) Q E := fun s hs => eq_int ⟨Δ, hs, h⟩
theorem T.neInt {Q : Value → Hp → Prop} (h : Q (.bool (a != b)) Δ) : T c A Δ (compareOp .NotEq (.int a t) (.int b u)) Q E := fun s hs => ne_int ⟨Δ, hs, h⟩
theorem T.ltInt {Q : Value → Hp → Prop} (h : Q (.bool (decide (a < b))) Δ) : T c A Δ (compareOp .Lt (.int a t) (.int b u)) Q E := fun s hs => lt_int ⟨Δ, hs, h⟩
theorem T.gtInt {Q : Value → Hp → Prop} (h : Q (.bool (decide (b < a))) Δ) : T c A Δ (compareOp .Gt (.int a t) (.int b u)) Q E := fun s hs => gt_int ⟨Δ, hs, h⟩
end
/-! ## statements -/
theorem T.execsNil {Q : Flow → Hp → Prop} (h : Q .next Δ) : T c A Δ (execs [] env) Q E := fun s hs => wpAny_execs_nil ⟨Δ, hs, h⟩
theorem T.execsCons {st : Stmt} {rest : List Stmt} {Q : Flow → Hp → Prop} (h : T c A Δ (exec st env) (fun f Δ₁ => match f with | .next => T c A Δ₁ (execs rest env) Q E | f => Q f Δ₁) E) : T c A Δ (execs (st :: rest) env) Q E := fun s hs =>
  wpAny_execs_cons (h.to hs fun f s₁ ⟨Δ₁, h₁, q⟩ => by cases f <;> first | exact q s₁ h₁ | exact ⟨Δ₁, h₁, q⟩)
theorem T.assignName {x : Str} {p' pos : Pos} {value : Expr} {Q : Flow → Hp → Prop} (h : T c A Δ (eval value env) (fun v Δ₁ => T c A Δ₁ (storeName env x v) (fun _ Δ₂ => Q .next Δ₂) E) E)
    (hs : swapsWith value (some (.Name x p')) pos.line env = pure false := by k_dflt rfl) : T c A Δ (exec (.Assign [.Name x p'] value pos) env) Q E := fun s hs' => wpAny_Assign_Name (T.sq h hs') hs
theorem T.augName {x : Str} {p' pos : Pos} {op : Operator} {value : Expr} {Q : Flow → Hp → Prop}
    (h : T c A Δ (loadName env x) (fun old Δ₁ => T c A Δ₁ (eval value env) (fun v Δ₂ => T c A Δ₂ (inplaceOp op old v) (fun r Δ₃ => T c A Δ₃ (storeName env x r) (fun _ Δ₄ => Q .next Δ₄) E) E) E) E) :
    T c A Δ (exec (.AugAssign (.Name x p') op value pos) env) Q E := fun s hs => wpAny_AugAssign_Name (h.to hs fun a s₁ ⟨Δ₁, h₁, q⟩ => q.to h₁ fun b s₂ ⟨Δ₂, h₂, q⟩ => T.sq q h₂)
theorem T.ifS {test : Expr} {body orelse : List Stmt} {pos : Pos} {Q : Flow → Hp → Prop} (h : T c A Δ (isTrue test env (eval test env)) (fun b Δ₁ => if b = true then T c A Δ₁ (execs body env) Q E else T c A Δ₁ (execs orelse env) Q E) E) :
    T c A Δ (exec (.If test body orelse pos) env) Q E := fun s hs => wpAny_If (h.to hs fun b s₁ ⟨Δ₁, h₁, q⟩ => by cases b <;> exact q s₁ h₁)
theorem T.retS {e : Expr} {pos : Pos} {Q : Flow → Hp → Prop} (h : T c A Δ (eval e env) (fun v Δ₁ => Q (.ret v) Δ₁) E) : T c A Δ (exec (.Return (some e) pos) env) Q E := fun s hs => wpAny_Return_some (h s hs)
theorem T.brk {pos : Pos} {Q : Flow → Hp → Prop} (h : Q .brk Δ) : T c A Δ (exec (.Break pos) env) Q E := fun s hs => wpAny_Break ⟨Δ, hs, h⟩
theorem T.exprS {e : Expr} {pos : Pos} {Q : Flow → Hp → Prop} (h : T c A Δ (eval e env) (fun v Δ₁ => (match v with | .ref _ => False | _ => True) ∧ Q .next Δ₁) E)
    (hi : interactive env = false := by k_dflt rfl) (hs : swapsWith e none pos.line env = pure false := by k_dflt rfl) : T c A Δ (exec (.Expr e pos) env) Q E := fun s hs' =>
  wpAny_Expr (h.to hs' fun v s₁ ⟨Δ₁, h₁, q1, q2⟩ => by cases v <;> first | exact q1.elim | exact ⟨Δ₁, h₁, q2⟩) hi hs
theorem T.whileS {test : Expr} {body orelse : List Stmt} {pos : Pos} {Q : Flow → Hp → Prop} (I : Nat → Hp → Prop)
    (turn : ∀ n Δ, I n Δ → T c A Δ (isTrue test env (eval test env)) (fun b Δ₁ => if b = true then T c A Δ₁ (execs body env) (fun f Δ₂ => match f with
        | .next => ∃ m, m < n ∧ I m Δ₂
        | .cont => ∃ m, m < n ∧ I m Δ₂
        | .brk => Q .next Δ₂
        | .ret v => Q (.ret v) Δ₂) NoE else T c A Δ₁ (execs orelse env) Q NoE) NoE) (n : Nat) (h : I n Δ) : T c A Δ (exec (.While test body orelse pos) env) Q E := fun s hs =>
  wpAny_While (codeAny_whileLoop (fun n s => ∃ Δ, St c Δ s ∧ I n Δ) (fun n s ⟨Δ, hs, hi⟩ => by
    refine wpAny_mono (turn n Δ hi s hs) (fun b s₁ ⟨Δ₁, h₁, q⟩ => ?_) fun _ _ ⟨_, _, x⟩ => x.elim
    cases b
    · exact wpAny_mono (q s₁ h₁) (fun f s₂ q => q) fun _ _ ⟨_, _, x⟩ => x.elim
    · refine wpAny_mono (q s₁ h₁) (fun f s₂ ⟨Δ₂, h₂, q⟩ => ?_) fun _ _ ⟨_, _, x⟩ => x.elim
      cases f with
      | next => obtain ⟨m, hm, hi⟩ := q; exact ⟨m, hm, Δ₂, h₂, hi⟩
      | cont => obtain ⟨m, hm, hi⟩ := q; exact ⟨m, hm, Δ₂, h₂, hi⟩
      | brk => exact ⟨Δ₂, h₂, q⟩
      | ret v => exact ⟨Δ₂, h₂, q⟩) n ⟨Δ, hs, h⟩)
theorem T.forS {target iter : Expr} {body orelse : List Stmt} {pos : Pos} {Q : Flow → Hp → Prop}
    (h : T c A Δ (eval iter env) (fun x Δ₁ => T c A Δ₁ (pyIter x) (fun it Δ₂ => ∃ (I : Nat → Hp → Prop) (n : Nat), I n Δ₂ ∧ ∀ n Δ, I n Δ → T c A Δ (pyNext it) (fun r Δ₃ => match r with
        | none => T c A Δ₃ (execs orelse env) Q NoE
        | some v => T c A Δ₃ (assign target env v) (fun _ Δ₄ => T c A Δ₄ (execs body env) (fun f Δ₅ => match f with
          | .next => ∃ m, m < n ∧ I m Δ₅
          | .cont => ∃ m, m < n ∧ I m Δ₅
          | .brk => Q .next Δ₅
          | .ret v => Q (.ret v) Δ₅) NoE) NoE) NoE) E) E)
    (hf : ∀ x, foldedSetIterable iter env x = pure x := by intro _; k_dflt rfl) (hl : ∀ it v, letOwnedTupleGo target it v = pure () := by intro _ _; k_dflt rfl) : T c A Δ (exec (.For target iter body orelse pos) env) Q E := fun s hs =>
  wpAny_For (h.to hs fun x s₁ ⟨Δ₁, h₁, q⟩ => q.to h₁ fun it s₂ ⟨Δ₂, h₂, I, n, hI, turn⟩ => codeAny_forLoop (fun n s => ∃ Δ, St c Δ s ∧ I n Δ) (fun n s ⟨Δ, hs, hi⟩ => by
    refine wpAny_mono (turn n Δ hi s hs) (fun r s₃ ⟨Δ₃, h₃, q⟩ => ?_) fun _ _ ⟨_, _, x⟩ => x.elim
    cases r with
    | none => exact wpAny_mono (q s₃ h₃) (fun f s₂ q => q) fun _ _ ⟨_, _, x⟩ => x.elim
    | some v =>
      refine wpAny_mono (q s₃ h₃) (fun _ s₄ ⟨Δ₄, h₄, q⟩ => ?_) fun _ _ ⟨_, _, x⟩ => x.elim
      refine wpAny_mono (q s₄ h₄) (fun f s₅ ⟨Δ₅, h₅, q⟩ => ?_) fun _ _ ⟨_, _, x⟩ => x.elim
      cases f with
      | next => obtain ⟨m, hm, hi⟩ := q; exact ⟨m, hm, Δ₅, h₅, hi⟩
      | cont => obtain ⟨m, hm, hi⟩ := q; exact ⟨m, hm, Δ₅, h₅, hi⟩
      | brk => exact ⟨Δ₅, h₅, q⟩
      | ret v => exact ⟨Δ₅, h₅, q⟩) n ⟨Δ₂, h₂, hI⟩ (hl it)) hf
end
end Mine
end
/-! Tl2 -/
section
open PySem PySem.W PyProof.Rows PySem.Calls
set_option maxRecDepth 100000
namespace Mine
section
variable {c : Cx} {A : Around} {Δ Δ' : Hp} {E : Value → Hp → Prop} {env : Env}
theorem T.looks {α : Type} {t : Sem α} {r : α} {Q : α → Hp → Prop} (x : ∀ h, (kopf.heap_39 c.w.params).In h → Looks (model PG c.w) h t r) (h : Q r Δ) : T c A Δ t Q E := fun s hs => (x _ hs.kin).here ⟨Δ, hs, h⟩
theorem T.hold {α : Type} {vs : List Value} {t : Sem α} {Q : α → Hp → Prop} (h : T c A Δ t Q E) : T c A Δ (holding vs t) Q E := fun s hs => wpAny_holding (h s hs)
theorem T.stand {pos : Pos} {Q : Unit → Hp → Prop} (h : Q () Δ) : T c A Δ (standAt pos) Q E := fun s hs => wpAny_standAt ⟨Δ, hs, h⟩
theorem T.pnt {Q : Unit → Hp → Prop} (h : Q () Δ) : T c A Δ point Q E := fun s hs => wpAny_point ⟨Δ, hs, h⟩
theorem T.oper {vs : List Value} {t : Sem Value} {Q : Value → Hp → Prop} (h : T c A Δ t Q E) : T c A Δ (operate vs t) Q E := fun s hs Γ p hΓ => by
  rw [Sem.wp_operate]; exact h s hs Γ p hΓ
theorem T.kp {α : Type} {vs : List Value} {t : Sem α} {Q : α → Hp → Prop} (h : T c A Δ t Q E) : T c A Δ (t.keep vs) Q E := fun s hs => Calls.wpAny_keep (h s hs)
/-! ## calls -/
theorem T.cWith {pos : Pos} {f : Value} {first : List Value} {args : List (Bool × Sem Value)} {kws : List (Option Str × Sem Value)} {Q : Value → Hp → Prop}
    (h : T c A Δ (evalArgs f true args kws) (fun a Δ₁ => T c A Δ₁ (keeperOf f) (fun _ Δ₂ => T c A Δ₂ (call f (first ++ a.pos) a.kw) Q E) E) E) (hplain : (args.any (·.1) || kws.any (·.1.isNone)) = false) : T c A Δ (callWith pos f first args kws) Q E := by
  unfold PySem.callWith
  refine T.bnd (T.hold (h.mono (fun a Δ₁ q => ?_) fun _ _ e => e))
  refine T.bnd (T.stand ?_)
  simp only [hplain]
  refine T.bnd (q.mono (fun k Δ₂ q => ?_) fun _ _ e => e)
  have tail : ∀ {t : Sem Value}, T c A Δ₂ t Q E → T c A Δ₂ (t >>= fun r => holding [r] point >>= fun _ => Pure.pure r) Q E := fun ht =>
    T.bnd (ht.mono (fun r Δ₃ q => T.bnd (T.hold (T.pnt (T.pur q)))) fun _ _ e => e)
  have marked (mk : Value) : T c A Δ₂ (callMarked mk f (first ++ a.pos) a.kw) Q E := T.kp q
  cases k <;> dsimp only
  · split <;> first | exact tail q | exact tail (marked _)
  · split <;> first | exact tail q | exact tail (marked _)
  · exact tail q
  · exact tail (T.oper q)
theorem T.keeperBuiltin {id : String} {Q : Keeper → Hp → Prop} (h : Q .machine Δ) : T c A Δ (keeperOf (.builtin id)) Q E := T.pur h
theorem T.keeperType {id : String} {Q : Keeper → Hp → Prop} (h : Q .machine Δ) : T c A Δ (keeperOf (.type id)) Q E := T.pur h
theorem T.keeperK {f : Value} {Q : Keeper → Hp → Prop} (hk : keepIn (kopf.heap_39 c.w.params) f = true) (h : ∀ k, Q k Δ) : T c A Δ (keeperOf f) Q E := fun s hs => by
  obtain ⟨k, _, L⟩ := looks_keep (M := model PG c.w) hk hs.kin
  exact L.here ⟨Δ, hs, h k⟩
theorem T.eArgsNil {f : Value} {Q : Args → Hp → Prop} (h : Q {} Δ) : T c A Δ (evalArgs f true [] []) Q E := fun s hs => evalArgs_nil3 ⟨Δ, hs, h⟩
theorem T.eArgs {f : Value} {x : Sem Value} {rest : List (Bool × Sem Value)} {Q : Args → Hp → Prop} (h : T c A Δ (spliced ((false, x) :: rest)) (fun vs Δ₁ => Q ⟨vs, []⟩ Δ₁) E) : T c A Δ (evalArgs f true ((false, x) :: rest) []) Q E := fun s hs =>
  evalArgs_plain (h s hs)
theorem T.eArgsKw {f : Value} {pos : Pos} {e : Expr} {rest : List Expr} {kws : List Keyword} {Q : Args → Hp → Prop} (hall : (backToKw pos (keywordEach kws env)).all (·.1.isSome) = true)
    (h : T c A Δ (spliced (backTo pos (starEach (e :: rest) env))) (fun vs Δ₁ => T c A Δ₁ (evalAll ((backToKw pos (keywordEach kws env)).map (·.2))) (fun ks Δ₂ => Q ⟨vs, ((backToKw pos (keywordEach kws env)).filterMap (·.1)).zip ks⟩ Δ₂) E) E)
    (he : starEach (e :: rest) env = (false, eval e env) :: starEach rest env := by k_dflt rfl) : T c A Δ (evalArgs f true (backTo pos (starEach (e :: rest) env)) (backToKw pos (keywordEach kws env))) Q E := fun s hs =>
  evalArgs_kw2 (Q := Lf c Q) hall (T.to h hs fun vs s₁ ⟨Δ₁, h₁, q⟩ => q s₁ h₁) he
theorem T.splNil {Q : List Value → Hp → Prop} (h : Q [] Δ) : T c A Δ (spliced []) Q E := T.pur h
theorem T.splCons {x : Sem Value} {rest : List (Bool × Sem Value)} {Q : List Value → Hp → Prop} (h : T c A Δ x (fun v Δ₁ => T c A Δ₁ (spliced rest) (fun vs Δ₂ => Q (v :: vs) Δ₂) E) E) : T c A Δ (spliced ((false, x) :: rest)) Q E := fun s hs =>
  Calls.spliced_cons (T.to h hs fun v s₁ ⟨Δ₁, h₁, q⟩ => q s₁ h₁)
theorem T.allNil {Q : List Value → Hp → Prop} (h : Q [] Δ) : T c A Δ (evalAll []) Q E := T.pur h
theorem T.allCons {x : Sem Value} {rest : List (Sem Value)} {Q : List Value → Hp → Prop} (h : T c A Δ x (fun v Δ₁ => T c A Δ₁ (evalAll rest) (fun vs Δ₂ => Q (v :: vs) Δ₂) E) E) : T c A Δ (evalAll (x :: rest)) Q E := fun s hs =>
  wpAny_evalAll_cons (T.to h hs fun v s₁ ⟨Δ₁, h₁, q⟩ => q s₁ h₁)
/-- a keyword's value, and back to the call's place -/
theorem T.thenStand {x : Sem Value} {pos : Pos} {Q : Value → Hp → Prop} (h : T c A Δ x Q E) : T c A Δ (do let v ← x; standAt pos; Pure.pure v) Q E :=
  T.bnd (h.mono (fun v Δ₁ q => T.bnd (T.stand (T.pur q))) fun _ _ e => e)
theorem T.callName {id : Str} {p pos : Pos} {args : List Expr} {Q : Value → Hp → Prop}
    (h : T c A Δ (eval (.Name id p) env) (fun f Δ₁ => T c A Δ₁ (callWith pos f [] (backTo pos (starEach args env)) []) Q E) E) : T c A Δ (eval (.Call (.Name id p) args [] pos) env) Q E := fun s hs => wpAny_Call_NameR (T.sq h hs)
theorem T.callNameKw {id : Str} {p pos : Pos} {args : List Expr} {kws : List Keyword} {Q : Value → Hp → Prop}
    (h : T c A Δ (eval (.Name id p) env) (fun f Δ₁ => T c A Δ₁ (callWith pos f [] (backTo pos (starEach args env)) (backToKw pos (keywordEach kws env))) Q E) E) : T c A Δ (eval (.Call (.Name id p) args kws pos) env) Q E := fun s hs => wpAny_Call_Name_kw (T.sq h hs)
theorem T.callAttr {o : Expr} {name : Str} {apos pos : Pos} {args : List Expr} {kws : List Keyword} {pl : Sem Bool} {Q : Value → Hp → Prop}
    (h : T c A Δ (eval o env) (fun ov Δ₁ => T c A Δ₁ (getMethod ov name pl) (fun fx Δ₂ => T c A Δ₂ (callWith pos fx.1 fx.2 (backTo pos (starEach args env)) (backToKw pos (keywordEach kws env))) Q E) E) E)
    (he : eval (.Call (.Attribute o name apos) args kws pos) env = (do
      let ov ← eval o env
      standAt apos.atName
      let (f, first) ← holding [ov] (getMethod ov name pl)
      callWith pos f first (backTo pos (starEach args env)) (backToKw pos (keywordEach kws env))) := by k_dflt rfl) : T c A Δ (eval (.Call (.Attribute o name apos) args kws pos) env) Q E := fun s hs =>
  methodCall_KW (T.to h hs fun ov s₁ ⟨Δ₁, h₁, q⟩ => T.sq q h₁) he
/-! ## a def of the text -/
def retv : Flow → Value
  | .ret v => v
  | _ => .none
theorem St.adds {s : Shared} {h' : Heap} {n : Nat} (x : St c Δ s) (hs : ∀ b o, s.heap.get? b = some o → h'.get? b = some o) : ∀ (N : Hp), (∀ p ∈ N, s.heap.objs.size ≤ p.1 ∧ ∃ o, h'.get? p.1 = some o ∧ p.2 o) → (N.map (·.1)).Nodup →
    St c (N ++ Δ) { s with heap := h', toks := n }
  | [], _, _ => x.grow hs
  | p :: N, hp, nd => by
    rw [List.map_cons, List.nodup_cons] at nd
    have y := St.adds (n := n) x hs N (fun q hq => hp q (.tail _ hq)) nd.2
    have hn : c.h₀.get? p.1 = none := by
      cases q : c.h₀.get? p.1 with
      | none => rfl
      | some o => have := get_above (hp p (.head _)).1; rw [x.keep _ o q] at this; cases this
    refine ⟨y.keep, fun q hq => ?_, ?_, x.drawn, x.os, x.gens⟩
    · rcases List.mem_cons.mp hq with rfl | hq
      · exact ⟨(hp _ (.head _)).2, hn, x.above (hp _ (.head _)).1⟩
      · exact y.own q hq
    · rw [List.cons_append, List.map_cons, List.nodup_cons]
      refine ⟨fun hm => ?_, y.nd⟩
      obtain ⟨q, hq, e⟩ := List.mem_map.mp hm
      rcases List.mem_append.mp hq with hq | hq
      · exact nd.1 (e ▸ List.mem_map_of_mem hq)
      · obtain ⟨⟨o, e1, _⟩, _⟩ := x.own q hq
        rw [e, get_above (hp p (.head _)).1] at e1; cases e1
theorem lookup_of_nodup' : ∀ {l : List (Str × Addr)} {n : Str} {a : Addr}, (l.map (·.1)).Nodup → (n, a) ∈ l → l.lookup n = some a
  | (k, v) :: r, n, a, nd, hm => by
    rw [List.map_cons, List.nodup_cons] at nd
    rw [List.lookup_cons]
    cases hm with
    | head => rw [beq_self_eq_true]
    | tail _ hm =>
      have : (n == k) = false := by
        rw [beq_eq_false_iff_ne]
        intro e
        exact nd.1 (List.mem_map.mpr ⟨_, hm, e⟩)
      rw [this]; exact lookup_of_nodup' nd.2 hm
/-- the cells of a frame -/
def cellsHp (names : List (Str × NameKind)) (cm : Str → Option Value) (L : Addr) : Hp := (cellsFrom (L + 1) names []).map fun x => (x.2, PCell (cm x.1))
theorem bindPure {fd : FuncData} {args : Args} {binds : List (Str × Value)} {Q : List (Str × Value) → Hp → Prop} (hb : bindArgs fd args = pure binds) (h : Q binds Δ) : T c A Δ (bindArgs fd args) Q E := hb ▸ T.pur h
theorem T.callFn {f : Addr} {fd : FuncData} {body : List Stmt} {args : Args} {oc : Value} {od : Option Addr} {sl : Array (Option Value)} {Q : Value → Hp → Prop}
    (hk : (kopf.heap_39 c.w.params).lookup f = some ⟨oc, od, .func fd, sl⟩) (hcd : codeIn (kopf.heap_39 c.w.params) fd.code fd.qualname = true) (hbody : fd.body = .stmts body) (hclo : fd.closure = []) (hroom : A.depth < recursionLimit)
    (h : T c A.in1 Δ (bindArgs fd args) (fun binds Δ₁ => (binds.all fun y => fd.scope.names.lookup y.1 == some .local || fd.scope.names.lookup y.1 == some .cell) = true ∧
      ∃ l, (∀ L, ∀ p ∈ l, bindL (callEnvC fd L f).kindOf binds (fun _ => none) p.1 = some p.2) ∧
      ∀ L, T c (A.deeper (callEnvC fd L f)) ((L, PFr l) :: (cellsHp fd.scope.names (bindC (callEnvC fd L f).kindOf binds fun _ => none) L ++ Δ₁)) (execs body (callEnvC fd L f))
        (fun fl Δ₂ => ∃ Δ₃, List.Sublist Δ₃ Δ₂ ∧ Q (retv fl) Δ₃) NoE) NoE)
    (hnd : ((cellsFrom 0 fd.scope.names []).map (·.1)).Nodup)
    (hco : fd.scope.isCoroutine = false) (hgen : fd.scope.isGenerator = false) (hkd : fd.scope.kind = .function) :
    TC c A Δ (.call (.ref f) args) (fun r Δ' => match r with | .ok (.ret v) => Q v Δ' | .ok _ => False | .error e => E e Δ') := fun s hs => by
  refine codeAny_call_function hroom (hs.kin _ _ hk) rfl hco hgen hbody (codeRec_of hs.kin hcd) ?_
  refine wpAny_mono (h s hs) (fun binds s₁ ⟨Δ₁, h₁, hkind, l, hl, hb⟩ => ?_) fun _ _ ⟨_, _, x⟩ => x.elim
  rw [hclo]
  refine wpAny_newFunctionEnv_cells hkd (kindsX hkind _) fun env he s₂ hin => ?_
  subst he
  obtain ⟨⟨⟨h₂, tk, rfl⟩, ns, keep, fresh⟩, cell, apart, above⟩ := hin
  refine ⟨h₁.nolimit.keeps keep, codeAny_func ?_⟩
  have hnone : ∀ b, s₁.heap.objs.size ≤ b → s₁.heap.get? b = none := fun b hb => by
    cases q : s₁.heap.get? b with
    | none => rfl
    | some o => exact absurd (Heap.lt_size q) (Nat.not_lt.mpr hb)
  have hlook : ∀ n a, (n, a) ∈ cellsFrom (s₁.heap.objs.size + 1) fd.scope.names [] → (cellsFrom (s₁.heap.objs.size + 1) fd.scope.names []).lookup n = some a := by
    have nk := cellsFrom_names fd.scope.names 0 (s₁.heap.objs.size + 1) [] [] rfl
    intro n a hm
    exact lookup_of_nodup' (by rw [← nk]; exact hnd) hm
  have S := h₁.adds (h' := h₂) (n := tk) keep ((s₁.heap.objs.size, PFr l) :: cellsHp fd.scope.names (bindC (callEnvC fd s₁.heap.objs.size f).kindOf binds fun _ => none) s₁.heap.objs.size)
    (fun p hp => by
      rcases List.mem_cons.mp hp with rfl | hp
      · obtain ⟨o, es, ep, e, r⟩ := ns
        exact ⟨Nat.le_refl _, o, e, _, ⟨es, ep, r⟩, hl _⟩
      · obtain ⟨⟨n, a⟩, hm, rfl⟩ := List.mem_map.mp hp
        exact ⟨Nat.le_of_lt (above n a hm), cell n a (hlook n a hm)⟩)
    (by
      rw [List.map_cons, List.nodup_cons]
      refine ⟨fun hm => ?_, ?_⟩
      · obtain ⟨p, hp, e⟩ := List.mem_map.mp hm
        obtain ⟨⟨n, a⟩, hm, rfl⟩ := List.mem_map.mp hp
        have := above n a hm
        have e : a = s₁.heap.objs.size := e
        exact Nat.lt_irrefl _ (e ▸ this)
      · show List.Nodup _
        unfold cellsHp
        rw [List.map_map]
        exact List.pairwise_map.mpr (apart.imp fun h => h))
  refine wpAny_mono (hb _ _ S) (fun fl s₃ ⟨Δ₂, h₃, Δ₃, sub, q⟩ => ⟨Δ₃, h₃.drop sub, ?_⟩) fun _ _ ⟨_, _, x⟩ => x.elim
  cases fl <;> exact q
end
end Mine
end
/-! Tl3 -/
section
open PySem PySem.W PyProof.Rows PySem.Calls
set_option maxRecDepth 100000
namespace Mine
/-! ## dicts by a kind of keys, instances -/
def PDict {K : Type} [DecidableEq K] (is : K → Value → Bool) (hash : K → Int) (kvs : List (K × Value)) (ep : Nat) : Pr := fun o =>
  ∃ es, o.ExactDict ∧ o.data = .dict es ep ∧ (∀ e ∈ es, ∃ k, is k e.key = true ∧ e.hash = hash k) ∧ (es.toList.length = kvs.length ∧ ∀ p ∈ es.toList.zip kvs, is p.2.1 p.1.key = true ∧ p.1.val = p.2.2) ∧ (kvs.map (·.1)).Nodup
theorem pairs_iff {prog : Program} {w : World} {K : Type} [DecidableEq K] (knd : PySem.KeyKind prog w K) : ∀ {es : List DictEntry} {kvs : List (K × Value)},
    Pairs knd es kvs ↔ (es.length = kvs.length ∧ ∀ p ∈ es.zip kvs, knd.is p.2.1 p.1.key = true ∧ p.1.val = p.2.2)
  | [], [] => ⟨fun _ => ⟨rfl, fun _ h => nomatch h⟩, fun _ => .nil⟩
  | [], _ :: _ => ⟨(fun h => by cases h), (fun h => by cases h.1)⟩
  | _ :: _, [] => ⟨(fun h => by cases h), (fun h => by cases h.1)⟩
  | e :: es, kv :: kvs => by
    have ih := pairs_iff knd (es := es) (kvs := kvs)
    constructor
    · intro h
      cases h with
      | cons h1 h2 h3 =>
        obtain ⟨a, b⟩ := ih.mp h3
        refine ⟨by simp [a], fun p hp => ?_⟩
        rw [List.zip_cons_cons] at hp
        cases hp with
        | head => exact ⟨h1, h2⟩
        | tail _ hp => exact b p hp
    · intro h
      obtain ⟨a, b⟩ := h
      rw [List.zip_cons_cons] at b
      exact .cons (b _ (.head _)).1 (b _ (.head _)).2 (ih.mpr ⟨by simpa using a, fun p hp => b p (.tail _ hp)⟩)
/-- int keys -/
def PDI (kvs : List (Int × Value)) (ep : Nat) : Pr := PDict Value.isInt hashInt kvs ep
/-- str keys -/
def PDS (w : World) (kvs : List (Str × Value)) (ep : Nat) : Pr := PDict Value.isStrOf (hashStr w) kvs ep
def PInst (C dx : Addr) : Pr := fun o => o = instObj C dx
section
variable {c : Cx} {Δ Δ' : Hp} {s : Shared} {a : Addr}
theorem PDict.at {prog : Program} {w : World} {K : Type} [DecidableEq K] (knd : PySem.KeyKind prog w K) {h : Heap} {a : Addr} {kvs : List (K × Value)} {ep : Nat} : Heap.DictAt knd h a kvs ep ↔ ∃ o, h.get? a = some o ∧ PDict knd.is knd.hash kvs ep o :=
  ⟨fun ⟨o, es, e, x, d, k, p, n⟩ => ⟨o, e, es, x, d, k, (pairs_iff knd).mp p, n⟩, fun ⟨o, e, es, x, d, k, p, n⟩ => ⟨o, es, e, x, d, k, (pairs_iff knd).mpr p, n⟩⟩
theorem St.di {kvs ep} (x : St c Δ s) (h : (a, PDI kvs ep) ∈ Δ) : s.heap.DictAt (intKind PG c.w) a kvs ep := (PDict.at (intKind PG c.w)).mpr (x.has h)
theorem St.ds {kvs ep} (x : St c Δ s) (h : (a, PDS c.w kvs ep) ∈ Δ) : s.heap.DictAt (PySem.strKind PG c.w) a kvs ep := (PDict.at (PySem.strKind PG c.w)).mpr (x.has h)
theorem ofDI {h : Heap} {kvs} (prog : Program) {w : World} (x : h.DictOf (intKind prog w) a kvs) : ∃ ep o, h.get? a = some o ∧ PDI kvs ep o := let ⟨ep, y⟩ := x.dictAt; ⟨ep, (PDict.at (intKind prog w)).mp y⟩
theorem ofDS {h : Heap} {kvs} (prog : Program) {w : World} (x : h.DictOf (PySem.strKind prog w) a kvs) : ∃ ep o, h.get? a = some o ∧ PDS w kvs ep o := let ⟨ep, y⟩ := x.dictAt; ⟨ep, (PDict.at (PySem.strKind prog w)).mp y⟩
theorem isStrOf_isStr (x : Str) (v : Value) : Value.isStrOf x v = v.isStr x := (isStr_of x v).symm
theorem DictAt.ns {h : Heap} {prog : Program} {w : World} {kvs ep} (x : h.DictAt (PySem.strKind prog w) a kvs ep) : h.Ns a (valueAt kvs) := by
  obtain ⟨o, es, e, hx, hd, hk, hp, hn⟩ := x
  refine ⟨o, es, ep, e, hd, fun en hen => ?_, fun name => ?_⟩
  · obtain ⟨k, h1, _⟩ := hk en hen
    obtain ⟨t, ht⟩ := Value.isStrOf_shape h1
    exact ⟨k, t, ht⟩
  · have := hp.find name
    rw [← this]
    unfold nsFind findBy
    rw [← Array.find?_toList]
    congr 2
    funext en
    exact (isStrOf_isStr name en.key).symm
theorem PDS.look {w : World} {kvs ep o} (x : PDS w kvs ep o) (name : Str) : lookIn name o = some (valueAt kvs name) := by
  obtain ⟨es, hx, hd, hk, hp, hn⟩ := x
  unfold lookIn
  rw [hd]
  dsimp only
  have hp' : Pairs (PySem.strKind default w) es.toList kvs := (pairs_iff (PySem.strKind default w)).mpr hp
  have hf := hp'.find name
  have e : (fun e : DictEntry => e.key.isStr name) = fun e => (PySem.strKind default w).is name e.key := funext fun e => (isStrOf_isStr name e.key).symm
  rw [e]
  rw [← hf]
  cases q : es.toList.find? (fun e => (PySem.strKind default w).is name e.key) with
  | some en => rfl
  | none =>
    dsimp only
    rw [if_neg]
    · rfl
    · rw [List.any_eq_true]
      rintro ⟨en, hm, hr⟩
      obtain ⟨k, h1, _⟩ := hk en (Array.mem_toList_iff.mp hm)
      obtain ⟨t, ht⟩ := Value.isStrOf_shape h1
      unfold DictEntry.refKey at hr
      rw [ht] at hr
      cases hr
theorem St.inst {C dx : Addr} {kvs ep} (x : St c Δ s) (h : (a, PInst C dx) ∈ Δ) (hd : (dx, PDS c.w kvs ep) ∈ Δ) : ∃ od, PySem.W.InstAt s.heap a (instObj C dx) C (some od) ∧ s.heap.get? dx = some od ∧ PDS c.w kvs ep od := by
  obtain ⟨o, e, rfl⟩ := x.has h
  obtain ⟨od, e', p⟩ := x.has hd
  exact ⟨od, ⟨e, rfl, rfl, e'⟩, e', p⟩
end
/-- what the class must show for its instances' own values -/
structure ClsOk (K : Frag) (C : Addr) : Prop where
  ga : findIn K (.ref C) "__getattribute__" = some (some (.builtin "object.__getattribute__"))
  gb : findIn K (.ref C) "__getattr__" = some none
  hd : hasDictIn K C = true
  sa : findIn K (.ref C) "__setattr__" = some (some (.builtin "object.__setattr__"))
  po : plainOver K C = true
section
variable {c : Cx} {A : Around} {Δ Δ' : Hp} {E : Value → Hp → Prop} {env : Env}
theorem T.getOwn {x C dx : Addr} {name : Str} {v : Value} {kvs ep} {ex : Bool} {attr : Option Value} {Q : Value → Hp → Prop} (hC : ClsOk (kopf.heap_39 c.w.params) C) (hx : (x, PInst C dx) ∈ Δ) (hd : (dx, PDS c.w kvs ep) ∈ Δ) (hv : valueAt kvs name = some v)
    (ha : findIn (kopf.heap_39 c.w.params) (.ref C) name = some attr) (hn : noGet (kopf.heap_39 c.w.params) attr = true) (hh : handedIn v = true) (h : Q v Δ) : T c A Δ (getAttr (.ref x) name ex) Q E := fun s hs => by
  obtain ⟨od, I, _, p⟩ := hs.inst hx hd
  exact get_value hs.kin I hC.ga (findObj_own hC.hd ha hn (by rw [p.look, hv])) hh ⟨Δ, hs.toks, h⟩
theorem T.getAttrE {value : Expr} {attr : Str} {pos : Pos} {Q : Value → Hp → Prop} (h : T c A Δ (eval value env) (fun o Δ₁ => T c A Δ₁ (getAttr o attr true) Q E) E)
    (he : eval (value.Attribute attr pos) env = (do
          let o ← eval value env
          standAt pos.atName
          let r ← holding [o] (getAttr o attr true)
          letTemporaryGo value o r
          pure r) := by k_dflt rfl) : T c A Δ (eval (value.Attribute attr pos) env) Q E := fun s hs => Attribute_any_ (T.sq h hs) he
theorem T.method {x C dx f : Addr} {name : Str} {kvs ep} {pl : Sem Bool} {Q : Value × List Value → Hp → Prop} (hC : ClsOk (kopf.heap_39 c.w.params) C) (hx : (x, PInst C dx) ∈ Δ) (hd : (dx, PDS c.w kvs ep) ∈ Δ) (hv : valueAt kvs name = none)
    (hf : findIn (kopf.heap_39 c.w.params) (.ref C) name = some (some (.ref f))) (ht : typeIn (kopf.heap_39 c.w.params) (.ref f) = some (.type "function")) (h : Q (.ref f, [.ref x]) Δ) : T c A Δ (getMethod (.ref x) name pl) Q E := fun s hs => by
  obtain ⟨od, I, _, p⟩ := hs.inst hx hd
  exact method_fn hs.kin I hC.ga hC.gb hf ht (by show (lookIn name od).map _ = _; rw [p.look, hv]; rfl) ⟨Δ, hs, h⟩
theorem putName_pds {w : World} {kvs : List (Str × Value)} {ep : Nat} {o : Obj} {name : Str} {t : Tok} {v : Value} (x : PDS w kvs ep o) : ∃ ep', PDS w (stored kvs name v) ep' (Obj.putName name (hashStr w name) (.str name t) v o) := by
  obtain ⟨es, hx, hd, hk, hp, hn⟩ := x
  obtain ⟨oc, odi, oda, osl⟩ := o
  obtain ⟨h1, h2, h3⟩ := hx
  dsimp only at h1 h2 h3 hd
  subst h1 h2 h3 hd
  have hp' : Pairs (PySem.strKind default w) es.toList kvs := (pairs_iff (PySem.strKind default w)).mpr hp
  have e : (fun e : DictEntry => e.key.isStr name) = fun e => (PySem.strKind default w).is name e.key := funext fun e => (isStrOf_isStr name e.key).symm
  have hkey : (PySem.strKind default w).is name (.str name t) = true := by rw [show (PySem.strKind default w).is = Value.isStrOf from rfl, isStrOf_isStr]; exact beq_self_eq_true name
  have hidx : (es.findIdx? fun e => (PySem.strKind default w).is name e.key) = kvs.findIdx? fun kv => decide (kv.1 = name) := by
    rw [← hp'.findIdx name]; obtain ⟨l⟩ := es; simp
  rw [Obj.putName_eq]
  unfold Obj.putNameByArray
  dsimp only
  rw [e]
  have hk' : KeysOf (PySem.strKind default w) es := hk
  cases hi : es.findIdx? fun e => (PySem.strKind default w).is name e.key with
  | some i =>
    dsimp only
    refine ⟨ep, _, ⟨rfl, rfl, rfl⟩, rfl, hk'.modify i v, ?_, ?_⟩
    · rw [stored, if_pos (any_of_findIdx_some (hidx ▸ hi))]
      have hl : (es.toList.findIdx? fun e => (PySem.strKind default w).is name e.key) = some i := by rw [← hi]; obtain ⟨l⟩ := es; simp
      have := (pairs_iff _).mp (hp'.modify hn hl v)
      obtain ⟨l⟩ := es
      simpa [PySem.strKind] using this
    · rw [stored, if_pos (any_of_findIdx_some (hidx ▸ hi)), keys_map_store]; exact hn
  | none =>
    have hnot : name ∉ kvs.map (·.1) := not_mem_of_findIdx_none (hidx ▸ hi)
    have hany : ¬ (kvs.any fun kv => decide (kv.1 = name)) = true := by
      rw [List.any_eq_true]; rintro ⟨kv, hkv, he⟩
      exact hnot (List.mem_map.mpr ⟨kv, hkv, of_decide_eq_true he⟩)
    dsimp only
    refine ⟨ep + 1, _, ⟨rfl, rfl, rfl⟩, rfl, hk'.push hkey v, ?_, ?_⟩
    · rw [stored, if_neg hany]
      have := (pairs_iff _).mp (hp'.append hkey (hashStr w name) v)
      obtain ⟨l⟩ := es
      simpa [PySem.strKind] using this
    · rw [stored, if_neg hany, List.map_append, List.nodup_append]
      refine ⟨hn, by simp, ?_⟩
      intro a ha b hb
      simp only [List.map_cons, List.map_nil, List.mem_singleton] at hb
      subst hb
      exact fun e => hnot (e ▸ ha)
theorem T.setOwn {x C dx : Addr} {name : Str} {v : Value} {kvs ep} {Q : Unit → Hp → Prop} {Δ' : Nat → Hp} (hC : ClsOk (kopf.heap_39 c.w.params) C) (hx : (x, PInst C dx) ∈ Δ) (hu : ∀ ep', Upd dx (PDS c.w kvs ep) (PDS c.w (stored kvs name v) ep') Δ (Δ' ep'))
    (ht : takerIn (kopf.heap_39 c.w.params) C name = some none) (hz : kvs.length ≤ 1000) (h : ∀ ep', Q () (Δ' ep')) : T c A Δ (setAttr (.ref x) name v) Q E := fun s hs => by
  obtain ⟨od, I, hod, p⟩ := hs.inst hx (hu 0).mem
  refine set_plain hs.kin I hC.sa (osa_open (s := { s with toks := s.toks + 1 }) hs.kin I hC.po ht fun b => ?_)
  obtain ⟨cd, hc, hd'⟩ := any_some hC.hd
  obtain ⟨es, hex, hda, hrest⟩ := id p
  obtain ⟨hx', -, -, -⟩ := I
  refine wpAny_bind (wpAny_pure (wpAny_bind (wpAny_bind (wpAny_loadPart hx' (wpAny_bind (Looks.here (s := { s with toks := s.toks + 1 }) (looks_clsIn (M := model PG c.w) hs.kin hc) ?_))))))
  rw [hd']
  refine wpAny_pure (a := some dx) (wpAny_bind (wpAny_pure (wpAny_bind ?_)))
  unfold nsSet
  refine wpAny_bind (wpAny_bind (wpAny_askSetting (wpAny_pure (wpAny_bind (wpAny_mkText (wpAny_bind (wpAny_loadPart hod ?_)))))))
  rw [hda]
  dsimp only
  have hc0 : (!es.any (·.key.isStr name) && es.any (·.refKey)) = false := by
    have : es.any (·.refKey) = false := by
      rw [← Array.any_toList, List.any_eq_false]
      intro en hm hr
      obtain ⟨k, h1, _⟩ := hrest.1 en (Array.mem_toList_iff.mp hm)
      obtain ⟨t, ht⟩ := Value.isStrOf_shape h1
      unfold DictEntry.refKey at hr
      rw [ht] at hr
      cases hr
    rw [this, Bool.and_false]
  rw [aRefKeyMayBeTheName_at, hc0]
  obtain ⟨ep', p'⟩ := putName_pds (name := name) (t := s.toks + 1) (v := v) p
  have hf : (Obj.putName name (hashStr c.w name) (.str name (s.toks + 1)) v od).isFreed = false := by
    obtain ⟨es', _, hd'', _⟩ := p'
    exact Obj.isFreed_of_dict hd''
  refine wpAny_updatePart hod ?_
  have hg := Heap.get?_update_self (Obj.putName name (hashStr c.w name) (.str name (s.toks + 1)) v) hod hf
  refine wpAny_bind (wpAny_lookBehind (o := Obj.putName name (hashStr c.w name) (.str name (s.toks + 1)) v od) hg ?_ ?_)
  · obtain ⟨es', _, hd'', _, hl, _⟩ := p'
    rw [hd'']
    refine pastItsLine_dict ?_
    have e1 : es'.size = (stored kvs name v).length := by rw [← hl.1]; simp
    have e2 : (stored kvs name v).length ≤ kvs.length + 1 := by
      unfold stored
      split
      · simp
      · simp
    rw [e1, sizeLine_eq]; omega
  · exact wpAny_pure ⟨_, hs.upd (hu ep') (Heap.SameBut.update ..) ⟨_, hg, p'⟩, h ep'⟩
end
end Mine
end
/-! Tl4 -/
section
open PySem PySem.W PyProof.Rows PySem.Calls
set_option maxRecDepth 100000
namespace Mine
def PRIter (x left step : Int) : Pr := fun o => ∃ h : Heap, IsRangeIter (h.push o) h.objs.size x left step
def PKIter (d : Addr) (i n ep : Nat) : Pr := fun o => o.cls = .type "dict_keyiterator" ∧ o.data = .fields #[.ref d, .int i 0, .int n 0, .int ep 0]
section
variable {c : Cx} {A : Around} {Δ Δ' : Hp} {E : Value → Hp → Prop} {env : Env}
/-! ## lists -/
theorem T.append {l : Addr} {items : Array Value} {v : Value} {Q : Value → Hp → Prop} (hu : Upd l (PList items) (PList (items.push v)) Δ Δ') (hz : items.size ≤ sizeLine) (h : Q .none Δ') : T c A Δ (call (.builtin "list.append") [.ref l, v]) Q E := fun s hs =>
  wpAny_list_append_plain (hs.plain hu.mem) (fun h' ⟨n, e⟩ hs' => ⟨Δ', hs.upd hu hs' ⟨_, e, n, rfl⟩, h⟩) hz
theorem T.truthyList {l : Addr} {items : Array Value} {Q : Bool → Hp → Prop} (hm : (l, PList items) ∈ Δ) (hz : items.size ≤ sizeLine) (h : Q (!items.isEmpty) Δ) : T c A Δ (truthy (.ref l)) Q E := fun s hs =>
  wpAny_truthy_list (hs.list hm) (by have := sizeLine_eq; omega) ⟨Δ, hs.toks, h⟩
theorem T.itemList {l : Addr} {items : Array Value} {k : Int} {t : Tok} {x : Value} {Q : Value → Hp → Prop} (hm : (l, PList items) ∈ Δ) (h0 : 0 ≤ k) (hf : k < 2 ^ 63) (hx : items[k.toNat]? = some x) (h : Q x Δ) : T c A Δ (getItem (.ref l) (.int k t)) Q E := fun s hs =>
  wpAny_getItem_list (hs.list hm) h0 hf hx ⟨Δ, hs, h⟩
theorem T.newList {vs : List Value} {Q : Value → Hp → Prop} (hz : vs.length ≤ sizeLine) (h : ∀ l, Q (.ref l) ((l, PList vs.toArray) :: Δ)) : T c A Δ (newList vs) Q E := fun s hs =>
  wpAny_newList ⟨_, hs.push ⟨0, rfl⟩, h _⟩ hz
theorem T.listE {elts : List Expr} {pos : Pos} {Q : Value → Hp → Prop} (h : T c A Δ (spliced (backTo pos (starEach elts env))) (fun vs Δ₁ => vs.length ≤ sizeLine ∧ ∀ l, Q (.ref l) ((l, PList vs.toArray) :: Δ₁)) E) : T c A Δ (eval (.List elts pos) env) Q E := fun s hs =>
  wpAny_List_spliced (h.to hs fun vs s₁ ⟨Δ₁, h₁, z, q⟩ => ⟨z, _, h₁.push ⟨0, rfl⟩, q _⟩)
theorem T.tupleE {elts : List Expr} {k : Nat} {pos : Pos} {Q : Value → Hp → Prop} (h : T c A Δ (spliced (backTo pos (starEach elts env))) (fun vs Δ₁ => vs.length ≤ sizeLine ∧ ∀ l, Q (.ref l) ((l, PTup vs.toArray) :: Δ₁)) E) : T c A Δ (eval (.Tuple elts k pos) env) Q E := fun s hs =>
  wpAny_Tuple_spliced (h.to hs fun vs s₁ ⟨Δ₁, h₁, z, q⟩ => ⟨z, _, h₁.push ⟨rfl, 0, rfl⟩, q _⟩)
theorem T.iterList {l : Addr} {items : Array Value} {Q : Value → Hp → Prop} (hm : (l, PList items) ∈ Δ) (h : ∀ it, Q (.ref it) ((it, PLIter l 0) :: Δ)) : T c A Δ (pyIter (.ref l)) Q E := fun s hs =>
  wpAny_pyIter_list (hs.list hm) ⟨_, hs.push ⟨rfl, rfl⟩, h _⟩
theorem T.nextList {it l : Addr} {i : Nat} {items : Array Value} {x : Value} {Q : Option Value → Hp → Prop} (hu : Upd it (PLIter l i) (PLIter l (i + 1)) Δ Δ') (hm : (l, PList items) ∈ Δ) (hx : items[i]? = some x) (h : Q (some x) Δ') : T c A Δ (pyNext (.ref it)) Q E := fun s hs =>
  wpAny_pyNext_list_item (hs.liter hu.mem) (hs.list hm) hx fun h' hi hs' => ⟨Δ', hs.upd hu hs' hi, h⟩
theorem T.nextListEnd {it l : Addr} {i : Nat} {items : Array Value} {Q : Option Value → Hp → Prop} (hA : A.handled = none) (hu : Del it (PLIter l i) Δ Δ') (hm : (l, PList items) ∈ Δ) (hx : items[i]? = none) (h : Q none Δ') : T c A Δ (pyNext (.ref it)) Q E := fun s hs =>
  wpAny_pyNext_list_end hA (hs.liter hu.mem) (hs.list hm) hx fun h' hs' => ⟨Δ', hs.del hu hs', h⟩
/-! ## dicts -/
section
variable {K : Type} [DecidableEq K]
theorem T.itemD {knd : PySem.KeyKind PG c.w K} {d : Addr} {kvs ep} {k : K} {key v : Value} {Q : Value → Hp → Prop} (hm : (d, PDict knd.is knd.hash kvs ep) ∈ Δ) (hk : knd.is k key = true) (hv : valueAt kvs k = some v) (h : Q v Δ) : T c A Δ (getItem (.ref d) key) Q E := fun s hs =>
  wpAny_getItem_of hk ((PDict.at knd).mpr (hs.has hm)).dictOf.mapOf hv ⟨Δ, hs.toks, h⟩
theorem T.inD {knd : PySem.KeyKind PG c.w K} {d : Addr} {kvs ep} {k : K} {key : Value} {Q : Value → Hp → Prop} (hm : (d, PDict knd.is knd.hash kvs ep) ∈ Δ) (hk : knd.is k key = true) (h : Q (.bool (valueAt kvs k).isSome) Δ) : T c A Δ (compareOp .In key (.ref d)) Q E := fun s hs =>
  wpAny_in_of hk (hs.noSys hm) ((PDict.at knd).mpr (hs.has hm)).dictOf.mapOf ⟨Δ, hs.toks, h⟩
theorem T.notInD {knd : PySem.KeyKind PG c.w K} {d : Addr} {kvs ep} {k : K} {key : Value} {Q : Value → Hp → Prop} (hm : (d, PDict knd.is knd.hash kvs ep) ∈ Δ) (hk : knd.is k key = true) (h : Q (.bool !(valueAt kvs k).isSome) Δ) : T c A Δ (compareOp .NotIn key (.ref d)) Q E := fun s hs =>
  wpAny_notIn_of hk (hs.noSys hm) ((PDict.at knd).mpr (hs.has hm)).dictOf.mapOf ⟨Δ, hs.toks, h⟩
theorem T.setD {knd : PySem.KeyKind PG c.w K} {d : Addr} {kvs ep} {k : K} {key v : Value} {Q : Unit → Hp → Prop} {Δ' : Nat → Hp} (hu : ∀ ep', Upd d (PDict knd.is knd.hash kvs ep) (PDict knd.is knd.hash (stored kvs k v) ep') Δ (Δ' ep')) (hk : knd.is k key = true) (hz : kvs.length ≤ sizeLine)
    (h : ∀ ep', Q () (Δ' ep')) : T c A Δ (setItem (.ref d) key v) Q E := fun s hs =>
  wpAny_setItem_pairs hk ((PDict.at knd).mpr (hs.has (hu 0).mem)).dictOf (fun h' hd hs' => by
    obtain ⟨ep', hd⟩ := hd.dictAt
    exact ⟨_, hs.upd (hu ep') hs' ((PDict.at knd).mp hd), h ep'⟩) hz
theorem T.iterD {knd : PySem.KeyKind PG c.w K} {d : Addr} {kvs ep} {Q : Value → Hp → Prop} (hm : (d, PDict knd.is knd.hash kvs ep) ∈ Δ) (h : ∀ it, Q (.ref it) ((it, PKIter d 0 kvs.length ep) :: Δ)) : T c A Δ (pyIter (.ref d)) Q E := fun s hs =>
  wpAny_pyIter_dict (hs.noSys hm) ((PDict.at knd).mpr (hs.has hm)) ⟨_, hs.push ⟨rfl, rfl⟩, h _⟩
theorem T.nextD {knd : PySem.KeyKind PG c.w K} {it d : Addr} {i ep : Nat} {kvs : List (K × Value)} {k : K} {v : Value} {Q : Option Value → Hp → Prop} (hu : Upd it (PKIter d i kvs.length ep) (PKIter d (i + 1) kvs.length ep) Δ Δ') (hm : (d, PDict knd.is knd.hash kvs ep) ∈ Δ) (hx : kvs[i]? = some (k, v))
    (h : ∀ key, knd.is k key = true → Q (some key) Δ') : T c A Δ (pyNext (.ref it)) Q E := fun s hs =>
  wpAny_pyNext_dict_item (hs.has hu.mem) ((PDict.at knd).mpr (hs.has hm)) hx fun key h' hk hi hs' => ⟨Δ', hs.upd hu hs' hi, h key hk⟩
theorem T.nextDEnd {knd : PySem.KeyKind PG c.w K} {it d : Addr} {i ep : Nat} {kvs : List (K × Value)} {Q : Option Value → Hp → Prop} (hA : A.handled = none) (hu : Del it (PKIter d i kvs.length ep) Δ Δ') (hm : (d, PDict knd.is knd.hash kvs ep) ∈ Δ) (hx : kvs[i]? = none) (h : Q none Δ') : T c A Δ (pyNext (.ref it)) Q E := fun s hs =>
  wpAny_pyNext_dict_end hA (hs.has hu.mem) ((PDict.at knd).mpr (hs.has hm)) hx fun h' hs' => ⟨Δ', hs.del hu hs', h⟩
end
theorem T.dictE {K : Type} [DecidableEq K] (knd : PySem.KeyKind PG c.w K) {pos : Pos} {Q : Value → Hp → Prop} (h : ∀ d, Q (.ref d) ((d, PDict knd.is knd.hash [] 0) :: Δ)) : T c A Δ (eval (.Dict [] [] pos) env) Q E := fun s hs =>
  wpAny_Dict_empty ⟨_, hs.push ⟨#[], ⟨rfl, rfl, rfl⟩, rfl, fun e he => (by simp at he), ⟨rfl, fun p hp => (by simp at hp)⟩, List.nodup_nil⟩, h _⟩
theorem T.sub {value slice : Expr} {pos : Pos} {Q : Value → Hp → Prop} (h : T c A Δ (eval value env) (fun o Δ₁ => T c A Δ₁ (eval slice env) (fun i Δ₂ => T c A Δ₂ (subscriptTail value slice o i) Q E) E) E) : T c A Δ (eval (.Subscript value slice pos) env) Q E := fun s hs =>
  Subscript_ (h.to hs fun o s₁ ⟨Δ₁, h₁, q⟩ => T.sq q h₁)
end
end Mine
end
/-! Tl5 -/
section
open PySem PySem.W PyProof.Rows PySem.Calls
set_option maxRecDepth 100000
namespace Mine
abbrev mkEnv (qual : Str) (scope : Scope) (L : Addr) (cells : List (Str × Addr)) (f : Addr) (cd : Value) : Env :=
  { scope := scope, locals := L, globals := mainGlobals, cells := cells, qual := qual ++ ".<locals>.", func := some f, code := cd, frame := some L, builtins := builtinsNs }
section
variable {c : Cx} {A : Around} {Δ Δ' : Hp} {E : Value → Hp → Prop} {env : Env}
/-- a call of a def: its names, its cells, its body -/
theorem T.callG {f : Addr} {name qual : Str} {params : Arguments} {body : List Stmt} {scope : Scope} {dV kV doc pm cdv ct oc : Value} {an od : Option Addr} {sl : Array (Option Value)} {args : Args} {Q : Value → Hp → Prop}
    (hk : (kopf.heap_39 c.w.params).lookup f = some ⟨oc, od, .func (fnOf name qual params body scope dV kV doc pm an cdv ct), sl⟩) (hcd : codeIn (kopf.heap_39 c.w.params) cdv qual = true) (hroom : A.depth < recursionLimit)
    (h : T c A.in1 Δ (bindArgs (fnOf name qual params body scope dV kV doc pm an cdv ct) args) (fun binds Δ₁ => (binds.all fun y => scope.names.lookup y.1 == some .local || scope.names.lookup y.1 == some .cell) = true ∧
      ∃ (l : List (Str × Value)) (cs : Addr → Hp), (∀ L, ∀ p ∈ l, bindL (mkEnv qual scope L (cellsFrom (L + 1) scope.names []) f cdv).kindOf binds (fun _ => none) p.1 = some p.2) ∧
      (∀ L, cellsHp scope.names (bindC (mkEnv qual scope L (cellsFrom (L + 1) scope.names []) f cdv).kindOf binds fun _ => none) L = cs L) ∧
      ∀ L, T c (A.deeper (mkEnv qual scope L (cellsFrom (L + 1) scope.names []) f cdv)) ((L, PFr l) :: (cs L ++ Δ₁)) (execs body (mkEnv qual scope L (cellsFrom (L + 1) scope.names []) f cdv))
        (fun fl Δ₂ => ∃ Δ₃, List.Sublist Δ₃ Δ₂ ∧ Q (retv fl) Δ₃) NoE) NoE)
    (hnd : ((cellsFrom 0 scope.names []).map (·.1)).Nodup)
    (hco : scope.isCoroutine = false) (hgen : scope.isGenerator = false) (hkd : scope.kind = .function) : TC c A Δ (.call (.ref f) args) (fun r Δ' => match r with | .ok (.ret v) => Q v Δ' | .ok _ => False | .error e => E e Δ') :=
  T.callFn (body := body) hk hcd rfl rfl hroom (h.mono (fun binds Δ₁ ⟨h1, l, cs, h2, h3, h4⟩ => ⟨h1, l, fun L => h2 L, fun L => h3 L ▸ h4 L⟩) fun _ _ x => x) hnd hco hgen hkd
/-- the same, where the arguments bind by themselves -/
theorem T.callD {f : Addr} {name qual : Str} {params : Arguments} {body : List Stmt} {scope : Scope} {dV kV doc pm cdv ct oc : Value} {an od : Option Addr} {sl : Array (Option Value)} {pos : List Value} {kw : List (Str × Value)} {binds : List (Str × Value)} {Q : Value → Hp → Prop}
    (l : List (Str × Value)) (cs : Addr → Hp)
    (hk : (kopf.heap_39 c.w.params).lookup f = some ⟨oc, od, .func (fnOf name qual params body scope dV kV doc pm an cdv ct), sl⟩) (hcd : codeIn (kopf.heap_39 c.w.params) cdv qual = true) (hroom : A.depth < recursionLimit)
    (hb : bindArgs (fnOf name qual params body scope dV kV doc pm an cdv ct) ⟨pos, kw⟩ = pure binds)
    (h1 : (binds.all fun y => scope.names.lookup y.1 == some .local || scope.names.lookup y.1 == some .cell) = true)
    (h2 : ∀ L, ∀ p ∈ l, bindL (mkEnv qual scope L (cellsFrom (L + 1) scope.names []) f cdv).kindOf binds (fun _ => none) p.1 = some p.2)
    (h3 : ∀ L, cellsHp scope.names (bindC (mkEnv qual scope L (cellsFrom (L + 1) scope.names []) f cdv).kindOf binds fun _ => none) L ++ Δ = cs L)
    (hnd : ((cellsFrom 0 scope.names []).map (·.1)).Nodup)
    (hco : scope.isCoroutine = false) (hgen : scope.isGenerator = false) (hkd : scope.kind = .function)
    (h : ∀ L, T c (A.deeper (mkEnv qual scope L (cellsFrom (L + 1) scope.names []) f cdv)) ((L, PFr l) :: cs L) (execs body (mkEnv qual scope L (cellsFrom (L + 1) scope.names []) f cdv))
        (fun fl Δ₂ => ∃ Δ₃, List.Sublist Δ₃ Δ₂ ∧ Q (retv fl) Δ₃) NoE) : T c A Δ (call (.ref f) pos kw) Q E :=
  T.call_of (T.callG hk hcd hroom (bindPure hb ⟨h1, l, _, h2, fun _ => rfl, fun L => (h3 L).symm ▸ h L⟩) hnd hco hgen hkd)
theorem T.tryOk {body orelse : List Stmt} {h₀ : ExceptHandler} {hs : List ExceptHandler} {pos : Pos} {Q : Flow → Hp → Prop}
    (h : T c A Δ (execs body env) (fun f Δ₁ => match f with | .next => T c A Δ₁ (execs orelse env) Q E | f => Q f Δ₁) NoE) : T c A Δ (exec (.Try body (h₀ :: hs) orelse [] pos) env) Q E := fun s hs =>
  wpAny_Try_except (wpAny_mono (h s hs) (fun f s₁ ⟨Δ₁, h₁, q⟩ => by cases f <;> first | exact q s₁ h₁ | exact ⟨Δ₁, h₁, q⟩) fun _ _ ⟨_, _, x⟩ => x.elim)
theorem T.assignAttr {o : Expr} {attr : Str} {p' : Pos} {value : Expr} {pos : Pos} {Q : Flow → Hp → Prop} (h : T c A Δ (eval value env) (fun v Δ₁ => T c A Δ₁ (eval o env) (fun ov Δ₂ => T c A Δ₂ (setAttr ov attr v) (fun _ Δ₃ => Q .next Δ₃) E) E) E)
    (hs : swapsWith value (some (o.Attribute attr p')) pos.line env = pure false := by k_dflt rfl) : T c A Δ (exec (.Assign [o.Attribute attr p'] value pos) env) Q E := fun s hs' =>
  plainObj_wpAny_Assign_Attribute (h.to hs' fun v s₁ ⟨Δ₁, h₁, q⟩ => q.to h₁ fun ov s₂ ⟨Δ₂, h₂, q⟩ => q s₂ h₂) hs
theorem T.assignSub {o i : Expr} {p' : Pos} {value : Expr} {pos : Pos} {Q : Flow → Hp → Prop} (h : T c A Δ (eval value env) (fun v Δ₁ => T c A Δ₁ (eval o env) (fun ov Δ₂ => T c A Δ₂ (eval i env) (fun iv Δ₃ => T c A Δ₃ (setItem ov iv v) (fun _ Δ₄ => Q .next Δ₄) E) E) E) E)
    (hs : swapsWith value (some (o.Subscript i p')) pos.line env = pure false := by k_dflt rfl) : T c A Δ (exec (.Assign [o.Subscript i p'] value pos) env) Q E := fun s hs' =>
  wpAny_Assign_Subscript (h.to hs' fun v s₁ ⟨Δ₁, h₁, q⟩ => q.to h₁ fun ov s₂ ⟨Δ₂, h₂, q⟩ => q.to h₂ fun iv s₃ ⟨Δ₃, h₃, q⟩ => q s₃ h₃) hs
theorem T.assignTuple {elts : List Expr} {k : Nat} {tp : Pos} {value : Expr} {pos : Pos} {Q : Flow → Hp → Prop} (h : T c A Δ (eval value env) (fun v Δ₁ => T c A Δ₁ (assign (.Tuple elts k tp) env v) (fun _ Δ₂ => Q .next Δ₂) E) E)
    (h1 : swapsWithSole [.Tuple elts k tp] value pos.line env = pure false := by k_dflt rfl) (h2 : swappedStores [.Tuple elts k tp] value env = pure none := by k_dflt rfl) : T c A Δ (exec (.Assign [.Tuple elts k tp] value pos) env) Q E := fun s hs =>
  Assign_Tuple (h.to hs fun v s₁ ⟨Δ₁, h₁, q⟩ => q s₁ h₁) h1 h2
theorem T.unpack {elts : List Expr} {k : Nat} {pos : Pos} {t : Addr} {items : Array Value} {Q : Unit → Hp → Prop} (hA : A.handled = none) (hm : (t, PTup items) ∈ Δ) (hl : (assignEach elts env).length = items.size) (hf : (assignEach elts env).findIdx? (·.1) = none)
    (h : T c A Δ (assignInOrder ((assignEach elts env).map (·.2)) items.toList) Q E) : T c A Δ (assign (.Tuple elts k pos) env (.ref t)) Q E := fun s hs =>
  wpAny_assign_Tuple hA (hs.tup hm) hl hf fun h' hs' => h _ (hs.grow fun b o e => hs' b o (Nat.ne_of_lt (Heap.lt_size e)) e)
theorem T.inOrderNil {Q : Unit → Hp → Prop} (h : Q () Δ) : T c A Δ (assignInOrder [] []) Q E := T.pur h
theorem T.inOrder {t : Value → Sem Unit} {ts : List (Value → Sem Unit)} {x : Value} {xs : List Value} {Q : Unit → Hp → Prop} (h : T c A Δ (t x) (fun _ Δ₁ => T c A Δ₁ (assignInOrder ts xs) Q E) E) : T c A Δ (assignInOrder (t :: ts) (x :: xs)) Q E := fun s hs =>
  wpAny_assignInOrder_more (h.to hs fun _ s₁ ⟨Δ₁, h₁, q⟩ => q s₁ h₁)
theorem T.asName {x : Str} {pos : Pos} {v : Value} {Q : Unit → Hp → Prop} (h : T c A Δ (storeName env x v) Q E) : T c A Δ (assign (.Name x pos) env v) Q E := fun s hs => wpAny_assign_Name (h s hs)
theorem T.augSub {o i value : Expr} {tp pos : Pos} {op : Operator} {Q : Flow → Hp → Prop}
    (h : T c A Δ (eval o env) (fun ov Δ₁ => T c A Δ₁ (eval i env) (fun iv Δ₂ => T c A Δ₂ (getItem ov iv) (fun old Δ₃ => T c A Δ₃ (eval value env) (fun v Δ₄ => T c A Δ₄ (inplaceOp op old v) (fun new Δ₅ => T c A Δ₅ (setItem ov iv new) (fun _ Δ₆ => Q .next Δ₆) E) E) E) E) E) E)
    (hs : ∀ (ov iv new : Value), augStore i ov iv new = do { holding [new, ov, iv] (setItem ov iv new); release [new, ov, iv] []; pure Flow.next } := by intro _ _ _; k_dflt rfl) : T c A Δ (exec (.AugAssign (o.Subscript i tp) op value pos) env) Q E := fun s hs' =>
  wpAny_AugAssign_SubscriptAny (h.to hs' fun ov s₁ ⟨Δ₁, h₁, q⟩ => q.to h₁ fun iv s₂ ⟨Δ₂, h₂, q⟩ => q.to h₂ fun old s₃ ⟨Δ₃, h₃, q⟩ => q.to h₃ fun v s₄ ⟨Δ₄, h₄, q⟩ => q.to h₄ fun new s₅ ⟨Δ₅, h₅, q⟩ => q s₅ h₅) hs
theorem T.iaddInt {a b : Int} {t u : Tok} {Q : Value → Hp → Prop} (h : ∀ t, Q (.int (a + b) t) Δ) : T c A Δ (inplaceOp .Add (.int a t) (.int b u)) Q E := fun s hs => iadd_int ⟨Δ, hs.toks, h _⟩
theorem T.isubInt {a b : Int} {t u : Tok} {Q : Value → Hp → Prop} (h : ∀ t, Q (.int (a - b) t) Δ) : T c A Δ (inplaceOp .Sub (.int a t) (.int b u)) Q E := fun s hs => isub_int ⟨Δ, hs.toks, h _⟩
theorem T.subList {value slice : Expr} {l : Addr} {items : Array Value} {k : Int} {t : Tok} {x : Value} {Q : Value → Hp → Prop} (hm : (l, PList items) ∈ Δ) (h0 : 0 ≤ k) (hf : k < 2 ^ 63) (hx : items[k.toNat]? = some x) (h : Q x Δ)
    (hs : subscripted slice false (.ref l) (.int k t) = operate [.ref l, .int k t] (getItem (.ref l) (.int k t)) := by with_unfolding_all rfl) : T c A Δ (subscriptTail value slice (.ref l) (.int k t)) Q E := fun s hs' =>
  tail_any (hs'.list hm).typeIs slot_list_getitem.lookup (wpAny_getItem_list (hs'.list hm) h0 hf hx ⟨Δ, hs', h⟩) hs
theorem T.subD {K : Type} [DecidableEq K] {knd : PySem.KeyKind PG c.w K} {value slice : Expr} {d : Addr} {kvs ep} {k : K} {key v : Value} {Q : Value → Hp → Prop} (hm : (d, PDict knd.is knd.hash kvs ep) ∈ Δ) (hk : knd.is k key = true) (hv : valueAt kvs k = some v) (h : Q v Δ)
    (hs : subscripted slice false (.ref d) key = operate [.ref d, key] (getItem (.ref d) key) := by with_unfolding_all rfl) : T c A Δ (subscriptTail value slice (.ref d) key) Q E := fun s hs' =>
  have hd := ((PDict.at knd).mpr (hs'.has hm)).dictOf
  tail_any hd.typeIs slot_dict_getitem.lookup (wpAny_getItem_of hk hd.mapOf hv ⟨Δ, hs'.toks, h⟩) hs
theorem T.subDI {value slice : Expr} {d : Addr} {kvs ep} {k : Int} {t : Tok} {v : Value} {Q : Value → Hp → Prop} (hm : (d, PDI kvs ep) ∈ Δ) (hv : valueAt kvs k = some v) (h : Q v Δ)
    (hs : subscripted slice false (.ref d) (.int k t) = operate [.ref d, .int k t] (getItem (.ref d) (.int k t)) := by with_unfolding_all rfl) : T c A Δ (subscriptTail value slice (.ref d) (.int k t)) Q E :=
  T.subD (knd := intKind PG c.w) hm (show Value.isInt k (.int k t) = true by simp [Value.isInt]) hv h hs
theorem T.inDI {d : Addr} {kvs ep} {k : Int} {t : Tok} {Q : Value → Hp → Prop} (hm : (d, PDI kvs ep) ∈ Δ) (h : Q (.bool (valueAt kvs k).isSome) Δ) : T c A Δ (compareOp .In (.int k t) (.ref d)) Q E :=
  T.inD (knd := intKind PG c.w) hm (show Value.isInt k (.int k t) = true by simp [Value.isInt]) h
theorem T.notInDI {d : Addr} {kvs ep} {k : Int} {t : Tok} {Q : Value → Hp → Prop} (hm : (d, PDI kvs ep) ∈ Δ) (h : Q (.bool !(valueAt kvs k).isSome) Δ) : T c A Δ (compareOp .NotIn (.int k t) (.ref d)) Q E :=
  T.notInD (knd := intKind PG c.w) hm (show Value.isInt k (.int k t) = true by simp [Value.isInt]) h
end
end Mine
end
/-! Tl6 -/
section
open PySem PySem.W PyProof.Rows PySem.Calls
set_option maxRecDepth 100000
namespace Mine
/-- a list of ints -/
def PInts (ns : List Int) : Pr := fun o => ∃ vs n, o = { cls := .type "list", data := .seq vs.toArray n } ∧ IntsAre vs ns
theorem ints_iff {vs : List Value} {ns : List Int} (h : IntsAre vs ns) (i : Nat) (n : Int) (e : ns[i]? = some n) : ∃ t, vs.toArray[i]? = some (Value.int n t) := by
  obtain ⟨t, q⟩ := h.get i n e
  exact ⟨t, by simpa using q⟩
theorem ints_end {vs : List Value} {ns : List Int} (h : IntsAre vs ns) {i : Nat} (e : ns[i]? = none) : vs.toArray[i]? = none := by
  have := h.length
  simp at e ⊢
  omega
section
variable {c : Cx} {A : Around} {Δ Δ' : Hp} {E : Value → Hp → Prop} {env : Env} {l : Addr} {ns ms : List Int}
theorem St.ints {s : Shared} (x : St c Δ s) (h : (l, PInts ns) ∈ Δ) : ∃ vs n, IsL s.heap l vs.toArray n ∧ IntsAre vs ns := by
  obtain ⟨o, e, vs, n, q, i⟩ := x.has h
  subst q
  exact ⟨vs, n, e, i⟩
theorem PList.ints {items : Array Value} {o : Obj} (h : PList items o) (hi : IntsAre items.toList ns) : PInts ns o := let ⟨n, e⟩ := h; ⟨items.toList, n, by rw [e], hi⟩
theorem PInts.nil : PInts [] { cls := .type "list", data := .seq #[] } := ⟨[], 0, rfl, .nil⟩
theorem T.iapp {n : Int} {t : Tok} {Q : Value → Hp → Prop} (hu : Upd l (PInts ns) (PInts (ns ++ [n])) Δ Δ') (hz : ns.length ≤ sizeLine) (h : Q .none Δ') : T c A Δ (call (.builtin "list.append") [.ref l, .int n t]) Q E := fun s hs => by
  obtain ⟨vs, k, e, hi⟩ := hs.ints hu.mem
  refine wpAny_list_append_plain ⟨_, e⟩ (fun h' ⟨n', e'⟩ hs' => ⟨Δ', hs.upd hu hs' ⟨_, e', vs ++ [.int n t], n', by simp, hi.append (.cons n t .nil)⟩, h⟩) ?_
  have := hi.length; simp; omega
theorem T.itru {Q : Bool → Hp → Prop} (hm : (l, PInts ns) ∈ Δ) (hz : ns.length ≤ sizeLine) (h : Q (!ns.isEmpty) Δ) : T c A Δ (truthy (.ref l)) Q E := fun s hs => by
  obtain ⟨vs, k, e, hi⟩ := hs.ints hm
  have hl := hi.length
  refine wpAny_truthy_list e.isList (by have := sizeLine_eq; simp; omega) ⟨Δ, hs.toks, ?_⟩
  have : (!vs.toArray.isEmpty) = !ns.isEmpty := by cases vs <;> cases ns <;> simp_all
  rw [this]; exact h
theorem T.iitem {k n : Int} {t : Tok} {Q : Value → Hp → Prop} (hm : (l, PInts ns) ∈ Δ) (h0 : 0 ≤ k) (hf : k < 2 ^ 63) (hx : ns[k.toNat]? = some n) (h : ∀ u, Q (.int n u) Δ) : T c A Δ (getItem (.ref l) (.int k t)) Q E := fun s hs => by
  obtain ⟨vs, k', e, hi⟩ := hs.ints hm
  obtain ⟨u, hu⟩ := ints_iff hi _ _ hx
  exact wpAny_getItem_list e.isList h0 hf hu ⟨Δ, hs, h u⟩
theorem T.isub {value slice : Expr} {k n : Int} {t : Tok} {Q : Value → Hp → Prop} (hm : (l, PInts ns) ∈ Δ) (h0 : 0 ≤ k) (hf : k < 2 ^ 63) (hx : ns[k.toNat]? = some n) (h : ∀ u, Q (.int n u) Δ)
    (hs : subscripted slice false (.ref l) (.int k t) = operate [.ref l, .int k t] (getItem (.ref l) (.int k t)) := by with_unfolding_all rfl) : T c A Δ (subscriptTail value slice (.ref l) (.int k t)) Q E := fun s hs' => by
  obtain ⟨vs, k', e, hi⟩ := hs'.ints hm
  obtain ⟨u, hu⟩ := ints_iff hi _ _ hx
  exact tail_any e.isList.typeIs slot_list_getitem.lookup (wpAny_getItem_list e.isList h0 hf hu ⟨Δ, hs', h u⟩) hs
theorem T.iiter {Q : Value → Hp → Prop} (hm : (l, PInts ns) ∈ Δ) (h : ∀ it, Q (.ref it) ((it, PLIter l 0) :: Δ)) : T c A Δ (pyIter (.ref l)) Q E := fun s hs => by
  obtain ⟨vs, k', e, hi⟩ := hs.ints hm
  exact wpAny_pyIter_list e.isList ⟨_, hs.push ⟨rfl, rfl⟩, h _⟩
theorem T.inext {it : Addr} {i : Nat} {n : Int} {Q : Option Value → Hp → Prop} (hu : Upd it (PLIter l i) (PLIter l (i + 1)) Δ Δ') (hm : (l, PInts ns) ∈ Δ) (hx : ns[i]? = some n) (h : ∀ t, Q (some (.int n t)) Δ') : T c A Δ (pyNext (.ref it)) Q E := fun s hs => by
  obtain ⟨vs, k', e, hi⟩ := hs.ints hm
  obtain ⟨u, hu'⟩ := ints_iff hi _ _ hx
  exact wpAny_pyNext_list_item (hs.liter hu.mem) e.isList hu' fun h' hi hs' => ⟨Δ', hs.upd hu hs' hi, h u⟩
theorem T.inextEnd {it : Addr} {i : Nat} {Q : Option Value → Hp → Prop} (hA : A.handled = none) (hu : Del it (PLIter l i) Δ Δ') (hm : (l, PInts ns) ∈ Δ) (hx : ns[i]? = none) (h : Q none Δ') : T c A Δ (pyNext (.ref it)) Q E := fun s hs => by
  obtain ⟨vs, k', e, hi⟩ := hs.ints hm
  exact wpAny_pyNext_list_end hA (hs.liter hu.mem) e.isList (ints_end hi hx) fun h' hs' => ⟨Δ', hs.del hu hs', h⟩
theorem T.islice {value : Expr} {p pos : Pos} {Q : Value → Hp → Prop}
    (h : T c A Δ (eval value env) (fun o Δ₁ => ∃ l ns, o = .ref l ∧ (l, PInts ns) ∈ Δ₁ ∧ ns.length ≤ sizeLine ∧ ∀ l', Q (.ref l') ((l', PInts ns) :: Δ₁)) E)
    (ht : ∀ o r, letTemporaryGo value o r = pure () := by intro _ _; k_dflt rfl) : T c A Δ (eval (.Subscript value (.Slice none none none p) pos) env) Q E := fun s hs =>
  wpAny_Subscript_list_slice (h.to hs fun o s₁ ⟨Δ₁, h₁, l, ns, eo, hm, hz, q⟩ => wpAny_evalPart_none (wpAny_evalPart_none (by
    obtain ⟨vs, k', e, hi⟩ := h₁.ints hm
    refine ⟨l, _, none, none, eo, e.isList, by have := hi.length; simp; omega, .none, .none, _, ?_, q _⟩
    have := (h₁.pushG { cls := .type "slice", data := .fields #[.none, .none, .none] } (n := s₁.toks)).push (P := PInts ns) (o := { cls := .type "list", data := .seq (slicePick vs.toArray none none none) }) ⟨vs, 0, by rw [slicePick_all], hi⟩ (n := s₁.toks)
    rw [Heap.size_push] at this
    exact this))) ht
theorem T.isliceFrom {value e : Expr} {p pos : Pos} {Q : Value → Hp → Prop}
    (h : T c A Δ (eval value env) (fun o Δ₁ => T c A Δ₁ (eval e env) (fun v Δ₂ => ∃ l ns k t, o = .ref l ∧ v = .int (k : Nat) t ∧ (l, PInts ns) ∈ Δ₂ ∧ ns.length ≤ sizeLine ∧ ∀ l', Q (.ref l') ((l', PInts (ns.drop k)) :: Δ₂)) E) E)
    (ht : ∀ o r, letTemporaryGo value o r = pure () := by intro _ _; k_dflt rfl) : T c A Δ (eval (.Subscript value (.Slice (some e) none none p) pos) env) Q E := fun s hs =>
  wpAny_Subscript_list_slice (h.to hs fun o s₁ ⟨Δ₁, h₁, q⟩ => wpAny_evalPart_some (q.to h₁ fun v s₂ ⟨Δ₂, h₂, l, ns, k, t, eo, ev, hm, hz, q⟩ => wpAny_evalPart_none (by
    obtain ⟨vs, k', e, hi⟩ := h₂.ints hm
    refine ⟨l, _, some k, none, eo, e.isList, by have := hi.length; simp; omega, ev ▸ .int _ _, .none, _, ?_, q _⟩
    have := (h₂.pushG { cls := .type "slice", data := .fields #[v, .none, .none] } (n := s₂.toks)).push (P := PInts (ns.drop k)) (o := { cls := .type "list", data := .seq (slicePick vs.toArray (some k) none none) })
      ⟨vs.drop k, 0, by rw [slicePick_from'], hi.drop k⟩ (n := s₂.toks)
    rw [Heap.size_push] at this
    exact this))) ht
theorem T.icat {a b : Addr} {Q : Value → Hp → Prop} (hm : (a, PInts ns) ∈ Δ) (hm2 : (b, PInts ms) ∈ Δ) (hz : ns.length + ms.length ≤ sizeLine) (h : ∀ l, Q (.ref l) ((l, PInts (ns ++ ms)) :: Δ)) : T c A Δ (binaryOp .Add (.ref a) (.ref b)) Q E := fun s hs => by
  obtain ⟨vs, k, e, hi⟩ := hs.ints hm
  obtain ⟨vs2, k2, e2, hi2⟩ := hs.ints hm2
  exact P.add_list e e2 ⟨_, hs.push ⟨vs ++ vs2, 0, by simp, hi.append hi2⟩ (n := s.toks), h _⟩ (by have := hi.length; have := hi2.length; simp; omega)
theorem IntsAre.erase {vs : List Value} {ns : List Int} (h : IntsAre vs ns) : ∀ k, IntsAre (vs.eraseIdx k) (ns.eraseIdx k) := by
  induction h with
  | nil => intro k; exact .nil
  | cons n t h ih =>
    intro k
    cases k with
    | zero => exact h
    | succ k => exact .cons n t (ih k)
theorem T.ipop {n : Int} {Q : Value → Hp → Prop} (hu : Upd l (PInts (ns ++ [n])) (PInts ns) Δ Δ') (hz : ns.length < sizeLine) (h : ∀ t, Q (.int n t) Δ') : T c A Δ (call (.builtin "list.pop") [.ref l]) Q E := fun s hs => by
  obtain ⟨vs, k, e, hi⟩ := hs.ints hu.mem
  have hl : vs.length = ns.length + 1 := by have := hi.length; simpa using this
  obtain ⟨t, ht⟩ := ints_iff hi ns.length n (by simp)
  have hlast : vs.toArray[vs.toArray.size - 1]? = some (.int n t) := by rw [List.size_toArray, hl]; exact ht
  refine call_meets F.slot_list_pop ⟨_, e, rfl⟩ F.entry_list_pop (F.args_list_pop_1 _) (MeetsSeq.list_pop_last l vs.toArray k _ hlast (by simp; omega)) ⟨e, Δ', ?_, h t⟩
  have hE : vs.toArray.eraseIdxIfInBounds (vs.toArray.size - 1) = (vs.eraseIdx (vs.length - 1)).toArray := by simp
  have hU := e.update (fun xs => xs.eraseIdxIfInBounds (vs.toArray.size - 1))
  refine hs.upd hu (Heap.SameBut.update ..) (n := s.toks) ⟨_, hU, vs.eraseIdx (vs.length - 1), _, by rw [hE], ?_⟩
  have := IntsAre.erase hi (vs.length - 1)
  rw [hl] at this
  rw [hl]
  have e2 : (ns ++ [n]).eraseIdx (ns.length + 1 - 1) = ns := by
    rw [Nat.add_sub_cancel, List.eraseIdx_append_of_length_le (Nat.le_refl _)]
    simp
  rwa [e2] at this
theorem eraseIdx_idxOf {n : Int} {ns : List Int} : ns.eraseIdx (ns.idxOf n) = ns.erase n := (List.erase_eq_eraseIdx_of_idxOf rfl).symm
theorem T.iremove {n : Int} {t : Tok} {Q : Value → Hp → Prop} (hu : Upd l (PInts ns) (PInts (ns.erase n)) Δ Δ') (hn : n ∈ ns) (hz : ns.length ≤ sizeLine) (h : Q .none Δ') : T c A Δ (call (.builtin "list.remove") [.ref l, .int n t]) Q E := fun s hs => by
  obtain ⟨vs, k, e, hi⟩ := hs.ints hu.mem
  have hl := hi.length
  have hj : ns.idxOf n < vs.toArray.size := by have := List.idxOf_lt_length_iff.mpr hn; simp; omega
  have at_ : ∀ m (hm : m < vs.toArray.size), isInt n vs.toArray[m] = (ns[m]'(by simp at hm; omega) == n) := by
    intro m hm
    have hm' : m < ns.length := by simp at hm; omega
    obtain ⟨u, hu⟩ := ints_iff hi m ns[m] (by simp)
    have : vs.toArray[m] = .int ns[m] u := by
      have := Array.getElem?_eq_getElem hm
      rw [this] at hu; exact Option.some.inj hu
    rw [this]; rfl
  refine call_meets F.slot_list_remove ⟨_, e, rfl⟩ F.entry_list_remove (F.args_list_remove_2 _ _) (MeetsSeq.list_remove l vs.toArray k _ (isInt n) (fun y hy => eq_isInt n t hi y (by simpa using hy)) (ns.idxOf n) hj ?_ ?_ (by simp; omega)) ⟨e, Δ', ?_, h⟩
  · rw [at_ _ hj]; simp
  · intro m hm hlt
    rw [at_ _ hm]
    have := List.not_of_lt_findIdx hlt
    simpa using this
  · have hE : vs.toArray.eraseIdxIfInBounds (ns.idxOf n) = (vs.eraseIdx (ns.idxOf n)).toArray := by simp
    have hU := e.update (fun xs => xs.eraseIdxIfInBounds (ns.idxOf n))
    refine hs.upd hu (Heap.SameBut.update ..) (n := s.toks) ⟨_, hU, vs.eraseIdx (ns.idxOf n), _, by rw [hE], ?_⟩
    rw [← eraseIdx_idxOf]
    exact IntsAre.erase hi _
theorem T.ilen {Q : Value → Hp → Prop} (hm : (l, PInts ns) ∈ Δ) (hz : ns.length ≤ sizeLine) (h : ∀ t, Q (.int ns.length t) Δ) : T c A Δ (call (.builtin "len") [.ref l]) Q E := fun s hs => by
  obtain ⟨vs, k, e, hi⟩ := hs.ints hm
  have hl := hi.length
  refine call_len_list e.isList (by have := sizeLine_eq; simp; omega) ⟨Δ, hs.toks, ?_⟩
  rw [List.size_toArray, hl]; exact h _
theorem T.mList {name : Str} {id : String} {items : Pr} {pl : Sem Bool} {Q : Value × List Value → Hp → Prop} (hm : (l, items) ∈ Δ) (hi : ∀ o, items o → o.cls = .type "list" ∧ o.dict = none) (slot : Slot "list" name id) (hty : typeOf (.builtin id) = pure (.type "method_descriptor")) (h : Q (.builtin id, [.ref l]) Δ) : T c A Δ (getMethod (.ref l) name pl) Q E := fun s hs => by
  obtain ⟨o, e, p⟩ := hs.has hm
  exact getMethod_builtin ⟨o, e, (hi o p).1⟩ PySem.F.plainAttrs_list slot hty (fun a ea => by cases ea; exact ⟨o, e, (hi o p).2⟩) ⟨Δ, hs, h⟩
theorem PInts.is {o : Obj} (h : PInts ns o) : o.cls = .type "list" ∧ o.dict = none := by obtain ⟨_, _, rfl, _⟩ := h; exact ⟨rfl, rfl⟩
end
end Mine
end
/-! Tl7 -/
section
open PySem PySem.W PyProof.Rows PySem.Calls
set_option maxRecDepth 100000
namespace Mine
abbrev tests (ifs : List Expr) (env : Env) : Sem Bool := forIn ifs true fun c r => if r = true then do let ok ← isTrue c env (eval c env); pure (ForInStep.yield ok) else pure (ForInStep.yield r)
section
variable {c : Cx} {A : Around} {Δ Δ' : Hp} {E : Value → Hp → Prop} {env : Env}
theorem T.testsNil {Q : Bool → Hp → Prop} (h : Q true Δ) : T c A Δ (tests [] env) Q E := fun s hs => wpAny_tests_nil ⟨Δ, hs, h⟩
theorem T.testsOne {x : Expr} {Q : Bool → Hp → Prop} (h : T c A Δ (isTrue x env (eval x env)) Q E) : T c A Δ (tests [x] env) Q E := fun s hs => wpAny_tests_one (h s hs)
theorem notedF {s : Shared} {F G : Value → Shared → Prop} {t : Sem α} {Q : α → Shared → Prop} (h : wpAny (model PG c.w) A t Q (fun _ _ => False) s) : wpAny (model PG c.w) A t Q G s := wpAny_mono h (fun _ _ q => q) fun _ _ x => x.elim
theorem compC {P : Pr} {s : Shared} {Ca : Addr} (x : St c Δ s) (u : Del Ca P Δ Δ') (hP : ∀ o, P o → ∃ l, PFr l o) {Q : Hp → Prop} (q : Q Δ') : ∃ m, s.heap.Ns Ca m ∧ ∀ h', Heap.SameBut Ca s.heap h' → ∃ Δ', St c Δ' { s with heap := h' } ∧ Q Δ' := by
  obtain ⟨o, e, p⟩ := x.has u.mem
  obtain ⟨l, m, ⟨es, ep, r⟩, _⟩ := hP o p
  exact ⟨m, ⟨o, es, ep, e, r⟩, fun h' hs' => ⟨Δ', x.del u hs'.extBut, q⟩⟩
/-- the iterator is its own iterator -/
def Own (c : Cx) (A : Around) (P : Pr) (it : Addr) : Prop := ∀ (s : Shared) (o : Obj), s.heap.get? it = some o → P o → ∀ (Q : Value → Shared → Prop) (E : Value → Shared → Prop), Q (.ref it) s → wpAny (model PG c.w) A (pyIter (.ref it)) Q E s
theorem Own.list {l it : Addr} {i : Nat} : Own c A (PLIter l i) it := fun s o e p Q E q => wpAny_pyIter_listiter ⟨o, e, p⟩ q
theorem Own.keys {l it : Addr} {i n ep : Nat} : Own c A (PKIter l i n ep) it := fun s o e p Q E q => wpAny_pyIter_keyiter ⟨o, e, p⟩ q
theorem PDI.nil : PDI [] 0 { cls := .type "dict", dict := none, data := .dict #[] } := ⟨#[], ⟨rfl, rfl, rfl⟩, rfl, fun e he => (by simp at he), ⟨rfl, fun p hp => (by simp at hp)⟩, List.nodup_nil⟩
/-- the end of a comprehension: its frame goes -/
def endC (c : Cx) (A : Around) (E : Value → Hp → Prop) (use : Option (Value → Sem Unit)) (Q : Value → Hp → Prop) (D C : Addr) (Δ₃ : Hp) : Prop :=
  match use with
  | none => ∃ l Δ₄, Del C (PFr l) Δ₃ Δ₄ ∧ Q (.ref D) Δ₄
  | some u => T c A Δ₃ (u (.ref D)) (fun _ Δ₄ => ∃ l Δ₅, Del C (PFr l) Δ₄ Δ₅ ∧ Q .none Δ₅) E
/-- a comprehension of one clause, by an invariant -/
theorem T.listCompU {use : Option (Value → Sem Unit)} {cpos : Pos} {elt iter target : Expr} {ifs : List Expr} {scope : Scope} {cl : List (Str × Addr)} {pos : Pos} {Q : Value → Hp → Prop}
    (hclos : closureFor scope env = pure cl) (hcell : ∀ y ∈ scope.names, y.2 ≠ .cell) (hkind : scope.kind = .function)
    (hnames : ∀ y ∈ scope.names, y.2 = .local → scope.names.lookup y.1 = some .local)
    (h : T c A Δ (eval iter env) (fun xv Δ₁ => T c A Δ₁ (pyIter xv) (fun it Δ₂ => (∃ I P, it = .ref I ∧ (I, P) ∈ Δ₂ ∧ Own c A P I) ∧ ∀ D C, ∃ (I : Nat → Hp → Prop) (n : Nat), (∃ Δ₀, (∀ s, St c ((C, PFr []) :: (D, PList #[]) :: Δ₂) s → St c Δ₀ s) ∧ I n Δ₀) ∧
      ∀ n Δ, I n Δ → T c A Δ (pyNext it) (fun r Δ₃ => match r with
        | none => endC c A E use Q D C Δ₃
        | some v => T c A Δ₃ (assign target (compEnvC scope cl C env) v) (fun _ Δ₄ => T c A Δ₄ (tests ifs (compEnvC scope cl C env)) (fun ok Δ₅ =>
            if ok = true then T c A Δ₅ (eval elt (compEnvC scope cl C env)) (fun x Δ₆ => T c A Δ₆ (call (.builtin "list.append") [.ref D, x]) (fun _ Δ₇ => ∃ m, m < n ∧ I m Δ₇) NoE) NoE
            else ∃ m, m < n ∧ I m Δ₅) NoE) NoE) NoE) E) E)
    (hs : ∀ x, foldedSetIterable iter env x = pure x := by intro _; k_dflt rfl) (ht : ∀ it v, letOwnedTupleGo target it v = pure () := by intro _ _; k_dflt rfl) : T c A Δ (comprehension (.ListComp elt [⟨target, iter, ifs, 0⟩] scope pos) scope env cpos (PySem.newList []) false (eval iter env) use) Q E := fun s hs' => by
  refine wpAny_comprehension_free (use := use) rfl hs hclos hkind hnames (h.to hs' fun xv s₁ ⟨Δ₁, h₁, q⟩ => q.to h₁ fun it s₂ ⟨Δ₂, h₂, ⟨I, IP, eI, hIm, hown⟩, q⟩ => ?_)
  subst eI
  refine wpAny_newObj_type (wpAny_newFunctionEnv hcell (by intro y hy; simp at hy) (fun h₁ hns₁ hsb₁ => ?_) hkind)
  dsimp only at hns₁ hsb₁ ⊢
  have S1 := h₂.push (P := PList #[]) (o := { cls := .type "list", dict := none, data := .seq ([] : List Value).toArray }) ⟨0, rfl⟩ (n := s₂.toks)
  generalize hH2 : s₂.heap.push { cls := .type "list", dict := none, data := .seq ([] : List Value).toArray } = H2 at hns₁ hsb₁ S1 ⊢
  have S2 : St c ((H2.objs.size, PFr []) :: (s₂.heap.objs.size, PList #[]) :: Δ₂) { s₂ with heap := h₁, toks := s₂.toks + ([] : List (Str × Value)).length } := by
    obtain ⟨o, es, ep, e, r⟩ := hns₁
    exact S1.add (n := s₂.toks + ([] : List (Str × Value)).length) (h' := h₁) (fun b o e => hsb₁.extBut b o (Nat.ne_of_lt (Heap.lt_size e)) (Heap.get?_push_of_some _ e)) (Nat.le_refl _) ⟨o, e, _, ⟨es, ep, r⟩, fun p hp => by cases hp⟩
  obtain ⟨J, n, ⟨Δ₀, h₀, hJ⟩, turn⟩ := q s₂.heap.objs.size H2.objs.size
  have loop : ∀ s₃ : Shared, s₃ = { s₂ with heap := h₁, toks := s₂.toks + ([] : List (Str × Value)).length } →
      codeAny (model PG c.w) A (.compLoop (.ListComp elt [⟨target, iter, ifs, 0⟩] scope pos) 0 (.ref I) (.ref s₂.heap.objs.size) (compEnvC scope cl H2.objs.size env))
        (compPost (model PG c.w) A (Lf c E) use (Lf c Q) (.ref s₂.heap.objs.size) H2.objs.size) s₃ := by
    rintro s₃ rfl
    refine codeAny_compLoop_tests (fun n s => ∃ Δ, St c Δ s ∧ J n Δ) (fun n s ⟨Δ, hs, hi⟩ => ?_) n ⟨_, h₀ _ S2, hJ⟩ (ht _)
    refine wpAny_mono (turn n Δ hi s hs) (fun r s₃ ⟨Δ₃, h₃, q⟩ => ?_) fun _ _ ⟨_, _, x⟩ => x.elim
    cases r with
    | none =>
      have q : endC c A E use Q s₂.heap.objs.size H2.objs.size Δ₃ := q
      cases use with
      | none =>
        obtain ⟨l, Δ₄, u, q⟩ := q
        exact compC h₃ u (fun o p => ⟨l, p⟩) q
      | some u => exact T.to q h₃ fun _ s' ⟨Δ₄, h₄, l, Δ₅, d, q⟩ => compC h₄ d (fun o p => ⟨l, p⟩) q
    | some v =>
      refine wpAny_mono (q s₃ h₃) (fun _ s₄ ⟨Δ₄, h₄, q⟩ => ?_) fun _ _ ⟨_, _, x⟩ => x.elim
      refine wpAny_mono (q s₄ h₄) (fun ok s₅ ⟨Δ₅, h₅, q⟩ => ?_) fun _ _ ⟨_, _, x⟩ => x.elim
      cases ok with
      | false => obtain ⟨m, hm, hi⟩ := q; exact ⟨m, hm, Δ₅, h₅, hi⟩
      | true =>
        refine wpAny_mono (q s₅ h₅) (fun x s₆ ⟨Δ₆, h₆, q⟩ => ?_) fun _ _ ⟨_, _, x⟩ => x.elim
        refine wpAny_mono (q s₆ h₆) (fun _ s₇ ⟨Δ₇, h₇, m, hm, hi⟩ => ⟨m, hm, Δ₇, h₇, hi⟩) fun _ _ ⟨_, _, x⟩ => x.elim
  obtain ⟨o, e, p⟩ := S2.has (.tail _ (.tail _ hIm))
  exact codeAny_compStart_list (loop _ rfl) (hown _ o e p _ _ (loop _ rfl))
theorem T.listComp {elt iter target : Expr} {ifs : List Expr} {scope : Scope} {cl : List (Str × Addr)} {pos : Pos} {Q : Value → Hp → Prop}
    (hclos : closureFor scope env = pure cl) (hcell : ∀ y ∈ scope.names, y.2 ≠ .cell) (hkind : scope.kind = .function)
    (hnames : ∀ y ∈ scope.names, y.2 = .local → scope.names.lookup y.1 = some .local)
    (h : T c A Δ (eval iter env) (fun xv Δ₁ => T c A Δ₁ (pyIter xv) (fun it Δ₂ => (∃ I P, it = .ref I ∧ (I, P) ∈ Δ₂ ∧ Own c A P I) ∧ ∀ D C, ∃ (I : Nat → Hp → Prop) (n : Nat), (∃ Δ₀, (∀ s, St c ((C, PFr []) :: (D, PList #[]) :: Δ₂) s → St c Δ₀ s) ∧ I n Δ₀) ∧
      ∀ n Δ, I n Δ → T c A Δ (pyNext it) (fun r Δ₃ => match r with
        | none => ∃ l Δ₄, Del C (PFr l) Δ₃ Δ₄ ∧ Q (.ref D) Δ₄
        | some v => T c A Δ₃ (assign target (compEnvC scope cl C env) v) (fun _ Δ₄ => T c A Δ₄ (tests ifs (compEnvC scope cl C env)) (fun ok Δ₅ =>
            if ok = true then T c A Δ₅ (eval elt (compEnvC scope cl C env)) (fun x Δ₆ => T c A Δ₆ (call (.builtin "list.append") [.ref D, x]) (fun _ Δ₇ => ∃ m, m < n ∧ I m Δ₇) NoE) NoE
            else ∃ m, m < n ∧ I m Δ₅) NoE) NoE) NoE) E) E)
    (hs : ∀ x, foldedSetIterable iter env x = pure x := by intro _; k_dflt rfl) (ht : ∀ it v, letOwnedTupleGo target it v = pure () := by intro _ _; k_dflt rfl) : T c A Δ (eval (.ListComp elt [⟨target, iter, ifs, 0⟩] scope pos) env) Q E := by
  rw [eval_ListComp]
  exact T.listCompU (use := none) hclos hcell hkind hnames (h.mono (fun xv Δ₁ q => q.mono (fun it Δ₂ q => q) fun _ _ e => e) fun _ _ e => e) hs ht
theorem T.asgListComp {y : Str} {py spos : Pos} {elt iter target : Expr} {ifs : List Expr} {scope : Scope} {cl : List (Str × Addr)} {pos : Pos} {Q : Flow → Hp → Prop}
    (hclos : closureFor scope env = pure cl) (hcell : ∀ y ∈ scope.names, y.2 ≠ .cell) (hkind : scope.kind = .function)
    (hnames : ∀ y ∈ scope.names, y.2 = .local → scope.names.lookup y.1 = some .local)
    (h : T c A Δ (eval iter env) (fun xv Δ₁ => T c A Δ₁ (pyIter xv) (fun it Δ₂ => (∃ I P, it = .ref I ∧ (I, P) ∈ Δ₂ ∧ Own c A P I) ∧ ∀ D C, ∃ (I : Nat → Hp → Prop) (n : Nat), (∃ Δ₀, (∀ s, St c ((C, PFr []) :: (D, PList #[]) :: Δ₂) s → St c Δ₀ s) ∧ I n Δ₀) ∧
      ∀ n Δ, I n Δ → T c A Δ (pyNext it) (fun r Δ₃ => match r with
        | none => T c A Δ₃ (storeName env y (.ref D)) (fun _ Δ₄ => ∃ l Δ₅, Del C (PFr l) Δ₄ Δ₅ ∧ Q .next Δ₅) E
        | some v => T c A Δ₃ (assign target (compEnvC scope cl C env) v) (fun _ Δ₄ => T c A Δ₄ (tests ifs (compEnvC scope cl C env)) (fun ok Δ₅ =>
            if ok = true then T c A Δ₅ (eval elt (compEnvC scope cl C env)) (fun x Δ₆ => T c A Δ₆ (call (.builtin "list.append") [.ref D, x]) (fun _ Δ₇ => ∃ m, m < n ∧ I m Δ₇) NoE) NoE
            else ∃ m, m < n ∧ I m Δ₅) NoE) NoE) NoE) E) E)
    (hs : ∀ x, foldedSetIterable iter env x = pure x := by intro _; k_dflt rfl) (ht : ∀ it v, letOwnedTupleGo target it v = pure () := by intro _ _; k_dflt rfl) (hsw : swapsWith (.ListComp elt [⟨target, iter, ifs, 0⟩] scope pos) (some (.Name y py)) spos.line env = pure true := by k_dflt rfl) : T c A Δ (exec (.Assign [.Name y py] (.ListComp elt [⟨target, iter, ifs, 0⟩] scope pos) spos) env) Q E := fun s hs' => by
  rw [exec_Assign_Name_used _ _ _ _ hsw]
  refine wpAny_bind (wpAny_standAt (wpAny_bind ?_))
  show wpAny _ A (do let _ ← comprehension (.ListComp elt [⟨target, iter, ifs, 0⟩] scope pos) scope env _ (PySem.newList []) false (eval iter env) (some (assign (.Name y py) env))) _ _ s
  refine wpAny_bind (wpAny_mono (T.listCompU (use := some (assign (.Name y py) env)) (Q := fun _ Δ => Q .next Δ) hclos hcell hkind hnames (h.mono (fun xv Δ₁ q => q.mono (fun it Δ₂ ⟨q1, q2⟩ => ⟨q1, fun D C => ?_⟩) fun _ _ e => e) fun _ _ e => e) hs ht s hs')
    (fun _ s' ⟨Δ', h', q⟩ => wpAny_pure (wpAny_pure ⟨Δ', h', q⟩)) fun _ _ e => e)
  obtain ⟨J, n, i0, turn⟩ := q2 D C
  refine ⟨J, n, i0, fun n Δ hi => (turn n Δ hi).mono (fun r Δ₃ q => ?_) fun _ _ e => e⟩
  cases r with
  | none => exact T.asName q
  | some v => exact q
/-- the same for a dict -/
theorem T.dictCompU {first : Sem Value} {use : Option (Value → Sem Unit)} {cpos : Pos} {kx vx iter target : Expr} {ifs : List Expr} {scope : Scope} {cl : List (Str × Addr)} {pos : Pos} {Q : Value → Hp → Prop}
    (hclos : closureFor scope env = pure cl) (hcell : ∀ y ∈ scope.names, y.2 ≠ .cell) (hkind : scope.kind = .function)
    (hnames : ∀ y ∈ scope.names, y.2 = .local → scope.names.lookup y.1 = some .local)
    (h : T c A Δ first (fun xv Δ₁ => T c A Δ₁ (pyIter xv) (fun it Δ₂ => (∃ I P, it = .ref I ∧ (I, P) ∈ Δ₂ ∧ Own c A P I) ∧ ∀ D C, ∃ (I : Nat → Hp → Prop) (n : Nat), (∃ Δ₀, (∀ s, St c ((C, PFr []) :: (D, PDI [] 0) :: Δ₂) s → St c Δ₀ s) ∧ I n Δ₀) ∧
      ∀ n Δ, I n Δ → T c A Δ (pyNext it) (fun r Δ₃ => match r with
        | none => endC c A E use Q D C Δ₃
        | some v => T c A Δ₃ (assign target (compEnvC scope cl C env) v) (fun _ Δ₄ => T c A Δ₄ (tests ifs (compEnvC scope cl C env)) (fun ok Δ₅ =>
            if ok = true then T c A Δ₅ (eval kx (compEnvC scope cl C env)) (fun kv Δ₆ => T c A Δ₆ (eval vx (compEnvC scope cl C env)) (fun vv Δ₇ => T c A Δ₇ (dictSet D kv vv) (fun _ Δ₈ => ∃ m, m < n ∧ I m Δ₈) NoE) NoE) NoE
            else ∃ m, m < n ∧ I m Δ₅) NoE) NoE) NoE) E) E)
    (hs : ∀ x, foldedSetIterable iter env x = pure x := by intro _; k_dflt rfl) (ht : ∀ it v, letOwnedTupleGo target it v = pure () := by intro _ _; k_dflt rfl) : T c A Δ (comprehension (.DictComp kx vx [⟨target, iter, ifs, 0⟩] scope pos) scope env cpos PySem.newDict false first use) Q E := fun s hs' => by
  refine wpAny_comprehension_free (use := use) rfl hs hclos hkind hnames (h.to hs' fun xv s₁ ⟨Δ₁, h₁, q⟩ => q.to h₁ fun it s₂ ⟨Δ₂, h₂, ⟨I, IP, eI, hIm, hown⟩, q⟩ => ?_)
  subst eI
  refine wpAny_newObj_type (wpAny_newFunctionEnv hcell (by intro y hy; simp at hy) (fun h₁ hns₁ hsb₁ => ?_) hkind)
  dsimp only at hns₁ hsb₁ ⊢
  have S1 := h₂.push (P := PDI [] 0) (o := { cls := .type "dict", dict := none, data := .dict #[] }) PDI.nil (n := s₂.toks)
  generalize hH2 : s₂.heap.push { cls := .type "dict", dict := none, data := .dict #[] } = H2 at hns₁ hsb₁ S1 ⊢
  have S2 : St c ((H2.objs.size, PFr []) :: (s₂.heap.objs.size, PDI [] 0) :: Δ₂) { s₂ with heap := h₁, toks := s₂.toks + ([] : List (Str × Value)).length } := by
    obtain ⟨o, es, ep, e, r⟩ := hns₁
    exact S1.add (n := s₂.toks + ([] : List (Str × Value)).length) (h' := h₁) (fun b o e => hsb₁.extBut b o (Nat.ne_of_lt (Heap.lt_size e)) (Heap.get?_push_of_some _ e)) (Nat.le_refl _) ⟨o, e, _, ⟨es, ep, r⟩, fun p hp => by cases hp⟩
  obtain ⟨J, n, ⟨Δ₀, h₀, hJ⟩, turn⟩ := q s₂.heap.objs.size H2.objs.size
  have loop : ∀ s₃ : Shared, s₃ = { s₂ with heap := h₁, toks := s₂.toks + ([] : List (Str × Value)).length } →
      codeAny (model PG c.w) A (.compLoop (.DictComp kx vx [⟨target, iter, ifs, 0⟩] scope pos) 0 (.ref I) (.ref s₂.heap.objs.size) (compEnvC scope cl H2.objs.size env))
        (compPost (model PG c.w) A (Lf c E) use (Lf c Q) (.ref s₂.heap.objs.size) H2.objs.size) s₃ := by
    rintro s₃ rfl
    refine codeAny_compLoop_testsD (fun n s => ∃ Δ, St c Δ s ∧ J n Δ) (fun n s ⟨Δ, hs, hi⟩ => ?_) n ⟨_, h₀ _ S2, hJ⟩ (ht _)
    refine wpAny_mono (turn n Δ hi s hs) (fun r s₃ ⟨Δ₃, h₃, q⟩ => ?_) fun _ _ ⟨_, _, x⟩ => x.elim
    cases r with
    | none =>
      have q : endC c A E use Q s₂.heap.objs.size H2.objs.size Δ₃ := q
      cases use with
      | none =>
        obtain ⟨l, Δ₄, u, q⟩ := q
        exact compC h₃ u (fun o p => ⟨l, p⟩) q
      | some u => exact T.to q h₃ fun _ s' ⟨Δ₄, h₄, l, Δ₅, d, q⟩ => compC h₄ d (fun o p => ⟨l, p⟩) q
    | some v =>
      refine wpAny_mono (q s₃ h₃) (fun _ s₄ ⟨Δ₄, h₄, q⟩ => ?_) fun _ _ ⟨_, _, x⟩ => x.elim
      refine wpAny_mono (q s₄ h₄) (fun ok s₅ ⟨Δ₅, h₅, q⟩ => ?_) fun _ _ ⟨_, _, x⟩ => x.elim
      cases ok with
      | false => obtain ⟨m, hm, hi⟩ := q; exact ⟨m, hm, Δ₅, h₅, hi⟩
      | true =>
        refine wpAny_mono (q s₅ h₅) (fun x s₆ ⟨Δ₆, h₆, q⟩ => ?_) fun _ _ ⟨_, _, x⟩ => x.elim
        refine wpAny_mono (q s₆ h₆) (fun x s₇ ⟨Δ₇, h₇, q⟩ => ?_) fun _ _ ⟨_, _, x⟩ => x.elim
        refine wpAny_mono (q s₇ h₇) (fun _ s₈ ⟨Δ₈, h₈, m, hm, hi⟩ => ⟨m, hm, Δ₈, h₈, hi⟩) fun _ _ ⟨_, _, x⟩ => x.elim
  obtain ⟨o, e, p⟩ := S2.has (.tail _ (.tail _ hIm))
  exact codeAny_compStart_dict (loop _ rfl) (hown _ o e p _ _ (loop _ rfl))
theorem T.dictComp {kx vx iter target : Expr} {ifs : List Expr} {scope : Scope} {cl : List (Str × Addr)} {pos : Pos} {Q : Value → Hp → Prop}
    (hclos : closureFor scope env = pure cl) (hcell : ∀ y ∈ scope.names, y.2 ≠ .cell) (hkind : scope.kind = .function)
    (hnames : ∀ y ∈ scope.names, y.2 = .local → scope.names.lookup y.1 = some .local)
    (h : T c A Δ (eval iter env) (fun xv Δ₁ => T c A Δ₁ (pyIter xv) (fun it Δ₂ => (∃ I P, it = .ref I ∧ (I, P) ∈ Δ₂ ∧ Own c A P I) ∧ ∀ D C, ∃ (I : Nat → Hp → Prop) (n : Nat), (∃ Δ₀, (∀ s, St c ((C, PFr []) :: (D, PDI [] 0) :: Δ₂) s → St c Δ₀ s) ∧ I n Δ₀) ∧
      ∀ n Δ, I n Δ → T c A Δ (pyNext it) (fun r Δ₃ => match r with
        | none => ∃ l Δ₄, Del C (PFr l) Δ₃ Δ₄ ∧ Q (.ref D) Δ₄
        | some v => T c A Δ₃ (assign target (compEnvC scope cl C env) v) (fun _ Δ₄ => T c A Δ₄ (tests ifs (compEnvC scope cl C env)) (fun ok Δ₅ =>
            if ok = true then T c A Δ₅ (eval kx (compEnvC scope cl C env)) (fun kv Δ₆ => T c A Δ₆ (eval vx (compEnvC scope cl C env)) (fun vv Δ₇ => T c A Δ₇ (dictSet D kv vv) (fun _ Δ₈ => ∃ m, m < n ∧ I m Δ₈) NoE) NoE) NoE
            else ∃ m, m < n ∧ I m Δ₅) NoE) NoE) NoE) E) E)
    (hs : ∀ x, foldedSetIterable iter env x = pure x := by intro _; k_dflt rfl) (ht : ∀ it v, letOwnedTupleGo target it v = pure () := by intro _ _; k_dflt rfl) : T c A Δ (eval (.DictComp kx vx [⟨target, iter, ifs, 0⟩] scope pos) env) Q E := by
  rw [arm_eval_DictComp]
  exact T.dictCompU (use := none) hclos hcell hkind hnames (h.mono (fun xv Δ₁ q => q.mono (fun it Δ₂ q => q) fun _ _ e => e) fun _ _ e => e) hs ht
theorem T.asgDictComp {y : Str} {py spos : Pos} {kx vx iter target : Expr} {ifs : List Expr} {scope : Scope} {cl : List (Str × Addr)} {pos : Pos} {Q : Flow → Hp → Prop}
    (hclos : closureFor scope env = pure cl) (hcell : ∀ y ∈ scope.names, y.2 ≠ .cell) (hkind : scope.kind = .function)
    (hnames : ∀ y ∈ scope.names, y.2 = .local → scope.names.lookup y.1 = some .local)
    (h : T c A Δ (eval iter env) (fun xv Δ₁ => T c A Δ₁ (pyIter xv) (fun it Δ₂ => (∃ I P, it = .ref I ∧ (I, P) ∈ Δ₂ ∧ Own c A P I) ∧ ∀ D C, ∃ (I : Nat → Hp → Prop) (n : Nat), (∃ Δ₀, (∀ s, St c ((C, PFr []) :: (D, PDI [] 0) :: Δ₂) s → St c Δ₀ s) ∧ I n Δ₀) ∧
      ∀ n Δ, I n Δ → T c A Δ (pyNext it) (fun r Δ₃ => match r with
        | none => T c A Δ₃ (storeName env y (.ref D)) (fun _ Δ₄ => ∃ l Δ₅, Del C (PFr l) Δ₄ Δ₅ ∧ Q .next Δ₅) E
        | some v => T c A Δ₃ (assign target (compEnvC scope cl C env) v) (fun _ Δ₄ => T c A Δ₄ (tests ifs (compEnvC scope cl C env)) (fun ok Δ₅ =>
            if ok = true then T c A Δ₅ (eval kx (compEnvC scope cl C env)) (fun kv Δ₆ => T c A Δ₆ (eval vx (compEnvC scope cl C env)) (fun vv Δ₇ => T c A Δ₇ (dictSet D kv vv) (fun _ Δ₈ => ∃ m, m < n ∧ I m Δ₈) NoE) NoE) NoE
            else ∃ m, m < n ∧ I m Δ₅) NoE) NoE) NoE) E) E)
    (hs : ∀ x, foldedSetIterable iter env x = pure x := by intro _; k_dflt rfl) (ht : ∀ it v, letOwnedTupleGo target it v = pure () := by intro _ _; k_dflt rfl) (hsw : swapsWith (.DictComp kx vx [⟨target, iter, ifs, 0⟩] scope pos) (some (.Name y py)) spos.line env = pure true := by k_dflt rfl) : T c A Δ (exec (.Assign [.Name y py] (.DictComp kx vx [⟨target, iter, ifs, 0⟩] scope pos) spos) env) Q E := fun s hs' => by
  rw [exec_Assign_Name_used _ _ _ _ hsw]
  refine wpAny_bind (wpAny_standAt (wpAny_bind ?_))
  show wpAny _ A (do let _ ← comprehension (.DictComp kx vx [⟨target, iter, ifs, 0⟩] scope pos) scope env _ PySem.newDict false (eval iter env) (some (assign (.Name y py) env))) _ _ s
  refine wpAny_bind (wpAny_mono (T.dictCompU (use := some (assign (.Name y py) env)) (Q := fun _ Δ => Q .next Δ) hclos hcell hkind hnames (h.mono (fun xv Δ₁ q => q.mono (fun it Δ₂ ⟨q1, q2⟩ => ⟨q1, fun D C => ?_⟩) fun _ _ e => e) fun _ _ e => e) hs ht s hs')
    (fun _ s' ⟨Δ', h', q⟩ => wpAny_pure (wpAny_pure ⟨Δ', h', q⟩)) fun _ _ e => e)
  obtain ⟨J, n, i0, turn⟩ := q2 D C
  refine ⟨J, n, i0, fun n Δ hi => (turn n Δ hi).mono (fun r Δ₃ q => ?_) fun _ _ e => e⟩
  cases r with
  | none => exact T.asName q
  | some v => exact q
theorem T.dictSetI {d : Addr} {kvs ep} {k : Int} {t : Tok} {v : Value} {Q : Unit → Hp → Prop} {Δ' : Nat → Hp} (hu : ∀ ep', Upd d (PDI kvs ep) (PDI (stored kvs k v) ep') Δ (Δ' ep')) (hz : kvs.length ≤ sizeLine)
    (h : ∀ ep', Q () (Δ' ep')) : T c A Δ (dictSet d (.int k t) v) Q E := fun s hs =>
  wpAny_dictSet_pairs (knd := intKind PG c.w) (show Value.isInt k (.int k t) = true by simp [Value.isInt]) (hs.di (hu 0).mem).dictOf (fun h' hd hs' => by
    obtain ⟨ep', o, e, p⟩ := ofDI PG hd
    exact ⟨_, hs.upd (hu ep') hs' ⟨o, e, p⟩, h ep'⟩) hz
/-! ## ranges -/
def PRange (a b : Int) : Pr := fun o => ∃ t u v, o = { cls := .type "range", dict := none, data := .fields #[.int a t, .int b u, .int 1 v], slots := #[] }
def PRI (x left : Int) : Pr := fun o => o = { cls := .type "range_iterator", dict := none, data := .fields #[rawInt x, rawInt left, rawInt 1], slots := #[] }
theorem T.range1 {n : Int} {t : Tok} {Q : Value → Hp → Prop} (h : ∀ r, Q (.ref r) ((r, PRange 0 n) :: Δ)) : T c A Δ (call (.type "range") [.int n t]) Q E := fun s hs =>
  call_range_1 ⟨_, hs.push (P := PRange 0 n) ⟨_, _, _, rfl⟩, h _⟩
theorem T.range2 {a b : Int} {t u : Tok} {Q : Value → Hp → Prop} (h : ∀ r, Q (.ref r) ((r, PRange a b) :: Δ)) : T c A Δ (call (.type "range") [.int a t, .int b u]) Q E := fun s hs =>
  call_range_2 ⟨_, hs.push (P := PRange a b) ⟨_, _, _, rfl⟩, h _⟩
theorem T.iterRange {r : Addr} {a b : Int} {Q : Value → Hp → Prop} (hm : (r, PRange a b) ∈ Δ) (ha : 0 ≤ a) (ha' : a < 2 ^ 62) (hb : 0 ≤ b) (hb' : b < 2 ^ 62) (hab : a ≤ b) (h : ∀ it, Q (.ref it) ((it, PRI a (b - a)) :: Δ)) : T c A Δ (pyIter (.ref r)) Q E := fun s hs => by
  obtain ⟨o, e, t, u, v, rfl⟩ := hs.has hm
  refine wpAny_pyIter_range e (small_one (by omega) ha' (by omega) hb') ⟨_, hs.push (P := PRI a (b - a)) ?_ (n := s.toks), h _⟩
  have : Builtin.Range.rangeSize a b 1 = b - a := by
    rw [rangeSize_one]; split <;> omega
  rw [this]; rfl
theorem T.nextRange {it : Addr} {x left : Int} {Q : Option Value → Hp → Prop} (hu : Upd it (PRI x left) (PRI (x + 1) (left - 1)) Δ Δ') (hl : 0 < left) (h : ∀ t, Q (some (.int x t)) Δ') : T c A Δ (pyNext (.ref it)) Q E := fun s hs => by
  obtain ⟨o, e, rfl⟩ := hs.has hu.mem
  exact wpAny_pyNext_range_item e hl fun h' e' hs' => ⟨Δ', hs.upd hu hs' ⟨_, e', rfl⟩, h _⟩
theorem T.nextRangeEnd {it : Addr} {x left : Int} {Q : Option Value → Hp → Prop} (hA : A.handled = none) (hu : Del it (PRI x left) Δ Δ') (hl : left ≤ 0) (h : Q none Δ') : T c A Δ (pyNext (.ref it)) Q E := fun s hs => by
  obtain ⟨o, e, rfl⟩ := hs.has hu.mem
  exact wpAny_pyNext_range_end hA e hl fun h' hs' => ⟨Δ', hs.del hu hs', h⟩
theorem Own.range {it : Addr} {x left : Int} : Own c A (PRI x left) it := fun s o e p Q E q => by
  subst p; exact wpAny_pyIter_rangeiter e q
/-! ## walks over ints -/
structure IW (c : Cx) (A : Around) (it : Addr) (S : Nat → Pr) (Φ : Hp) (ns : List Int) : Prop where
  item : ∀ i n, ns[i]? = some n → ∀ Δ Δ', (∀ p ∈ Φ, p ∈ Δ) → Upd it (S i) (S (i + 1)) Δ Δ' → ∀ (Q : Option Value → Hp → Prop) (E : Value → Hp → Prop), (∀ t, Q (some (.int n t)) Δ') → T c A Δ (pyNext (.ref it)) Q E
  done : ∀ Δ Δ', (∀ p ∈ Φ, p ∈ Δ) → Del it (S ns.length) Δ Δ' → ∀ (Q : Option Value → Hp → Prop) (E : Value → Hp → Prop), Q none Δ' → T c A Δ (pyNext (.ref it)) Q E
  own : Own c A (S 0) it
theorem IW.list {it l : Addr} {Φ : Hp} {ns : List Int} (hA : A.handled = none) (hm : (l, PInts ns) ∈ Φ) : IW c A it (PLIter l) Φ ns where
  item := fun i n e Δ Δ' hs hu Q E h => T.inext hu (hs _ hm) e h
  done := fun Δ Δ' hs hu Q E h => T.inextEnd hA hu (hs _ hm) (by simp) h
  own := Own.list
theorem IW.keys {it d : Addr} {Φ : Hp} {kvs : List (Int × Value)} {ep : Nat} (hA : A.handled = none) (hm : (d, PDI kvs ep) ∈ Φ) : IW c A it (fun i => PKIter d i kvs.length ep) Φ (kvs.map (·.1)) where
  item := fun i n e Δ Δ' hs hu Q E h => by
    rw [List.getElem?_map] at e
    cases q : kvs[i]? with
    | none => rw [q] at e; cases e
    | some kv =>
      rw [q] at e
      obtain ⟨k, v⟩ := kv
      cases e
      refine T.nextD (knd := intKind PG c.w) (d := d) hu (hs _ hm) q fun key hk => ?_
      have : ∃ t, key = .int k t := by
        cases key <;> simp [PySem.intKind, Value.isInt] at hk
        rename_i x t
        exact ⟨t, by rw [hk]⟩
      obtain ⟨t, rfl⟩ := this
      exact h t
  done := fun Δ Δ' hs hu Q E h => T.nextDEnd (knd := intKind PG c.w) (d := d) (i := (kvs.map (·.1)).length) (kvs := kvs) (ep := ep) hA hu (hs _ hm) (by simp) h
  own := Own.keys
theorem IW.range {it : Addr} {Φ : Hp} {k : Nat} (hA : A.handled = none) : IW c A it (fun i : Nat => PRI (i : Int) ((k : Int) - (i : Int))) Φ ((List.range k).map fun i : Nat => (i : Int)) where
  item := fun i n e Δ Δ' hs hu Q E h => by
    have hi : i < k := by
      have := List.getElem?_eq_some_iff.mp e
      obtain ⟨h1, _⟩ := this
      simpa using h1
    have en : n = (i : Int) := by
      rw [List.getElem?_map, List.getElem?_range hi] at e
      exact (Option.some.inj e).symm
    subst en
    have e1 : ((i + 1 : Nat) : Int) = (i : Int) + 1 := by push_cast; rfl
    have e2 : (k : Int) - ((i + 1 : Nat) : Int) = (k : Int) - i - 1 := by push_cast; omega
    rw [e2, e1] at hu
    exact T.nextRange hu (by omega) h
  done := fun Δ Δ' hs hu Q E h => by
    exact T.nextRangeEnd hA hu (by simp) h
  own := Own.range
end
end Mine
end
/-! Tl8 -/
section
open PySem PySem.W PyProof.Rows PySem.Calls
set_option maxRecDepth 100000
namespace Mine
/-! ## dicts from ints to ints -/
inductive IV : List (Int × Value) → List (Int × Int) → Prop
  | nil : IV [] []
  | cons (k v : Int) (t : Tok) {a b} : IV a b → IV ((k, .int v t) :: a) ((k, v) :: b)
def getI (kvs : List (Int × Int)) (k : Int) : Option Int := (kvs.find? fun kv => kv.1 = k).map (·.2)
def setI (kvs : List (Int × Int)) (k v : Int) : List (Int × Int) := if kvs.any (fun kv => kv.1 = k) then kvs.map (fun kv => if kv.1 = k then (kv.1, v) else kv) else kvs ++ [(k, v)]
theorem IV.length {a b} (h : IV a b) : a.length = b.length := by induction h with | nil => rfl | cons _ _ _ _ ih => simp [ih]
theorem IV.get {a b} (h : IV a b) (k v : Int) (e : getI b k = some v) : ∃ t, valueAt a k = some (.int v t) := by
  induction h with
  | nil => cases e
  | cons k' v' t h ih =>
    unfold getI valueAt at *
    rw [List.find?_cons] at e ⊢
    by_cases hk : k' = k
    · simp only [hk, decide_true] at e ⊢
      cases e; exact ⟨t, rfl⟩
    · simp only [hk, decide_false] at e ⊢
      exact ih e
theorem IV.app {a b} (h : IV a b) (k v : Int) (t : Tok) : IV (a ++ [(k, .int v t)]) (b ++ [(k, v)]) := by
  induction h with
  | nil => exact .cons k v t .nil
  | cons k' v' t' h ih => exact .cons k' v' t' ih
theorem IV.any {a b} (h : IV a b) (k : Int) : a.any (fun kv => kv.1 = k) = b.any (fun kv => kv.1 = k) := by
  induction h with
  | nil => rfl
  | cons k' v' t' h ih => rw [List.any_cons, List.any_cons, ih]
theorem IV.upd {a b} (h : IV a b) (k v : Int) (t : Tok) : IV (a.map (fun kv => if kv.1 = k then (kv.1, .int v t) else kv)) (b.map (fun kv => if kv.1 = k then (kv.1, v) else kv)) := by
  induction h with
  | nil => exact .nil
  | cons k' v' t' h ih =>
    rw [List.map_cons, List.map_cons]
    by_cases hk : k' = k
    · simp only [hk, if_true]; exact .cons _ _ _ ih
    · simp only [hk, if_false]; exact .cons _ _ _ ih
theorem IV.set {a b} (h : IV a b) (k v : Int) (t : Tok) : IV (stored a k (.int v t)) (setI b k v) := by
  unfold stored setI
  rw [h.any k]
  split
  · exact h.upd k v t
  · exact h.app k v t
def PWt (kvs : List (Int × Int)) : Pr := fun o => ∃ a ep, PDI a ep o ∧ IV a kvs
theorem PWt.nil {o : Obj} (h : PDI [] 0 o) : PWt [] o := ⟨[], 0, h, .nil⟩
/-- a tail of objects, in another order, some left out -/
inductive Sb : Hp → Hp → Prop
  | tl {Φ Δ} : List.Sublist Φ Δ → Sb Φ Δ
  | dl {a P r Δ Δ₁} : Del a P Δ Δ₁ → Sb r Δ₁ → Sb ((a, P) :: r) Δ
  | wk {a l l' X Δ Δ'} : Upd a (PFr l) (PFr l') Δ Δ' → (∀ p ∈ l', p ∈ l) → Sb X Δ' → Sb X Δ
theorem Sb.wkd {a l l' r Δ Δ' Δ₁} (u : Upd a (PFr l) (PFr l') Δ Δ') (h : ∀ p ∈ l', p ∈ l) (d : Del a (PFr l') Δ' Δ₁) (q : Sb r Δ₁) : Sb ((a, PFr l') :: r) Δ := .wk u h (.dl d q)
theorem PFr.less {l l' : List (Str × Value)} (h : ∀ p ∈ l', p ∈ l) {o : Obj} : PFr l o → PFr l' o := fun ⟨m, a, b⟩ => ⟨m, a, fun p hp => b p (h p hp)⟩
section
variable {c : Cx} {A : Around} {Δ Δ' : Hp} {E : Value → Hp → Prop} {env : Env}
theorem St.sb' {s : Shared} {X : Hp} (x : St c Δ s) (h : Sb X Δ) : St c X s ∧ ∀ p ∈ X, p.1 ∈ Δ.map (·.1) := by
  revert x
  induction h with
  | tl h => exact fun x => ⟨x.drop h, fun p hp => List.mem_map_of_mem (h.subset hp)⟩
  | @dl a P r Δ Δ₁ d h ih =>
    intro x
    obtain ⟨y, k⟩ := ih (x.drop d.sub)
    refine ⟨⟨x.keep, fun p hp => ?_, ?_, x.drawn, x.os, x.gens⟩, fun p hp => ?_⟩
    · cases hp with
      | head => exact x.own _ d.mem
      | tail _ hp => exact y.own p hp
    · rw [List.map_cons, List.nodup_cons]
      refine ⟨fun hm => ?_, y.nd⟩
      obtain ⟨q, hq, e⟩ := List.mem_map.mp hm
      obtain ⟨q', hq', e'⟩ := List.mem_map.mp (k q hq)
      exact d.ne x.nd q' hq' (e'.trans e)
    · cases hp with
      | head => exact List.mem_map_of_mem (f := (·.1)) d.mem
      | tail _ hp =>
        obtain ⟨q', hq', e'⟩ := List.mem_map.mp (k p hp)
        exact e' ▸ List.mem_map_of_mem (f := (·.1)) (d.sub.subset hq')
  | wk u hl h ih =>
    intro x
    obtain ⟨y, k⟩ := ih (x.weak u fun o => PFr.less hl)
    exact ⟨y, fun p hp => u.keys ▸ k p hp⟩
theorem St.sb {s : Shared} (x : St c Δ s) (h : Sb Δ' Δ) : St c Δ' s := (x.sb' h).1
theorem T.sb {α : Type} {t : Sem α} {Q : α → Hp → Prop} (h : Sb Δ' Δ) (q : T c A Δ' t Q E) : T c A Δ t Q E := q.pre fun _ x => x.sb h
theorem St.wt {s : Shared} {d : Addr} {kvs} (x : St c Δ s) (h : (d, PWt kvs) ∈ Δ) : ∃ a, s.heap.DictOf (intKind PG c.w) d a ∧ IV a kvs := by
  obtain ⟨o, e, a, ep, p, i⟩ := x.has h
  exact ⟨a, ((PDict.at (intKind PG c.w)).mpr ⟨o, e, p⟩).dictOf, i⟩
theorem isI {k : Int} {t : Tok} {c : Cx} : (intKind PG c.w).is k (.int k t) = true := show Value.isInt k (.int k t) = true by simp [Value.isInt]
theorem T.subW {value slice : Expr} {d : Addr} {kvs} {k v : Int} {t : Tok} {Q : Value → Hp → Prop} (hm : (d, PWt kvs) ∈ Δ) (hv : getI kvs k = some v) (h : ∀ t, Q (.int v t) Δ)
    (hs : subscripted slice false (.ref d) (.int k t) = operate [.ref d, .int k t] (getItem (.ref d) (.int k t)) := by with_unfolding_all rfl) : T c A Δ (subscriptTail value slice (.ref d) (.int k t)) Q E := fun s hs' => by
  obtain ⟨a, hd, i⟩ := hs'.wt hm
  obtain ⟨u, hu⟩ := i.get k v hv
  exact tail_any hd.typeIs slot_dict_getitem.lookup (wpAny_getItem_of isI hd.mapOf hu ⟨Δ, hs'.toks, h u⟩) hs
theorem T.getW {d : Addr} {kvs} {k v : Int} {t : Tok} {Q : Value → Hp → Prop} (hm : (d, PWt kvs) ∈ Δ) (hv : getI kvs k = some v) (h : ∀ t, Q (.int v t) Δ) : T c A Δ (getItem (.ref d) (.int k t)) Q E := fun s hs' => by
  obtain ⟨a, hd, i⟩ := hs'.wt hm
  obtain ⟨u, hu⟩ := i.get k v hv
  exact wpAny_getItem_of isI hd.mapOf hu ⟨Δ, hs'.toks, h u⟩
theorem T.setW {d : Addr} {kvs} {k v : Int} {t u : Tok} {Q : Unit → Hp → Prop} (hu : Upd d (PWt kvs) (PWt (setI kvs k v)) Δ Δ') (hz : kvs.length ≤ sizeLine) (h : Q () Δ') : T c A Δ (setItem (.ref d) (.int k t) (.int v u)) Q E := fun s hs => by
  obtain ⟨a, hd, i⟩ := hs.wt hu.mem
  refine wpAny_setItem_pairs isI hd (fun h' hd hs' => ?_) (by rw [i.length]; exact hz)
  obtain ⟨ep', o, e, p⟩ := ofDI PG hd
  exact ⟨_, hs.upd hu hs' ⟨o, e, _, ep', p, i.set k v u⟩, h⟩
theorem T.dsetW {d : Addr} {kvs} {k v : Int} {t u : Tok} {Q : Unit → Hp → Prop} (hu : Upd d (PWt kvs) (PWt (setI kvs k v)) Δ Δ') (hz : kvs.length ≤ sizeLine) (h : Q () Δ') : T c A Δ (dictSet d (.int k t) (.int v u)) Q E := fun s hs => by
  obtain ⟨a, hd, i⟩ := hs.wt hu.mem
  refine wpAny_dictSet_pairs isI hd (fun h' hd hs' => ?_) (by rw [i.length]; exact hz)
  obtain ⟨ep', o, e, p⟩ := ofDI PG hd
  exact ⟨_, hs.upd hu hs' ⟨o, e, _, ep', p, i.set k v u⟩, h⟩
/-! ## comprehensions over ints -/
theorem take_map_succ (p : Int → Bool) (f : Int → Int) {ns : List Int} {i : Nat} {n : Int} (h : ns[i]? = some n) : ((ns.take (i + 1)).filter p).map f = ((ns.take i).filter p).map f ++ (if p n then [f n] else []) := by
  rw [take_succ_filter p _ _ _ h, List.map_append]
  split <;> simp
theorem lk {C : Addr} {scope : Scope} {cl : List (Str × Addr)} {x : Str} (h : scope.names.lookup x = some .local) : (compEnvC scope cl C env).kindOf x = some .local := lookup_relabel_local h
theorem T.storeC {x : Str} {v : Value} {C : Addr} {scope : Scope} {cl : List (Str × Addr)} {fr : List (Str × Value)} {px : Pos} {Q : Unit → Hp → Prop} (hkind : scope.kind = .function) (hx : scope.names.lookup x = some .local) (hfr : fr = [] ∨ ∃ u, fr = [(x, u)])
    (h : Q () ((C, PFr [(x, v)]) :: Δ)) : T c A ((C, PFr fr) :: Δ) (assign (.Name x px) (compEnvC scope cl C env) v) Q E := by
  refine T.asName (T.storeLocal (L := C) rfl (l := fr) (l' := [(x, v)]) ?_ .head h hkind (lk hx))
  rcases hfr with rfl | ⟨u, rfl⟩
  · exact .nil
  · exact .hit rfl
/-- a list of ints, out of ints -/
theorem T.compI {x : Str} {px : Pos} {elt iter : Expr} {ifs : List Expr} {scope : Scope} {cl : List (Str × Addr)} {pos : Pos} {Q : Value → Hp → Prop} (p : Int → Bool) (f : Int → Int)
    (h : T c A Δ (eval iter env) (fun xv Δ₁ => T c A Δ₁ (pyIter xv) (fun itv Δ₂ => ∃ it S ns, itv = .ref it ∧ Δ₂ = (it, S 0) :: Δ₁ ∧ IW c A it S Δ₁ ns ∧ ns.length ≤ sizeLine ∧
      (∀ C D ys i n t, ns[i]? = some n → T c A ((C, PFr [(x, .int n t)]) :: (D, PInts ys) :: (it, S (i + 1)) :: Δ₁) (tests ifs (compEnvC scope cl C env)) (fun ok Δ' => ok = p n ∧ Δ' = (C, PFr [(x, .int n t)]) :: (D, PInts ys) :: (it, S (i + 1)) :: Δ₁) NoE ∧
        (p n = true → T c A ((C, PFr [(x, .int n t)]) :: (D, PInts ys) :: (it, S (i + 1)) :: Δ₁) (eval elt (compEnvC scope cl C env)) (fun y Δ' => (∃ t, y = .int (f n) t) ∧ Δ' = (C, PFr [(x, .int n t)]) :: (D, PInts ys) :: (it, S (i + 1)) :: Δ₁) NoE)) ∧
      ∀ D, Q (.ref D) ((D, PInts ((ns.filter p).map f)) :: Δ₁)) E) E)
    (hclos : closureFor scope env = pure cl) (hcell : ∀ y ∈ scope.names, y.2 ≠ .cell) (hkind : scope.kind = .function)
    (hnames : ∀ y ∈ scope.names, y.2 = .local → scope.names.lookup y.1 = some .local) (hx : scope.names.lookup x = some .local)
    (hs : ∀ x, foldedSetIterable iter env x = pure x := by intro _; k_dflt rfl) : T c A Δ (eval (.ListComp elt [⟨.Name x px, iter, ifs, 0⟩] scope pos) env) Q E := by
  refine T.listComp hclos hcell hkind hnames (h.mono (fun xv Δ₁ q => q.mono (fun itv Δ₂ => ?_) fun _ _ e => e) fun _ _ e => e) hs
  rintro ⟨it, S, ns, rfl, rfl, W, hz, el, q⟩
  refine ⟨⟨it, _, rfl, .head _, W.own⟩, fun D C => ?_⟩
  refine ⟨fun k Δ => ∃ i fr, k = ns.length + 1 - i ∧ i ≤ ns.length ∧ (fr = [] ∨ ∃ u, fr = [(x, u)]) ∧ Δ = (C, PFr fr) :: (D, PInts (((ns.take i).filter p).map f)) :: (it, S i) :: Δ₁, ns.length + 1, ⟨_, fun s y => y.weak (P' := PInts []) (.tail .head) (fun o ho => ho.ints .nil), 0, [], rfl, Nat.zero_le _, .inl rfl, rfl⟩, ?_⟩
  rintro k Δ ⟨i, fr, rfl, hi, hfr, rfl⟩
  cases e : ns[i]? with
  | none =>
    have hi' : i = ns.length := by have := List.getElem?_eq_none_iff.mp e; omega
    subst hi'
    refine W.done _ _ (fun p hp => .tail _ (.tail _ (.tail _ hp))) (.tail (.tail .head)) _ _ ?_
    dsimp only
    refine ⟨fr, _, .head, ?_⟩
    rw [List.take_length]; exact q D
  | some n =>
    have hi' : i < ns.length := (List.getElem?_eq_some_iff.mp e).1
    refine W.item i n e _ _ (fun p hp => .tail _ (.tail _ (.tail _ hp))) (.tail (.tail .head)) _ _ fun t => ?_
    dsimp only
    refine T.storeC hkind hx hfr ?_
    obtain ⟨h1, h2⟩ := el C D (((ns.take i).filter p).map f) i n t e
    refine h1.mono (fun ok Δ' ⟨e1, e2⟩ => ?_) fun _ _ e => e
    subst e1 e2
    cases hp : p n with
    | false =>
      rw [if_neg Bool.false_ne_true]
      refine ⟨ns.length + 1 - (i + 1), by omega, i + 1, [(x, .int n t)], rfl, hi', .inr ⟨_, rfl⟩, ?_⟩
      rw [take_map_succ p f e, hp]; simp
    | true =>
      rw [if_pos rfl]
      refine (h2 hp).mono (fun y Δ' => ?_) fun _ _ e => e
      rintro ⟨⟨t', rfl⟩, rfl⟩
      refine T.iapp (.tail .head) ?_ ?_
      · have h1 := List.length_filter_le p (ns.take i)
        have h2 : (ns.take i).length ≤ ns.length := by rw [List.length_take]; omega
        rw [List.length_map]; omega
      · refine ⟨ns.length + 1 - (i + 1), by omega, i + 1, [(x, .int n t)], rfl, hi', .inr ⟨_, rfl⟩, ?_⟩
        rw [take_map_succ p f e, hp]; simp
/-- a dict of ints, out of ints: the keys are the ints themselves -/
theorem T.compWU {first : Sem Value} {cpos : Pos} {x : Str} {px kp : Pos} {vx iter : Expr} {scope : Scope} {cl : List (Str × Addr)} {pos : Pos} {Q : Value → Hp → Prop} (f : Int → Int)
    (h : T c A Δ first (fun xv Δ₁ => T c A Δ₁ (pyIter xv) (fun itv Δ₂ => ∃ it S ns, itv = .ref it ∧ Δ₂ = (it, S 0) :: Δ₁ ∧ IW c A it S Δ₁ ns ∧ ns.length ≤ sizeLine ∧ ns.Nodup ∧
      (∀ C D ys i n t, ns[i]? = some n → T c A ((C, PFr [(x, .int n t)]) :: (D, PWt ys) :: (it, S (i + 1)) :: Δ₁) (eval vx (compEnvC scope cl C env)) (fun y Δ' => (∃ t, y = .int (f n) t) ∧ Δ' = (C, PFr [(x, .int n t)]) :: (D, PWt ys) :: (it, S (i + 1)) :: Δ₁) NoE) ∧
      ∀ D, Q (.ref D) ((D, PWt (ns.map fun n => (n, f n))) :: Δ₁)) E) E)
    (hclos : closureFor scope env = pure cl) (hcell : ∀ y ∈ scope.names, y.2 ≠ .cell) (hkind : scope.kind = .function)
    (hnames : ∀ y ∈ scope.names, y.2 = .local → scope.names.lookup y.1 = some .local) (hx : scope.names.lookup x = some .local) (hd1 : (x == ("__debug__" : Str)) = false)
    (hs : ∀ x, foldedSetIterable iter env x = pure x := by intro _; k_dflt rfl) : T c A Δ (comprehension (.DictComp (.Name x kp) vx [⟨.Name x px, iter, [], 0⟩] scope pos) scope env cpos PySem.newDict false first none) Q E := by
  refine T.dictCompU (use := none) hclos hcell hkind hnames (h.mono (fun xv Δ₁ q => q.mono (fun itv Δ₂ => ?_) fun _ _ e => e) fun _ _ e => e) hs
  rintro ⟨it, S, ns, rfl, rfl, W, hz, hnd, el, q⟩
  refine ⟨⟨it, _, rfl, .head _, W.own⟩, fun D C => ?_⟩
  refine ⟨fun k Δ => ∃ i fr, k = ns.length + 1 - i ∧ i ≤ ns.length ∧ (fr = [] ∨ ∃ u, fr = [(x, u)]) ∧ Δ = (C, PFr fr) :: (D, PWt ((ns.take i).map fun n => (n, f n))) :: (it, S i) :: Δ₁, ns.length + 1, ⟨_, fun s y => y.weak (P' := PWt []) (.tail .head) (fun o ho => PWt.nil ho), 0, [], rfl, Nat.zero_le _, .inl rfl, rfl⟩, ?_⟩
  rintro k Δ ⟨i, fr, rfl, hi, hfr, rfl⟩
  cases e : ns[i]? with
  | none =>
    have hi' : i = ns.length := by have := List.getElem?_eq_none_iff.mp e; omega
    subst hi'
    refine W.done _ _ (fun p hp => .tail _ (.tail _ (.tail _ hp))) (.tail (.tail .head)) _ _ ?_
    dsimp only
    refine ⟨fr, _, .head, ?_⟩
    rw [List.take_length]; exact q D
  | some n =>
    have hi' : i < ns.length := (List.getElem?_eq_some_iff.mp e).1
    refine W.item i n e _ _ (fun p hp => .tail _ (.tail _ (.tail _ hp))) (.tail (.tail .head)) _ _ fun t => ?_
    dsimp only
    refine T.storeC hkind hx hfr (T.testsNil ?_)
    rw [if_pos rfl]
    refine T.nameLocal (L := C) rfl (.head _) (.head _) ?_ hkind (lk hx) hd1
    refine (el C D _ i n t e).mono (fun y Δ' => ?_) fun _ _ e => e
    rintro ⟨⟨t', rfl⟩, rfl⟩
    have hsnoc : setI ((ns.take i).map fun n => (n, f n)) n (f n) = (ns.take (i + 1)).map fun n => (n, f n) := by
      have hno : ¬ ((ns.take i).map fun n => (n, f n)).any (fun kv => kv.1 = n) = true := by
        rw [List.any_eq_true]
        rintro ⟨kv, hm, hk⟩
        obtain ⟨m, hm', rfl⟩ := List.mem_map.mp hm
        have hk : m = n := of_decide_eq_true hk
        subst hk
        obtain ⟨j, hj, ej⟩ := List.getElem_of_mem hm'
        rw [List.getElem_take] at ej
        have hj' : j < i := by rw [List.length_take] at hj; omega
        have hjl : j < ns.length := by omega
        have ej' : ns[j]? = some m := List.getElem?_eq_some_iff.mpr ⟨hjl, ej⟩
        have := (List.getElem?_inj hjl hnd).mp (ej'.trans e.symm)
        omega
      rw [setI, if_neg hno, List.take_add_one, e, List.map_append]
      rfl
    refine T.dsetW (.tail .head) ?_ ?_
    · rw [List.length_map, List.length_take]; omega
    · exact ⟨ns.length + 1 - (i + 1), by omega, i + 1, [(x, .int n t)], rfl, hi', .inr ⟨_, rfl⟩, by rw [hsnoc]⟩
theorem T.compW {x : Str} {px kp : Pos} {vx iter : Expr} {scope : Scope} {cl : List (Str × Addr)} {pos : Pos} {Q : Value → Hp → Prop} (f : Int → Int)
    (h : T c A Δ (eval iter env) (fun xv Δ₁ => T c A Δ₁ (pyIter xv) (fun itv Δ₂ => ∃ it S ns, itv = .ref it ∧ Δ₂ = (it, S 0) :: Δ₁ ∧ IW c A it S Δ₁ ns ∧ ns.length ≤ sizeLine ∧ ns.Nodup ∧
      (∀ C D ys i n t, ns[i]? = some n → T c A ((C, PFr [(x, .int n t)]) :: (D, PWt ys) :: (it, S (i + 1)) :: Δ₁) (eval vx (compEnvC scope cl C env)) (fun y Δ' => (∃ t, y = .int (f n) t) ∧ Δ' = (C, PFr [(x, .int n t)]) :: (D, PWt ys) :: (it, S (i + 1)) :: Δ₁) NoE) ∧
      ∀ D, Q (.ref D) ((D, PWt (ns.map fun n => (n, f n))) :: Δ₁)) E) E)
    (hclos : closureFor scope env = pure cl) (hcell : ∀ y ∈ scope.names, y.2 ≠ .cell) (hkind : scope.kind = .function)
    (hnames : ∀ y ∈ scope.names, y.2 = .local → scope.names.lookup y.1 = some .local) (hx : scope.names.lookup x = some .local) (hd1 : (x == ("__debug__" : Str)) = false)
    (hs : ∀ x, foldedSetIterable iter env x = pure x := by intro _; k_dflt rfl) : T c A Δ (eval (.DictComp (.Name x kp) vx [⟨.Name x px, iter, [], 0⟩] scope pos) env) Q E := by
  rw [arm_eval_DictComp]
  exact T.compWU f h hclos hcell hkind hnames hx hd1 hs
/-- a list of ints, out of ints -/
theorem T.asgCompI {x y : Str} {py spos : Pos} {px : Pos} {elt iter : Expr} {ifs : List Expr} {scope : Scope} {cl : List (Str × Addr)} {pos : Pos} {Q : Flow → Hp → Prop} (p : Int → Bool) (f : Int → Int)
    (h : T c A Δ (eval iter env) (fun xv Δ₁ => T c A Δ₁ (pyIter xv) (fun itv Δ₂ => ∃ it S ns, itv = .ref it ∧ Δ₂ = (it, S 0) :: Δ₁ ∧ IW c A it S Δ₁ ns ∧ ns.length ≤ sizeLine ∧
      (∀ C D ys i n t, ns[i]? = some n → T c A ((C, PFr [(x, .int n t)]) :: (D, PInts ys) :: (it, S (i + 1)) :: Δ₁) (tests ifs (compEnvC scope cl C env)) (fun ok Δ' => ok = p n ∧ Δ' = (C, PFr [(x, .int n t)]) :: (D, PInts ys) :: (it, S (i + 1)) :: Δ₁) NoE ∧
        (p n = true → T c A ((C, PFr [(x, .int n t)]) :: (D, PInts ys) :: (it, S (i + 1)) :: Δ₁) (eval elt (compEnvC scope cl C env)) (fun y Δ' => (∃ t, y = .int (f n) t) ∧ Δ' = (C, PFr [(x, .int n t)]) :: (D, PInts ys) :: (it, S (i + 1)) :: Δ₁) NoE)) ∧
      ∀ D C fr, T c A ((C, PFr fr) :: (D, PInts ((ns.filter p).map f)) :: Δ₁) (storeName env y (.ref D)) (fun _ Δ₄ => ∃ l Δ₅, Del C (PFr l) Δ₄ Δ₅ ∧ Q .next Δ₅) E) E) E)
    (hclos : closureFor scope env = pure cl) (hcell : ∀ y ∈ scope.names, y.2 ≠ .cell) (hkind : scope.kind = .function)
    (hnames : ∀ y ∈ scope.names, y.2 = .local → scope.names.lookup y.1 = some .local) (hx : scope.names.lookup x = some .local)
    (hs : ∀ x, foldedSetIterable iter env x = pure x := by intro _; k_dflt rfl) (hsw : swapsWith (.ListComp elt [⟨.Name x px, iter, ifs, 0⟩] scope pos) (some (.Name y py)) spos.line env = pure true := by k_dflt rfl) : T c A Δ (exec (.Assign [.Name y py] (.ListComp elt [⟨.Name x px, iter, ifs, 0⟩] scope pos) spos) env) Q E := by
  refine T.asgListComp hclos hcell hkind hnames (h.mono (fun xv Δ₁ q => q.mono (fun itv Δ₂ => ?_) fun _ _ e => e) fun _ _ e => e) hs (hsw := hsw)
  rintro ⟨it, S, ns, rfl, rfl, W, hz, el, q⟩
  refine ⟨⟨it, _, rfl, .head _, W.own⟩, fun D C => ?_⟩
  refine ⟨fun k Δ => ∃ i fr, k = ns.length + 1 - i ∧ i ≤ ns.length ∧ (fr = [] ∨ ∃ u, fr = [(x, u)]) ∧ Δ = (C, PFr fr) :: (D, PInts (((ns.take i).filter p).map f)) :: (it, S i) :: Δ₁, ns.length + 1, ⟨_, fun s y => y.weak (P' := PInts []) (.tail .head) (fun o ho => ho.ints .nil), 0, [], rfl, Nat.zero_le _, .inl rfl, rfl⟩, ?_⟩
  rintro k Δ ⟨i, fr, rfl, hi, hfr, rfl⟩
  cases e : ns[i]? with
  | none =>
    have hi' : i = ns.length := by have := List.getElem?_eq_none_iff.mp e; omega
    subst hi'
    refine W.done _ _ (fun p hp => .tail _ (.tail _ (.tail _ hp))) (.tail (.tail .head)) _ _ ?_
    dsimp only
    rw [List.take_length]; exact q D C fr
  | some n =>
    have hi' : i < ns.length := (List.getElem?_eq_some_iff.mp e).1
    refine W.item i n e _ _ (fun p hp => .tail _ (.tail _ (.tail _ hp))) (.tail (.tail .head)) _ _ fun t => ?_
    dsimp only
    refine T.storeC hkind hx hfr ?_
    obtain ⟨h1, h2⟩ := el C D (((ns.take i).filter p).map f) i n t e
    refine h1.mono (fun ok Δ' ⟨e1, e2⟩ => ?_) fun _ _ e => e
    subst e1 e2
    cases hp : p n with
    | false =>
      rw [if_neg Bool.false_ne_true]
      refine ⟨ns.length + 1 - (i + 1), by omega, i + 1, [(x, .int n t)], rfl, hi', .inr ⟨_, rfl⟩, ?_⟩
      rw [take_map_succ p f e, hp]; simp
    | true =>
      rw [if_pos rfl]
      refine (h2 hp).mono (fun y Δ' => ?_) fun _ _ e => e
      rintro ⟨⟨t', rfl⟩, rfl⟩
      refine T.iapp (.tail .head) ?_ ?_
      · have h1 := List.length_filter_le p (ns.take i)
        have h2 : (ns.take i).length ≤ ns.length := by rw [List.length_take]; omega
        rw [List.length_map]; omega
      · refine ⟨ns.length + 1 - (i + 1), by omega, i + 1, [(x, .int n t)], rfl, hi', .inr ⟨_, rfl⟩, ?_⟩
        rw [take_map_succ p f e, hp]; simp
/-- a dict of ints, out of ints: the keys are the ints themselves -/
theorem T.asgCompW {x y : Str} {py spos : Pos} {px kp : Pos} {vx iter : Expr} {scope : Scope} {cl : List (Str × Addr)} {pos : Pos} {Q : Flow → Hp → Prop} (f : Int → Int)
    (h : T c A Δ (eval iter env) (fun xv Δ₁ => T c A Δ₁ (pyIter xv) (fun itv Δ₂ => ∃ it S ns, itv = .ref it ∧ Δ₂ = (it, S 0) :: Δ₁ ∧ IW c A it S Δ₁ ns ∧ ns.length ≤ sizeLine ∧ ns.Nodup ∧
      (∀ C D ys i n t, ns[i]? = some n → T c A ((C, PFr [(x, .int n t)]) :: (D, PWt ys) :: (it, S (i + 1)) :: Δ₁) (eval vx (compEnvC scope cl C env)) (fun y Δ' => (∃ t, y = .int (f n) t) ∧ Δ' = (C, PFr [(x, .int n t)]) :: (D, PWt ys) :: (it, S (i + 1)) :: Δ₁) NoE) ∧
      ∀ D C fr, T c A ((C, PFr fr) :: (D, PWt (ns.map fun n => (n, f n))) :: Δ₁) (storeName env y (.ref D)) (fun _ Δ₄ => ∃ l Δ₅, Del C (PFr l) Δ₄ Δ₅ ∧ Q .next Δ₅) E) E) E)
    (hclos : closureFor scope env = pure cl) (hcell : ∀ y ∈ scope.names, y.2 ≠ .cell) (hkind : scope.kind = .function)
    (hnames : ∀ y ∈ scope.names, y.2 = .local → scope.names.lookup y.1 = some .local) (hx : scope.names.lookup x = some .local) (hd1 : (x == ("__debug__" : Str)) = false)
    (hs : ∀ x, foldedSetIterable iter env x = pure x := by intro _; k_dflt rfl) (hsw : swapsWith (.DictComp (.Name x kp) vx [⟨.Name x px, iter, [], 0⟩] scope pos) (some (.Name y py)) spos.line env = pure true := by k_dflt rfl) : T c A Δ (exec (.Assign [.Name y py] (.DictComp (.Name x kp) vx [⟨.Name x px, iter, [], 0⟩] scope pos) spos) env) Q E := by
  refine T.asgDictComp hclos hcell hkind hnames (h.mono (fun xv Δ₁ q => q.mono (fun itv Δ₂ => ?_) fun _ _ e => e) fun _ _ e => e) hs (hsw := hsw)
  rintro ⟨it, S, ns, rfl, rfl, W, hz, hnd, el, q⟩
  refine ⟨⟨it, _, rfl, .head _, W.own⟩, fun D C => ?_⟩
  refine ⟨fun k Δ => ∃ i fr, k = ns.length + 1 - i ∧ i ≤ ns.length ∧ (fr = [] ∨ ∃ u, fr = [(x, u)]) ∧ Δ = (C, PFr fr) :: (D, PWt ((ns.take i).map fun n => (n, f n))) :: (it, S i) :: Δ₁, ns.length + 1, ⟨_, fun s y => y.weak (P' := PWt []) (.tail .head) (fun o ho => PWt.nil ho), 0, [], rfl, Nat.zero_le _, .inl rfl, rfl⟩, ?_⟩
  rintro k Δ ⟨i, fr, rfl, hi, hfr, rfl⟩
  cases e : ns[i]? with
  | none =>
    have hi' : i = ns.length := by have := List.getElem?_eq_none_iff.mp e; omega
    subst hi'
    refine W.done _ _ (fun p hp => .tail _ (.tail _ (.tail _ hp))) (.tail (.tail .head)) _ _ ?_
    dsimp only
    rw [List.take_length]; exact q D C fr
  | some n =>
    have hi' : i < ns.length := (List.getElem?_eq_some_iff.mp e).1
    refine W.item i n e _ _ (fun p hp => .tail _ (.tail _ (.tail _ hp))) (.tail (.tail .head)) _ _ fun t => ?_
    dsimp only
    refine T.storeC hkind hx hfr (T.testsNil ?_)
    rw [if_pos rfl]
    refine T.nameLocal (L := C) rfl (.head _) (.head _) ?_ hkind (lk hx) hd1
    refine (el C D _ i n t e).mono (fun y Δ' => ?_) fun _ _ e => e
    rintro ⟨⟨t', rfl⟩, rfl⟩
    have hsnoc : setI ((ns.take i).map fun n => (n, f n)) n (f n) = (ns.take (i + 1)).map fun n => (n, f n) := by
      have hno : ¬ ((ns.take i).map fun n => (n, f n)).any (fun kv => kv.1 = n) = true := by
        rw [List.any_eq_true]
        rintro ⟨kv, hm, hk⟩
        obtain ⟨m, hm', rfl⟩ := List.mem_map.mp hm
        have hk : m = n := of_decide_eq_true hk
        subst hk
        obtain ⟨j, hj, ej⟩ := List.getElem_of_mem hm'
        rw [List.getElem_take] at ej
        have hj' : j < i := by rw [List.length_take] at hj; omega
        have hjl : j < ns.length := by omega
        have ej' : ns[j]? = some m := List.getElem?_eq_some_iff.mpr ⟨hjl, ej⟩
        have := (List.getElem?_inj hjl hnd).mp (ej'.trans e.symm)
        omega
      rw [setI, if_neg hno, List.take_add_one, e, List.map_append]
      rfl
    refine T.dsetW (.tail .head) ?_ ?_
    · rw [List.length_map, List.length_take]; omega
    · exact ⟨ns.length + 1 - (i + 1), by omega, i + 1, [(x, .int n t)], rfl, hi', .inr ⟨_, rfl⟩, by rw [hsnoc]⟩
end
end Mine
end
/-! Tl9 -/
section
open PySem PySem.W PyProof.Rows PySem.Calls
set_option maxRecDepth 100000
namespace Mine
/-- a table of codes -/
def PTab : Pr := fun o => ∃ ps : Array Value, o = tabObj ps ∧ TriplesOk ps.toList
theorem St.tab {c : Cx} {Δ : Hp} {s : Shared} {P : Addr} (x : St c Δ s) (h : (P, PTab) ∈ Δ) : ∃ ps : Array Value, s.heap.get? P = some (tabObj ps) ∧ TriplesOk ps.toList := by
  obtain ⟨o, e, ps, rfl, t⟩ := x.has h
  exact ⟨ps, e, t⟩
theorem same_of_nodup : ∀ {Δ : Hp} {a : Addr} {P P' : Pr}, (Δ.map (·.1)).Nodup → (a, P) ∈ Δ → (a, P') ∈ Δ → P = P'
  | x :: Δ, a, P, P', nd, h1, h2 => by
    rw [List.map_cons, List.nodup_cons] at nd
    cases h1 with
    | head =>
      cases h2 with
      | head => rfl
      | tail _ h2 => exact absurd (List.mem_map_of_mem (f := (·.1)) h2) nd.1
    | tail _ h1 =>
      cases h2 with
      | head => exact absurd (List.mem_map_of_mem (f := (·.1)) h1) nd.1
      | tail _ h2 => exact same_of_nodup nd.2 h1 h2
/-- the table may have grown; all else is as it was -/
theorem St.grew {c : Cx} {Δ : Hp} {s s' : Shared} {P : Addr} (x : St c Δ s) (h : (P, PTab) ∈ Δ) (hk : ∀ b o, b ≠ P → s.heap.get? b = some o → s'.heap.get? b = some o) (hP : ∃ ps : Array Value, s'.heap.get? P = some (tabObj ps) ∧ TriplesOk ps.toList)
    (hd : s'.drawn = s.drawn) (ho : s'.os = s.os) (hg : AllBare s'.gens) : St c Δ s' := by
  have hn := x.new h
  refine ⟨fun b o e => hk _ _ (fun q => ?_) (x.keep _ _ e), fun p hp => ⟨?_, (x.own p hp).2⟩, x.nd, hd.trans x.drawn, ho.trans x.os, hg⟩
  · rw [q, hn] at e; cases e
  · obtain ⟨o, e, q⟩ := (x.own p hp).1
    by_cases hb : p.1 = P
    · obtain ⟨a, Pa⟩ := p
      dsimp only at hb
      subst hb
      cases same_of_nodup x.nd hp h
      obtain ⟨ps, e1, e2⟩ := hP
      exact ⟨_, e1, ps, rfl, e2⟩
    · exact ⟨o, hk _ _ hb e, q⟩
section
variable {c : Cx} {A : Around} {Δ Δ' : Hp} {E : Value → Hp → Prop} {env : Env}
/-- min over the values of a dict at the items of a list -/
theorem T.minGen {x dn : Str} {px p1 p2 p3 gpos pos : Pos} {iter : Expr} {scope : Scope} {cl : List (Str × Addr)} {cd P dc d l : Addr} {ns : List Int} {kvs : List (Int × Int)} {f : Int → Int} {Q : Value → Hp → Prop}
    (hh : A.handled = none) (hroom : A.depth < recursionLimit) (hcode : env.code = .ref cd) (hC : codeHdIn (kopf.heap_39 c.w.params) cd P = true) (hg : env.globals = mainGlobals) (hb : env.builtins = builtinsNs)
    (hP : (P, PTab) ∈ Δ) (hdc : (dc, PCell (some (.ref d))) ∈ Δ) (hd : (d, PWt kvs) ∈ Δ) (hl : (l, PInts ns) ∈ Δ) (hz : ns.length ≤ sizeLine) (hne : ns ≠ []) (hf : ∀ n ∈ ns, getI kvs n = some (f n))
    (hit : T c A Δ (eval iter env) (fun v Δ' => v = .ref l ∧ Δ' = Δ) NoE)
    (h : ∀ m t, m ∈ ns.map f → (∀ k ∈ ns.map f, m ≤ k) → Q (.int m t) Δ)
    (hclos : closureFor scope env = pure cl) (hcl : cl.lookup dn = some dc)
    (hco : scope.isCoroutine = false) (hcell : ∀ y ∈ scope.names, y.2 ≠ .cell) (h0 : scope.names.lookup (".0" : Str) = some NameKind.local)
    (hx : scope.names.lookup x = some .local) (hdn : scope.names.lookup dn = some .free) (hkind : scope.kind = .function)
    (hx1 : (x == ("__debug__" : Str)) = false) (hd1 : (dn == ("__debug__" : Str)) = false) (hd2 : (dn == ("__classdict__" : Str)) = false)
    (hs : ∀ x, genFold iter env x = pure x := by intro _; k_dflt rfl)
    (hsub : ∀ k t, subscripted (.Name x p2) false (.ref d) (.int k t) = operate [.ref d, .int k t] (getItem (.ref d) (.int k t)) := by intro _ _; with_unfolding_all rfl) :
    T c A Δ (callWith pos (.builtin "min") [] [(false, eval (.GeneratorExp (.Subscript (.Name dn p1) (.Name x p2) p3) [⟨.Name x px, iter, [], 0⟩] scope gpos) env)] []) Q E := fun s st => by
  refine callWith_builtin1 ?_
  refine wpAny_GeneratorExp_walksQ hh hco hclos hcell h0 hx hkind hroom (wpAny_mono (hit s st) (fun xv s₁ ⟨Δ₁, st₁, e1, e2⟩ => ?_) fun _ _ ⟨_, _, x⟩ => x.elim) hs
  subst e1 e2
  obtain ⟨vs, kl, el, hi⟩ := st₁.ints hl
  have hll := hi.length
  obtain ⟨av, hdd, iv⟩ := st₁.wt hd
  obtain ⟨od, hod, hdr⟩ := Heap.dictOf_iff.mp hdd
  have hdc' := st₁.cell hdc
  have llt : l < s₁.heap.objs.size := Heap.lt_size el
  refine wpAny_pyIter_list el.isList ⟨(st₁.pushG _ (n := s₁.toks)).nolimit, ?_⟩
  generalize hH2 : s₁.heap.push { cls := .type "list_iterator", data := .fields #[.ref l, .int 0 0] } = H2
  have old2 : ∀ b o, s₁.heap.get? b = some o → H2.get? b = some o := fun b o e => hH2 ▸ Heap.get?_push_of_some _ e
  have S2 : St c Δ₁ { s₁ with heap := H2 } := st₁.grow (n := s₁.toks) old2
  have hitn : H2.IsListIter s₁.heap.objs.size l 0 := hH2 ▸ ⟨_, Heap.get?_push_size _ rfl, rfl, rfl⟩
  have hsz2 : H2.objs.size = s₁.heap.objs.size + 1 := by rw [← hH2, Heap.size_push]
  obtain ⟨ps, hps, htr⟩ := S2.tab hP
  have CH : CodeHd H2 cd P := codeHd_of_K S2.kin hC
  -- what follows the code
  have rest : ∀ (code : Value) (h₃ : Heap) (tk : Nat), (∀ b o, b ≠ P → H2.get? b = some o → h₃.get? b = some o) → H2.objs.size ≤ h₃.objs.size → (∃ ps : Array Value, h₃.get? P = some (tabObj ps) ∧ TriplesOk ps.toList) →
      wpAny (model PG c.w) A (builtinsFor env.globals env.builtins) (fun bi s₄ =>
        ∃ I fp wr n₀ Pi St₀ pz F, Value.ref s₁.heap.objs.size = .ref I ∧ (∀ A' : Around, A'.handled = none → Walks PG c.w A' I fp wr n₀ Pi St₀) ∧ St₀ 0 s₄.heap ∧ (∀ b ∈ fp, b < s₄.heap.objs.size) ∧ s₄.heap.NoLimit ∧ cStatics ∉ wr ∧
          (∀ href : Heap, (∀ b o, s₄.heap.get? b = some o → href.get? b = some o) →
            QuietGen PG c.w (genEnv scope cl s₄.heap.objs.size code bi env) x [] (.Subscript (.Name dn p1) (.Name x p2) p3) (List.range s₄.heap.objs.size) wr Pi pz F href) ∧
          (∀ a h₅ tk gs, gs.bare = true → s₄.heap.objs.size < a → h₅.objs.size = a + 1 → (∀ b o, s₄.heap.get? b = some o → h₅.get? b = some o) →
            WalksS PG c.w A.in4 a (a :: s₄.heap.objs.size :: List.range s₄.heap.objs.size) (s₄.heap.objs.size :: wr) (GenOnlyQ s₄.gens.size) (passing pz n₀ 0).length
              (fun j y => ∃ i, (passing pz n₀ 0)[j]? = some i ∧ F i y) (GenAt PG c.w A.in4 a s₄.gens.size s₄.heap.objs.size (List.range s₄.heap.objs.size) wr pz n₀ F) →
            GenAt PG c.w A.in4 a s₄.gens.size s₄.heap.objs.size (List.range s₄.heap.objs.size) wr pz n₀ F 0 { s₄ with gens := s₄.gens.push gs, toks := tk, heap := h₅ } →
            wpAny (model PG c.w) A (call (.builtin "min") [.ref a]) (Lf c Q) (Lf c E) { s₄ with gens := s₄.gens.push gs, toks := tk, heap := h₅ })) (Lf c E) { s₁ with heap := h₃, toks := tk } := by
    intro code h₃ tk hk3 hsz3 hP3
    have S3 : St c Δ₁ { s₁ with heap := h₃, toks := tk } := S2.grew hP hk3 hP3 rfl rfl st₁.gens
    obtain ⟨bm, ob, b1, b2, b3, b4, b5, b6⟩ := c.top.bmain
    refine wpAny_builtinsFor (hg ▸ c.top.g.keeps S3.keep) b1 b2 (S3.keep _ _ b3) b4 b5 b6 ?_
    have neP : ∀ {b : Addr} {o : Obj}, H2.get? b = some o → o.cls ≠ .none → b ≠ P := fun e hc q => by
      rw [q, hps] at e; cases e; exact hc rfl
    have e3l : h₃.get? l = some _ := hk3 _ _ (neP (old2 _ _ el) (by nofun)) (old2 _ _ el)
    have e3i : h₃.IsListIter s₁.heap.objs.size l 0 := by
      obtain ⟨oi, ei, ci, di⟩ := hitn
      exact ⟨oi, hk3 _ _ (neP ei (by rw [ci]; nofun)) ei, ci, di⟩
    refine ⟨s₁.heap.objs.size, [s₁.heap.objs.size, l], [s₁.heap.objs.size], vs.toArray.size, _, _, fun _ => true, fun i y => ∃ t, y = .int (f (ns.getD i 0)) t, rfl,
      (fun A' hA => Walks.list hA _ _ (Nat.ne_of_lt llt) vs.toArray), ⟨e3i, IsL.isList e3l⟩, ?_, S3.nolimit, ?_, ?_, ?_⟩
    · intro b hb
      have := Nat.lt_of_lt_of_le (by rw [hsz2]; omega : s₁.heap.objs.size < H2.objs.size) hsz3
      show b < h₃.objs.size
      rcases List.mem_cons.mp hb with rfl | hb
      · exact this
      · rcases List.mem_cons.mp hb with rfl | hb
        · exact Nat.lt_trans llt this
        · cases hb
    · intro hm
      have e := List.mem_singleton.mp hm
      obtain ⟨mc, ⟨o, es, ep, e', _⟩, _⟩ := c.top.nolimit
      have := Heap.lt_size (st₁.keep _ _ e')
      rw [e] at this
      exact Nat.lt_irrefl _ this
    · intro href hhref
      have hdold : ∀ o, s₁.heap.get? d = some o → o.cls ≠ .none → href.get? d = some o ∧ d ∈ List.range h₃.objs.size ∧ d ∉ [s₁.heap.objs.size] := fun o e hc => by
        have e3 := hk3 _ _ (neP (old2 _ _ e) hc) (old2 _ _ e)
        exact ⟨hhref _ _ e3, List.mem_range.mpr (Heap.lt_size e3), fun hm => absurd (Heap.lt_size e) (by rw [List.mem_singleton.mp hm]; exact Nat.lt_irrefl _)⟩
      refine ⟨fun A' E' i v s₂ m₂ hA' hv hn hm hkk => wpAny_tests_nil ⟨rfl, s₂.heap, s₂.toks, rfl, fun _ _ e => e⟩, fun A' E' i v s₂ m₂ hA' hv _ hn hm hkk => ?_⟩
      have hv' : vs[i]? = some v := by simpa using hv
      obtain ⟨n, t, rfl, hni⟩ := IntsAre.at hi i v hv'
      have hmem : n ∈ ns := List.mem_of_getElem? hni
      obtain ⟨u, hu⟩ := iv.get n (f n) (hf n hmem)
      have hcls : od.cls ≠ .none := by
        obtain ⟨_, _, ⟨h1, _⟩, _⟩ := hdr
        rw [h1]; nofun
      have ed : s₂.heap.get? d = some od := let ⟨q1, q2, q3⟩ := hdold od hod hcls; hkk d q2 q3 od q1
      have hdd2 : s₂.heap.DictOf (intKind PG c.w) d av := Heap.dictOf_iff.mpr ⟨od, ed, hdr⟩
      obtain ⟨oc, eoc, doc⟩ := hdc'
      have ecell : s₂.heap.IsCell dc (some (.ref d)) := by
        have hne : dc ≠ P := fun q => by rw [q] at eoc; have := old2 _ _ eoc; rw [hps] at this; cases this; cases doc
        have e3 := hk3 _ _ hne (old2 _ _ eoc)
        exact ⟨oc, hkk dc (List.mem_range.mpr (Heap.lt_size e3)) (fun hm => absurd (Heap.lt_size eoc) (by rw [List.mem_singleton.mp hm]; exact Nat.lt_irrefl _)) oc (hhref _ _ e3), doc⟩
      refine Subscript_ (wpAny_Name (wpAny_loadName_free (env := genEnv scope cl h₃.objs.size code builtinsNs env) (c := dc) hkind (show Env.kindOf (genEnv scope cl h₃.objs.size code builtinsNs env) dn = some .free from hdn) hcl ecell ?_ hd2) hd1)
      refine wpAny_Name (wpAny_loadName_local (env := genEnv scope cl h₃.objs.size code builtinsNs env) hkind (show Env.kindOf (genEnv scope cl h₃.objs.size code builtinsNs env) x = some .local from hx) hn hm ?_) hx1
      refine tail_any hdd2.typeIs slot_dict_getitem.lookup (wpAny_getItem_of isI hdd2.mapOf hu ?_) (hsub n t)
      refine ⟨⟨u, ?_⟩, s₂.heap, _, rfl, fun _ _ e => e⟩
      rw [List.getD_eq_getElem?_getD, hni]; rfl
    · intro a h₅ tk' gs hbare ha hsz5 hk5 W hat
      have hlen : (passing (fun _ => true) vs.toArray.size 0) = List.range ns.length := by
        unfold passing
        rw [List.drop_zero, List.filter_eq_self.mpr (fun _ _ => rfl)]
        simp [hll]
      rw [hlen] at W
      have W1 := W.in4_1
      have hpos : 0 < ns.length := List.length_pos_iff.mpr hne
      refine call_min_walkS (W1.self 0 _ _ _ hat ⟨a, _, _, _, _, _, _, _, rfl, W1, hat, ?_, (by rw [List.length_range]; exact hpos), CmpOf.ints_lt (fun i => f (ns.getD i 0)) (fun i v hv => ?_), fun v s' hv hm => ?_⟩)
      · intro b hb
        show b < h₅.objs.size
        have ha : h₃.objs.size < a := ha
        rw [hsz5]
        rcases List.mem_cons.mp hb with rfl | hb
        · exact Nat.lt_succ_self _
        · rcases List.mem_cons.mp hb with rfl | hb
          · exact Nat.lt_succ_of_lt ha
          · exact Nat.lt_succ_of_lt (Nat.lt_trans (List.mem_range.mp hb) ha)
      · obtain ⟨j, hj, t, rfl⟩ := hv
        have : j = i := by
          obtain ⟨h1, h2⟩ := List.getElem?_eq_some_iff.mp hj
          simpa using h2.symm
        subst this
        exact ⟨t, rfl⟩
      · obtain ⟨j, hj, t, rfl⟩ := hv
        have hbest := argBest_lt (fun i => f (ns.getD i 0)) ((List.range ns.length).length - 1)
        have ej : j = argBest (fun i j => decide (f (ns.getD i 0) < f (ns.getD j 0))) ((List.range ns.length).length - 1) := by
          obtain ⟨h1, h2⟩ := List.getElem?_eq_some_iff.mp hj
          simpa using h2.symm
        rw [← ej, List.length_range] at hbest
        have hjl : j < ns.length := by omega
        refine ⟨Δ₁, ?_, h _ t ?_ ?_⟩
        · have hb4 : ∀ b o, b ≠ P → s₁.heap.get? b = some o → s'.heap.get? b = some o := fun b o hb e => by
            have e3 := hk3 _ _ hb (old2 _ _ e)
            refine hm.heap b o (fun hmem => ?_) (hk5 _ _ e3)
            rcases List.mem_cons.mp hmem with q | hmem
            · exact absurd (Heap.lt_size e3) (by rw [q]; exact Nat.lt_irrefl _)
            · exact absurd (Heap.lt_size e) (by rw [List.mem_singleton.mp hmem]; exact Nat.lt_irrefl _)
          obtain ⟨ps3, e3, t3⟩ := hP3
          refine st₁.grew hP hb4 ⟨ps3, ?_, t3⟩ hm.drawn hm.os ?_
          · refine hm.heap _ _ (fun hmem => ?_) (hk5 _ _ e3)
            rcases List.mem_cons.mp hmem with q | hmem
            · exact absurd (Heap.lt_size e3) (by rw [q]; exact Nat.lt_irrefl _)
            · obtain ⟨ps1, e1, _⟩ := st₁.tab hP
              exact absurd (Heap.lt_size e1) (by rw [List.mem_singleton.mp hmem]; exact Nat.lt_irrefl _)
          · exact AllBare.movedS (st₁.gens.push hbare) hm
        · rw [List.getD_eq_getElem?_getD, List.getElem?_eq_getElem hjl]
          exact List.mem_map_of_mem (List.getElem_mem hjl)
        · intro k hk
          obtain ⟨n, hn, rfl⟩ := List.mem_map.mp hk
          obtain ⟨i, hi', rfl⟩ := List.getElem_of_mem hn
          have := hbest.2 i (by omega)
          simpa [List.getD_eq_getElem?_getD, hi', hjl] using this
  cases hnf : codeAmong gpos ps.toList with
  | some c' =>
    unfold genexprCode
    exact wpAny_codeAt_hit hcode (CH.code hps htr) hnf (rest c' H2 _ (fun _ _ _ e => e) (Nat.le_refl _) ⟨ps, hps, htr⟩)
  | none =>
    refine wpAny_genexprCodeX hcode (CH.code hps htr) (CH.tab hps) hnf fun c' h₃ tk hx3 hge hlt _ _ htab _ => ?_
    refine rest _ h₃ tk (fun b o hb e => hx3 b o hb e) (Nat.le_trans hge (Nat.le_of_lt hlt)) ⟨_, htab.2, ?_⟩
    have := TriplesOk_snoc gpos.line gpos.col (.ref c') ps.toList htr
    simpa using this
end
end Mine
end
/-! TlA -/
section
open PySem PySem.W PyProof.Rows PySem.Calls
set_option maxRecDepth 100000
namespace Mine
section
variable {c : Cx} {A : Around} {Δ Δ' : Hp} {E : Value → Hp → Prop} {env : Env}
theorem T.spN {pos : Pos} {Q : List Value → Hp → Prop} (h : Q [] Δ) : T c A Δ (spliced (backTo pos (starEach [] env))) Q E := T.pur h
theorem T.spC {pos : Pos} {e : Expr} {r : List Expr} {Q : List Value → Hp → Prop} (h : T c A Δ (eval e env) (fun v Δ₁ => T c A Δ₁ (spliced (backTo pos (starEach r env))) (fun vs Δ₂ => Q (v :: vs) Δ₂) E) E)
    (he : starEach (e :: r) env = (false, eval e env) :: starEach r env := by k_dflt rfl) : T c A Δ (spliced (backTo pos (starEach (e :: r) env))) Q E := by
  rw [he]; exact T.splCons h
theorem T.eaN {f : Value} {pos pos' : Pos} {Q : Args → Hp → Prop} (h : Q {} Δ) : T c A Δ (evalArgs f true (backTo pos (starEach [] env)) (backToKw pos' (keywordEach [] env))) Q E := T.eArgsNil h
theorem T.eaN' {f : Value} {pos : Pos} {Q : Args → Hp → Prop} (h : Q {} Δ) : T c A Δ (evalArgs f true (backTo pos (starEach [] env)) []) Q E := T.eArgsNil h
theorem T.eaC {f : Value} {pos pos' : Pos} {e : Expr} {r : List Expr} {Q : Args → Hp → Prop} (h : T c A Δ (spliced (backTo pos (starEach (e :: r) env))) (fun vs Δ₁ => Q ⟨vs, []⟩ Δ₁) E)
    (he : starEach (e :: r) env = (false, eval e env) :: starEach r env := by k_dflt rfl) : T c A Δ (evalArgs f true (backTo pos (starEach (e :: r) env)) (backToKw pos' (keywordEach [] env))) Q E := by
  rw [he] at h ⊢; exact T.eArgs h
theorem T.eaC' {f : Value} {pos : Pos} {e : Expr} {r : List Expr} {Q : Args → Hp → Prop} (h : T c A Δ (spliced (backTo pos (starEach (e :: r) env))) (fun vs Δ₁ => Q ⟨vs, []⟩ Δ₁) E)
    (he : starEach (e :: r) env = (false, eval e env) :: starEach r env := by k_dflt rfl) : T c A Δ (evalArgs f true (backTo pos (starEach (e :: r) env)) []) Q E := by
  rw [he] at h ⊢; exact T.eArgs h
theorem T.cw {pos : Pos} {f : Value} {first : List Value} {args : List (Bool × Sem Value)} {kws : List (Option Str × Sem Value)} {Q : Value → Hp → Prop}
    (h : T c A Δ (evalArgs f true args kws) (fun a Δ₁ => T c A Δ₁ (keeperOf f) (fun _ Δ₂ => T c A Δ₂ (call f (first ++ a.pos) a.kw) Q E) E) E) (hplain : (args.any (·.1) || kws.any (·.1.isNone)) = false := by k_dflt rfl) : T c A Δ (callWith pos f first args kws) Q E := T.cWith h hplain
/-- a new list of nothing -/
theorem T.list0 {pos : Pos} {Q : Value → Hp → Prop} (h : ∀ l, Q (.ref l) ((l, PInts []) :: Δ)) : T c A Δ (eval (.List [] pos) env) Q E := fun s hs =>
  wpAny_List_spliced (T.to (Q := fun vs Δ' => vs = [] ∧ Δ' = Δ) (T.pur ⟨rfl, rfl⟩) hs fun vs s₁ ⟨Δ₁, h₁, e1, e2⟩ => by
    subst e1 e2
    exact ⟨by decide, _, h₁.push PInts.nil (n := s₁.toks), h _⟩)
theorem T.nameLocalC {x : Str} {p : Pos} {v : Value} {C : Addr} {scope : Scope} {cl : List (Str × Addr)} {l : List (Str × Value)} {Q : Value → Hp → Prop} (hm : (C, PFr l) ∈ Δ) (hv : (x, v) ∈ l) (h : Q v Δ)
    (hk : scope.kind = .function) (hx : scope.names.lookup x = some .local) (hd : (x == ("__debug__" : Str)) = false) : T c A Δ (eval (.Name x p) (compEnvC scope cl C env)) Q E := T.nameLocal (L := C) rfl hm hv h hk (lk hx) hd
theorem T.callA {f : Addr} {name qual : Str} {params : Arguments} {body : List Stmt} {scope : Scope} {dV kV doc pm cdv ct oc : Value} {an od : Option Addr} {sl : Array (Option Value)} {pos : List Value} {kw : List (Str × Value)} {binds : List (Str × Value)} {Q : Value → Hp → Prop}
    (l : List (Str × Value)) (cs : Addr → Hp)
    (hk : (kopf.heap_39 c.w.params).lookup f = some ⟨oc, od, .func (fnOf name qual params body scope dV kV doc pm an cdv ct), sl⟩) (hcd : codeIn (kopf.heap_39 c.w.params) cdv qual = true) (hroom : A.depth < recursionLimit)
    (hb : bindArgs (fnOf name qual params body scope dV kV doc pm an cdv ct) ⟨pos, kw⟩ = pure binds)
    (h1 : (binds.all fun y => scope.names.lookup y.1 == some .local || scope.names.lookup y.1 == some .cell) = true)
    (h2 : ∀ L, ∀ p ∈ l, bindL (mkEnv qual scope L (cellsFrom (L + 1) scope.names []) f cdv).kindOf binds (fun _ => none) p.1 = some p.2)
    (h3 : ∀ L, cellsHp scope.names (bindC (mkEnv qual scope L (cellsFrom (L + 1) scope.names []) f cdv).kindOf binds fun _ => none) L ++ Δ = cs L)
    (hnd : ((cellsFrom 0 scope.names []).map (·.1)).Nodup)
    (hco : scope.isCoroutine = false) (hgen : scope.isGenerator = false) (hkd : scope.kind = .function)
    (h : ∀ (L : Addr) (A' : Around), A'.depth = A.depth + 1 → A'.handled = A.handled → A'.units = A.units + 3 → T c A' ((L, PFr l) :: cs L) (execs body (mkEnv qual scope L (cellsFrom (L + 1) scope.names []) f cdv))
        (fun fl Δ₂ => ∃ Δ₃, List.Sublist Δ₃ Δ₂ ∧ Q (retv fl) Δ₃) NoE) : T c A Δ (call (.ref f) pos kw) Q E :=
  T.callD l cs hk hcd hroom hb h1 h2 h3 hnd hco hgen hkd fun L => h L _ rfl rfl rfl
section
variable {qual : Str} {scope : Scope} {L f : Addr} {cells : List (Str × Addr)} {cd : Value} {x : Str} {v : Value} {l l' : List (Str × Value)}
theorem T.nameM {p : Pos} {Q : Value → Hp → Prop} (hm : (L, PFr l) ∈ Δ) (hv : (x, v) ∈ l) (h : Q v Δ)
    (hk : scope.kind = .function) (hx : scope.names.lookup x = some .local) (hd : (x == ("__debug__" : Str)) = false) : T c A Δ (eval (.Name x p) (mkEnv qual scope L cells f cd)) Q E := T.nameLocal (L := L) rfl hm hv h hk hx hd
theorem T.loadM {Q : Value → Hp → Prop} (hm : (L, PFr l) ∈ Δ) (hv : (x, v) ∈ l) (h : Q v Δ)
    (hk : scope.kind = .function) (hx : scope.names.lookup x = some .local) : T c A Δ (loadName (mkEnv qual scope L cells f cd) x) Q E := T.loadLocal (L := L) rfl hm hv h hk hx
theorem T.storeM {Q : Unit → Hp → Prop} (hv : SetV x v l l') (hu : Upd L (PFr l) (PFr l') Δ Δ') (h : Q () Δ')
    (hk : scope.kind = .function) (hx : scope.names.lookup x = some .local) : T c A Δ (storeName (mkEnv qual scope L cells f cd) x v) Q E := T.storeLocal (L := L) rfl hv hu h hk hx
end
end
end Mine
end
/-! Pl1 -/
section
open PySem PySem.W PyProof.Rows PySem.Calls
namespace Mine
def greedy (R : Int → Int → Bool) : List Int → List Int
  | [] => []
  | v :: r => v :: greedy R (r.filter fun w => v != w && !R v w)
termination_by l => l.length
decreasing_by simp_wf; exact Nat.lt_succ_of_le (List.length_filter_le _ _)
def wsum (f : Int → Int) (l : List Int) : Int := (l.map f).sum
theorem wsum_cons (f : Int → Int) (a : Int) (l : List Int) : wsum f (a :: l) = f a + wsum f l := by simp [wsum]
theorem wsum_nil (f : Int → Int) : wsum f [] = 0 := rfl
theorem wsum_append (f : Int → Int) (a b : List Int) : wsum f (a ++ b) = wsum f a + wsum f b := by simp [wsum]
theorem wsum_congr {f g : Int → Int} : ∀ {l : List Int}, (∀ a ∈ l, f a = g a) → wsum f l = wsum g l
  | [], _ => rfl
  | a :: l, h => by rw [wsum_cons, wsum_cons, h a (.head _), wsum_congr fun b hb => h b (.tail _ hb)]
theorem wsum_perm {f : Int → Int} {a b : List Int} (h : a.Perm b) : wsum f a = wsum f b := by
  induction h with
  | nil => rfl
  | cons x _ ih => rw [wsum_cons, wsum_cons, ih]
  | swap x y l => rw [wsum_cons, wsum_cons, wsum_cons, wsum_cons]; omega
  | trans _ _ h1 h2 => rw [h1, h2]
def Clq (R : Int → Int → Bool) (K : List Int) : Prop := K.Nodup ∧ ∀ a ∈ K, ∀ b ∈ K, a ≠ b → R a b = true
theorem Clq.tail {R : Int → Int → Bool} {a : Int} {K : List Int} (h : Clq R (a :: K)) : Clq R K := ⟨(List.nodup_cons.mp h.1).2, fun x hx y hy => h.2 x (.tail _ hx) y (.tail _ hy)⟩
theorem Clq.perm {R : Int → Int → Bool} {K K' : List Int} (h : Clq R K) (p : K.Perm K') : Clq R K' := ⟨p.nodup_iff.mp h.1, fun x hx y hy => h.2 x (p.mem_iff.mpr hx) y (p.mem_iff.mpr hy)⟩
theorem Clq.sublist {R : Int → Int → Bool} {K K' : List Int} (h : Clq R K) (p : K'.Sublist K) : Clq R K' := ⟨p.nodup h.1, fun x hx y hy => h.2 x (p.subset hx) y (p.subset hy)⟩
/-! ## greedy -/
theorem greedy_sub (R : Int → Int → Bool) : ∀ (k : Nat) (l : List Int), l.length ≤ k → (greedy R l).Sublist l
  | _, [], _ => by rw [greedy]; exact .slnil
  | 0, _ :: _, h => by simp at h
  | k + 1, v :: r, h => by
    rw [greedy]
    have h1 := List.length_filter_le (fun w => v != w && !R v w) r
    have := greedy_sub R k (r.filter fun w => v != w && !R v w) (by simp at h; omega)
    exact (this.trans List.filter_sublist).cons_cons v
theorem greedy_indep (R : Int → Int → Bool) : ∀ (k : Nat) (l : List Int), l.length ≤ k → (greedy R l).Pairwise (fun a b => a ≠ b ∧ R a b = false)
  | _, [], _ => by rw [greedy]; exact .nil
  | 0, _ :: _, h => by simp at h
  | k + 1, v :: r, h => by
    rw [greedy]
    have h1 := List.length_filter_le (fun w => v != w && !R v w) r
    refine .cons (fun w hw => ?_) (greedy_indep R k (r.filter fun w => v != w && !R v w) (by simp at h; omega))
    have := (greedy_sub R _ _ (Nat.le_refl _)).subset hw
    have := (List.mem_filter.mp this).2
    simp at this
    exact ⟨this.1, this.2⟩
theorem greedy_ne (R : Int → Int → Bool) {l : List Int} (h : l ≠ []) : greedy R l ≠ [] := by
  cases l with
  | nil => exact absurd rfl h
  | cons v r => rw [greedy]; simp
/-- a clique and an independent set meet in one at most -/
theorem meet_one {R : Int → Int → Bool} : ∀ {S : List Int}, S.Pairwise (fun a b => a ≠ b ∧ R a b = false) → ∀ {a b : Int}, a ∈ S → b ∈ S → a ≠ b → R a b = false ∨ R b a = false
  | _ :: _, .cons h t, a, b, ha, hb, hab => by
    cases ha with
    | head =>
      cases hb with
      | head => exact absurd rfl hab
      | tail _ hb => exact .inl (h _ hb).2
    | tail _ ha =>
      cases hb with
      | head => exact .inr (h _ ha).2
      | tail _ hb => exact meet_one t ha hb hab
/-- taking m off the members of S takes at most m off a clique -/
theorem drop_one {R : Int → Int → Bool} {S : List Int} {f : Int → Int} {m : Int} (hm : 0 ≤ m) (hS : S.Pairwise (fun a b => a ≠ b ∧ R a b = false)) : ∀ {K : List Int}, Clq R K → wsum f K ≤ m + wsum (fun v => if v ∈ S then f v - m else f v) K
  | [], _ => by rw [wsum_nil, wsum_nil]; omega
  | a :: K, h => by
    rw [wsum_cons, wsum_cons]
    by_cases ha : a ∈ S
    · have : wsum (fun v => if v ∈ S then f v - m else f v) K = wsum f K := wsum_congr fun b hb => by
        by_cases hbS : b ∈ S
        · have hne : a ≠ b := fun e => (List.nodup_cons.mp h.1).1 (e ▸ hb)
          have h1 := h.2 a (.head _) b (.tail _ hb) hne
          have h2 := h.2 b (.tail _ hb) a (.head _) (Ne.symm hne)
          rcases meet_one hS ha hbS hne with q | q
          · rw [h1] at q; cases q
          · rw [h2] at q; cases q
        · rw [if_neg hbS]
      rw [this, if_pos ha]; omega
    · have := drop_one hm hS h.tail (f := f)
      rw [if_neg ha]; omega
structure BInv (R : Int → Int → Bool) (wt : Int → Int) (ps : List Int) (rw : Int → Int) (total : Int) (P : List Int) : Prop where
  sub : P.Sublist ps
  nn : ∀ v ∈ ps, 0 ≤ rw v
  iff : ∀ v ∈ ps, (v ∈ P ↔ rw v ≠ 0)
  cov : ∀ K, Clq R K → (∀ v ∈ K, v ∈ ps) → wsum wt K ≤ total + wsum rw K
theorem BInv.init {R : Int → Int → Bool} {wt : Int → Int} {ps : List Int} (h : ∀ v ∈ ps, 0 < wt v) : BInv R wt ps wt 0 ps :=
  ⟨.refl _, fun v hv => by have := h v hv; omega, fun v hv => ⟨fun _ => by have := h v hv; omega, fun _ => hv⟩, fun K _ _ => by omega⟩
theorem BInv.stop {R : Int → Int → Bool} {wt rw : Int → Int} {ps P : List Int} {total : Int} (h : BInv R wt ps rw total P) {K : List Int} (hK : Clq R K) (hs : ∀ v ∈ K, v ∈ ps ∧ v ∉ P) : wsum wt K ≤ total := by
  have h1 := h.cov K hK fun v hv => (hs v hv).1
  have h2 : wsum rw K = wsum (fun _ => 0) K := wsum_congr fun v hv => by
    have := (h.iff v (hs v hv).1)
    have h3 := (hs v hv).2
    rw [this] at h3
    omega
  have h3 : ∀ l : List Int, wsum (fun _ => 0) l = 0 := fun l => by
    induction l with
    | nil => rfl
    | cons a l ih => rw [wsum_cons, ih]; rfl
  rw [h2, h3] at h1; omega
def taken (S : List Int) (rw : Int → Int) (m : Int) : Int → Int := fun v => if v ∈ S then rw v - m else rw v
theorem BInv.step {R : Int → Int → Bool} {wt rw : Int → Int} {ps P : List Int} {total m : Int} (h : BInv R wt ps rw total P) (hm : m ∈ (greedy R P).map rw) (hle : ∀ k ∈ (greedy R P).map rw, m ≤ k) :
    BInv R wt ps (taken (greedy R P) rw m) (total + m) (P.filter fun v => taken (greedy R P) rw m v != 0) ∧ (P.filter fun v => taken (greedy R P) rw m v != 0).length < P.length ∧ 0 ≤ m := by
  have hsub := greedy_sub R _ P (Nat.le_refl _)
  have hm0 : 0 ≤ m := by
    obtain ⟨v, hv, rfl⟩ := List.mem_map.mp hm
    exact h.nn v (h.sub.subset (hsub.subset hv))
  refine ⟨⟨List.filter_sublist.trans h.sub, fun v hv => ?_, fun v hv => ?_, fun K hK hs => ?_⟩, ?_, hm0⟩
  · unfold taken
    split
    · rename_i hS
      have := hle _ (List.mem_map_of_mem hS)
      omega
    · exact h.nn v hv
  · rw [List.mem_filter]
    constructor
    · rintro ⟨_, h2⟩; simpa using h2
    · intro h2
      refine ⟨?_, by simpa using h2⟩
      by_cases hS : v ∈ greedy R P
      · exact hsub.subset hS
      · unfold taken at h2
        rw [if_neg hS] at h2
        exact (h.iff v hv).mpr h2
  · have h1 := h.cov K hK hs
    have h2 := drop_one (f := rw) hm0 (greedy_indep R _ P (Nat.le_refl _)) hK
    show wsum wt K ≤ total + m + wsum (fun v => if v ∈ greedy R P then rw v - m else rw v) K
    omega
  · obtain ⟨v, hv, e⟩ := List.mem_map.mp hm
    refine List.length_filter_lt_length_iff_exists.mpr ⟨v, hsub.subset hv, ?_⟩
    unfold taken
    rw [if_pos hv, e]; simp
/-! ## dicts over a list -/
theorem getI_map {f : Int → Int} : ∀ {ps : List Int} {k : Int}, k ∈ ps → getI (ps.map fun n => (n, f n)) k = some (f k)
  | p :: ps, k, h => by
    unfold getI
    rw [List.map_cons, List.find?_cons]
    by_cases hp : p = k
    · simp [hp]
    · simp only [hp, decide_false]
      cases h with
      | head => exact absurd rfl hp
      | tail _ h => exact getI_map h
theorem setI_map {f : Int → Int} {ps : List Int} {k x : Int} (h : k ∈ ps) : setI (ps.map fun n => (n, f n)) k x = ps.map fun n => (n, if n = k then x else f n) := by
  unfold setI
  have : (ps.map fun n => (n, f n)).any (fun kv => kv.1 = k) = true := by
    rw [List.any_eq_true]
    exact ⟨(k, f k), List.mem_map.mpr ⟨k, h, rfl⟩, by simp⟩
  rw [if_pos this, List.map_map]
  refine List.map_congr_left fun n _ => ?_
  show (if n = k then (n, x) else (n, f n)) = _
  split <;> rfl
theorem taken_snoc {S : List Int} {rw : Int → Int} {m v : Int} {i : Nat} (hn : S.Nodup) (h : S[i]? = some v) : (fun n => if n = v then taken (S.take i) rw m v - m else taken (S.take i) rw m n) = taken (S.take (i + 1)) rw m := by
  have hv : v ∉ S.take i := fun hm => by
    obtain ⟨j, hj, e⟩ := List.getElem_of_mem hm
    rw [List.getElem_take] at e
    have hj' : j < i := by rw [List.length_take] at hj; omega
    have hjl : j < S.length := by rw [List.length_take] at hj; omega
    have := (List.getElem?_inj hjl hn).mp ((List.getElem?_eq_some_iff.mpr ⟨hjl, e⟩).trans h.symm)
    omega
  funext n
  unfold taken
  rw [List.take_add_one, h]
  by_cases e : n = v
  · subst e; simp [hv]
  · rw [if_neg e]
    simp [e]
theorem taken_nil {S : List Int} {rw : Int → Int} {m : Int} : taken (S.take 0) rw m = rw := by funext n; simp [taken]
end Mine
end
/-! TlB -/
section
open PySem PySem.W PyProof.Rows PySem.Calls
set_option maxRecDepth 100000
namespace Mine
theorem Upd.mem' {a : Addr} {P P' : Pr} {Δ Δ' : Hp} (h : Upd a P P' Δ Δ') : (a, P') ∈ Δ' := by
  induction h with
  | head => exact .head _
  | tail _ ih => exact .tail _ ih
/-- an attribute of an instance that the top made -/
def topOwn (K : Frag) (x C : Addr) (name : Str) : Option Value := match K.lookup x with
  | some ⟨.ref C', some dx, .plain, _⟩ => if C' = C then (match K.lookup dx with
    | some od => (match lookIn name od with | some (some v) => some v | _ => none)
    | none => none) else none
  | _ => none
section
variable {c : Cx} {A : Around} {Δ Δ' : Hp} {E : Value → Hp → Prop} {env : Env}
theorem findObj_kept {K : Frag} {C : Addr} {od : Obj} {name : Str} {a g v : Value} (hh : hasDictIn K C = true) (ha : findIn K (.ref C) name = some (some a)) (hg : specialIn K a "__get__" = some (some g)) (ht : takesIn K a = some false) (hl : lookIn name od = some (some v)) :
    findObj K C (some od) name = some (.value v) := by
  obtain ⟨cd, hc, hd⟩ := any_some hh
  unfold findObj
  have ho : PySem.W.ownOf cd (some od) name = some (some v) := by unfold PySem.W.ownOf; rw [if_pos hd]; exact hl
  rw [hc, Option.bind_some, ha, Option.bind_some]
  simp [hg, ht, ho]
theorem findObj_miss {K : Frag} {C : Addr} {od : Obj} {name : Str} {a g : Value} (hh : hasDictIn K C = true) (ha : findIn K (.ref C) name = some (some a)) (hg : specialIn K a "__get__" = some (some g)) (ht : takesIn K a = some false) (hcop : copiedNames.contains name = false) (hl : lookIn name od = some none) :
    findObj K C (some od) name = some (.bind g a) := by
  obtain ⟨cd, hc, hd⟩ := any_some hh
  unfold findObj
  have ho : PySem.W.ownOf cd (some od) name = some none := by unfold PySem.W.ownOf; rw [if_pos hd]; exact hl
  rw [hc, Option.bind_some, ha, Option.bind_some]
  have hm : name ∉ copiedNames := by simpa using hcop
  simp [hg, ht, ho, hm]
/-- the value that a cached property has left in the instance -/
theorem T.getKept {x C dx : Addr} {name : Str} {v a g : Value} {kvs ep} {ex : Bool} {Q : Value → Hp → Prop} (hC : ClsOk (kopf.heap_39 c.w.params) C) (hx : (x, PInst C dx) ∈ Δ) (hd : (dx, PDS c.w kvs ep) ∈ Δ) (hv : valueAt kvs name = some v)
    (ha : findIn (kopf.heap_39 c.w.params) (.ref C) name = some (some a)) (hg : specialIn (kopf.heap_39 c.w.params) a "__get__" = some (some g)) (ht : takesIn (kopf.heap_39 c.w.params) a = some false) (hh : handedIn v = true) (h : Q v Δ) : T c A Δ (getAttr (.ref x) name ex) Q E := fun s hs => by
  obtain ⟨od, I, _, p⟩ := hs.inst hx hd
  exact get_value hs.kin I hC.ga (findObj_kept hC.hd ha hg ht (by rw [p.look, hv])) hh ⟨Δ, hs.toks, h⟩
/-- a descriptor that is no data descriptor, no value of the instance's own -/
theorem T.getBind {x C dx : Addr} {name : Str} {a g : Value} {kvs ep} {ex : Bool} {Q : Value → Hp → Prop} (hC : ClsOk (kopf.heap_39 c.w.params) C) (hx : (x, PInst C dx) ∈ Δ) (hd : (dx, PDS c.w kvs ep) ∈ Δ) (hv : valueAt kvs name = none)
    (ha : findIn (kopf.heap_39 c.w.params) (.ref C) name = some (some a)) (hg : specialIn (kopf.heap_39 c.w.params) a "__get__" = some (some g)) (ht : takesIn (kopf.heap_39 c.w.params) a = some false) (hcop : copiedNames.contains name = false)
    (h : T c A.in1 Δ (call g [a, .ref x, .ref C]) (fun v Δ' => handedIn v = true ∧ Q v Δ') NoE) : T c A Δ (getAttr (.ref x) name ex) Q E := fun s hs => by
  obtain ⟨od, I, _, p⟩ := hs.inst hx hd
  refine get_bind hs.kin I hC.ga (findObj_miss hC.hd ha hg ht hcop (by rw [p.look, hv])) hC.gb ?_
  exact wpAny_mono (h { s with toks := s.toks + 1 } hs.toks) (fun v s' ⟨Δ', h', hh, q⟩ => handed_on hh ⟨Δ', h', q⟩) fun _ _ ⟨_, _, x⟩ => x.elim
/-- a call's name that is no method: its value is read first -/
theorem T.usual {x C dx : Addr} {name : Str} {r : Option Value} {kvs ep} {pl : Sem Bool} {Q : Value × List Value → Hp → Prop} (hC : ClsOk (kopf.heap_39 c.w.params) C) (hx : (x, PInst C dx) ∈ Δ) (hd : (dx, PDS c.w kvs ep) ∈ Δ)
    (hf : findIn (kopf.heap_39 c.w.params) (.ref C) name = some r) (ht : r.all (fun a => (typeIn (kopf.heap_39 c.w.params) a).any fun t => t != .type "function" && t != .type "method_descriptor" && t != .type "wrapper_descriptor") = true)
    (h : T c A Δ (getAttr (.ref x) name) (fun v Δ' => Q (v, []) Δ') E) : T c A Δ (getMethod (.ref x) name pl) Q E := fun s hs => by
  obtain ⟨od, I, _, p⟩ := hs.inst hx hd
  exact method_usual hs.kin I hC.ga hC.gb hf ht (h s hs)
theorem T.getTop {x C : Addr} {name : Str} {v : Value} {ex : Bool} {attr : Option Value} {Q : Value → Hp → Prop} (hC : ClsOk (kopf.heap_39 c.w.params) C) (hv : topOwn (kopf.heap_39 c.w.params) x C name = some v)
    (ha : findIn (kopf.heap_39 c.w.params) (.ref C) name = some attr) (hn : noGet (kopf.heap_39 c.w.params) attr = true) (hh : handedIn v = true) (h : Q v Δ) : T c A Δ (getAttr (.ref x) name ex) Q E := fun s hs => by
  unfold topOwn at hv
  split at hv
  · rename_i C' dx sl hx
    split at hv
    · rename_i hC'
      subst hC'
      split at hv
      · rename_i od hod
        split at hv
        · rename_i v' hl
          cases hv
          have e1 := hs.kin _ _ hx
          have e2 := hs.kin _ _ hod
          exact get_value hs.kin ⟨e1, rfl, rfl, e2⟩ hC.ga (findObj_own hC.hd ha hn hl) hh ⟨Δ, hs.toks, h⟩
        · cases hv
      · cases hv
    · cases hv
  · cases hv
theorem T.isNone {v : Value} {Q : Value → Hp → Prop} (hp : plainIs v .none = true) (h : Q (.bool (v == .none)) Δ) : T c A Δ (compareOp .Is v .none) Q E := fun s hs => wpAny_is_plain hp ⟨Δ, hs, h⟩
theorem T.isRef {a b : Addr} {Q : Value → Hp → Prop} (h : Q (.bool ((Value.ref a) == .ref b)) Δ) (hp : plainIs (.ref a) (.ref b) = true := by k_dflt rfl) : T c A Δ (compareOp .Is (.ref a) (.ref b)) Q E := fun s hs => wpAny_is_plain hp ⟨Δ, hs, h⟩
end
/-! ## lambdas -/
def PRec (q : Str) : Pr := fun o => ∃ vs t, o.data = .fields vs ∧ vs[1]? = some (.str q t)
def PIs (x : Obj) : Pr := fun o => o = x
theorem St.addOld {c : Cx} {Δ : Hp} {s : Shared} {b : Addr} {P : Pr} (x : St c Δ s) (hno : c.h₀.get? b = none) (hnk : ∀ p ∈ Δ, p.1 ≠ b) (hns : b ≠ sysModules) (hp : ∃ o, s.heap.get? b = some o ∧ P o) : St c ((b, P) :: Δ) s := by
  refine ⟨x.keep, fun p hm => ?_, ?_, x.drawn, x.os, x.gens⟩
  · cases hm with
    | head => exact ⟨hp, hno, hns⟩
    | tail _ hm => exact x.own p hm
  · rw [List.map_cons, List.nodup_cons]
    refine ⟨fun hm => ?_, x.nd⟩
    obtain ⟨q, hq, e⟩ := List.mem_map.mp hm
    exact hnk q hq e
section
variable {c : Cx} {A : Around} {Δ Δ' : Hp} {E : Value → Hp → Prop} {env : Env}
theorem T.lambda {params : Arguments} {body : Expr} {scope : Scope} {pos : Pos} {clos : List (Str × Addr)} {cd P : Addr} {Q : Value → Hp → Prop} (hdef : defaultsOf params env = ([], [])) (hcl : closureFor scope env = pure clos) (hge : env.globals = mainGlobals) (hcode : env.code = .ref cd)
    (hC : codeHdIn (kopf.heap_39 c.w.params) cd P = true) (hP : Upd P (PIs (tabObj #[])) PTab Δ Δ')
    (h : ∀ f c' pm ctv, Q (.ref f) ((f, PIs (kla_obj "<lambda>" (env.qual ++ "<lambda>") params body scope clos pm c' ctv)) :: (c', PRec (env.qual ++ "<lambda>")) :: Δ')) : T c A Δ (eval (.Lambda params body scope pos) env) Q E := fun s hs => by
  obtain ⟨o, eP, q⟩ := hs.has hP.mem
  cases q
  have hgs := c.top.g.keeps hs.keep
  obtain ⟨bm, ob, b1, b2, b3, b4, b5, b6⟩ := c.top.bmain
  have hgP : mainGlobals ≠ P := fun q => by
    obtain ⟨o, es, ep, e, hd, _⟩ := hgs
    rw [q, eP] at e; cases e; cases hd
  have hbP : bm ≠ P := fun q => by
    have e := hs.keep _ _ b3
    rw [q, eP] at e; cases e; cases b4
  have hbG : bm ≠ mainGlobals := fun q => by
    obtain ⟨o, es, ep, e, hd, _⟩ := c.top.g
    rw [q, e] at b3; cases b3; rw [hd] at b6; cases b6
  refine kla_eval hdef (kla_makeFunction (mg := c.mg) hcl hge hgs hcode (codeHd_of_K hs.kin hC) eP trivial rfl hgP ⟨bm, ob, b1, b2, hbG, hbP, hs.keep _ _ b3, b4, b5, b6⟩ fun c' ctv h' tk hx hle hlt hrec htb => ?_)
  have S0 : St c Δ' s := hs.weak hP fun o e => ⟨#[], e, trivial⟩
  have hPm := hP.mem'
  have S1 : St c Δ' { s with heap := h', toks := tk } := S0.grew hPm (fun b o hb e => hx b o hb e) ⟨_, htb, by show TriplesOk _; exact trivial⟩ rfl rfl hs.gens
  obtain ⟨c₂, oc, vs, t, e2, hoc, hd, hv⟩ := hrec
  cases e2
  have hnone : s.heap.get? c' = none := get_above hle
  have S2 : St c ((c', PRec (env.qual ++ "<lambda>")) :: Δ') { s with heap := h', toks := tk } := S1.addOld (by
      cases q : c.h₀.get? c' with
      | none => rfl
      | some o => rw [hs.keep _ _ q] at hnone; cases hnone)
    (fun p hp e => by
      obtain ⟨⟨o, e1, _⟩, _⟩ := S0.own p hp
      rw [e, hnone] at e1; cases e1)
    (hs.above hle) ⟨oc, hoc, vs, t, hd, hv⟩
  exact ⟨_, S2.push (P := PIs _) rfl (n := tk), h _ _ _ _⟩
theorem T.callLam {f c' : Addr} {name qual : Str} {params : Arguments} {body : Expr} {scope : Scope} {clos : List (Str × Addr)} {pm ctv : Value} {pos : List Value} {kw : List (Str × Value)} {binds : List (Str × Value)} {Q : Value → Hp → Prop} (l : List (Str × Value))
    (hf : (f, PIs (kla_obj name qual params body scope clos pm c' ctv)) ∈ Δ) (hc : (c', PRec qual) ∈ Δ) (hroom : A.depth < recursionLimit)
    (hbind : bindArgs (kla_fn name qual params body scope clos pm (.ref c') ctv) ⟨pos, kw⟩ = pure binds) (hloc : ∀ y ∈ binds, scope.names.lookup y.1 = some .local) (hl : ∀ p ∈ l, binds.reverse.lookup p.1 = some p.2)
    (hcell : ∀ x ∈ scope.names, x.2 ≠ .cell) (hco : scope.isCoroutine = false) (hgen : scope.isGenerator = false) (hk : scope.kind = .function)
    (h : ∀ (L : Addr) (A' : Around), A'.depth = A.depth + 1 → A'.handled = A.handled → T c A' ((L, PFr l) :: Δ) (eval body (mkEnv qual scope L clos f (.ref c'))) (fun v Δ₂ => ∃ Δ₃, List.Sublist Δ₃ Δ₂ ∧ Q v Δ₃) NoE) : T c A Δ (call (.ref f) pos kw) Q E := fun s hs => by
  refine T.call_of (Q := Q) (fun s hs => ?_) s hs
  obtain ⟨of, ef, q⟩ := hs.has hf
  cases q
  obtain ⟨oc, ec, vs, t, hd, hv⟩ := hs.has hc
  refine kla_callFunE hroom ef rfl hco hgen rfl ⟨c', oc, vs, t, rfl, ec, hd, hv⟩ ?_
  rw [hbind]
  refine wpAny_pure (wpAny_newFunctionEnv hcell hloc (fun h₁ hns hsb => ⟨hs.nolimit.fresh _ hsb, ?_⟩) hk)
  have hk₁ : ∀ b o, s.heap.get? b = some o → h₁.get? b = some o := fun b o e => hsb.extBut b o (Nat.ne_of_lt (Heap.lt_size e)) (Heap.get?_push_of_some _ e)
  have S1 : St c ((s.heap.objs.size, PFr l) :: Δ) { s with heap := h₁, toks := s.toks + binds.length } := by
    obtain ⟨o, es, ep, e, r⟩ := hns
    exact hs.add hk₁ (Nat.le_refl _) ⟨o, e, _, ⟨es, ep, r⟩, hl⟩
  show codeAny _ _ (.expr body (mkEnv qual scope s.heap.objs.size clos f (.ref c'))) _ _
  exact kla_codeExpr (wpAny_mono (h s.heap.objs.size (A.deeper (mkEnv qual scope s.heap.objs.size clos f (.ref c'))) rfl rfl _ S1) (fun v s' ⟨Δ₂, h₂, Δ₃, sub, q⟩ => ⟨Δ₃, h₂.drop sub, q⟩) fun _ _ ⟨_, _, x⟩ => x.elim)
end
end Mine
end
/-! TlH -/
section
open PySem PySem.W PyProof.Rows PySem.Calls
set_option maxRecDepth 100000
namespace Mine
/-- a dict of str keys that has been handed out as an instance's __dict__ -/
def PDM (w : World) (kvs : List (Str × Value)) (ep : Nat) : Pr := fun o => PDS w kvs ep { o with slots := #[] } ∧ o.slots.isEmpty = false
theorem PDM.look {w : World} {kvs ep} {o : Obj} (x : PDM w kvs ep o) (name : Str) : lookIn name o = some (valueAt kvs name) := PDS.look x.1 name
section
variable {c : Cx} {A : Around} {Δ Δ' : Hp} {E : Value → Hp → Prop} {env : Env} {s : Shared}
theorem St.instM {x C dx : Addr} {kvs ep} (h : St c Δ s) (hx : (x, PInst C dx) ∈ Δ) (hd : (dx, PDM c.w kvs ep) ∈ Δ) : ∃ od, PySem.W.InstAt s.heap x (instObj C dx) C (some od) ∧ s.heap.get? dx = some od ∧ PDM c.w kvs ep od := by
  obtain ⟨o, e, rfl⟩ := h.has hx
  obtain ⟨od, e', p⟩ := h.has hd
  exact ⟨od, ⟨e, rfl, rfl, e'⟩, e', p⟩
theorem T.getOwnM {x C dx : Addr} {name : Str} {v : Value} {kvs ep} {ex : Bool} {attr : Option Value} {Q : Value → Hp → Prop} (hC : ClsOk (kopf.heap_39 c.w.params) C) (hx : (x, PInst C dx) ∈ Δ) (hd : (dx, PDM c.w kvs ep) ∈ Δ) (hv : valueAt kvs name = some v)
    (ha : findIn (kopf.heap_39 c.w.params) (.ref C) name = some attr) (hn : noGet (kopf.heap_39 c.w.params) attr = true) (hh : handedIn v = true) (h : Q v Δ) : T c A Δ (getAttr (.ref x) name ex) Q E := fun s hs => by
  obtain ⟨od, I, _, p⟩ := hs.instM hx hd
  exact get_value hs.kin I hC.ga (findObj_own hC.hd ha hn (by rw [p.look, hv])) hh ⟨Δ, hs.toks, h⟩
theorem T.methodM {x C dx f : Addr} {name : Str} {kvs ep} {pl : Sem Bool} {Q : Value × List Value → Hp → Prop} (hC : ClsOk (kopf.heap_39 c.w.params) C) (hx : (x, PInst C dx) ∈ Δ) (hd : (dx, PDM c.w kvs ep) ∈ Δ) (hv : valueAt kvs name = none)
    (hf : findIn (kopf.heap_39 c.w.params) (.ref C) name = some (some (.ref f))) (ht : typeIn (kopf.heap_39 c.w.params) (.ref f) = some (.type "function")) (h : Q (.ref f, [.ref x]) Δ) : T c A Δ (getMethod (.ref x) name pl) Q E := fun s hs => by
  obtain ⟨od, I, _, p⟩ := hs.instM hx hd
  exact method_fn hs.kin I hC.ga hC.gb hf ht (by show (lookIn name od).map _ = _; rw [p.look, hv]; rfl) ⟨Δ, hs, h⟩
theorem T.getKeptM {x C dx : Addr} {name : Str} {v a g : Value} {kvs ep} {ex : Bool} {Q : Value → Hp → Prop} (hC : ClsOk (kopf.heap_39 c.w.params) C) (hx : (x, PInst C dx) ∈ Δ) (hd : (dx, PDM c.w kvs ep) ∈ Δ) (hv : valueAt kvs name = some v)
    (ha : findIn (kopf.heap_39 c.w.params) (.ref C) name = some (some a)) (hg : specialIn (kopf.heap_39 c.w.params) a "__get__" = some (some g)) (ht : takesIn (kopf.heap_39 c.w.params) a = some false) (hh : handedIn v = true) (h : Q v Δ) : T c A Δ (getAttr (.ref x) name ex) Q E := fun s hs => by
  obtain ⟨od, I, _, p⟩ := hs.instM hx hd
  exact get_value hs.kin I hC.ga (findObj_kept hC.hd ha hg ht (by rw [p.look, hv])) hh ⟨Δ, hs.toks, h⟩
theorem T.getBindM {x C dx : Addr} {name : Str} {a g : Value} {kvs ep} {ex : Bool} {Q : Value → Hp → Prop} (hC : ClsOk (kopf.heap_39 c.w.params) C) (hx : (x, PInst C dx) ∈ Δ) (hd : (dx, PDM c.w kvs ep) ∈ Δ) (hv : valueAt kvs name = none)
    (ha : findIn (kopf.heap_39 c.w.params) (.ref C) name = some (some a)) (hg : specialIn (kopf.heap_39 c.w.params) a "__get__" = some (some g)) (ht : takesIn (kopf.heap_39 c.w.params) a = some false) (hcop : copiedNames.contains name = false)
    (h : T c A.in1 Δ (call g [a, .ref x, .ref C]) (fun v Δ' => handedIn v = true ∧ Q v Δ') NoE) : T c A Δ (getAttr (.ref x) name ex) Q E := fun s hs => by
  obtain ⟨od, I, _, p⟩ := hs.instM hx hd
  refine get_bind hs.kin I hC.ga (findObj_miss hC.hd ha hg ht hcop (by rw [p.look, hv])) hC.gb ?_
  exact wpAny_mono (h { s with toks := s.toks + 1 } hs.toks) (fun v s' ⟨Δ', h', hh, q⟩ => handed_on hh ⟨Δ', h', q⟩) fun _ _ ⟨_, _, x⟩ => x.elim
theorem T.usualM {x C dx : Addr} {name : Str} {r : Option Value} {kvs ep} {pl : Sem Bool} {Q : Value × List Value → Hp → Prop} (hC : ClsOk (kopf.heap_39 c.w.params) C) (hx : (x, PInst C dx) ∈ Δ) (hd : (dx, PDM c.w kvs ep) ∈ Δ)
    (hf : findIn (kopf.heap_39 c.w.params) (.ref C) name = some r) (ht : r.all (fun a => (typeIn (kopf.heap_39 c.w.params) a).any fun t => t != .type "function" && t != .type "method_descriptor" && t != .type "wrapper_descriptor") = true)
    (h : T c A Δ (getAttr (.ref x) name) (fun v Δ' => Q (v, []) Δ') E) : T c A Δ (getMethod (.ref x) name pl) Q E := fun s hs => by
  obtain ⟨od, I, _, p⟩ := hs.instM hx hd
  exact method_usual hs.kin I hC.ga hC.gb hf ht (h s hs)
end
end Mine
end
/-! TlC -/
section
open PySem PySem.W PyProof.Rows PySem.Calls
set_option maxRecDepth 100000
namespace Mine
/-- an instance with its slots -/
def PSl (C dx : Addr) (sl : Array (Option Value)) : Pr := fun o => o = { cls := .ref C, dict := some dx, data := .plain, slots := sl }
section
variable {c : Cx} {Δ Δ' : Hp} {s : Shared} {a : Addr}
theorem St.sl {C dx : Addr} {sl kvs ep} (x : St c Δ s) (h : (a, PSl C dx sl) ∈ Δ) (hd : (dx, PDS c.w kvs ep) ∈ Δ) : ∃ od, PySem.W.InstAt s.heap a { cls := .ref C, dict := some dx, data := .plain, slots := sl } C (some od) ∧ s.heap.get? dx = some od ∧ PDS c.w kvs ep od := by
  obtain ⟨o, e, rfl⟩ := x.has h
  obtain ⟨od, e', p⟩ := x.has hd
  exact ⟨od, ⟨e, rfl, rfl, e'⟩, e', p⟩
/-- any instance -/
def IsInst (c : Cx) (Δ : Hp) (x C : Addr) : Prop := ∃ dx sl kvs ep, (x, PSl C dx sl) ∈ Δ ∧ (dx, PDS c.w kvs ep) ∈ Δ
theorem PInst.sl {C dx : Addr} : PInst C dx = PSl C dx #[] := rfl
theorem St.any {x C : Addr} (h : St c Δ s) (hx : IsInst c Δ x C) : ∃ ox od, PySem.W.InstAt s.heap x ox C (some od) ∧ ox.data = .plain := by
  obtain ⟨dx, sl, kvs, ep, h1, h2⟩ := hx
  obtain ⟨od, I, _, _⟩ := h.sl h1 h2
  exact ⟨_, _, I, rfl⟩
end
section
variable {c : Cx} {A : Around} {Δ Δ' : Hp} {E : Value → Hp → Prop} {env : Env}
theorem T.callObj {x C f : Addr} {pos : List Value} {kw : List (Str × Value)} {Q : Value → Hp → Prop} (hx : IsInst c Δ x C) (hs : findIn (kopf.heap_39 c.w.params) (.ref C) "__call__" = some (some (.ref f))) (hf : isFn (kopf.heap_39 c.w.params) (.ref f) = true) (hfn : fnIn (kopf.heap_39 c.w.params) f = true)
    (h : TC c A Δ (.call (.ref f) ⟨.ref x :: pos, kw⟩) (fun r Δ' => match r with | .ok (.ret v) => Q v Δ' | .ok _ => False | .error e => E e Δ')) : T c A Δ (call (.ref x) pos kw) Q E := T.call_of fun s hs' => by
  obtain ⟨ox, od, I, hd⟩ := hs'.any hx
  exact kco_code hs'.kin I hd hs hf hfn (h s hs')
theorem T.keeperObj {x C : Addr} {Q : Keeper → Hp → Prop} (hx : IsInst c Δ x C) (h : Q .caller Δ) : T c A Δ (keeperOf (.ref x)) Q E := fun s hs => by
  obtain ⟨ox, od, I, hd⟩ := hs.any hx
  exact (kco_keeper I hd).here ⟨Δ, hs, h⟩
theorem T.inObj {x C f : Addr} {v : Value} {Q : Value → Hp → Prop} (hx : IsInst c Δ x C) (hs : findIn (kopf.heap_39 c.w.params) (.ref C) "__contains__" = some (some (.ref f))) (hf : isFn (kopf.heap_39 c.w.params) (.ref f) = true)
    (h : T c A Δ (call (.ref f) [.ref x, v]) (fun r Δ' => T c A Δ' (truthy r) (fun b Δ'' => Q (.bool b) Δ'') E) E) : T c A Δ (compareOp .In v (.ref x)) Q E := fun s hs' => by
  obtain ⟨ox, od, I, hd⟩ := hs'.any hx
  refine wpAny_bind ?_
  unfold contains
  refine wpAny_holding (wpAny_bind (wpAny_bind (I.type.here ((looks_findIn hs'.kin hs).here ?_))))
  rw [if_neg (by simp)]
  refine wpAny_bind (unlessNone_K hs'.kin I hs hf (T.to h hs' fun r s₁ ⟨Δ₁, h₁, q⟩ => ?_))
  exact wpAny_mono (q s₁ h₁) (fun b s₂ q => wpAny_pure q) fun _ _ e => e
theorem T.subObj {value slice : Expr} {x C f : Addr} {i : Value} {Q : Value → Hp → Prop} (hx : IsInst c Δ x C) (hs : findIn (kopf.heap_39 c.w.params) (.ref C) "__getitem__" = some (some (.ref f))) (hf : fnIn (kopf.heap_39 c.w.params) f = true) (hfn : isFn (kopf.heap_39 c.w.params) (.ref f) = true)
    (h : T c A.in1 Δ (call (.ref f) [.ref x, i]) Q E)
    (hsl : subscripted slice true (.ref x) i = runValue (.builtin "lifetime.subscript" ⟨[.ref x, i], []⟩) := by with_unfolding_all rfl) : T c A Δ (subscriptTail value slice (.ref x) i) Q E := fun s hs' => by
  obtain ⟨ox, od, I, hd⟩ := hs'.any hx
  have X := hs'.kin
  unfold fnIn at hf
  split at hf
  · rename_i e
    unfold subscriptTail getitemInPython
    refine wpAny_bind (wpAny_bind (wpAny_bind (I.type.here ((looks_findIn X hs).here ?_))))
    dsimp only
    refine wpAny_bind (wpAny_load (X _ _ e) (wpAny_pure ?_))
    dsimp only
    rw [hsl]
    refine wpAny_bind (wpAny_runValue (codeAny_builtin entry_sub ?_))
    unfold Builtin.«lifetime.subscript»
    refine wpAny_bind (special_fn X I hs (beq_iff_eq.mp hfn) (T.to h hs' fun v s' z => ?_))
    refine wpAny_pure ?_
    show wpAny (model PG c.w) A (letTemporaryGo value (.ref x) v >>= fun _ => pure v) _ _ s'
    exact wpAny_bind (wpAny_letTemporaryGo (wpAny_pure z))
  · cases hf
theorem T.iterObj {x C f : Addr} {Q : Value → Hp → Prop} (hx : IsInst c Δ x C) (hs : findIn (kopf.heap_39 c.w.params) (.ref C) "__iter__" = some (some (.ref f))) (hf : isFn (kopf.heap_39 c.w.params) (.ref f) = true)
    (h : T c A Δ (call (.ref f) [.ref x]) (fun it Δ' => (∃ d i n ep, ∃ a, it = .ref a ∧ (a, PKIter d i n ep) ∈ Δ') ∧ Q it Δ') E) : T c A Δ (pyIter (.ref x)) Q E := fun s hs' => by
  obtain ⟨ox, od, I, hd⟩ := hs'.any hx
  have X := hs'.kin
  have fin : wpAny (model PG c.w) A (call (.ref f) [.ref x] >>= fun v => pure (some v)) (fun r s' => ∃ v, r = some v ∧ Lf c (fun it Δ' => (∃ d i n ep, ∃ a, it = .ref a ∧ (a, PKIter d i n ep) ∈ Δ') ∧ Q it Δ') v s') (Lf c E) s :=
    wpAny_bind (T.to h hs' fun v s' h' => wpAny_pure ⟨v, rfl, h'⟩)
  have one : ∀ refuse : Sem Value, wpAny (model PG c.w) A (callSpecialIfBoundUnlessNone? (.ref x) "__iter__" refuse) (fun r s' => ∃ v, r = some v ∧ Lf c (fun it Δ' => (∃ d i n ep, ∃ a, it = .ref a ∧ (a, PKIter d i n ep) ∈ Δ') ∧ Q it Δ') v s') (Lf c E) s := by
    intro refuse
    simp only [callSpecialIfBoundUnlessNone?, bindSpecialIfBound?]
    refine wpAny_holding (wpAny_bind (wpAny_bind (wpAny_bind (I.type.here ((looks_findIn X hs).here ?_)))))
    refine wpAny_bind (wpAny_askSetting (wpAny_ite ?_))
    have fin2 : wpAny (model PG c.w) A (if (Value.ref f == Value.none) = true then (refuse >>= fun v => pure (some v)) else (call (.ref f) [.ref x] >>= fun v => pure (some v))) (fun r s' => ∃ v, r = some v ∧ Lf c (fun it Δ' => (∃ d i n ep, ∃ a, it = .ref a ∧ (a, PKIter d i n ep) ∈ Δ') ∧ Q it Δ') v s') (Lf c E) s := by
      rw [if_neg (show ¬ ((Value.ref f == Value.none) = true) from Bool.false_ne_true)]
      exact fin
    split
    · exact wpAny_bind ((bind_fn X _ (beq_iff_eq.mp hf)).here (wpAny_pure (by exact fin2)))
    · exact wpAny_tryCatch (wpAny_bind ((bind_fn X _ (beq_iff_eq.mp hf)).here (wpAny_pure (by exact fin2))))
  unfold pyIter
  refine wpAny_bind (wpAny_bind (I.type.here ((looks_findIn X hs).here ?_)))
  show wpAny _ A (callSpecialIfBoundUnlessNone? (.ref x) "__iter__" _ >>= _) _ _ s
  refine wpAny_bind (wpAny_mono (one _) (fun r s' hr => ?_) fun _ _ z => z)
  obtain ⟨v, rfl, Δ', h', ⟨d, i, n, ep, a, rfl, hm⟩, q⟩ := hr
  obtain ⟨o, e, hc, _⟩ := h'.has hm
  refine wpAny_bind (wpAny_specialOf (T := "dict_keyiterator") (r := some (.builtin "dict_keyiterator.__next__")) ⟨o, e, hc⟩ F.slot_dict_keyiterator_next.lookup ?_)
  exact wpAny_pure ⟨Δ', h', q⟩
theorem T.len {x C f : Addr} {n : Nat} {Q : Value → Hp → Prop} (hx : IsInst c Δ x C) (hs : findIn (kopf.heap_39 c.w.params) (.ref C) "__len__" = some (some (.ref f))) (hf : isFn (kopf.heap_39 c.w.params) (.ref f) = true) (hn : n ≤ 1000)
    (h : T c A.in1 Δ (call (.ref f) [.ref x]) (fun v Δ' => (∃ t, v = .int n t) ∧ ∀ t, Q (.int n t) Δ') E) : T c A Δ (call (.builtin "len") [.ref x]) Q E := fun s hs' => by
  obtain ⟨ox, od, I, hd⟩ := hs'.any hx
  refine Calls.call_function_entry kind_len plain_len entry_len (args_len1 _) ?_
  unfold Builtin.«len»
  refine wpAny_bind (m := oneArg "len" _) (wpAny_pure ?_)
  refine wpAny_bind (m := callSpecial? (.ref x) (Str.ofString "__len__")) (special_fn hs'.kin I hs (beq_iff_eq.mp hf) (T.to h hs' fun r s' ⟨Δ', h', ⟨t, e⟩, q⟩ => ?_))
  subst e
  refine wpAny_bind (wpAny_holding (wpAny_pure ?_))
  refine wpAny_bind (wpAny_letGo ?_)
  show wpAny _ _ (if (n : Int) < 0 then _ else _) _ _ _
  rw [if_neg (by omega)]
  show wpAny _ _ (if (n : Int) ≥ 2 ^ 63 then _ else _) _ _ _
  rw [if_neg (by omega)]
  exact wpAny_bind (wpAny_mkInt (wpAny_pure ⟨_, rfl, Δ', h'.toks, q _⟩))
/-- a class is called -/
theorem T.make {C fI : Addr} {pos : List Value} {kw : List (Str × Value)} {Q : Value → Hp → Prop} (hm : makesIn (kopf.heap_39 c.w.params) C = true) (hi : findIn (kopf.heap_39 c.w.params) (.ref C) "__init__" = some (some (.ref fI))) (hf : typeIn (kopf.heap_39 c.w.params) (.ref fI) = some (.type "function"))
    (h : ∀ (x dx : Addr) (A' : Around), A'.depth = A.depth + 1 → A'.handled = A.handled → TC c A' ((x, PInst C dx) :: (dx, PDS c.w [] 0) :: Δ) (.call (.ref fI) ⟨.ref x :: pos, kw⟩) (fun r Δ' => match r with | .ok (.ret v) => v = .none ∧ Q (.ref x) Δ' | .ok _ => False | .error e => E e Δ')) : T c A Δ (call (.ref C) pos kw) Q E := T.call_of fun s hs => by
  obtain ⟨hh, g, d, t, os⟩ := s
  have S1 := (hs.push (P := PDS c.w [] 0) (o := emptyDict) ⟨#[], ⟨rfl, rfl, rfl⟩, rfl, fun e he => (by simp at he), ⟨rfl, fun p hp => (by simp at hp)⟩, List.nodup_nil⟩ (n := t))
  have S2 := S1.push (P := PInst C hh.objs.size) (o := instObj C hh.objs.size) rfl (n := t)
  rw [Heap.size_push] at S2
  refine make_core (makes_of hs.kin hm) (looks_findIn hs.kin hi) (fun self => bind_fn hs.kin self hf) (.inl rfl) ?_
  refine codeAny_mono (h (hh.objs.size + 1) hh.objs.size (A.under (Code.builtin "type.__call__" ⟨.ref C :: pos, kw⟩)) rfl rfl _ S2) fun r s' ⟨Δ', h', q⟩ => ?_
  rcases r with e | (v | _ | _ | _) <;> first | exact ⟨Δ', h', q⟩ | exact q.elim | exact ⟨q.1, Δ', h', q.2⟩
end
end Mine
end
/-! TlD -/
section
open PySem PySem.W PyProof.Rows PySem.Calls
set_option maxRecDepth 100000
namespace Mine
def others (h : Heap) (a b : Addr) : List (Addr × Obj) := (List.range h.objs.size).filterMap fun i => if i = a ∨ i = b then none else (h.get? i).map fun o => (i, o)
theorem mem_others {h : Heap} {a b i : Addr} {o : Obj} : (i, o) ∈ others h a b ↔ h.get? i = some o ∧ i ≠ a ∧ i ≠ b := by
  unfold others
  rw [List.mem_filterMap]
  constructor
  · rintro ⟨j, hj, e⟩
    split at e
    · cases e
    · rename_i hn
      cases q : h.get? j with
      | none => rw [q] at e; cases e
      | some o' => rw [q] at e; cases e; exact ⟨q, fun e => hn (.inl e), fun e => hn (.inr e)⟩
  · rintro ⟨e, h1, h2⟩
    exact ⟨i, List.mem_range.mpr (Heap.lt_size e), by rw [if_neg (by rintro (q | q) <;> contradiction), e]; rfl⟩
def noHeap : Heap := { (default : Heap) with objs := #[] }
theorem noHeap_get (b : Addr) : noHeap.get? b = none := get_above (Nat.zero_le _)
section
variable {c : Cx} {A : Around} {Δ Δ' : Hp} {E : Value → Hp → Prop} {env : Env}
theorem T.slotGet {x C dx p : Addr} {sl : Array (Option Value)} {name : Str} {v : Value} {kvs ep} {i : Nat} {ex : Bool} {Q : Value → Hp → Prop} (hga : findIn (kopf.heap_39 c.w.params) (.ref C) "__getattribute__" = some (some (.builtin "object.__getattribute__"))) (hgb : findIn (kopf.heap_39 c.w.params) (.ref C) "__getattr__" = some none) (hx : (x, PSl C dx sl) ∈ Δ) (hd : (dx, PDS c.w kvs ep) ∈ Δ) (hc : isClsIn (kopf.heap_39 c.w.params) C = true)
    (ha : findIn (kopf.heap_39 c.w.params) (.ref C) name = some (some (.ref p))) (hn : specialIn (kopf.heap_39 c.w.params) (.ref p) "__get__" = some (some (.builtin "member_descriptor.__get__"))) (ht : takesIn (kopf.heap_39 c.w.params) (.ref p) = some true)
    (hp : slotIn (kopf.heap_39 c.w.params) p C = some i) (hv : (sl[i]?).join = some v) (hh : handedIn v = true) (h : Q v Δ) : T c A Δ (getAttr (.ref x) name ex) Q E := fun s hs => by
  obtain ⟨od, I, _, _⟩ := hs.sl hx hd
  exact get_bind hs.kin I hga (findObj_data hc ha hn ht) hgb (wpAny_call (slot_get (s := { s with toks := s.toks + 1 }) hs.kin I hp hv (handed_on hh ⟨Δ, hs.toks, h⟩)))
theorem T.slotSet {x C dx p L : Addr} {sl sl' : Array (Option Value)} {name : Str} {v : Value} {kvs ep} {i : Nat} {l : List (Str × Value)} {Q : Unit → Hp → Prop} (hsa : findIn (kopf.heap_39 c.w.params) (.ref C) "__setattr__" = some (some (.builtin "object.__setattr__"))) (hpo : plainOver (kopf.heap_39 c.w.params) C = true) (hL : (L, PFr l) ∈ Δ) (hx : Upd x (PSl C dx sl) (PSl C dx sl') Δ Δ') (hd : (dx, PDS c.w kvs ep) ∈ Δ)
    (ht : takerIn (kopf.heap_39 c.w.params) C name = some (some (.ref p))) (hT : typeIn (kopf.heap_39 c.w.params) (.ref p) = some (.type "member_descriptor")) (hi : slotIn (kopf.heap_39 c.w.params) p C = some i) (hz : i < 1000)
    (e : (sl ++ Array.replicate (i + 1 - sl.size) none).setIfInBounds i (some v) = sl') (h : Q () Δ') : T c A Δ (setAttr (.ref x) name v) Q E := fun s hs => by
  obtain ⟨od, I, _, _⟩ := hs.sl hx.mem hd
  obtain ⟨oL, eL, m, ⟨es, ep', d1, d2⟩, hl⟩ := hs.has hL
  have hxL : x ≠ L := fun q => by
    have e1 := I.at_
    rw [q, eL] at e1; cases e1; cases d1
  refine set_plain hs.kin I hsa (osa_descr (s := { s with toks := s.toks + 1 }) KF.slot_mset hs.kin I hpo ht hT (slot_set (s := { s with toks := s.toks + 1 }) (h₀ := noHeap) (L := L) (m := m) (pre := others s.heap L x) (post := []) ?_ ?_ hs.kin I hi hz ?_ ?_ (ox' := { cls := .ref C, dict := some dx, data := .plain, slots := sl' }) (by rw [← e]) rfl fun h' F' N' => ?_))
  · exact ⟨⟨oL, es, ep', eL, d1, d2⟩, fun b o q => by (rw [noHeap_get] at q; cases q), Nat.zero_le _⟩
  · intro q hq
    rcases List.mem_append.mp hq with hq | hq
    · obtain ⟨b, o⟩ := q
      obtain ⟨h1, h2, h3⟩ := mem_others.mp hq
      exact ⟨h1, h2, noHeap_get _⟩
    · rw [List.mem_singleton.mp hq]
      exact ⟨I.at_, hxL, noHeap_get _⟩
  · intro q hq
    obtain ⟨b, o⟩ := q
    exact (mem_others.mp hq).2.2
  · intro q hq; cases hq
  · have hk : ∀ b o, b ≠ L → b ≠ x → s.heap.get? b = some o → h'.get? b = some o := fun b o h1 h2 q => (N' (b, o) (List.mem_append_left _ (mem_others.mpr ⟨q, h1, h2⟩))).1
    have hx' := (N' (x, _) (List.mem_append_right _ (.head _))).1
    refine ⟨Δ', ⟨fun b o q => ?_, fun q hq => ?_, hx.keys ▸ hs.nd, hs.drawn, hs.os, hs.gens⟩, h⟩
    · refine hk b o (fun e => ?_) (fun e => ?_) (hs.keep b o q)
      · rw [e, hs.new hL] at q; cases q
      · rw [e, hs.new hx.mem] at q; cases q
    · rcases hx.of_mem hs.nd q hq with e1 | ⟨e1, e2⟩
      · subst e1
        exact ⟨⟨_, hx', rfl⟩, (hs.own _ hx.mem).2⟩
      · refine ⟨?_, (hs.own _ e1).2⟩
        obtain ⟨a, Pa⟩ := q
        by_cases haL : a = L
        · subst haL
          cases same_of_nodup hs.nd e1 hL
          obtain ⟨o', es', ep2, e', d1', d2'⟩ := F'.ns
          exact ⟨o', e', m, ⟨es', ep2, d1', d2'⟩, hl⟩
        · obtain ⟨o, e3, e4⟩ := (hs.own _ e1).1
          exact ⟨o, hk _ _ haL e2 e3, e4⟩
theorem T.lenD {K : Type} [DecidableEq K] (knd : PySem.KeyKind PG c.w K) {d : Addr} {kvs ep} {Q : Value → Hp → Prop} (hm : (d, PDict knd.is knd.hash kvs ep) ∈ Δ) (hz : kvs.length ≤ 1000) (h : ∀ t, Q (.int kvs.length t) Δ) : T c A Δ (call (.builtin "len") [.ref d]) Q E := fun s hs =>
  call_len_dict (knd := knd) (hs.noSys hm) ((PDict.at knd).mpr (hs.has hm)).dictOf (by omega) ⟨Δ, hs.toks, h _⟩
theorem T.addIntBool {a : Int} {b : Bool} {t : Tok} {Q : Value → Hp → Prop} (h : ∀ t, Q (.int (a + (if b then 1 else 0)) t) Δ) : T c A Δ (binaryOp .Add (.int a t) (.bool b)) Q E := fun s hs => add_int_bool ⟨Δ, hs.toks, by cases b <;> exact h _⟩
theorem T.eqNone {Q : Value → Hp → Prop} (h : Q (.bool true) Δ) : T c A Δ (compareOp .Eq .none .none) Q E := fun s hs => EqNone.eq_none_none ⟨Δ, hs, h⟩
end
end Mine
end
/-! TlE -/
section
open PySem PySem.W PyProof.Rows PySem.Calls
set_option maxRecDepth 100000
namespace Mine
section
variable {c : Cx} {A : Around} {Δ Δ' : Hp} {E : Value → Hp → Prop} {env : Env}
theorem ints_ext : ∀ {l : List Value} {ks : List Int}, l.length = ks.length → (∀ (i : Nat) (v : Value), l[i]? = some v → ∃ (k : Int) (t : Tok), ks[i]? = some k ∧ v = Value.int k t) → IntsAre l ks
  | [], [], _, _ => .nil
  | v :: l, k :: ks, hl, h => by
    obtain ⟨k', t, e, rfl⟩ := h 0 v rfl
    cases e
    exact .cons k t (ints_ext (by simpa using hl) fun i v e => h (i + 1) v e)
theorem items_ints {kvs : List (Int × Value)} {acc : Array Value} (h : ItemsOf (fun i v => ∃ k x, kvs[i]? = some (k, x) ∧ (intKind PG c.w).is k v = true) acc kvs.length) : IntsAre acc.toList (kvs.map (·.1)) := by
  refine ints_ext (by simp [h.1]) fun i v e => ?_
  obtain ⟨k, x, e1, e2⟩ := h.2 i v (by simpa using e)
  have : ∃ t, v = .int k t := by
    cases v <;> simp [PySem.intKind, Value.isInt] at e2
    rename_i y t
    exact ⟨t, by rw [e2]⟩
  obtain ⟨t, rfl⟩ := this
  exact ⟨k, t, by rw [List.getElem?_map, e1]; rfl, rfl⟩
/-- all that an instance of a class with __iter__ and __len__ hands out -/
theorem T.collectObj {x C fi fl d : Addr} {kvs : List (Int × Value)} {ep : Nat} {Q : List Value → Hp → Prop} (hh : A.handled = none) (hx : IsInst c Δ x C) (hsI : findIn (kopf.heap_39 c.w.params) (.ref C) "__iter__" = some (some (.ref fi))) (hfi : isFn (kopf.heap_39 c.w.params) (.ref fi) = true)
    (hsL : findIn (kopf.heap_39 c.w.params) (.ref C) "__len__" = some (some (.ref fl))) (hfl : isFn (kopf.heap_39 c.w.params) (.ref fl) = true) (hd : (d, PDI kvs ep) ∈ Δ) (hz : kvs.length ≤ 1000)
    (hIter : ∀ (A' : Around) (Δ' : Hp), A'.depth = A.depth → A'.handled = A.handled → (∀ p ∈ Δ, p ∈ Δ') → T c A' Δ' (call (.ref fi) [.ref x]) (fun it Δ'' => ∃ a, it = .ref a ∧ Δ'' = (a, PKIter d 0 kvs.length ep) :: Δ') NoE)
    (hLen : ∀ (A' : Around) (Δ' : Hp), A'.depth = A.depth → A'.handled = A.handled → (∀ p ∈ Δ, p ∈ Δ') → T c A' Δ' (call (.ref fl) [.ref x]) (fun v Δ'' => (∃ t, v = .int kvs.length t) ∧ Δ'' = Δ') NoE)
    (h : ∀ vs, IntsAre vs (kvs.map (·.1)) → Q vs Δ) : T c A Δ (collect (.ref x)) Q E := fun s hs => by
  unfold collect
  refine wpAny_bind (wpAny_runValue (codeAny_builtin F.entry_proto_collect ?_))
  rw [Around.under_plainId F.plain_proto_collect _]
  show wpAny _ A.in1 (PySem.newList [] >>= fun l => again (.builtin "list.__iadd__" ⟨[l, .ref x], []⟩)) _ _ s
  refine wpAny_bind (wpAny_newObj_type ?_)
  refine wpAny_pure ⟨plainId_quiet F.plain_list_iadd _, codeAny_builtin F.entry_list_iadd ?_⟩
  rw [Around.under_plainId F.plain_list_iadd _]
  have S1 := hs.push (P := PIs { cls := .type "list", data := .seq ([] : List Value).toArray }) (o := { cls := .type "list", data := .seq ([] : List Value).toArray }) rfl (n := s.toks)
  obtain ⟨ox, od, I0, _⟩ := hs.any hx
  have hxS : s.heap.objs.size ≠ x := fun e => absurd (Heap.lt_size I0.at_) (by rw [e]; exact Nat.lt_irrefl _)
  have hx1 : IsInst c ((s.heap.objs.size, PIs { cls := .type "list", data := .seq ([] : List Value).toArray }) :: Δ) x C := by
    obtain ⟨dx, sl, kv, e, a, b⟩ := hx
    exact ⟨dx, sl, kv, e, .tail _ a, .tail _ b⟩
  obtain ⟨ox1, od1, I1, _⟩ := S1.any hx1
  have h1 : Builtin.List.listSameRef (.ref s.heap.objs.size) (.ref x) = false := by simp [Builtin.List.listSameRef, hxS]
  show wpAny _ A.in1 (Builtin.List.listExtendWith (.ref s.heap.objs.size) (.ref x) (.ref s.heap.objs.size)) _ _ _
  unfold Builtin.List.listExtendWith
  refine wpAny_bind (I1.type.here ?_)
  rw [h1, if_neg (by show ¬ ((false || false || false) = true); decide)]
  have hI := T.iterObj (A := A.in1) (E := NoE) (Q := fun it Δ' => ∃ a, it = .ref a ∧ Δ' = (a, PKIter d 0 kvs.length ep) :: (s.heap.objs.size, PIs { cls := .type "list", data := .seq ([] : List Value).toArray }) :: Δ) hx1 hsI hfi
    ((hIter A.in1 _ rfl rfl fun p hp => .tail _ hp).mono (fun it Δ' ⟨a, e1, e2⟩ => ⟨⟨d, 0, kvs.length, ep, a, e1, e2 ▸ .head _⟩, a, e1, e2⟩) fun _ _ e => e)
  refine wpAny_bind (wpAny_mono (hI _ S1) (fun it s₂ ⟨Δ₂, S2, a, e1, e2⟩ => ?_) fun _ _ ⟨_, _, q⟩ => q.elim)
  subst e1 e2
  refine wpAny_bind (wpAny_holding ?_)
  unfold Builtin.List.listLengthHint
  have hx2 : IsInst c ((a, PKIter d 0 kvs.length ep) :: (s.heap.objs.size, PIs { cls := .type "list", data := .seq ([] : List Value).toArray }) :: Δ) x C := by
    obtain ⟨dx, sl, kv, e, a, b⟩ := hx1
    exact ⟨dx, sl, kv, e, .tail _ a, .tail _ b⟩
  obtain ⟨ox2, od2, I2, _⟩ := S2.any hx2
  refine wpAny_bind (wpAny_bind (I2.type.here ((looks_findIn S2.kin hsL).here ?_)))
  dsimp only
  have hL := T.len (A := A.in1) (n := kvs.length) (E := NoE) (Q := fun v Δ' => (∃ t, v = .int kvs.length t) ∧ Δ' = (a, PKIter d 0 kvs.length ep) :: (s.heap.objs.size, PIs { cls := .type "list", data := .seq ([] : List Value).toArray }) :: Δ) hx2 hsL hfl hz
    ((hLen A.in1.in1 _ rfl rfl fun p hp => .tail _ (.tail _ hp)).mono (fun v Δ' ⟨e1, e2⟩ => ⟨e1, fun t => ⟨⟨t, rfl⟩, e2⟩⟩) fun _ _ e => e)
  refine wpAny_bind (wpAny_rule (wpAny_bind (wpAny_attempt (wpAny_mono (hL _ S2) (fun v s₃ ⟨Δ₃, S3, ⟨t, e1⟩, e2⟩ => ?_) fun _ _ ⟨_, _, q⟩ => q.elim))))
  subst e1 e2
  dsimp only
  refine wpAny_bind (m := asInt? (.int kvs.length t)) (wpAny_pure ?_)
  dsimp only
  have hlt : Builtin.List.listTooLong (Int.toNat (kvs.length : Int)) = false := by
    unfold Builtin.List.listTooLong
    have := sizeLine_eq
    simp; omega
  rw [hlt, if_neg Bool.false_ne_true]
  refine wpAny_pure ?_
  obtain ⟨oS, eS, qS⟩ := S3.has (.tail _ (.head _))
  cases qS
  have hk0 := S3.has (.head _)
  -- from here on the list is there, with some epoch
  have tail : ∀ (R : Result → Shared → Prop) (s₄ : Shared), St c ((a, PKIter d 0 kvs.length ep) :: (s.heap.objs.size, fun o => ∃ n, o = { cls := .type "list", dict := none, data := .seq #[] n, slots := #[] }) :: Δ) s₄ →
      (∀ s' acc c', St c Δ s' → s'.heap.get? s.heap.objs.size = some { cls := .type "list", dict := none, data := .seq acc c', slots := #[] } → IntsAre acc.toList (kvs.map (·.1)) → R (.ok (.ret (.ref s.heap.objs.size))) s') →
      codeAny (model PG c.w) A (.builtin "list.extend.loop" ⟨[.ref s.heap.objs.size, .ref a, .ref s.heap.objs.size], []⟩) R s₄ := by
    intro R s₄ S4 hR
    obtain ⟨oS, eS, n, qS⟩ := S4.has (.tail _ (.head _))
    subst qS
    obtain ⟨oi, ei, ci, di⟩ := S4.has (.head _)
    have hdd := S4.di (.tail _ (.tail _ hd))
    obtain ⟨od', es', ed', hx', _⟩ := id hdd
    have hne : d ≠ a := fun e => by rw [e, ei] at ed'; cases ed'; rw [hx'.1] at ci; exact absurd ci (by decide)
    have hSa : s.heap.objs.size ≠ a := fun e => by rw [e, ei] at eS; cases eS; exact absurd (show Value.type "list" = Value.type "dict_keyiterator" from ci) (by decide)
    have hSd : s.heap.objs.size ≠ d := fun e => by rw [e, ed'] at eS; cases eS; exact absurd (show Value.type "list" = Value.type "dict" from hx'.1) (by decide)
    have W := (Walks.dictKeys (prog := PG) (w := c.w) (A := A.in1) (knd := intKind PG c.w) hh a d hne kvs ep).toS
    refine codeAny_extend_loopS W (by have := sizeLine_eq; omega) s.heap.objs.size (fun hm => ?_) _ kvs.length 0 s₄ #[] n rfl (Nat.zero_le _) ⟨⟨oi, ei, ci, di⟩, hdd⟩ eS (ItemsOf.nil _) fun s' acc' c' hm hS' hacc => hR s' acc' c' ?_ hS' (items_ints hacc)
    · rcases List.mem_cons.mp hm with e | hm
      · exact hSa e
      · exact hSd (List.mem_singleton.mp hm)
    · have hnd := S4.nd
      simp only [List.map_cons, List.nodup_cons] at hnd
      have hk : ∀ b o, b ≠ s.heap.objs.size → b ≠ a → s₄.heap.get? b = some o → s'.heap.get? b = some o := fun b o h1 h2 e => hm.heap b o (fun q => by
        rcases List.mem_cons.mp q with q | q
        · exact h1 q
        · exact h2 (List.mem_singleton.mp q)) e
      refine ⟨fun b o e => hk b o (fun q => ?_) (fun q => ?_) (S4.keep b o e), fun q hq => ?_, hnd.2.2, hm.drawn.trans S4.drawn, hm.os.trans S4.os, ?_⟩
      · rw [q, S4.new (.tail _ (.head _))] at e; cases e
      · rw [q, S4.new (.head _)] at e; cases e
      · obtain ⟨⟨o, e1, e2⟩, e3⟩ := S4.own q (.tail _ (.tail _ hq))
        refine ⟨⟨o, hk _ _ (fun e => hnd.2.1 (e ▸ List.mem_map_of_mem (f := (·.1)) hq)) (fun e => hnd.1 (.tail _ (e ▸ List.mem_map_of_mem (f := (·.1)) hq))) e1, e2⟩, e3⟩
      · have := hm.gens
        rw [this]; exact S4.gens
  have fin : ∀ s₄ : Shared, St c ((a, PKIter d 0 kvs.length ep) :: (s.heap.objs.size, fun o => ∃ n, o = { cls := .type "list", dict := none, data := .seq #[] n, slots := #[] }) :: Δ) s₄ → ∀ R : Result → Shared → Prop,
      (∀ s' acc c', St c Δ s' → s'.heap.get? s.heap.objs.size = some { cls := .type "list", dict := none, data := .seq acc c', slots := #[] } → IntsAre acc.toList (kvs.map (·.1)) → R (.ok (.ret (.ref s.heap.objs.size))) s') → 
      codeAny (model PG c.w) A (.builtin "list.extend.loop" ⟨[.ref s.heap.objs.size, .ref a, .ref s.heap.objs.size], []⟩) R s₄ := fun s₄ h₄ R hR => tail R s₄ h₄ hR
  split
  · refine wpAny_bind (wpAny_rule ?_)
    refine wpAny_bind ?_
    show wpAny _ A.in1 (updateSeq s.heap.objs.size (·.push .none) >>= fun _ => updateSeq s.heap.objs.size (·.pop)) _ _ _
    refine wpAny_bind (wpAny_updateSeq eS rfl ?_)
    have hS₂ := Heap.get?_update_self (Obj.mapSeq (·.push Value.none)) eS rfl
    refine wpAny_updateSeq hS₂ rfl ?_
    have hS₃ := Heap.get?_update_self (Obj.mapSeq (·.pop)) hS₂ rfl
    refine wpAny_pure ⟨plainId_quiet F.plain_extend_loop _, fin _ (S3.upd (n := s₃.toks) (P' := fun o => ∃ n, o = { cls := .type "list", dict := none, data := .seq #[] n, slots := #[] }) (.tail .head) ((Heap.SameBut.update ..).trans (Heap.SameBut.update ..)) ⟨_, hS₃, _, rfl⟩) _ fun s' acc c' S5 hS' hi => ?_⟩
    show wpAny _ A (load s.heap.objs.size >>= _) _ _ s'
    refine wpAny_bind (wpAny_load hS' ?_)
    exact wpAny_pure ⟨Δ, S5, h _ hi⟩
  · refine wpAny_pure ⟨plainId_quiet F.plain_extend_loop _, fin _ (S3.weak (P' := fun o => ∃ n, o = { cls := .type "list", dict := none, data := .seq #[] n, slots := #[] }) (.tail .head) (fun o e => ⟨0, e⟩)) _ fun s' acc c' S5 hS' hi => ?_⟩
    show wpAny _ A (load s.heap.objs.size >>= _) _ _ s'
    refine wpAny_bind (wpAny_load hS' ?_)
    exact wpAny_pure ⟨Δ, S5, h _ hi⟩
end
end Mine
end
/-! TlF -/
section
open PySem PySem.W PyProof.Rows PySem.Calls
set_option maxRecDepth 100000
set_option maxHeartbeats 400000
namespace Mine
theorem ints_self : ∀ {l : List Value}, (∀ v ∈ l, ∃ n t, v = Value.int n t) → IntsAre l (l.map numOf)
  | [], _ => .nil
  | v :: l, h => by
    obtain ⟨n, t, rfl⟩ := h v (.head _)
    exact .cons n t (ints_self fun w hw => h w (.tail _ hw))
theorem kskOut_ints {kz : List Int} {vs out : List Value} {ns : List Int} (hi : IntsAre vs ns) (hl : kz.length = vs.length) (k : KskOut true kz vs out) : ∃ ns' : List Int, IntsAre out ns' ∧ ns'.Perm ns := by
  obtain ⟨ps, hp, rfl, _⟩ := k
  have h1 : (ps.map Prod.snd).Perm vs := by
    have := hp.map Prod.snd
    rwa [List.map_snd_zip (by omega)] at this
  refine ⟨_, ints_self fun v hv => hi.all v (h1.mem_iff.mp hv), ?_⟩
  have := h1.map numOf
  rwa [hi.nums] at this
section
variable {c : Cx} {A : Around} {Δ Δ' : Hp} {E : Value → Hp → Prop} {env : Env}
abbrev SL (xs : Array Value) (n : Nat) : Pr := PIs (seqObj "list" xs n)
theorem kskTail {s : Shared} {kS a : Addr} {kz ns : List Int} {vs : List Value} {keys : Array Value} {e e1 : Nat} {st : SortSt} {G : PySem.Fin → Shared → Prop} {E' : Value → Shared → Prop} (hs : St c ((kS, SL keys e) :: (a, SL #[] e1) :: Δ) s) (hk : IntsAre keys.toList kz) (hi : IntsAre vs ns) (hlen : kz.length = vs.length) (h64 : vs.length < 64)
    (hp : (arrOf st).Perm (keys.zip vs.toArray)) (hst : SortedTo (arrOf st) (arrOf st).size) (hfl : failedOf st = none)
    (h : ∀ s' ns', St c ((a, PInts ns') :: Δ) s' → ns'.Perm ns → G (.done (.ret .none)) s') : wpAny (model PG c.w) A (ksk_tail a true e1 (.ref kS) st) G E' s := by
  have hsz : keys.size = vs.length := by
    have h1 := hk.length
    rw [Array.length_toList] at h1
    omega
  have hsz2 : (arrOf st).size = vs.length := by rw [hp.size_eq, Array.size_zip, hsz, List.size_toArray, Nat.min_self]
  obtain ⟨o1, k1, q1⟩ := hs.has (.head _)
  cases q1
  have S1 := hs.upd (P' := fun _ => True) .head (Heap.SameBut.update s.heap kS (Obj.mapSeq fun _ => (#[] : Array Value))) ⟨_, get?_update_seq k1 fun _ => #[], trivial⟩ (n := s.toks)
  obtain ⟨o2, k2, q2⟩ := S1.has (.tail _ (.head _))
  cases q2
  have k2' : (s.heap.update kS (Obj.mapSeq fun _ => (#[] : Array Value))).get? a = some (seqObj "list" #[] e1) := k2
  generalize hout : (((arrOf st).map (·.2)).reverse : Array Value) = out
  have hos : out.size = vs.length := by rw [← hout, Array.size_reverse, Array.size_map, hsz2]
  have hx := get?_update_seq k2' (fun _ => out)
  generalize (if ((fun _ : Array Value => out) #[]).size == (#[] : Array Value).size then e1 else e1 + 1) = c2 at hx
  have S2 : St c ((kS, fun _ => True) :: (a, SL out c2) :: Δ) { s with heap := (s.heap.update kS (Obj.mapSeq fun _ => (#[] : Array Value))).update a (Obj.mapSeq fun _ => out) } :=
    St.upd (s := { s with heap := s.heap.update kS (Obj.mapSeq fun _ => (#[] : Array Value)) }) (P' := SL out c2) S1 (.tail .head) (Heap.SameBut.update _ a (Obj.mapSeq fun _ => out)) ⟨_, hx, rfl⟩ (n := s.toks)
  unfold ksk_tail
  try dsimp only
  simp only [if_true, hout]
  refine wpAny_bind (listUpdate_at k1 rfl ?_ (by rw [hsz, sizeLine_eq]; omega) (Nat.zero_le _))
  refine wpAny_bind (wpAny_letGo ?_)
  refine wpAny_bind (seqEpoch_at k2' rfl ?_)
  refine wpAny_bind (listUpdate_at k2' rfl ?_ (Nat.zero_le _) (by rw [hos, sizeLine_eq]; omega))
  rw [hfl]
  simp only [bne_self_eq_false, Bool.false_eq_true, if_false]
  obtain ⟨ns', n1, n2⟩ := kskOut_ints hi hlen (ksk_out (b := true) hk hp hst)
  rw [if_pos rfl, hout] at n1
  refine wpAny_pure (h _ ns' ?_ n2)
  refine (S2.drop (List.sublist_cons_self _ _)).weak .head fun o q => ?_
  cases q
  exact ⟨_, c2, by simp [seqObj], n1⟩
theorem kskEnd {s : Shared} {kS a : Addr} {kz ns : List Int} {vs : List Value} {keys : Array Value} {e e1 : Nat} {G : PySem.Fin → Shared → Prop} {E' : Value → Shared → Prop} (hs : St c ((kS, SL keys e) :: (a, SL #[] e1) :: Δ) s) (hk : IntsAre keys.toList kz) (hi : IntsAre vs ns) (hlen : kz.length = vs.length) (h64 : vs.length < 64)
    (h : ∀ s' ns', St c ((a, PInts ns') :: Δ) s' → ns'.Perm ns → G (.done (.ret .none)) s') : wpAny (model PG c.w) A (ksk_end a true vs.toArray e1 (.ref kS) keys) G E' s := by
  have hsz : keys.size = vs.length := by
    have h1 := hk.length
    rw [Array.length_toList] at h1
    omega
  have hzs : (keys.zip vs.toArray).size = vs.length := by rw [Array.size_zip, hsz, List.size_toArray, Nat.min_self]
  have hstart : ((keys.zip vs.toArray).reverse).Perm (keys.zip vs.toArray) := Array.perm_iff_toList_perm.mpr (by rw [Array.toList_reverse]; exact List.reverse_perm _)
  unfold ksk_end
  try dsimp only
  refine wpAny_bind (wpAny_rule ?_)
  by_cases h2 : vs.toArray.size < 2
  · rw [if_pos h2, if_pos h2]
    refine wpAny_bind (wpAny_pure ?_)
    rw [StateT.run_pure]
    refine wpAny_bind (wpAny_pure ?_)
    try dsimp only
    refine kskTail (st := SortSt.mk' general' (keys.zip vs.toArray).reverse #[] 7 none) hs hk hi hlen h64 hstart ?_ rfl h
    intro i j hij hj
    have hj2 : j < (keys.zip vs.toArray).reverse.size := hj
    rw [hstart.size_eq, hzs] at hj2
    rw [List.size_toArray] at h2
    have : i = j := by omega
    subst this
    exact Int.le_refl _
  · rw [if_neg h2, if_neg h2]
    rw [List.size_toArray] at h2
    rw [ksk_kind hk (by rw [hsz]; omega)]
    refine wpAny_bind (wpAny_pure ?_)
    refine wpAny_bind (wpAny_mono (wpS_sortRuns (a₀ := keys.zip vs.toArray) (st := SortSt.mk' oneType' (keys.zip vs.toArray).reverse #[] 7 none)
      (Q := fun _ st' => (arrOf st').Perm (keys.zip vs.toArray) ∧ failedOf st' = none ∧ SortedTo (arrOf st') (keys.zip vs.toArray).size)
      (ksk_intKeys hk) ⟨hstart, rfl, rfl, rfl⟩ (by rw [hzs]; omega) (by rw [hzs]; exact h64) fun st' a1 a2 a3 => ⟨a1, a2, a3⟩) ?_ fun _ _ e => e)
    rintro ⟨⟨⟩, st'⟩ s' ⟨rfl, hp, hf, hss⟩
    try dsimp only
    exact kskTail hs hk hi hlen h64 hp (by rw [hp.size_eq]; exact hss) hf h
theorem kskRest {s : Shared} {kS a f : Addr} {ns : List Int} {vs : List Value} {e1 : Nat} {J : Hp → Prop} (hJ : J Δ) {G : PySem.Fin → Shared → Prop} (hs : St c ((kS, SL #[] 0) :: (a, SL #[] e1) :: Δ) s) (hi : IntsAre vs ns) (h64 : vs.length < 64)
    (turn : ∀ (X Δ' : Hp), J Δ' → ∀ n ∈ ns, ∀ t, T c A (X ++ Δ') (call (.ref f) [.int n t]) (fun r Δ'' => (∃ k t, r = .int k t) ∧ ∃ Δ2, J Δ2 ∧ Sb (X ++ Δ2) Δ'') NoE)
    (h : ∀ s' ns' Δ2, J Δ2 → St c ((a, PInts ns') :: Δ2) s' → ns'.Perm ns → G (.done (.ret .none)) s') : wpAny (model PG c.w) A (ksk_rest a (.ref f) true vs.toArray e1 (.ref kS)) G (Lf c E) s := by
  unfold ksk_rest
  have hlen := hi.length
  refine wpAny_bind (wpAny_rule ?_)
  first
    | rw [List.forIn_toArray]
    | (rw [← Array.forIn_toList]; simp only [List.toList_toArray])
  refine wpAny_bind (ksk_fold (fun i s' => ∃ kA e kz Δ2, J Δ2 ∧ St c ((kS, SL kA e) :: (a, SL #[] e1) :: Δ2) s' ∧ IntsAre kA.toList kz ∧ kz.length = i ∧ i ≤ vs.length) vs 0 s ⟨#[], 0, [], Δ, hJ, hs, IntsAre.nil, rfl, Nat.zero_le _⟩ ?step ?done)
  case step =>
    rintro j x s' hx ⟨kA, e, kz, Δ2, hJ2, hs', hk, hkl, hle⟩
    simp only [Nat.zero_add] at hkl ⊢
    have hj : j < vs.length := (List.getElem?_eq_some_iff.mp hx).1
    obtain ⟨n, t, rfl, hn⟩ := IntsAre.at hi j x hx
    have hz : kA.size ≤ vs.length := by
      have h1 := hk.length
      rw [Array.length_toList] at h1
      omega
    refine wpAny_bind (wpAny_attempt (wpAny_mono (turn [(kS, SL kA e), (a, SL #[] e1)] Δ2 hJ2 n (List.mem_of_getElem? hn) t s' hs') (fun v s'' ⟨Δ'', h'', ⟨k, t2, e1'⟩, Δ3, hJ3, hsb⟩ => ?_) fun _ _ ⟨_, _, q⟩ => q.elim))
    subst e1'
    replace h'' : St c ((kS, SL kA e) :: (a, SL #[] e1) :: Δ3) s'' := h''.sb hsb
    try dsimp only
    obtain ⟨o1, k1, q1⟩ := h''.has (.head _)
    cases q1
    have ea : (kA.push (Value.int k t2)).toList = kA.toList ++ [Value.int k t2] := by simp
    refine wpAny_bind (listUpdate_at k1 rfl ?_ (by rw [sizeLine_eq]; omega) (Nat.le_trans (Nat.le_of_eq (Array.size_push ..)) (by rw [sizeLine_eq]; omega)))
    obtain ⟨c2, hc2⟩ : ∃ c2, (s''.heap.update kS (Obj.mapSeq (·.push (.int k t2)))).get? kS = some (seqObj "list" (kA.push (.int k t2)) c2) := ⟨_, get?_update_seq k1 (·.push (.int k t2))⟩
    refine wpAny_pure ⟨rfl, kA.push (.int k t2), c2, kz ++ [k], Δ3, hJ3, h''.upd (P' := SL (kA.push (.int k t2)) c2) .head (Heap.SameBut.update ..) ⟨_, hc2, rfl⟩ (n := s''.toks), by rw [ea]; exact ksk_snoc hk, by simp [hkl], by omega⟩
  case done =>
    rintro s' ⟨kA, e, kz, Δ2, hJ2, hs', hk', hkl, hle⟩
    obtain ⟨o1, k1, q1⟩ := hs'.has (.head _)
    cases q1
    try dsimp only
    refine wpAny_bind (listItems_at k1 rfl ?_)
    exact kskEnd hs' hk' hi (by omega) h64 fun s' ns' => h s' ns' Δ2 hJ2
theorem T.sortedKey {x : Value} {f : Addr} {ns : List Int} {Q : Value → Hp → Prop} (J : Hp → Prop) (hJ : J Δ) (h64 : ns.length < 64)
    (hcol : T c A.in1 Δ (collect x) (fun vs Δ' => IntsAre vs ns ∧ Δ' = Δ) NoE)
    (turn : ∀ (A' : Around) (X Δ' : Hp), A'.depth = A.depth → A'.handled = A.handled → J Δ' → ∀ n ∈ ns, ∀ t, T c A' (X ++ Δ') (call (.ref f) [.int n t]) (fun r Δ'' => (∃ k t, r = .int k t) ∧ ∃ Δ2, J Δ2 ∧ Sb (X ++ Δ2) Δ'') NoE)
    (h : ∀ l ns' Δ2, J Δ2 → List.Perm ns' ns → Q (.ref l) ((l, PInts ns') :: Δ2)) : T c A Δ (call (.builtin "sorted") [x] [("key", .ref f), ("reverse", .bool true)]) Q E := fun s hs => by
  refine call_function_entry_kw kind_sorted plain_sorted entry_sorted (ksk_s2 _ _ _) ?_
  unfold Builtin.«sorted»
  refine wpAny_bind (m := checkCount "sorted" 1 1 _) (wpAny_pure ?_)
  refine wpAny_bind (wpAny_mono (hcol s hs) (fun vs s₁ ⟨Δ₁, h₁, hi, e⟩ => ?_) fun _ _ ⟨_, _, q⟩ => q.elim)
  subst e
  have hl := hi.length
  refine wpAny_bind (wpAny_newList ?_ (by rw [sizeLine_eq]; omega))
  have S1 := h₁.push (P := SL vs.toArray 0) (o := { cls := .type "list", data := .seq vs.toArray }) rfl (n := s₁.toks)
  obtain ⟨o1, k1, q1⟩ := S1.has (.head _)
  cases q1
  refine wpAny_bind (wpAny_holding (wpAny_call_entry_kw slot_list_sort ⟨_, k1, rfl⟩ entry_list_sort ?body (ksk_l2 _ _ _)))
  case body =>
    show wpAny (model PG c.w) A.in1.in1 (Builtin.«list.sort» ⟨[.ref s₁.heap.objs.size], [("key", .ref f), ("reverse", .bool true)]⟩) _ _ _
    rw [show Builtin.«list.sort» ⟨[.ref s₁.heap.objs.size], [("key", .ref f), ("reverse", .bool true)]⟩ = ksk_tree s₁.heap.objs.size (.ref f) true from ksk_t2 _ _ _]
    unfold ksk_tree
    refine wpAny_bind (listItems_at k1 rfl ?_)
    obtain ⟨e1, he1⟩ : ∃ e1, ((s₁.heap.push { cls := .type "list", data := .seq vs.toArray }).update s₁.heap.objs.size (Obj.mapSeq fun _ => (#[] : Array Value))).get? s₁.heap.objs.size = some (seqObj "list" #[] e1) := ⟨_, get?_update_seq k1 fun _ => #[]⟩
    have S3 := S1.upd (P' := SL #[] e1) .head (Heap.SameBut.update _ _ (Obj.mapSeq fun _ => (#[] : Array Value))) ⟨_, he1, rfl⟩ (n := s₁.toks)
    refine wpAny_bind (listUpdate_at k1 rfl ?_ (by rw [List.size_toArray, sizeLine_eq]; omega) (Nat.zero_le _))
    refine wpAny_bind (seqEpoch_at he1 rfl ?_)
    refine wpAny_bind (wpAny_newTuple ?_ (by show vs.length ≤ _; rw [sizeLine_eq]; omega))
    refine wpAny_bind (wpAny_newList ?_ (Nat.zero_le _))
    refine wpAny_holding ?_
    have S4 := (S3.pushG { cls := .type "tuple", data := .seq vs.toArray } (n := s₁.toks)).push (P := SL #[] 0) (o := { cls := .type "list", data := .seq ([] : List Value).toArray }) rfl (n := s₁.toks)
    refine kskRest (J := J) hJ S4 hi (by omega) (fun X Δ' hj => turn _ X Δ' rfl rfl hj) fun s' ns' Δ2 hJ2 S5 hp => ⟨_, rfl, ?_⟩
    exact wpAny_pure ⟨_, rfl, _, S5, h _ ns' Δ2 hJ2 hp⟩
end
end Mine
end
/-! TlG -/
section
open PySem PySem.W PyProof.Rows PySem.Calls
set_option maxRecDepth 100000
namespace Mine
section
variable {c : Cx} {A : Around} {Δ Δ' : Hp} {E : Value → Hp → Prop} {env : Env}
theorem T.peek {α : Type} {t : Sem α} {r : α} {Q : α → Hp → Prop} (e : ∀ S, PySem.W.peek (kopf.heap_39 c.w.params) S t = some r) (h : Q r Δ) : T c A Δ t Q E := fun s hs => (Looks.of_peek (M := model PG c.w) hs.kin (e _)).here ⟨Δ, hs, h⟩
theorem T.peekA {α : Type} {o : Obj} (hf : o.isFreed = false) {Q : α → Hp → Prop} : ∀ {t : Sem α} {g : Addr → Sem α}, PySem.W.peekA (kopf.heap_39 c.w.params) ⟨(model PG c.w).prog, (model PG c.w).w.params⟩ t = some (o, g) →
    (∀ D, T c A ((D, PIs o) :: Δ) (g D) Q E) → T c A Δ t Q E := by
  intro t
  induction t with
  | rule _ k ih => intro g e hg s hs Γ p hΓ; exact ih () e hg s hs Γ p hΓ
  | point _ k ih => intro g e hg s hs Γ p hΓ; exact ih () e hg s hs Γ p hΓ
  | ask k ih => intro g e hg s hs Γ p hΓ; exact ih _ e hg s hs Γ p hΓ
  | load a _ k ih =>
    intro g e hg s hs Γ p hΓ
    simp only [PySem.W.peekA] at e
    split at e
    · rename_i ob ho; exact ⟨ob, hs.kin _ _ ho, ih ob e hg s hs Γ p hΓ⟩
    · cases e
  | alloc ob k _ =>
    intro g e hg s hs
    obtain ⟨e1, e2⟩ := Prod.mk.inj (Option.some.inj e)
    subst e1
    subst e2
    intro Γ p hΓ
    exact hg _ _ (hs.push (P := PIs ob) rfl hf (n := s.toks)) Γ p hΓ
  | _ => intro g e; cases e
/-- a call of a def, its defaults read -/
theorem T.callK {f : Addr} {name qual : Str} {params : Arguments} {body : List Stmt} {scope : Scope} {dV kV doc pm cdv ct oc : Value} {an od : Option Addr} {sl : Array (Option Value)} {pos : List Value} {kw : List (Str × Value)} {binds : List (Str × Value)} {Q : Value → Hp → Prop}
    (l : List (Str × Value)) (cs : Addr → Hp)
    (hk : (kopf.heap_39 c.w.params).lookup f = some ⟨oc, od, .func (fnOf name qual params body scope dV kV doc pm an cdv ct), sl⟩) (hcd : codeIn (kopf.heap_39 c.w.params) cdv qual = true) (hroom : A.depth < recursionLimit)
    (hb : ∀ S, PySem.W.peek (kopf.heap_39 c.w.params) S (bindArgs (fnOf name qual params body scope dV kV doc pm an cdv ct) ⟨pos, kw⟩) = some binds)
    (h1 : (binds.all fun y => scope.names.lookup y.1 == some .local || scope.names.lookup y.1 == some .cell) = true)
    (h2 : ∀ L, ∀ p ∈ l, bindL (mkEnv qual scope L (cellsFrom (L + 1) scope.names []) f cdv).kindOf binds (fun _ => none) p.1 = some p.2)
    (h3 : ∀ L, cellsHp scope.names (bindC (mkEnv qual scope L (cellsFrom (L + 1) scope.names []) f cdv).kindOf binds fun _ => none) L ++ Δ = cs L)
    (hnd : ((cellsFrom 0 scope.names []).map (·.1)).Nodup)
    (hco : scope.isCoroutine = false) (hgen : scope.isGenerator = false) (hkd : scope.kind = .function)
    (h : ∀ (L : Addr) (A' : Around), A'.depth = A.depth + 1 → A'.handled = A.handled → A'.units = A.units + 3 → T c A' ((L, PFr l) :: cs L) (execs body (mkEnv qual scope L (cellsFrom (L + 1) scope.names []) f cdv))
        (fun fl Δ₂ => ∃ Δ₃, List.Sublist Δ₃ Δ₂ ∧ Q (retv fl) Δ₃) NoE) : TC c A Δ (.call (.ref f) ⟨pos, kw⟩) (fun r Δ' => match r with | .ok (.ret v) => Q v Δ' | .ok _ => False | .error e => E e Δ') :=
  T.callG hk hcd hroom (T.peek hb ⟨h1, l, _, h2, fun _ => rfl, fun L => (h3 L).symm ▸ h L _ rfl rfl rfl⟩) hnd hco hgen hkd
theorem T.iterCall {d : Addr} {kvs : List (Int × Value)} {ep : Nat} {Q : Value → Hp → Prop} (hm : (d, PDI kvs ep) ∈ Δ) (h : ∀ it, Q (.ref it) ((it, PKIter d 0 kvs.length ep) :: Δ)) : T c A Δ (call (.builtin "iter") [.ref d]) Q E := fun s hs => by
  refine call_function_entry (by decide +kernel) (by decide +kernel) kdk_entry_iter (kdk_args_iter _) ?_
  unfold Builtin.«iter»
  refine wpAny_bind (m := someArgs "iter" 1 2 _) (wpAny_of_eq (a := [Value.ref d]) (by first | rfl | kernel_rfl!) ?_)
  show wpAny _ _ (PySem.pyIter (.ref d) >>= _) _ _ _
  refine wpAny_bind (wpAny_pyIter_dict (hs.noSys hm) (hs.di hm) ?_)
  exact wpAny_pure ⟨_, rfl, _, hs.push ⟨rfl, rfl⟩ (n := s.toks), h _⟩
end
end Mine
end
/-! TlI -/
section
open PySem PySem.W PyProof.Rows PySem.Calls
set_option maxRecDepth 100000
namespace Mine
section
variable {c : Cx} {A : Around} {Δ Δ' : Hp} {E : Value → Hp → Prop} {env : Env}
theorem PDM.parts {w : World} {kvs : List (Str × Value)} {ep : Nat} {o : Obj} (x : PDM w kvs ep o) : o.cls = .type "dict" ∧ o.dict = none ∧ ∃ es, o.data = .dict es ep ∧ KeysOf (PySem.strKind PG w) es ∧ Pairs (PySem.strKind PG w) es.toList kvs ∧ (kvs.map (·.1)).Nodup := by
  obtain ⟨⟨es, ⟨h1, h2, _⟩, hd, hk, hp, hn⟩, _⟩ := x
  exact ⟨h1, h2, es, hd, hk, (pairs_iff (PySem.strKind PG w)).mpr hp, hn⟩
theorem PDM.mk {w : World} {kvs : List (Str × Value)} {ep : Nat} {o : Obj} {es : Array DictEntry} (h1 : o.cls = .type "dict") (h2 : o.dict = none) (hd : o.data = .dict es ep) (hk : KeysOf (PySem.strKind PG w) es) (hp : Pairs (PySem.strKind PG w) es.toList kvs) (hn : (kvs.map (·.1)).Nodup) (hs : o.slots.isEmpty = false) : PDM w kvs ep o :=
  ⟨⟨es, ⟨h1, h2, rfl⟩, hd, hk, (pairs_iff (PySem.strKind PG w)).mp hp, hn⟩, hs⟩
/-- a method of a dict -/
theorem T.mDict {d : Addr} {name : Str} {id : String} {P : Pr} {pl : Sem Bool} {Q : Value × List Value → Hp → Prop} (hm : (d, P) ∈ Δ) (hi : ∀ o, P o → o.cls = .type "dict" ∧ o.dict = none) (slot : Slot "dict" name id) (hty : typeOf (.builtin id) = pure (.type "method_descriptor")) (h : Q (.builtin id, [.ref d]) Δ) : T c A Δ (getMethod (.ref d) name pl) Q E := fun s hs => by
  obtain ⟨o, e, p⟩ := hs.has hm
  exact getMethod_builtin ⟨o, e, (hi o p).1⟩ PySem.F.plainAttrs_dict slot hty (fun a ea => by cases ea; exact ⟨o, e, (hi o p).2⟩) ⟨Δ, hs, h⟩
theorem PDM.is {w kvs ep} {o : Obj} (h : PDM w kvs ep o) : o.cls = .type "dict" ∧ o.dict = none := ⟨h.parts.1, h.parts.2.1⟩
theorem PDict.is {K : Type} [DecidableEq K] {ik : K → Value → Bool} {hash : K → Int} {kvs ep} {o : Obj} (h : PDict ik hash kvs ep o) : o.cls = .type "dict" ∧ o.dict = none := let ⟨_, ⟨a, b, _⟩, _⟩ := h; ⟨a, b⟩
theorem findM {w : World} {es : Array DictEntry} {kvs : List (Str × Value)} {k : Str} (hp : Pairs (PySem.strKind PG w) es.toList kvs) :
    (es.findIdx? fun e => (PySem.strKind PG w).is k e.key) = kvs.findIdx? fun kv => decide (kv.1 = k) := by
  rw [← hp.findIdx k]; obtain ⟨l⟩ := es; simp
theorem dictGetM {s : Shared} {d : Addr} {kvs ep} {k : Str} {t : Tok} {G : Option Value → Shared → Prop} {E' : Value → Shared → Prop} (hs : St c Δ s) (hm : (d, PDM c.w kvs ep) ∈ Δ) (h : G (valueAt kvs k) { s with toks := s.toks + 1 }) : wpAny (model PG c.w) A (dictGet d (.str k t)) G E' s := by
  obtain ⟨o, ho, p⟩ := hs.has hm
  obtain ⟨h1, h2, es, hd, hk, hp, hn⟩ := p.parts
  have hkey : (PySem.strKind PG c.w).is k (.str k t) = true := by rw [show (PySem.strKind PG c.w).is = Value.isStrOf from rfl, isStrOf_isStr]; exact beq_self_eq_true k
  unfold dictGet
  try with_reducible refine wpAny_holding ?_
  refine wpAny_bind ((PySem.strKind PG c.w).pyHash hkey (wpAny_bind (wpAny_dictFind_of (s := { s with toks := s.toks + 1 }) hkey ho hd hk ?_)))
  have hv : findBy (PySem.strKind PG c.w).is es k = valueAt kvs k := by
    rw [← hp.find k]
    obtain ⟨l⟩ := es
    simp [findBy]
  rw [← hv, findBy_of_findIdx?] at h
  cases hi : es.findIdx? fun e => (PySem.strKind PG c.w).is k e.key with
  | none => rw [hi] at h; exact wpAny_pure h
  | some i => rw [hi] at h; exact wpAny_bind (wpAny_dictEntries (s := { s with toks := s.toks + 1 }) ho hd (wpAny_pure h))
theorem T.dgetM {d : Addr} {kvs ep} {k : Str} {t : Tok} {dflt : Value} {Q : Value → Hp → Prop} (hm : (d, PDM c.w kvs ep) ∈ Δ) (h : Q ((valueAt kvs k).getD dflt) Δ) : T c A Δ (call (.builtin "dict.get") [.ref d, .str k t, dflt]) Q E := fun s hs => by
  obtain ⟨o, ho, p⟩ := hs.has hm
  refine wpAny_call_entry PySem.F.slot_dict_get ⟨o, ho, p.is.1⟩ PySem.F.entry_dict_get ?_ (PySem.F.args_dict_get_3 _ _ _)
  show wpAny _ _ (Builtin.Dict.keyAndDefault "get" ⟨[.ref d, .str k t, dflt], []⟩ >>= _) _ _ s
  show wpAny _ _ (dictGet d (.str k t) >>= _) _ _ s
  refine wpAny_bind (dictGetM hs hm ?_)
  cases hf : valueAt kvs k with
  | some v =>
    rw [hf] at h
    exact wpAny_pure ⟨v, rfl, Δ, hs.toks, h⟩
  | none =>
    rw [hf] at h
    show wpAny _ _ (Builtin.Dict.missed d (.str k t) >>= _) _ _ _
    exact wpAny_bind (wpAny_missed_other (hs.noSys hm) (wpAny_pure ⟨dflt, rfl, Δ, hs.toks, h⟩))
theorem T.setItemM {d : Addr} {kvs ep} {k : Str} {t : Tok} {v : Value} {Q : Unit → Hp → Prop} {Δ' : Nat → Hp} (hu : ∀ ep', Upd d (PDM c.w kvs ep) (PDM c.w (stored kvs k v) ep') Δ (Δ' ep')) (hz : kvs.length ≤ sizeLine)
    (h : ∀ ep', Q () (Δ' ep')) : T c A Δ (setItem (.ref d) (.str k t) v) Q E := fun s hs => by
  obtain ⟨o, ho, p⟩ := hs.has (hu 0).mem
  obtain ⟨h1, h2, es, hd, hk, hp, hn⟩ := p.parts
  have hkey : (PySem.strKind PG c.w).is k (.str k t) = true := by rw [show (PySem.strKind PG c.w).is = Value.isStrOf from rfl, isStrOf_isStr]; exact beq_self_eq_true k
  have hT : s.TypeIs (.ref d) "dict" := ⟨o, ho, h1⟩
  have hes : es.size ≤ sizeLine := by
    have e1 := hp.length
    have e2 : es.toList.length = es.size := by simp
    omega
  have hidx := findM (w := c.w) (k := k) hp
  unfold setItem
  try with_reducible refine wpAny_holding ?_
  refine wpAny_bind (wpAny_sequenceKey hT (by decide) ?_)
  refine wpAny_bind (wpAny_callSpecial?_slot (name := Str.ofString "__setitem__") hT slot_dict_setitem
    (wpAny_call_entry slot_dict_setitem hT entry_dict_setitem ?_ (args_dict_setitem _ _ _)))
  show wpAny _ _ (Builtin.Dict.notOrdered "__setitem__" ⟨[.ref d, .str k t, v], []⟩ >>= _) _ _ s
  refine wpAny_bind (wpAny_notOrdered_dict hT ?_)
  show wpAny _ _ (dictSet d (.str k t) v >>= _) _ _ s
  have fin : ∀ (h' : Heap), Heap.SameBut d s.heap h' → (∃ ep' o', h'.get? d = some o' ∧ PDM c.w (stored kvs k v) ep' o') → Lf c Q () { s with heap := h', toks := s.toks + 1 } := fun h' sb ⟨ep', q⟩ => ⟨_, hs.upd (hu ep') sb q, h ep'⟩
  refine wpAny_bind ?_
  unfold dictSet
  try with_reducible refine wpAny_holding ?_
  refine wpAny_bind ((PySem.strKind PG c.w).pyHash hkey ?_)
  unfold dictSetHashed
  try with_reducible refine wpAny_holding ?_
  refine wpAny_bind (wpAny_dictFind_of (s := { s with toks := s.toks + 1 }) hkey ho hd hk ?_)
  cases hi : es.findIdx? fun e => (PySem.strKind PG c.w).is k e.key with
  | some i =>
    refine wpAny_bind (wpAny_rule (wpAny_bind (wpAny_updateDict (s := { s with toks := s.toks + 1 }) ho hd (wpAny_point (wpAny_pure ⟨.none, rfl, wpAny_pure (fin _ (Heap.SameBut.update ..) ⟨ep, _, Heap.get?_update_self _ ho (Obj.isFreed_of_dict (Obj.data_mapDict hd _)), ?_⟩)⟩)))))
    obtain ⟨oc, odi, oda, osl⟩ := o
    dsimp only at h1 h2 hd
    subst h1 h2 hd
    refine PDM.mk rfl rfl (Obj.data_mapDict rfl _) (hk.modify i v) ?_ ?_ p.2
    · rw [stored, if_pos (any_of_findIdx_some (hidx ▸ hi))]
      have hl : (es.toList.findIdx? fun e => (PySem.strKind PG c.w).is k e.key) = some i := by rw [← hi]; obtain ⟨l⟩ := es; simp
      have := hp.modify hn hl v
      obtain ⟨l⟩ := es
      simpa using this
    · rw [stored, if_pos (any_of_findIdx_some (hidx ▸ hi)), keys_map_store]; exact hn
  | none =>
    have hnot : k ∉ kvs.map (·.1) := not_mem_of_findIdx_none (hidx ▸ hi)
    have hany : ¬ (kvs.any fun kv => decide (kv.1 = k)) = true := by
      rw [List.any_eq_true]; rintro ⟨kv, hkv, he⟩
      exact hnot (List.mem_map.mpr ⟨kv, hkv, of_decide_eq_true he⟩)
    refine wpAny_bind (wpAny_rule (wpAny_updateDictKeys (hz := hes) (s := { s with toks := s.toks + 1 }) ho hd (wpAny_pure ⟨.none, rfl, wpAny_pure (fin _ (Heap.SameBut.update ..) ⟨ep + 1, _, Heap.get?_update_self _ ho (Obj.isFreed_of_dict (Obj.data_mapDictKeys hd _)), ?_⟩)⟩)))
    obtain ⟨oc, odi, oda, osl⟩ := o
    dsimp only at h1 h2 hd
    subst h1 h2 hd
    refine PDM.mk rfl rfl (Obj.data_mapDictKeys rfl _) (hk.push hkey _) ?_ ?_ p.2
    · rw [stored, if_neg hany]
      have := hp.append hkey ((PySem.strKind PG c.w).hash k) v
      obtain ⟨l⟩ := es
      simpa using this
    · rw [stored, if_neg hany, List.map_append, List.nodup_append]
      refine ⟨hn, by simp, ?_⟩
      intro a ha b hb
      simp only [List.map_cons, List.map_nil, List.mem_singleton] at hb
      subst hb
      exact fun e => hnot (e ▸ ha)
end
end Mine
end
/-! TlJ -/
section
open PySem PySem.W PyProof.Rows PySem.Calls Builtin Builtin.ObjectAttr
set_option maxRecDepth 100000
namespace Mine
theorem kind_hasattr : builtinKind "hasattr" = none := by decide +kernel
theorem plain_hasattr : plainId "hasattr" = true := by decide +kernel
theorem entry_hasattr : entryFor table "hasattr" = some Builtin.«hasattr» := entryFor_of_tree (by kernel_rfl)
theorem args_hasattr (a b : Value) : argsOk "hasattr" ⟨[a, b], []⟩ := by unfold argsOk; kernel_rfl
def clsNm (K : Frag) (C : Addr) : Option Str := (clsIn K C).map (·.name)
theorem findObj_none {K : Frag} {C : Addr} {od : Obj} {name : Str} (hh : hasDictIn K C = true) (ha : findIn K (.ref C) name = some none) (hcop : copiedNames.contains name = false) (hl : lookIn name od = some none) :
    findObj K C (some od) name = some .missing := by
  obtain ⟨cd, hc, hd⟩ := any_some hh
  unfold findObj
  have ho : PySem.W.ownOf cd (some od) name = some none := by unfold PySem.W.ownOf; rw [if_pos hd]; exact hl
  rw [hc, Option.bind_some, ha, Option.bind_some]
  have hm : name ∉ copiedNames := by simpa using hcop
  simp [ho, hm]
section
variable {c : Cx} {A : Around} {Δ Δ' : Hp} {E : Value → Hp → Prop} {env : Env}
theorem attrMiss {x C dx : Addr} {name nm : Str} {t : Tok} {kvs ep} {G : Option Value → Shared → Prop} {F : Value → Shared → Prop} {s : Shared} (hs : St c Δ s) (hA : A.handled = none) (hC : ClsOk (kopf.heap_39 c.w.params) C) (hx : (x, PInst C dx) ∈ Δ) (hd : (dx, PDM c.w kvs ep) ∈ Δ) (hv : valueAt kvs name = none)
    (ha : findIn (kopf.heap_39 c.w.params) (.ref C) name = some none) (hcop : copiedNames.contains name = false) (hnm : clsNm (kopf.heap_39 c.w.params) C = some nm)
    (hlen : (((toString "'" ++ toString nm.toString ++ toString "' object has no attribute '" : String) : Str) ++ name ++ Str.ofString "'").length ≤ sizeLine) (hsm : nm.cps.foldl (fun k c => k + (Str.utf8Of c).length) 0 ≤ 100)
    (h : ∀ s', St c Δ s' → G none s') : wpAny (model PG c.w) A (getAttrBy? (.ref x) (.str name t)) G F s := by
  obtain ⟨od, I, ho, pd⟩ := hs.instM hx hd
  have X := hs.kin
  obtain ⟨cd, hcl, hcn⟩ := Option.map_eq_some_iff.mp hnm
  unfold getAttrBy?
  have hs' := hs
  obtain ⟨hh, g, d, tk, os⟩ := s
  have L0 := I.type (M := model PG c.w)
  have L1 := looks_findIn (M := model PG c.w) X hC.ga
  have L2 := looks_find (M := model PG c.w) X I (findObj_none hC.hd ha hcop (by rw [pd.look, hv]))
  have L3 := looks_findIn (M := model PG c.w) X hC.gb
  have L5 : Looks (model PG c.w) hh (classData C) cd := looks_clsIn X hcl
  dsimp only at L0 L1 L2 L3 L5
  refine wpAny_bind (wpAny_attempt ?_)
  unfold getAttrBy
  refine wpAny_holding (wpAny_bind (L0.at (wpAny_bind (L1.at ?_))))
  show wpAny _ _ (getAttrEveryday _ _ _) _ _ _
  refine wpAny_bind (wpAny_onRaise (wpAny_runValue (codeAny_builtin PySem.F.plainObj_entry_getattr_hooked ?_)))
  refine wpAny_bind (wpAny_pure (wpAny_bind (L0.at (wpAny_bind (L2.at (wpAny_bind (L3.at ?_)))))))
  show wpAny _ _ (noSuchAttribute (.ref x) name) _ _ _
  unfold noSuchAttribute typeNameOfCut shownTypeOf typeNameCut
  repeat (first | (with_reducible show wpAny _ _ (raiseAttrError _ _ _) _ _ _; fail) | lk)
  rw [hcn, if_pos hsm]
  refine wpAny_pure (wpAny_raiseAttrError (by show A.handled = none; exact hA) (fun h' tk' e hx => ?_) hlen)
  obtain ⟨t', u', he⟩ := hx.there
  refine wpAny_pure ?_
  refine wpAny_bind (wpAny_isInstance ⟨_, he, rfl⟩ sub_AttributeError ?_)
  rw [if_pos rfl]
  exact wpAny_pure (h _ (hs'.grow hx.keeps))
theorem T.hasattrM {x C dx : Addr} {name nm : Str} {t : Tok} {kvs ep} {Q : Value → Hp → Prop} (hA : A.handled = none) (hC : ClsOk (kopf.heap_39 c.w.params) C) (hx : (x, PInst C dx) ∈ Δ) (hd : (dx, PDM c.w kvs ep) ∈ Δ) (hv : valueAt kvs name = none)
    (ha : findIn (kopf.heap_39 c.w.params) (.ref C) name = some none) (hcop : copiedNames.contains name = false) (hmod : mroIn (kopf.heap_39 c.w.params) C (.type "module") = some false) (hnm : clsNm (kopf.heap_39 c.w.params) C = some nm)
    (hlen : ∀ n : Str, n = nm → (((toString "'" ++ toString n.toString ++ toString "' object has no attribute '" : String) : Str) ++ name ++ Str.ofString "'").length ≤ sizeLine) (hsm : nm.cps.foldl (fun k c => k + (Str.utf8Of c).length) 0 ≤ 100)
    (h : Q (.bool false) Δ) : T c A Δ (call (.builtin "hasattr") [.ref x, .str name t]) Q E := fun s hs => by
  obtain ⟨od, I, ho, pd⟩ := hs.instM hx hd
  have X := hs.kin
  obtain ⟨cd, hcl, hcn⟩ := Option.map_eq_some_iff.mp hnm
  refine Calls.call_function_entry kind_hasattr plain_hasattr entry_hasattr (args_hasattr _ _) ?_
  obtain ⟨hh, g, d, tk, os⟩ := s
  have L0 := I.type (M := model PG c.w)
  have L1 := looks_findIn (M := model PG c.w) X hC.ga
  have L2 := looks_find (M := model PG c.w) X I (findObj_none hC.hd ha hcop (by rw [pd.look, hv]))
  have L3 := looks_findIn (M := model PG c.w) X hC.gb
  have L4 := looks_mroIn (M := model PG c.w) X hmod
  have L5 : Looks (model PG c.w) hh (classData C) cd := looks_clsIn X hcl
  dsimp only at L0 L1 L2 L3 L4 L5
  unfold Builtin.«hasattr»
  refine wpAny_bind (wpAny_of_eq (a := [.ref x, .str name t]) (by first | rfl | kernel_rfl) ?_)
  dsimp only
  refine wpAny_bind (wpAny_of_eq (a := ()) (by first | rfl | kernel_rfl) ?_)
  iterate 20 lk
  refine attrMiss hs (show A.in1.handled = none from hA) hC hx hd hv ha hcop hnm (hlen _ rfl) hsm fun s' h' => ?_
  rw [if_neg (by decide)]
  show wpAny _ _ (ret (.bool false)) _ _ _
  exact wpAny_pure ⟨.bool false, rfl, Δ, h', h⟩
theorem T.usualTop {x C : Addr} {name : Str} {v : Value} {attr : Option Value} {pl : Sem Bool} {Q : Value × List Value → Hp → Prop} (hC : ClsOk (kopf.heap_39 c.w.params) C) (hv : topOwn (kopf.heap_39 c.w.params) x C name = some v)
    (ha : findIn (kopf.heap_39 c.w.params) (.ref C) name = some attr) (hn : noGet (kopf.heap_39 c.w.params) attr = true) (hh : handedIn v = true)
    (ht : attr.all (fun a => (typeIn (kopf.heap_39 c.w.params) a).any fun t => t != .type "function" && t != .type "method_descriptor" && t != .type "wrapper_descriptor") = true)
    (h : Q (v, []) Δ) : T c A Δ (getMethod (.ref x) name pl) Q E := fun s hs => by
  have hg : wpAny (model PG c.w) A (getAttr (.ref x) name) (fun v s' => Lf c Q (v, []) s') (Lf c E) s := wpAny_mono (T.getTop (E := E) (Q := fun v Δ' => Q (v, []) Δ') (ex := false) hC hv ha hn hh h s hs) (fun _ _ z => z) fun _ _ z => z
  unfold topOwn at hv
  split at hv
  · rename_i C' dx sl hx
    split at hv
    · rename_i hC'
      subst hC'
      split at hv
      · rename_i od hod
        have e2 := hs.kin _ _ hod
        exact method_usual (od := some od) hs.kin ⟨hs.kin _ _ hx, rfl, rfl, e2⟩ hC.ga hC.gb ha ht hg
      · cases hv
    · cases hv
  · cases hv
end
end Mine
end
/-! TlK -/
section
open PySem PySem.W PyProof.Rows PySem.Calls
set_option maxRecDepth 100000
namespace Mine
theorem valueAt_nil {K : Type} [DecidableEq K] {k : K} : valueAt ([] : List (K × Value)) k = none := rfl
theorem valueAt_cons {K : Type} [DecidableEq K] {p : K × Value} {l : List (K × Value)} {k : K} : valueAt (p :: l) k = if p.1 = k then some p.2 else valueAt l k := by
  unfold valueAt
  rw [List.find?_cons]
  by_cases h : p.1 = k <;> simp [h]
theorem valueAt_append {K : Type} [DecidableEq K] {a b : List (K × Value)} {k : K} : valueAt (a ++ b) k = (valueAt a k).or (valueAt b k) := by
  induction a with
  | nil => simp [valueAt_nil]
  | cons p l ih =>
    rw [List.cons_append, valueAt_cons, valueAt_cons, ih]
    by_cases h : p.1 = k <;> simp [h]
theorem valueAt_upd {K : Type} [DecidableEq K] {k x : K} {v : Value} : ∀ {l : List (K × Value)}, valueAt (l.map fun kv => if kv.1 = k then (kv.1, v) else kv) x = if x = k then (valueAt l x).map (fun _ => v) else valueAt l x
  | [] => by simp [valueAt_nil]
  | p :: l => by
    rw [List.map_cons, valueAt_cons, valueAt_upd (l := l), valueAt_cons]
    by_cases h1 : p.1 = k <;> by_cases h2 : x = k <;> by_cases h3 : p.1 = x <;> simp_all
theorem any_valueAt {K : Type} [DecidableEq K] {k : K} : ∀ {l : List (K × Value)}, (l.any fun kv => kv.1 = k) = (valueAt l k).isSome
  | [] => rfl
  | p :: l => by
    rw [List.any_cons, any_valueAt (l := l), valueAt_cons]
    by_cases h1 : p.1 = k <;> simp [h1]
theorem valueAt_stored {K : Type} [DecidableEq K] {k x : K} {v : Value} {l : List (K × Value)} : valueAt (stored l k v) x = if x = k then some v else valueAt l x := by
  unfold stored
  rw [any_valueAt]
  split
  · rename_i h
    rw [valueAt_upd]
    by_cases h2 : x = k
    · subst h2
      obtain ⟨u, e⟩ := Option.isSome_iff_exists.mp h
      simp [e]
    · simp [h2]
  · rename_i h
    have h : valueAt l k = none := by simpa using h
    rw [valueAt_append, valueAt_cons, valueAt_nil]
    by_cases h2 : x = k
    · subst h2; simp [h]
    · simp [h2, Ne.symm h2]
theorem stored_length {K : Type} [DecidableEq K] {k : K} {v : Value} {l : List (K × Value)} : (stored l k v).length ≤ l.length + 1 := by
  unfold stored
  split <;> simp
/-- the neighbours of a node, as keys -/
def PNb (f : Int → Bool) (k : Nat) : Pr := fun o => ∃ kn ep, PDI kn ep o ∧ (∀ v, (valueAt kn v).isSome = f v) ∧ kn.length ≤ k
theorem PNb.nil {o : Obj} (h : PDI [] 0 o) : PNb (fun _ => false) 0 o := ⟨[], 0, h, fun _ => rfl, Nat.le_refl _⟩
/-- the attributes of a node -/
inductive NA
  | key
  | bad
  | num (k : Int)
def NA.vals : NA → List (Str × Value) → Prop
  | .key, kvs => kvs = []
  | .bad, kvs => ∃ t, kvs = [(Str.ofString "w", Value.str "5" t)]
  | .num k, kvs => ∃ t, kvs = [(Str.ofString "w", Value.int k t)]
def PAt (w : World) (a : NA) : Pr := fun o => ∃ kvs ep, PDS w kvs ep o ∧ a.vals kvs
section
variable {c : Cx} {A : Around} {Δ Δ' : Hp} {E : Value → Hp → Prop} {env : Env}
theorem St.nb {s : Shared} {d : Addr} {f k} (x : St c Δ s) (h : (d, PNb f k) ∈ Δ) : ∃ kn ep, s.heap.DictAt (intKind PG c.w) d kn ep ∧ (∀ v, (valueAt kn v).isSome = f v) ∧ kn.length ≤ k := by
  obtain ⟨o, e, kn, ep, p, q⟩ := x.has h
  exact ⟨kn, ep, (PDict.at (intKind PG c.w)).mpr ⟨o, e, p⟩, q⟩
theorem St.na {s : Shared} {d : Addr} {a : NA} (x : St c Δ s) (h : (d, PAt c.w a) ∈ Δ) : ∃ kn ep, s.heap.DictAt (PySem.strKind PG c.w) d kn ep ∧ a.vals kn := by
  obtain ⟨o, e, kn, ep, p, q⟩ := x.has h
  exact ⟨kn, ep, (PDict.at (PySem.strKind PG c.w)).mpr ⟨o, e, p⟩, q⟩
theorem isS {k : Str} {t : Tok} {c : Cx} : (PySem.strKind PG c.w).is k (.str k t) = true := by rw [show (PySem.strKind PG c.w).is = Value.isStrOf from rfl, isStrOf_isStr]; exact beq_self_eq_true k
theorem T.inNb {d : Addr} {f k} {v : Int} {t : Tok} {Q : Value → Hp → Prop} (hm : (d, PNb f k) ∈ Δ) (h : Q (.bool (f v)) Δ) : T c A Δ (compareOp .In (.int v t) (.ref d)) Q E := fun s hs => by
  obtain ⟨kn, ep, p, q, _⟩ := hs.nb hm
  exact wpAny_in_of isI (hs.noSys hm) p.dictOf.mapOf ⟨Δ, hs.toks, by rw [q]; exact h⟩
theorem T.lenNb {d : Addr} {f k} {Q : Value → Hp → Prop} (hm : (d, PNb f k) ∈ Δ) (hz : k ≤ 1000) (h : ∀ n t, Q (.int n t) Δ) : T c A Δ (call (.builtin "len") [.ref d]) Q E := fun s hs => by
  obtain ⟨kn, ep, p, q, hl⟩ := hs.nb hm
  exact call_len_dict (knd := intKind PG c.w) (hs.noSys hm) p.dictOf (by omega) ⟨Δ, hs.toks, h _ _⟩
theorem T.setNb {d : Addr} {f k} {v : Int} {t : Tok} {x : Value} {Q : Unit → Hp → Prop} (hu : Upd d (PNb f k) (PNb (fun y => decide (y = v) || f y) (k + 1)) Δ Δ') (hz : k ≤ 1000) (h : Q () Δ') : T c A Δ (setItem (.ref d) (.int v t) x) Q E := fun s hs => by
  obtain ⟨kn, ep, p, q, hl⟩ := hs.nb hu.mem
  refine wpAny_setItem_pairs isI p.dictOf (fun h' hd hs' => ?_) (by rw [sizeLine_eq]; omega)
  obtain ⟨ep', hd⟩ := hd.dictAt
  obtain ⟨o, e, r⟩ := (PDict.at (intKind PG c.w)).mp hd
  refine ⟨_, hs.upd hu hs' ⟨o, e, _, ep', r, fun y => ?_, Nat.le_trans stored_length (Nat.succ_le_succ hl)⟩, h⟩
  rw [valueAt_stored]
  by_cases e : y = v
  · simp [e]
  · simp [e, q]
theorem T.getNb {d : Addr} {f k} {v : Int} {t : Tok} {x : Value} {Q : Value → Hp → Prop} (hm : (d, PNb f k) ∈ Δ) (hf : f v = false) (h : Q x Δ) : T c A Δ (call (.builtin "dict.get") [.ref d, .int v t, x]) Q E := fun s hs => by
  obtain ⟨kn, ep, p, q, hl⟩ := hs.nb hm
  have hv : valueAt kn v = none := by
    have := q v
    rw [hf] at this
    simpa using this
  exact call_meetsIn PySem.F.slot_dict_get p.dictOf.typeIs PySem.F.entry_dict_get (PySem.F.args_dict_get_3 _ _ _) (meets_dict_get_default (intKind PG c.w) d isI (hs.noSys hm) x) ⟨_, p.dictOf.mapOf, by rw [hv]; exact ⟨Δ, hs.toks, h⟩⟩
theorem T.notInAt {d : Addr} {a : NA} {t : Tok} {Q : Value → Hp → Prop} (hm : (d, PAt c.w a) ∈ Δ) (h : Q (.bool (match a with | .key => true | _ => false)) Δ) : T c A Δ (compareOp .NotIn (.str "w" t) (.ref d)) Q E := fun s hs => by
  obtain ⟨kn, ep, p, q⟩ := hs.na hm
  refine wpAny_notIn_of isS (hs.noSys hm) p.dictOf.mapOf ⟨Δ, hs.toks, ?_⟩
  cases a with
  | key => cases q; exact h
  | bad => obtain ⟨t, rfl⟩ := q; exact h
  | num k => obtain ⟨t, rfl⟩ := q; exact h
def NA.is : NA → Value → Prop
  | .key, _ => False
  | .bad, v => ∃ t, v = .str "5" t
  | .num k, v => ∃ t, v = .int k t
theorem T.itemAt {d : Addr} {a : NA} {t : Tok} {Q : Value → Hp → Prop} (hm : (d, PAt c.w a) ∈ Δ) (ha : a ≠ .key) (h : ∀ v, a.is v → Q v Δ) : T c A Δ (getItem (.ref d) (.str "w" t)) Q E := fun s hs => by
  obtain ⟨kn, ep, p, q⟩ := hs.na hm
  cases a with
  | key => exact absurd rfl ha
  | bad => obtain ⟨u, rfl⟩ := q; exact wpAny_getItem_of isS p.dictOf.mapOf (v := .str "5" u) rfl ⟨Δ, hs.toks, h _ ⟨_, rfl⟩⟩
  | num k => obtain ⟨u, rfl⟩ := q; exact wpAny_getItem_of isS p.dictOf.mapOf (v := .int k u) rfl ⟨Δ, hs.toks, h _ ⟨_, rfl⟩⟩
/-- d.update(more), keys str -/
theorem T.updS {d o : Addr} {kvs more : List (Str × Value)} {ep ep2} {Q : Value → Hp → Prop} {Δ' : Nat → Hp} (hu : ∀ e', Upd d (PDS c.w kvs ep) (PDS c.w (merged kvs more) e') Δ (Δ' e')) (ho : (o, PDS c.w more ep2) ∈ Δ) (hne : d ≠ o) (hz : kvs.length + more.length ≤ 1000) (h : ∀ e', Q .none (Δ' e')) :
    T c A Δ (call (.builtin "dict.update") [.ref d, .ref o]) Q E := fun s hs => by
  have p := hs.ds (hu 0).mem
  have q := hs.ds ho
  refine call_meetsIn PySem.F.slot_dict_update p.dictOf.typeIs PySem.F.entry_dict_update (PySem.F.args_dict_update_2 _ _) (meets_dict_update (PySem.strKind PG c.w) d o hne (hs.noSys ho)) ⟨kvs, more, p.dictOf, q.dictOf, by rw [sizeLine_eq]; omega, fun h' hd _ sb => ?_⟩
  obtain ⟨e', r⟩ := ofDS PG hd
  exact ⟨_, hs.upd (hu e') sb r, h e'⟩
theorem T.popS {d : Addr} {kvs : List (Str × Value)} {ep} {k : Str} {t : Tok} {x : Value} {Q : Value → Hp → Prop} (hm : (d, PDS c.w kvs ep) ∈ Δ) (hv : valueAt kvs k = none) (h : Q x Δ) : T c A Δ (call (.builtin "dict.pop") [.ref d, .str k t, x]) Q E := fun s hs => by
  have p := hs.ds hm
  exact call_meetsIn PySem.F.slot_dict_pop p.dictOf.typeIs PySem.F.entry_dict_pop (PySem.F.args_dict_pop_3 _ _ _) (meets_dict_pop_default (PySem.strKind PG c.w) d isS (hs.noSys hm) rfl x) ⟨kvs, p.dictOf, hv, Δ, hs.toks, h⟩
theorem T.neMem {α : Type} {t : Sem α} {Q : α → Hp → Prop} {a b : Addr} {P P' : Pr} {Ψ : Hp} (hu : Del a P Δ Ψ) (hb : (b, P') ∈ Ψ) (h : a ≠ b → T c A Δ t Q E) : T c A Δ t Q E := fun s hs => h (fun e => hu.ne hs.nd _ hb e.symm) s hs
end
end Mine
end
/-! TlL -/
section
open PySem PySem.W PyProof.Rows PySem.Calls
set_option maxRecDepth 100000
namespace Mine
section
variable {c : Cx} {A : Around} {Δ Δ' : Hp} {E : Value → Hp → Prop} {env : Env}
theorem PDS.nil0 {w : World} {o : Obj} (h : o = { cls := .type "dict", dict := none, data := .dict #[] }) : PDS w [] 0 o := h ▸ ⟨#[], ⟨rfl, rfl, rfl⟩, rfl, fun e he => (by simp at he), ⟨rfl, fun p hp => (by simp at hp)⟩, List.nodup_nil⟩
theorem T.nsSetS {d : Addr} {name : Str} {v : Value} {kvs ep} {Q : Unit → Hp → Prop} {Δ' : Nat → Hp} (hu : ∀ e', Upd d (PDS c.w kvs ep) (PDS c.w (stored kvs name v) e') Δ (Δ' e')) (hz : kvs.length ≤ 1000) (h : ∀ e', Q () (Δ' e')) : T c A Δ (nsSet d name v) Q E := fun s hs => by
  obtain ⟨o, ho, p⟩ := hs.has (hu 0).mem
  have hN := DictAt.ns (hs.ds (hu 0).mem)
  intro Γ q hΓ
  obtain ⟨o', es, ep', ho', hd, hk, hm⟩ := hN
  rw [ho] at ho'
  cases ho'
  simp only [nsSet, strHash, Sem.wp_bind', Sem.wp_cmd_ask, Sem.wp_pure', Sem.wp_cmd_mkText]
  rw [Sem.wp_loadPart_of (model PG c.w) Γ (fun e _ s' => Lf c E e s') q { s with toks := s.toks + 1 } (o := o) _ ho]
  have hany : es.any (·.refKey) = false := by
    rw [Array.any_eq_false']
    intro e he
    obtain ⟨n, t, h⟩ := hk e he
    simp [DictEntry.refKey, h]
  simp only [hd, aRefKeyMayBeTheName_eq, aRefKeyMayBeTheNameByArray, hany, Bool.and_false, Bool.false_eq_true, if_false, Sem.wp_cmd_updatePart]
  obtain ⟨e', p'⟩ := putName_pds (name := name) (t := s.toks) (v := v) p
  have hf : (Obj.putName name (hashStr c.w name) (.str name s.toks) v o).isFreed = false := by
    obtain ⟨es', _, hd'', _⟩ := p'
    exact Obj.isFreed_of_dict hd''
  exact ⟨by rw [ho]; rfl, _, hs.upd (hu e') (Heap.SameBut.update ..) ⟨_, Heap.get?_update_self (Obj.putName name (hashStr c.w name) (.str name s.toks) v) ho hf, p'⟩, h e'⟩
/-- a call of a def that takes **kwargs: none given -/
theorem T.callP0 {f : Addr} {name qual : Str} {params : Arguments} {body : List Stmt} {scope : Scope} {dV kV doc pm cdv ct oc : Value} {an od : Option Addr} {sl : Array (Option Value)} {pos : List Value} {kw : List (Str × Value)} {binds : Addr → List (Str × Value)} {g : Addr → Sem (List (Str × Value))} {Q : Value → Hp → Prop}
    (l : Addr → List (Str × Value)) (cs : Addr → Addr → Hp)
    (hk : (kopf.heap_39 c.w.params).lookup f = some ⟨oc, od, .func (fnOf name qual params body scope dV kV doc pm an cdv ct), sl⟩) (hcd : codeIn (kopf.heap_39 c.w.params) cdv qual = true) (hroom : A.depth < recursionLimit)
    (hb : PySem.W.peekA (kopf.heap_39 c.w.params) ⟨(model PG c.w).prog, (model PG c.w).w.params⟩ (bindArgs (fnOf name qual params body scope dV kV doc pm an cdv ct) ⟨pos, kw⟩) = some ({ cls := .type "dict", data := .dict #[] }, g))
    (hg : ∀ D, g D = Pure.pure (binds D))
    (h1 : ∀ D, ((binds D).all fun y => scope.names.lookup y.1 == some .local || scope.names.lookup y.1 == some .cell) = true)
    (h2 : ∀ D L, ∀ p ∈ l D, bindL (mkEnv qual scope L (cellsFrom (L + 1) scope.names []) f cdv).kindOf (binds D) (fun _ => none) p.1 = some p.2)
    (h3 : ∀ D L, cellsHp scope.names (bindC (mkEnv qual scope L (cellsFrom (L + 1) scope.names []) f cdv).kindOf (binds D) fun _ => none) L ++ ((D, PDS c.w [] 0) :: Δ) = cs D L)
    (hnd : ((cellsFrom 0 scope.names []).map (·.1)).Nodup)
    (hco : scope.isCoroutine = false) (hgen : scope.isGenerator = false) (hkd : scope.kind = .function)
    (h : ∀ (D L : Addr) (A' : Around), A'.depth = A.depth + 1 → A'.handled = A.handled → A'.units = A.units + 3 → T c A' ((L, PFr (l D)) :: cs D L) (execs body (mkEnv qual scope L (cellsFrom (L + 1) scope.names []) f cdv))
        (fun fl Δ₂ => ∃ Δ₃, List.Sublist Δ₃ Δ₂ ∧ Q (retv fl) Δ₃) NoE) : TC c A Δ (.call (.ref f) ⟨pos, kw⟩) (fun r Δ' => match r with | .ok (.ret v) => Q v Δ' | .ok _ => False | .error e => E e Δ') :=
  T.callG hk hcd hroom (T.peekA rfl hb fun D => by
    rw [hg D]
    exact T.weak (P' := PDS c.w [] 0) .head (fun o h => PDS.nil0 h) (T.pur ⟨h1 D, l D, _, h2 D, fun _ => rfl, fun L => (h3 D L).symm ▸ h D L _ rfl rfl rfl⟩)) hnd hco hgen hkd
theorem T.callP1 {f : Addr} {name qual : Str} {params : Arguments} {body : List Stmt} {scope : Scope} {dV kV doc pm cdv ct oc : Value} {an od : Option Addr} {sl : Array (Option Value)} {pos : List Value} {kw : List (Str × Value)} {k : Str} {v : Value} {binds : Addr → List (Str × Value)} {g : Addr → Sem (List (Str × Value))} {Q : Value → Hp → Prop}
    (l : Addr → List (Str × Value)) (cs : Addr → Nat → Addr → Hp)
    (hk : (kopf.heap_39 c.w.params).lookup f = some ⟨oc, od, .func (fnOf name qual params body scope dV kV doc pm an cdv ct), sl⟩) (hcd : codeIn (kopf.heap_39 c.w.params) cdv qual = true) (hroom : A.depth < recursionLimit)
    (hb : PySem.W.peekA (kopf.heap_39 c.w.params) ⟨(model PG c.w).prog, (model PG c.w).w.params⟩ (bindArgs (fnOf name qual params body scope dV kV doc pm an cdv ct) ⟨pos, kw⟩) = some ({ cls := .type "dict", data := .dict #[] }, g))
    (hg : ∀ D, g D = (forIn [(k, v)] PUnit.unit (fun x _ => (nsSet D x.1 x.2 >>= fun _ => Pure.pure (ForInStep.yield PUnit.unit))) >>= fun _ => Pure.pure (binds D)))
    (h1 : ∀ D, ((binds D).all fun y => scope.names.lookup y.1 == some .local || scope.names.lookup y.1 == some .cell) = true)
    (h2 : ∀ D L, ∀ p ∈ l D, bindL (mkEnv qual scope L (cellsFrom (L + 1) scope.names []) f cdv).kindOf (binds D) (fun _ => none) p.1 = some p.2)
    (h3 : ∀ D e' L, cellsHp scope.names (bindC (mkEnv qual scope L (cellsFrom (L + 1) scope.names []) f cdv).kindOf (binds D) fun _ => none) L ++ ((D, PDS c.w [(k, v)] e') :: Δ) = cs D e' L)
    (hnd : ((cellsFrom 0 scope.names []).map (·.1)).Nodup)
    (hco : scope.isCoroutine = false) (hgen : scope.isGenerator = false) (hkd : scope.kind = .function)
    (h : ∀ (D L : Addr) (e' : Nat) (A' : Around), A'.depth = A.depth + 1 → A'.handled = A.handled → A'.units = A.units + 3 → T c A' ((L, PFr (l D)) :: cs D e' L) (execs body (mkEnv qual scope L (cellsFrom (L + 1) scope.names []) f cdv))
        (fun fl Δ₂ => ∃ Δ₃, List.Sublist Δ₃ Δ₂ ∧ Q (retv fl) Δ₃) NoE) : TC c A Δ (.call (.ref f) ⟨pos, kw⟩) (fun r Δ' => match r with | .ok (.ret v) => Q v Δ' | .ok _ => False | .error e => E e Δ') :=
  T.callG hk hcd hroom (T.peekA rfl hb fun D => by
    rw [hg D]
    simp only [List.forIn_cons, List.forIn_nil, bind_assoc, pure_bind]
    exact T.weak (P' := PDS c.w [] 0) .head (fun o h => PDS.nil0 h) (T.bnd (T.nsSetS (Δ' := fun e' => (D, PDS c.w [(k, v)] e') :: Δ) (fun e' => .head) (by decide) fun e' => T.pur ⟨h1 D, l D, _, h2 D, fun _ => rfl, fun L => (h3 D e' L).symm ▸ h D L e' _ rfl rfl rfl⟩))) hnd hco hgen hkd
theorem T.asSub {o i : Expr} {p' : Pos} {v : Value} {Q : Unit → Hp → Prop} (h : T c A Δ (eval o env) (fun ov Δ₂ => T c A Δ₂ (eval i env) (fun iv Δ₃ => T c A Δ₃ (setItem ov iv v) Q E) E) E) : T c A Δ (assign (.Subscript o i p') env v) Q E := fun s hs Γ p hΓ => by
  simp only [assign_Subscript, Sem.wp_bind', Sem.wp_holding, Sem.wp_cmd_standAt, Sem.wp_release, Sem.wp_pure']
  exact Sem.wp_mono _ Γ _ (fun ov p₁ s₁ ⟨Δ₁, h₁, q⟩ => Sem.wp_mono _ Γ _ (fun iv p₂ s₂ ⟨Δ₂, h₂, q⟩ => Sem.wp_mono _ Γ _ (fun _ _ s₃ q => q) (fun _ _ _ h' => h') _ _ (q s₂ h₂ Γ _ hΓ)) (fun _ _ _ h' => h') _ _ (q s₁ h₁ Γ _ hΓ)) (fun _ _ _ h' => h') _ _ (h s hs Γ _ hΓ)
theorem T.assign2 {x : Str} {p1 p2 pos : Pos} {o i value : Expr} {Q : Flow → Hp → Prop} (h : T c A Δ (eval value env) (fun v Δ₁ => T c A Δ₁ (storeName env x v) (fun _ Δ₂ => T c A Δ₂ (eval o env) (fun ov Δ₃ => T c A Δ₃ (eval i env) (fun iv Δ₄ => T c A Δ₄ (setItem ov iv v) (fun _ Δ₅ => Q .next Δ₅) E) E) E) E) E)
    (hw : swappedStores [.Name x p1, .Subscript o i p2] value env = pure none := by k_dflt rfl) : T c A Δ (exec (.Assign [.Name x p1, .Subscript o i p2] value pos) env) Q E := fun s hs =>
  wpAny_Assign_stores (wpAny_mono (h s hs) (fun v s₁ ⟨Δ₁, h₁, q⟩ => by
    show wpAny _ _ (do holding [v] (assign (.Name x p1) env v); assign (.Subscript o i p2) env v) _ _ _
    exact wpAny_bind (wpAny_holding (wpAny_mono (T.asName q s₁ h₁) (fun _ s₂ ⟨Δ₂, h₂, q⟩ => T.asSub q s₂ h₂) fun _ _ e => e))) fun _ _ e => e) rfl hw
theorem T.setDI {d : Addr} {kvs : List (Int × Value)} {ep : Nat} {k : Int} {t : Tok} {v : Value} {Q : Unit → Hp → Prop} {Δ' : Nat → Hp} (hu : ∀ ep', Upd d (PDI kvs ep) (PDI (stored kvs k v) ep') Δ (Δ' ep')) (hz : kvs.length ≤ 1000) (h : ∀ ep', Q () (Δ' ep')) : T c A Δ (setItem (.ref d) (.int k t) v) Q E :=
  T.setD (knd := intKind PG c.w) hu isI (by rw [sizeLine_eq]; omega) h
end
end Mine
end
/-! TlM -/
section
open PySem PySem.W PyProof.Rows PySem.Calls
set_option maxRecDepth 100000
namespace Mine
def PPair (u v : Int) : Pr := fun o => o.cls = .type "tuple" ∧ ∃ n t t', o.data = .seq #[.int u t, .int v t'] n
def tiesHp (as : List Addr) (ps : List (Int × Int)) : Hp := (as.zip ps).map fun x => (x.1, PPair x.2.1 x.2.2)
def pairD (p : Int × Int) : PyData := .tuple [.int p.1, .int p.2]
section
variable {c : Cx} {A : Around} {Δ Δ' : Hp} {E : Value → Hp → Prop} {env : Env}
theorem St.pair {s : Shared} {a : Addr} {u v : Int} (hs : St c Δ s) (h : (a, PPair u v) ∈ Δ) : Reads s.heap (.ref a) (pairD (u, v)) [] := by
  obtain ⟨o, ho, hc, n, t, t', hd⟩ := hs.has h
  exact .tuple ho hc hd (.cons (as := []) (.int _ _) (.cons (as := []) (.int _ _) .nil))
theorem St.ties {s : Shared} (hs : St c Δ s) : ∀ {as : List Addr} {ps : List (Int × Int)}, as.length = ps.length → (∀ p ∈ tiesHp as ps, p ∈ Δ) → ReadsAll s.heap (as.map Value.ref) (ps.map pairD) []
  | [], [], _, _ => .nil
  | a :: as, p :: ps, hl, h => .cons (as := []) (hs.pair (h (a, PPair p.1 p.2) (.head _))) (St.ties hs (by simpa using hl) fun q hq => h q (.tail _ hq))
  | [], _ :: _, hl, _ => by simp at hl
  | _ :: _, [], hl, _ => by simp at hl
theorem depth_pairs : ∀ ps : List (Int × Int), PyData.depthAll (ps.map pairD) ≤ 2
  | [] => by simp [PyData.depthAll]
  | p :: ps => by
    have := depth_pairs ps
    simp only [List.map_cons, PyData.depthAll, pairD, PyData.depth] at this ⊢
    omega
theorem lay_pairs : ∀ ps : List (Int × Int), PyData.canLayAll0 (ps.map pairD) = true
  | [] => rfl
  | p :: ps => by
    have := lay_pairs ps
    simp [PyData.canLayAll0, pairD, PyData.canLay0, this]
theorem any_pairs (u v : Int) : ∀ ps : List (Int × Int), ((ps.map pairD).any fun y => PyData.eqv y (pairD (u, v))) = ps.contains (u, v)
  | [] => rfl
  | p :: ps => by
    rw [List.map_cons, List.any_cons, any_pairs u v ps, List.contains_cons]
    congr 1
    obtain ⟨a, b⟩ := p
    have e : PyData.eqv (pairD (a, b)) (pairD (u, v)) = (a == u && (b == v && true)) := by
      simp only [pairD, PyData.eqv, PyData.eqvAll]
    have h1 : (a == u) = (u == a) := by rw [Bool.eq_iff_iff, beq_iff_eq, beq_iff_eq]; exact eq_comm
    have h2 : (b == v) = (v == b) := by rw [Bool.eq_iff_iff, beq_iff_eq, beq_iff_eq]; exact eq_comm
    rw [e, Bool.and_true, h1, h2]
    rfl
theorem T.notInTies {tl a : Addr} {as : List Addr} {ps : List (Int × Int)} {u v : Int} {Q : Value → Hp → Prop} (hu : A.units + 10 < cLine) (hm : (tl, PList (as.map Value.ref).toArray) ∈ Δ) (hl : as.length = ps.length) (hh : ∀ p ∈ tiesHp as ps, p ∈ Δ) (ha : (a, PPair u v) ∈ Δ)
    (h : Q (.bool (!ps.contains (u, v))) Δ) : T c A Δ (compareOp .NotIn (.ref a) (.ref tl)) Q E := fun s hs => by
  obtain ⟨o, ho, n, e⟩ := hs.has hm
  have hd := depth_pairs ps
  refine PySem.SeqAt.notIn_list_reads (.list ho (by rw [e]) (by rw [e]) (by simpa using hs.ties hl hh)) (hs.pair ha) (lay_pairs ps) rfl ?_ ⟨Δ, hs, by rw [any_pairs]; exact h⟩
  have : min (PyData.depthAll (ps.map pairD)) (pairD (u, v)).depth ≤ 2 := Nat.le_trans (Nat.min_le_left _ _) hd
  omega
theorem T.lenPair {a : Addr} {u v : Int} {Q : Value → Hp → Prop} (ha : (a, PPair u v) ∈ Δ) (h : ∀ t, Q (.int 2 t) Δ) : T c A Δ (call (.builtin "len") [.ref a]) Q E := fun s hs => by
  obtain ⟨o, ho, hc, n, t, t', hd⟩ := hs.has ha
  exact len_tuple (items := #[.int u t, .int v t']) ⟨o, ho, hc, n, hd⟩ (by show ((2 : Nat) : Int) < 2 ^ 63; decide) ⟨Δ, hs.toks, h _⟩
theorem T.unpackPair {elts : List Expr} {k : Nat} {pos : Pos} {a : Addr} {u v : Int} {Q : Unit → Hp → Prop} (hA : A.handled = none) (ha : (a, PPair u v) ∈ Δ) (hl : (assignEach elts env).length = 2) (hf : (assignEach elts env).findIdx? (·.1) = none)
    (h : ∀ t t', T c A Δ (assignInOrder ((assignEach elts env).map (·.2)) [.int u t, .int v t']) Q E) : T c A Δ (assign (.Tuple elts k pos) env (.ref a)) Q E := fun s hs => by
  obtain ⟨o, ho, hc, n, t, t', hd⟩ := hs.has ha
  exact wpAny_assign_Tuple hA ⟨o, ho, hc, n, hd⟩ hl hf fun h' hs' => h t t' _ (hs.grow fun b o e => hs' b o (Nat.ne_of_lt (Heap.lt_size e)) e)
theorem PTup.pair {u v : Int} {t t' : Tok} {o : Obj} (h : PTup #[.int u t, .int v t'] o) : PPair u v o := let ⟨a, n, b⟩ := h; ⟨a, n, t, t', b⟩
theorem T.unpack2 {x y : Str} {px py : Pos} {k : Nat} {pos : Pos} {a : Addr} {u v : Int} {Q : Unit → Hp → Prop} (hA : A.handled = none) (ha : (a, PPair u v) ∈ Δ)
    (h : ∀ t t', T c A Δ (storeName env x (.int u t)) (fun _ Δ₁ => T c A Δ₁ (storeName env y (.int v t')) Q E) E) : T c A Δ (assign (.Tuple [.Name x px, .Name y py] k pos) env (.ref a)) Q E :=
  T.unpackPair hA ha rfl rfl fun t t' => by
    show T c A Δ (assignInOrder [fun v => assign (.Name x px) env v, fun v => assign (.Name y py) env v] _) _ _
    exact T.inOrder (T.asName ((h t t').mono (fun _ Δ₁ q => T.inOrder (T.asName (q.mono (fun _ Δ₂ q => T.inOrderNil q) fun _ _ e => e))) fun _ _ e => e))
theorem T.unpackT2 {x y : Str} {px py : Pos} {k : Nat} {pos : Pos} {a : Addr} {u v : Value} {Q : Unit → Hp → Prop} (hA : A.handled = none) (ha : (a, PTup #[u, v]) ∈ Δ)
    (h : T c A Δ (storeName env x u) (fun _ Δ₁ => T c A Δ₁ (storeName env y v) Q E) E) : T c A Δ (assign (.Tuple [.Name x px, .Name y py] k pos) env (.ref a)) Q E :=
  T.unpack hA ha rfl rfl (by
    show T c A Δ (assignInOrder [fun v => assign (.Name x px) env v, fun v => assign (.Name y py) env v] _) _ _
    exact T.inOrder (T.asName (h.mono (fun _ Δ₁ q => T.inOrder (T.asName (q.mono (fun _ Δ₂ q => T.inOrderNil q) fun _ _ e => e))) fun _ _ e => e)))
end
end Mine
end
/-! Pl2 -/
section
open PySem PySem.W PyProof.Rows PySem.Calls
set_option maxRecDepth 100000
namespace Mine
/-- one object of a row of objects is changed -/
theorem Upd.map {α : Type} [DecidableEq α] {at_ : α → Addr} {P : α → Pr} {P' : Pr} {Φ : Hp} {u : α} : ∀ {l : List α}, u ∈ l → l.Nodup → Upd (at_ u) (P u) P' (l.map (fun x => (at_ x, P x)) ++ Φ) (l.map (fun x => (at_ x, if x = u then P' else P x)) ++ Φ)
  | x :: l, h, hn => by
    rw [List.nodup_cons] at hn
    by_cases e : x = u
    · subst e
      have : (l.map fun y => (at_ y, if y = x then P' else P y)) = l.map fun y => (at_ y, P y) := List.map_congr_left fun y hy => by rw [if_neg (fun e : y = x => hn.1 (e ▸ hy))]
      rw [List.map_cons, List.map_cons, List.cons_append, List.cons_append, this, if_pos rfl]
      exact .head
    · have hm : u ∈ l := (List.mem_cons.mp h).resolve_left (fun q => e q.symm)
      rw [List.map_cons, List.map_cons, List.cons_append, List.cons_append, if_neg e]
      exact .tail (Upd.map hm hn.2)
theorem mem_row {α : Type} {at_ : α → Addr} {P : α → Pr} {Φ : Hp} {u : α} {l : List α} (h : u ∈ l) : (at_ u, P u) ∈ l.map (fun x => (at_ x, P x)) ++ Φ := List.mem_append_left _ (List.mem_map.mpr ⟨u, h, rfl⟩)
/-- the ties, both ways -/
def adjR (qs : List (Int × Int)) (x y : Int) : Bool := qs.contains (x, y) || qs.contains (y, x)
def adjK (qs : List (Int × Int)) (x : Int) : Nat := (qs.filter fun p => p.1 = x || p.2 = x).length
theorem adjK_le (qs : List (Int × Int)) (x : Int) : adjK qs x ≤ qs.length := List.length_filter_le _ _
theorem adjR_snoc {qs : List (Int × Int)} {u v x y : Int} : adjR (qs ++ [(u, v)]) x y = true ↔ adjR qs x y = true ∨ (x = u ∧ y = v) ∨ (x = v ∧ y = u) := by
  simp only [adjR, List.contains_eq_mem, List.mem_append, List.mem_singleton, Prod.mk.injEq, Bool.or_eq_true, decide_eq_true_eq]
  constructor
  · rintro ((h | h) | (h | h))
    · exact .inl (.inl h)
    · exact .inr (.inl h)
    · exact .inl (.inr h)
    · exact .inr (.inr ⟨h.2, h.1⟩)
  · rintro ((h | h) | h | h)
    · exact .inl (.inl h)
    · exact .inr (.inl h)
    · exact .inl (.inr h)
    · exact .inr (.inr ⟨h.2, h.1⟩)
theorem adjK_snoc {qs : List (Int × Int)} {u v x : Int} : adjK (qs ++ [(u, v)]) x = adjK qs x + (if u = x ∨ v = x then 1 else 0) := by
  simp only [adjK, List.filter_append, List.length_append]
  congr 1
  by_cases h1 : u = x <;> by_cases h2 : v = x <;> simp [List.filter_cons, h1, h2]
theorem row_step {qs : List (Int × Int)} {u v : Int} (hne : u ≠ v) (nb : Int → Addr) : (fun x => (nb x, if x = v then PNb (fun y => decide (y = u) || adjR qs v y) (adjK qs v + 1) else if x = u then PNb (fun y => decide (y = v) || adjR qs u y) (adjK qs u + 1) else PNb (adjR qs x) (adjK qs x))) =
    fun x => (nb x, PNb (adjR (qs ++ [(u, v)]) x) (adjK (qs ++ [(u, v)]) x)) := by
  funext x
  congr 1
  rw [adjK_snoc]
  by_cases h1 : x = v
  · subst h1
    rw [if_pos rfl, if_pos (.inr rfl)]
    congr 1
    funext y
    rw [Bool.eq_iff_iff, adjR_snoc, Bool.or_eq_true, decide_eq_true_eq]
    constructor
    · rintro (h | h)
      · exact .inr (.inr ⟨rfl, h⟩)
      · exact .inl h
    · rintro (h | h | h)
      · exact .inr h
      · exact absurd h.1.symm hne
      · exact .inl h.2
  · rw [if_neg h1]
    by_cases h2 : x = u
    · subst h2
      rw [if_pos rfl, if_pos (.inl rfl)]
      congr 1
      funext y
      rw [Bool.eq_iff_iff, adjR_snoc, Bool.or_eq_true, decide_eq_true_eq]
      constructor
      · rintro (h | h)
        · exact .inr (.inl ⟨rfl, h⟩)
        · exact .inl h
      · rintro (h | h | h)
        · exact .inr h
        · exact .inl h.2
        · exact absurd h.1 hne
    · rw [if_neg h2, if_neg (by rintro (h | h) <;> simp_all), Nat.add_zero]
      congr 1
      funext y
      rw [Bool.eq_iff_iff, adjR_snoc]
      constructor
      · exact .inl
      · rintro (h | h | h)
        · exact h
        · exact absurd h.1 h2
        · exact absurd h.1 h1
theorem adjR_false {ps : List (Int × Int)} {i : Nat} {u v : Int} (hp : ∀ p ∈ ps, p.1 < p.2) (hn : ps.Nodup) (e : ps[i]? = some (u, v)) : adjR (ps.take i) u v = false ∧ adjR (ps.take i) v u = false := by
  have huv : u < v := hp _ (List.mem_of_getElem? e)
  have hi := (List.getElem?_eq_some_iff.mp e).1
  have h1 : (u, v) ∉ ps.take i := fun h => by
    obtain ⟨j, hj, ej⟩ := List.getElem_of_mem h
    rw [List.getElem_take] at ej
    have hj' : j < i := by rw [List.length_take] at hj; omega
    have hjl : j < ps.length := by omega
    have := (List.getElem?_inj hjl hn).mp ((List.getElem?_eq_some_iff.mpr ⟨hjl, ej⟩).trans e.symm)
    omega
  have h2 : (v, u) ∉ ps.take i := fun h => by
    have := hp _ (List.mem_of_mem_take h)
    simp only at this
    omega
  simp [adjR, h1, h2]
end Mine
end
/-! TlN -/
section
open PySem PySem.W PyProof.Rows PySem.Calls
set_option maxRecDepth 100000
namespace Mine
def PEnum (it : Addr) (i : Int) (f0 : Value) : Pr := fun o => ∃ old, o = { cls := .type "enumerate", dict := none, data := .fields #[f0, .bool false, .ref it, rawInt i, .none, old], slots := #[] }
theorem ints_items : ∀ {vs : List Value} {ns : List Int}, IntsAre vs ns → ∃ ys : List (Int × Tok), vs = ys.map (fun p => Value.int p.1 p.2) ∧ ys.map (·.1) = ns
  | _, _, .nil => ⟨[], rfl, rfl⟩
  | _, _, .cons n t hr => by
    obtain ⟨ys, e1, e2⟩ := ints_items hr
    exact ⟨(n, t) :: ys, by rw [e1]; rfl, by rw [← e2]; rfl⟩
theorem dedup_nodup : ∀ (l acc : List Int), (acc ++ l).Nodup → l.foldl step_dedup acc = acc ++ l
  | [], acc, _ => by simp
  | a :: l, acc, h => by
    have hna : a ∉ acc := fun hm => by
      rw [List.nodup_append] at h
      exact h.2.2 a hm a (.head _) rfl
    have : step_dedup acc a = acc ++ [a] := by
      unfold step_dedup
      rw [if_neg]
      rw [List.any_eq_true]
      rintro ⟨x, hx, e⟩
      rw [beq_iff_eq] at e
      exact hna (e ▸ hx)
    rw [List.foldl_cons, this, dedup_nodup l (acc ++ [a]) (by simpa using h)]
    simp
theorem firstMet_nodup {ns : List Int} (h : ns.Nodup) : firstMet (fun i => ns.getD i 0) ns.length = ns := by
  unfold firstMet
  have e : (List.range ns.length).map (fun i => ns.getD i 0) = ns := by
    refine List.ext_getElem (by simp) fun i h1 h2 => ?_
    simp [List.getD_eq_getElem?_getD, List.getElem?_eq_getElem h2]
  rw [e, dedup_nodup ns [] (by simpa using h)]
  rfl
/-- a set, by its number of elements -/
def PSetN (n : Nat) : Pr := fun o => ∃ es ep t, o.ExactSet ∧ o.data = .set es ep t ∧ t.fits es.size = true ∧ es.size = n
section
variable {c : Cx} {A : Around} {Δ Δ' : Hp} {E : Value → Hp → Prop} {env : Env}
theorem T.intInt {n : Int} {t : Tok} {Q : Value → Hp → Prop} (h : Q (.int n t) Δ) : T c A Δ (call (.type "int") [.int n t]) Q E := fun s hs => call_int_int ⟨Δ, hs, h⟩
theorem T.absInt {n : Int} {t : Tok} {Q : Value → Hp → Prop} (h : ∀ u, Q (.int (n.natAbs : Int) u) Δ) : T c A Δ (call (.builtin "abs") [.int n t]) Q E := fun s hs =>
  call_abs_int fun u tk => ⟨Δ, hs.toks, by
    have e : (if n < 0 then -n else n) = (n.natAbs : Int) := by split <;> omega
    rw [e]; exact h u⟩
theorem T.max2 {a b : Int} {t u : Tok} {Q : Value → Hp → Prop} (hA : A.handled = none) (h : ∀ u, Q (.int (max a b) u) Δ) : T c A Δ (call (.builtin "max") [.int a t, .int b u]) Q E := fun s hs =>
  max_two_ints hA fun h' tk hk => ⟨Δ, hs.grow hk, by
    split
    · rename_i hba; have e : max a b = b := by omega
      rw [← e]; exact h _
    · rename_i hba; have e : max a b = a := by omega
      rw [← e]; exact h _⟩
theorem T.min2 {a b : Int} {t u : Tok} {Q : Value → Hp → Prop} (hA : A.handled = none) (h : ∀ u, Q (.int (min a b) u) Δ) : T c A Δ (call (.builtin "min") [.int a t, .int b u]) Q E := fun s hs =>
  min_two_ints hA fun h' tk hk => ⟨Δ, hs.grow hk, by
    split
    · rename_i hba; have e : min a b = b := by omega
      rw [← e]; exact h _
    · rename_i hba; have e : min a b = a := by omega
      rw [← e]; exact h _⟩
theorem T.mulInt {a b : Int} {t u : Tok} {Q : Value → Hp → Prop} (hm : Builtin.Int.intBits a ≤ 64) (h : ∀ t, Q (.int (a * b) t) Δ) : T c A Δ (binaryOp .Mult (.int a t) (.int b u)) Q E := fun s hs => mul_int ⟨Δ, hs.toks, h _⟩ (IntMulOk.of_left hm)
theorem T.pow2 {n : Nat} {t u : Tok} {Q : Value → Hp → Prop} (hn : n ≤ 8) (h : ∀ t, Q (.int ((2 : Int) ^ n) t) Δ) : T c A Δ (binaryOp .Pow (.int 2 t) (.int n u)) Q E := fun s hs => by
  cases n with
  | zero => exact PySem.AutoIntOps.pow_0 (by decide) (by decide) ⟨Δ, hs.toks, h _⟩
  | succ n =>
    refine PySem.AutoIntOps.pow_4 (by omega) (by simp; omega) (by decide) (by decide) ?_ ⟨Δ, hs.toks, h _⟩
    have hk : n = 0 ∨ n = 1 ∨ n = 2 ∨ n = 3 ∨ n = 4 ∨ n = 5 ∨ n = 6 ∨ n = 7 := by omega
    rcases hk with rfl | rfl | rfl | rfl | rfl | rfl | rfl | rfl <;> decide +kernel
theorem T.sumInts {l : Addr} {ns : List Int} {Q : Value → Hp → Prop} (hA : A.handled = none) (hm : (l, PInts ns) ∈ Δ) (h : ∀ t, Q (.int ns.sum t) Δ) : T c A Δ (call (.builtin "sum") [.ref l]) Q E := fun s hs => by
  obtain ⟨vs, n, hl, hi⟩ := hs.ints hm
  obtain ⟨ys, rfl, rfl⟩ := ints_items hi
  have e : (ys.map fun p => Value.int p.1 p.2).toArray = intItems ys.toArray := by simp [intItems]
  have hl' := hl.isList
  rw [e] at hl'
  refine sum_intListG hA hl' fun h' tk t' hk => ⟨Δ, hs.grow hk, ?_⟩
  rw [preSum_eq]
  have : ((ys.toArray.toList.map (·.1)).take ys.toArray.size).sum = (ys.map (·.1)).sum := by simp [List.take_of_length_le]
  rw [this]
  exact h _
theorem T.setNd {l : Addr} {ns : List Int} {Q : Value → Hp → Prop} (hA : A.handled = none) (hm : (l, PInts ns) ∈ Δ) (hnd : ns.Nodup) (hz : ns.length ≤ 1000) (h : ∀ d, Q (.ref d) ((d, PSetN ns.length) :: Δ)) : T c A Δ (call (.type "set") [.ref l]) Q E := fun s hs => by
  obtain ⟨vs, n, hl, hi⟩ := hs.ints hm
  have hlen := hi.length
  refine call_set_list hA hl.isList (ns := ns) (by simpa using hi) (by simp [scanBound]; omega) fun h' tk hS hk => ?_
  have e : vs.toArray.size = ns.length := by simp [hlen]
  rw [e, firstMet_nodup hnd] at hS
  obtain ⟨o, es, ep, t, ho, hex, hd, _, _, _, hf, hsz⟩ := hS
  exact ⟨_, hs.add (b := s.heap.objs.size) (P := PSetN ns.length) (n := tk) (fun b o e => hk b o (Heap.lt_size e) e) (Nat.le_refl _) ⟨o, ho, es, ep, t, hex, hd, hf, hsz⟩, h _⟩
theorem T.lenSet {d : Addr} {n : Nat} {Q : Value → Hp → Prop} (hm : (d, PSetN n) ∈ Δ) (hz : n ≤ 1000) (h : ∀ t, Q (.int n t) Δ) : T c A Δ (call (.builtin "len") [.ref d]) Q E := fun s hs => by
  obtain ⟨o, ho, es, ep, t, hex, hd, hf, rfl⟩ := hs.has hm
  exact call_len_set ho hex hd hf (by omega) ⟨Δ, hs.toks, h _⟩
theorem T.enumList {l : Addr} {ns : List Int} {Q : Value → Hp → Prop} (hm : (l, PInts ns) ∈ Δ) (h : ∀ e it, Q (.ref e) ((e, PEnum it 0 .none) :: (it, PLIter l 0) :: Δ)) : T c A Δ (call (.type "enumerate") [.ref l]) Q E := fun s hs => by
  obtain ⟨vs, n, hl, hi⟩ := hs.ints hm
  refine call_enumerate_list hl.isList fun h' he hit hz hk => ?_
  have S := hs.adds (h' := h') (n := s.toks) hk [(s.heap.objs.size + 1, PEnum s.heap.objs.size 0 .none), (s.heap.objs.size, PLIter l 0)]
    (fun p hp => by
      rcases List.mem_cons.mp hp with rfl | hp
      · exact ⟨Nat.le_succ _, _, he, .none, rfl⟩
      · rw [List.mem_singleton.mp hp]
        exact ⟨Nat.le_refl _, hit⟩)
    (by simp)
  exact ⟨_, S, h _ _⟩
theorem T.iterEnum {e it : Addr} {i : Int} {Q : Value → Hp → Prop} (hm : (e, PEnum it i .none) ∈ Δ) (h : Q (.ref e) Δ) : T c A Δ (pyIter (.ref e)) Q E := fun s hs => by
  obtain ⟨o, ho, old, rfl⟩ := hs.has hm
  exact wpAny_pyIter_enum (i := i) (old := old) ho ⟨Δ, hs, h⟩
theorem T.nextEnum {e it l : Addr} {i : Nat} {ns : List Int} {n : Int} {Φ : Hp} {Q : Option Value → Hp → Prop} (hm : (l, PInts ns) ∈ Φ) (hx : ns[i]? = some n)
    (h : ∀ a t t', Q (some (.ref a)) ((a, PTup #[.int i t, .int n t']) :: (e, PEnum it ((i : Int) + 1) (rawInt a)) :: (it, PLIter l (i + 1)) :: Φ)) : T c A ((e, PEnum it i .none) :: (it, PLIter l i) :: Φ) (pyNext (.ref e)) Q E := fun s hs => by
  obtain ⟨o, ho, old, rfl⟩ := hs.has (.head _)
  obtain ⟨vs, k, hl, hi⟩ := hs.ints (.tail _ (.tail _ hm))
  obtain ⟨t', hx'⟩ := ints_iff hi i n hx
  have hne : e ≠ it := fun q => by
    have := hs.nd
    simp only [List.map_cons, List.nodup_cons] at this
    exact this.1 (q ▸ .head _)
  have hit := hs.liter (.tail _ (.head _))
  refine wpAny_pyNext_enum_item ho hit hl.isList hx' hne fun h' heo hit' ht hz hk => ?_
  have hnd := hs.nd
  simp only [List.map_cons, List.nodup_cons] at hnd
  refine ⟨_, ?_, h s.heap.objs.size s.toks t'⟩
  refine ⟨fun b o hb => ?_, fun p hp => ?_, ?_, hs.drawn, hs.os, hs.gens⟩
  · refine hk b o (fun q => ?_) (fun q => ?_) (hs.keep b o hb)
    · have := hs.new (.head _); rw [q, this] at hb; cases hb
    · have := hs.new (.tail _ (.head _)); rw [q, this] at hb; cases hb
  · rcases List.mem_cons.mp hp with rfl | hp
    · refine ⟨⟨_, ht, rfl, 0, rfl⟩, ?_, hs.above (Nat.le_refl _)⟩
      cases q : c.h₀.get? s.heap.objs.size with
      | none => rfl
      | some o => exact absurd (Heap.lt_size (hs.keep _ o q)) (Nat.lt_irrefl _)
    · rcases List.mem_cons.mp hp with rfl | hp
      · exact ⟨⟨_, heo, _, rfl⟩, hs.new (.head _), (hs.own _ (.head _)).2.2⟩
      · rcases List.mem_cons.mp hp with rfl | hp
        · exact ⟨hit', hs.new (.tail _ (.head _)), (hs.own _ (.tail _ (.head _))).2.2⟩
        · obtain ⟨⟨o, ho', po⟩, q1, q2⟩ := hs.own p (.tail _ (.tail _ hp))
          refine ⟨⟨o, hk p.1 o (fun q => hnd.1 ?_) (fun q => hnd.2.1 ?_) ho', po⟩, q1, q2⟩
          · rw [← q]; exact .tail _ (List.mem_map.mpr ⟨p, hp, rfl⟩)
          · rw [← q]; exact List.mem_map.mpr ⟨p, hp, rfl⟩
  · simp only [List.map_cons, List.nodup_cons]
    refine ⟨fun hm' => ?_, hnd⟩
    have hall : ∀ p ∈ ((e, PEnum it (i : Int) .none) :: (it, PLIter l i) :: Φ), p.1 ≠ s.heap.objs.size := fun p hp q => by
      obtain ⟨o, ho', _⟩ := (hs.own p hp).1
      have := Heap.lt_size ho'
      rw [q] at this
      exact Nat.lt_irrefl _ this
    rcases List.mem_cons.mp hm' with q | hm'
    · exact hall _ (.head _) q.symm
    · rcases List.mem_cons.mp hm' with q | hm'
      · exact hall _ (.tail _ (.head _)) q.symm
      · obtain ⟨p, hp, q⟩ := List.mem_map.mp hm'
        exact hall p (.tail _ (.tail _ hp)) q
theorem T.nextEnumEnd {e it l : Addr} {i : Nat} {ns : List Int} {Q : Option Value → Hp → Prop} (hA : A.handled = none) (he : (e, PEnum it i .none) ∈ Δ) (hu : Del it (PLIter l i) Δ Δ') (hm : (l, PInts ns) ∈ Δ) (hx : ns[i]? = none) (h : Q none Δ') : T c A Δ (pyNext (.ref e)) Q E := fun s hs => by
  obtain ⟨o, ho, old, rfl⟩ := hs.has he
  obtain ⟨vs, k, hl, hi⟩ := hs.ints hm
  exact wpAny_pyNext_enum_end hA ho (hs.liter hu.mem) hl.isList (ints_end hi hx) fun h' hk => ⟨_, hs.del (n := s.toks) hu hk, h⟩
theorem T.goEnum {elts : List Expr} {k : Nat} {pos : Pos} {e it a : Addr} {i : Int} {Q : Unit → Hp → Prop} (hu : Upd e (PEnum it i (rawInt a)) (PEnum it i .none) Δ Δ') (h : Q () Δ') : T c A Δ (letOwnedTupleGo (.Tuple elts k pos) (.ref e) (.ref a)) Q E := fun s hs => by
  obtain ⟨o, ho, old, rfl⟩ := hs.has hu.mem
  exact wpAny_letOwnedTupleGo_enum ho fun h' he' sb => ⟨_, hs.upd (n := s.toks) hu sb ⟨_, he', old, rfl⟩, h⟩
theorem T.forT {target iter : Expr} {body orelse : List Stmt} {pos : Pos} {Q : Flow → Hp → Prop}
    (h : T c A Δ (eval iter env) (fun x Δ₁ => T c A Δ₁ (pyIter x) (fun it Δ₂ => ∃ (I : Nat → Hp → Prop) (n : Nat), I n Δ₂ ∧ ∀ n Δ, I n Δ → T c A Δ (pyNext it) (fun r Δ₃ => match r with
        | none => T c A Δ₃ (execs orelse env) Q NoE
        | some v => T c A Δ₃ (letOwnedTupleGo target it v) (fun _ Δ₃ => T c A Δ₃ (assign target env v) (fun _ Δ₄ => T c A Δ₄ (execs body env) (fun f Δ₅ => match f with
          | .next => ∃ m, m < n ∧ I m Δ₅
          | .cont => ∃ m, m < n ∧ I m Δ₅
          | .brk => Q .next Δ₅
          | .ret v => Q (.ret v) Δ₅) NoE) NoE) NoE) NoE) E) E)
    (hf : ∀ x, foldedSetIterable iter env x = pure x := by intro _; k_dflt rfl) : T c A Δ (exec (.For target iter body orelse pos) env) Q E := fun s hs =>
  wpAny_For (h.to hs fun x s₁ ⟨Δ₁, h₁, q⟩ => q.to h₁ fun it s₂ ⟨Δ₂, h₂, I, n, hI, turn⟩ => codeAny_forLoop_any (fun n s => ∃ Δ, St c Δ s ∧ I n Δ) (fun n s ⟨Δ, hs, hi⟩ => by
    refine wpAny_mono (turn n Δ hi s hs) (fun r s₃ ⟨Δ₃, h₃, q⟩ => ?_) fun _ _ ⟨_, _, x⟩ => x.elim
    cases r with
    | none => exact wpAny_mono (q s₃ h₃) (fun f s₂ q => q) fun _ _ ⟨_, _, x⟩ => x.elim
    | some v =>
      refine wpAny_mono (q s₃ h₃) (fun _ s₃ ⟨Δ₃, h₃, q⟩ => ?_) fun _ _ ⟨_, _, x⟩ => x.elim
      refine wpAny_mono (q s₃ h₃) (fun _ s₄ ⟨Δ₄, h₄, q⟩ => ?_) fun _ _ ⟨_, _, x⟩ => x.elim
      refine wpAny_mono (q s₄ h₄) (fun f s₅ ⟨Δ₅, h₅, q⟩ => ?_) fun _ _ ⟨_, _, x⟩ => x.elim
      cases f with
      | next => obtain ⟨m, hm, hi⟩ := q; exact ⟨m, hm, Δ₅, h₅, hi⟩
      | cont => obtain ⟨m, hm, hi⟩ := q; exact ⟨m, hm, Δ₅, h₅, hi⟩
      | brk => exact ⟨Δ₅, h₅, q⟩
      | ret v => exact ⟨Δ₅, h₅, q⟩) n ⟨Δ₂, h₂, hI⟩) hf
theorem T.swapS {targets : List Expr} {value : Expr} {pos : Pos} {names : List Str} {Q : Flow → Hp → Prop} (hA : A.handled = none)
    (h : T c A Δ (eval value env) (fun v Δ₁ => ∃ t items, v = .ref t ∧ (t, PTup items) ∈ Δ₁ ∧ items.size = names.length ∧ T c A Δ₁ (assignInOrder (names.reverse.map fun n => PySem.bindName env n) items.toList.reverse) (fun _ Δ₂ => Q .next Δ₂) E) E)
    (hs : swapsWithSole targets value pos.line env = pure false) (hw : swappedStores targets value env = pure (some names)) : T c A Δ (exec (.Assign targets value pos) env) Q E := fun s hs' => by
  rw [exec_Assign_arm]
  refine wpAny_bind (wpAny_standAt ?_)
  rw [hs]
  refine wpAny_bind (wpAny_pure ?_)
  rw [if_neg (by decide)]
  refine wpAny_bind (wpAny_mono (h s hs') (fun v s₁ ⟨Δ₁, h₁, t, items, e, hm, hsz, q⟩ => ?_) fun _ _ x => x)
  subst e
  rw [hw]
  refine wpAny_bind (wpAny_pure ?_)
  unfold assignStores
  dsimp only
  refine wpAny_bind (wpAny_rule (wpAny_bind ?_))
  rw [← hsz]
  refine wpAny_unpackItems_tuple hA (h₁.tup hm) fun h' hk => ?_
  refine wpAny_bind (wpAny_mono (q _ (h₁.grow (n := s₁.toks) fun b o e => hk b o (Nat.ne_of_lt (Heap.lt_size e)) e)) (fun _ s₂ z => wpAny_pure z) fun _ _ x => x)
theorem T.swap2 {x y : Str} {px py tp pos : Pos} {k : Nat} {value : Expr} {Q : Flow → Hp → Prop} (hA : A.handled = none)
    (h : T c A Δ (eval value env) (fun v Δ₁ => ∃ t a b, v = .ref t ∧ (t, PTup #[a, b]) ∈ Δ₁ ∧ T c A Δ₁ (storeName env y b) (fun _ Δ₂ => T c A Δ₂ (storeName env x a) (fun _ Δ₃ => Q .next Δ₃) E) E) E)
    (hs : swapsWithSole [.Tuple [.Name x px, .Name y py] k tp] value pos.line env = pure false := by k_dflt rfl) (hw : swappedStores [.Tuple [.Name x px, .Name y py] k tp] value env = pure (some [x, y]) := by k_dflt rfl) : T c A Δ (exec (.Assign [.Tuple [.Name x px, .Name y py] k tp] value pos) env) Q E :=
  T.swapS hA (h.mono (fun v Δ₁ ⟨t, a, b, e, hm, q⟩ => ⟨t, _, e, hm, rfl, by
    show T c A Δ₁ (assignInOrder [fun v => PySem.bindName env y v, fun v => PySem.bindName env x v] [b, a]) _ _
    exact T.inOrder (T.bindName (q.mono (fun _ Δ₂ q => T.inOrder (T.bindName (q.mono (fun _ Δ₃ q => T.inOrderNil q) fun _ _ e => e))) fun _ _ e => e))⟩) fun _ _ e => e) hs hw
theorem T.swap3 {x y z : Str} {px py pz tp pos : Pos} {k : Nat} {value : Expr} {Q : Flow → Hp → Prop} (hA : A.handled = none)
    (h : T c A Δ (eval value env) (fun v Δ₁ => ∃ t a b d, v = .ref t ∧ (t, PTup #[a, b, d]) ∈ Δ₁ ∧ T c A Δ₁ (storeName env z d) (fun _ Δ₂ => T c A Δ₂ (storeName env y b) (fun _ Δ₂ => T c A Δ₂ (storeName env x a) (fun _ Δ₃ => Q .next Δ₃) E) E) E) E)
    (hs : swapsWithSole [.Tuple [.Name x px, .Name y py, .Name z pz] k tp] value pos.line env = pure false := by k_dflt rfl) (hw : swappedStores [.Tuple [.Name x px, .Name y py, .Name z pz] k tp] value env = pure (some [x, y, z]) := by k_dflt rfl) : T c A Δ (exec (.Assign [.Tuple [.Name x px, .Name y py, .Name z pz] k tp] value pos) env) Q E :=
  T.swapS hA (h.mono (fun v Δ₁ ⟨t, a, b, d, e, hm, q⟩ => ⟨t, _, e, hm, rfl, by
    show T c A Δ₁ (assignInOrder [fun v => PySem.bindName env z v, fun v => PySem.bindName env y v, fun v => PySem.bindName env x v] [d, b, a]) _ _
    exact T.inOrder (T.bindName (q.mono (fun _ Δ₂ q => T.inOrder (T.bindName (q.mono (fun _ Δ₃ q => T.inOrder (T.bindName (q.mono (fun _ Δ₃ q => T.inOrderNil q) fun _ _ e => e))) fun _ _ e => e))) fun _ _ e => e))⟩) fun _ _ e => e) hs hw
end
end Mine
end
/-! Pl3 -/
section
open PySem PySem.W PyProof.Rows PySem.Calls
set_option maxRecDepth 100000
namespace Mine
/-- a cell of the script -/
def cell (ns : List Int) (k : Nat) : Int := match ns[k]? with | some n => (n.natAbs : Int) | none => 5 * (k : Int) + 2
theorem cell_nonneg (ns : List Int) (k : Nat) : 0 ≤ cell ns k := by unfold cell; split <;> omega
/-- the ties: one draw of the number a pair -/
def tieStep (one : Int) (s : Int × List (Int × Int)) (other : Int) : Int × List (Int × Int) := (s.1.fdiv 2, if s.1.fmod 2 = 1 then s.2 ++ [(one, other)] else s.2)
def upTo (a b : Nat) : List Int := (List.range' a (b - a)).map fun i : Nat => (i : Int)
def tieRow (size : Nat) (s : Int × List (Int × Int)) (one : Nat) : Int × List (Int × Int) := (upTo (one + 1) size).foldl (tieStep one) s
def tieFrom (size : Nat) (s : Int × List (Int × Int)) (k : Nat) : Int × List (Int × Int) := (List.range k).foldl (tieRow size) s
def tiesOf (draw : Int) (size : Nat) : List (Int × Int) := (tieFrom size (draw, []) size).2
def allPairs (size : Nat) : List (Int × Int) := (List.range size).flatMap fun one => (upTo (one + 1) size).map fun o => ((one : Int), o)
theorem tieStep_sub {one : Int} : ∀ (l : List Int) (s : Int × List (Int × Int)), (l.foldl (tieStep one) s).2.Sublist (s.2 ++ l.map fun o => (one, o))
  | [], s => by simp
  | o :: l, s => by
    rw [List.foldl_cons]
    refine (tieStep_sub l _).trans ?_
    rw [List.map_cons]
    unfold tieStep
    dsimp only
    split
    · rw [List.append_assoc]; exact List.Sublist.refl _
    · exact List.Sublist.append (List.Sublist.refl _) (List.Sublist.cons _ (List.Sublist.refl _))
theorem tieFrom_sub (size : Nat) : ∀ (k : Nat) (s : Int × List (Int × Int)), (tieFrom size s k).2.Sublist (s.2 ++ (List.range k).flatMap fun one => (upTo (one + 1) size).map fun o => ((one : Int), o))
  | 0, s => by simp [tieFrom]
  | k + 1, s => by
    have ih := tieFrom_sub size k s
    unfold tieFrom at ih ⊢
    rw [List.range_succ, List.foldl_append, List.flatMap_append]
    simp only [List.foldl_cons, List.foldl_nil, List.flatMap_cons, List.flatMap_nil, List.append_nil]
    refine (tieStep_sub _ _).trans ?_
    rw [← List.append_assoc]
    exact List.Sublist.append ih (List.Sublist.refl _)
theorem ties_sub (draw : Int) (size : Nat) : (tiesOf draw size).Sublist (allPairs size) := by
  have := tieFrom_sub size size (draw, [])
  simpa [tiesOf, allPairs] using this
theorem allPairs_facts : ∀ size, size ≤ 6 → (allPairs size).Nodup ∧ (allPairs size).length ≤ 15 ∧ ∀ p ∈ allPairs size, 0 ≤ p.1 ∧ p.1 < p.2 ∧ p.2 < size := by
  intro size h
  have : size = 0 ∨ size = 1 ∨ size = 2 ∨ size = 3 ∨ size = 4 ∨ size = 5 ∨ size = 6 := by omega
  rcases this with rfl | rfl | rfl | rfl | rfl | rfl | rfl <;> decide
theorem upTo_get {a b i : Nat} (h : i < b - a) : (upTo a b)[i]? = some ((a + i : Nat) : Int) := by
  unfold upTo
  rw [List.getElem?_map, List.getElem?_range' (by omega)]
  simp
theorem upTo_length {a b : Nat} : (upTo a b).length = b - a := by simp [upTo]
/-- the objects of the ties, the last made first -/
def tiesR (as : List Addr) (ps : List (Int × Int)) : Hp := (as.zip ps).reverse.map fun x => (x.1, PPair x.2.1 x.2.2)
theorem tiesR_snoc {as : List Addr} {ps : List (Int × Int)} {a : Addr} {p : Int × Int} (h : as.length = ps.length) : tiesR (as ++ [a]) (ps ++ [p]) = (a, PPair p.1 p.2) :: tiesR as ps := by
  unfold tiesR
  rw [List.zip_append h]
  simp
theorem tiesR_mem {as : List Addr} {ps : List (Int × Int)} {q : Addr × Pr} : q ∈ tiesHp as ps ↔ q ∈ tiesR as ps := by
  unfold tiesHp tiesR
  simp only [List.mem_map, List.mem_reverse]
end Mine
end
/-! TlO -/
section
open PySem PySem.W PyProof.Rows PySem.Calls
set_option maxRecDepth 100000
namespace Mine
section
variable {c : Cx} {A : Around} {Δ Δ' : Hp} {E : Value → Hp → Prop} {env : Env}
theorem IW.rangeF {it : Addr} {Φ : Hp} {a b : Nat} (hA : A.handled = none) : IW c A it (fun i : Nat => PRI ((a : Int) + (i : Int)) (((b - a : Nat) : Int) - (i : Int))) Φ (upTo a b) where
  item := fun i n e Δ Δ' hs hu Q E h => by
    have hi : i < b - a := by
      have := (List.getElem?_eq_some_iff.mp e).1
      simpa [upTo_length] using this
    rw [upTo_get hi] at e
    have en : n = (a : Int) + i := by have := Option.some.inj e; omega
    subst en
    have e1 : (a : Int) + ((i + 1 : Nat) : Int) = (a : Int) + i + 1 := by omega
    have e2 : ((b - a : Nat) : Int) - ((i + 1 : Nat) : Int) = ((b - a : Nat) : Int) - i - 1 := by omega
    rw [e2, e1] at hu
    exact T.nextRange hu (by omega) h
  done := fun Δ Δ' hs hu Q E h => by
    rw [upTo_length] at hu
    exact T.nextRangeEnd hA hu (by omega) h
  own := Own.range
/-- a for loop over ints -/
theorem T.forX {x : Str} {px pos : Pos} {iter : Expr} {body : List Stmt} {Q : Flow → Hp → Prop}
    (h : T c A Δ (eval iter env) (fun xv Δ₁ => T c A Δ₁ (pyIter xv) (fun itv Δ₂ => ∃ it S ns Δ₃, ∃ (Φ : Hp) (J : Nat → Hp → Prop), itv = .ref it ∧ IW c A it S Φ ns ∧ Sb ((it, S 0) :: Δ₃) Δ₂ ∧ J 0 Δ₃ ∧ (∀ i Δ, J i Δ → ∀ p ∈ Φ, p ∈ Δ) ∧
      (∀ i n t Δ, ns[i]? = some n → J i Δ → T c A ((it, S (i + 1)) :: Δ) (storeName env x (.int n t)) (fun _ Δ₄ => T c A Δ₄ (execs body env) (fun f Δ₅ => match f with
        | .next => ∃ Δ₆, Sb ((it, S (i + 1)) :: Δ₆) Δ₅ ∧ J (i + 1) Δ₆
        | .cont => ∃ Δ₆, Sb ((it, S (i + 1)) :: Δ₆) Δ₅ ∧ J (i + 1) Δ₆
        | .brk => Q .next Δ₅
        | .ret v => Q (.ret v) Δ₅) NoE) NoE) ∧ (∀ Δ, J ns.length Δ → Q .next Δ)) E) E)
    (hf : ∀ x, foldedSetIterable iter env x = pure x := by intro _; k_dflt rfl) : T c A Δ (exec (.For (.Name x px) iter body [] pos) env) Q E := by
  refine T.forS (h.mono (fun xv Δ₁ q => q.mono (fun itv Δ₂ => ?_) fun _ _ e => e) fun _ _ e => e) hf (fun _ _ => rfl)
  rintro ⟨it, S, ns, Δ₃, Φ, J, rfl, W, hsb, hJ, hΦ, step, fin⟩
  refine ⟨fun n Δ => ∃ i Δ₃, n = ns.length - i ∧ i ≤ ns.length ∧ Sb ((it, S i) :: Δ₃) Δ ∧ J i Δ₃, ns.length, ⟨0, Δ₃, rfl, Nat.zero_le _, hsb, hJ⟩, ?_⟩
  rintro n Δ ⟨i, Δ₃, rfl, hi, hsb, hJ⟩
  refine T.sb hsb ?_
  cases e : ns[i]? with
  | none =>
    have hi' : i = ns.length := by have := List.getElem?_eq_none_iff.mp e; omega
    subst hi'
    exact W.done _ _ (fun p hp => .tail _ (hΦ _ _ hJ p hp)) .head _ _ (T.execsNil (fin _ hJ))
  | some n =>
    have hlt := (List.getElem?_eq_some_iff.mp e).1
    refine W.item i n e _ _ (fun p hp => .tail _ (hΦ _ _ hJ p hp)) .head _ _ fun t => ?_
    refine T.asName ((step i n t _ e hJ).mono (fun _ Δ₄ q => q.mono (fun f Δ₅ q => ?_) fun _ _ e => e) fun _ _ e => e)
    cases f with
    | next => obtain ⟨Δ₆, s6, j6⟩ := q; exact ⟨ns.length - (i + 1), by omega, i + 1, Δ₆, rfl, hlt, s6, j6⟩
    | cont => obtain ⟨Δ₆, s6, j6⟩ := q; exact ⟨ns.length - (i + 1), by omega, i + 1, Δ₆, rfl, hlt, s6, j6⟩
    | brk => exact q
    | ret v => exact q
theorem T.forW {x : Str} {px pos : Pos} {iter : Expr} {body : List Stmt} {Q : Flow → Hp → Prop} {Φ : Hp} (J : Nat → Hp → Prop)
    (h : T c A Δ (eval iter env) (fun xv Δ₁ => T c A Δ₁ (pyIter xv) (fun itv Δ₂ => ∃ it S ns Δ₃, itv = .ref it ∧ IW c A it S Φ ns ∧ Sb ((it, S 0) :: Δ₃) Δ₂ ∧ J 0 Δ₃ ∧ (∀ i Δ, J i Δ → ∀ p ∈ Φ, p ∈ Δ) ∧
      (∀ i n t Δ, ns[i]? = some n → J i Δ → T c A ((it, S (i + 1)) :: Δ) (storeName env x (.int n t)) (fun _ Δ₄ => T c A Δ₄ (execs body env) (fun f Δ₅ => match f with
        | .next => ∃ Δ₆, Sb ((it, S (i + 1)) :: Δ₆) Δ₅ ∧ J (i + 1) Δ₆
        | .cont => ∃ Δ₆, Sb ((it, S (i + 1)) :: Δ₆) Δ₅ ∧ J (i + 1) Δ₆
        | .brk => Q .next Δ₅
        | .ret v => Q (.ret v) Δ₅) NoE) NoE) ∧ (∀ Δ, J ns.length Δ → Q .next Δ)) E) E)
    (hf : ∀ x, foldedSetIterable iter env x = pure x := by intro _; k_dflt rfl) : T c A Δ (exec (.For (.Name x px) iter body [] pos) env) Q E := by
  exact T.forX (h.mono (fun xv Δ₁ q => q.mono (fun itv Δ₂ ⟨it, S, ns, Δ₃, r⟩ => ⟨it, S, ns, Δ₃, Φ, J, r⟩) fun _ _ e => e) fun _ _ e => e) hf
end
end Mine
end
/-! N2 -/
section
open PySem PySem.W PyProof.Rows PySem.Calls
set_option maxRecDepth 100000
namespace Mine
/-- the judgement, for contexts with no collection under way -/
def TN {α : Type} (c : Cx) (A : Around) (Δ : Hp) (t : Sem α) (Q : α → Hp → Prop) (E : Value → Hp → Prop) : Prop :=
  ∀ s, St c Δ s → wpN (model PG c.w) A t (Lf c Q) (Lf c E) s
def TCN (c : Cx) (A : Around) (Δ : Hp) (k : Code) (R : Result → Hp → Prop) : Prop := ∀ s, St c Δ s → codeN (model PG c.w) A k (Lf c R) s
section
variable {α β : Type} {c : Cx} {A : Around} {Δ Δ' : Hp} {E : Value → Hp → Prop} {env : Env}
theorem TN.of {t : Sem α} {Q : α → Hp → Prop} (h : T c A Δ t Q E) : TN c A Δ t Q E := fun s hs => .of (h s hs)
theorem TN.mono {t : Sem α} {Q Q' : α → Hp → Prop} {E' : Value → Hp → Prop} (h : TN c A Δ t Q E) (hQ : ∀ a Δ, Q a Δ → Q' a Δ) (hE : ∀ a Δ, E a Δ → E' a Δ) : TN c A Δ t Q' E' :=
  fun s hs => (h s hs).mono (fun _ _ ⟨Δ, x, q⟩ => ⟨Δ, x, hQ _ _ q⟩) fun _ _ ⟨Δ, x, q⟩ => ⟨Δ, x, hE _ _ q⟩
theorem TN.pre {t : Sem α} {Q : α → Hp → Prop} (hs : ∀ s, St c Δ s → St c Δ' s) (h : TN c A Δ' t Q E) : TN c A Δ t Q E := fun s x => h s (hs s x)
theorem TN.sb {t : Sem α} {Q : α → Hp → Prop} (h : Sb Δ' Δ) (q : TN c A Δ' t Q E) : TN c A Δ t Q E := q.pre fun _ x => x.sb h
theorem TN.bnd {m : Sem β} {f : β → Sem α} {Q : α → Hp → Prop} (h : TN c A Δ m (fun b Δ => TN c A Δ (f b) Q E) E) : TN c A Δ (m >>= f) Q E := fun s hs =>
  ((h s hs).mono (fun b s' ⟨_, x, q⟩ => q s' x) fun _ _ e => e).bind
theorem TN.hold {vs : List Value} {t : Sem α} {Q : α → Hp → Prop} (h : TN c A Δ t Q E) : TN c A Δ (holding vs t) Q E := fun s hs => (h s hs).holding
theorem TN.pur {a : α} {Q : α → Hp → Prop} (h : Q a Δ) : TN c A Δ (pure a) Q E := .of (T.pur h)
theorem TN.call_of {f : Value} {pos : List Value} {kw : List (Str × Value)} {Q : Value → Hp → Prop}
    (h : TCN c A Δ (.call f ⟨pos, kw⟩) (fun r Δ' => match r with | .ok (.ret v) => Q v Δ' | .ok _ => False | .error e => E e Δ')) : TN c A Δ (call f pos kw) Q E := fun s hs =>
  wpN.call ((h s hs).mono fun r s' ⟨Δ', x, q⟩ => by
    rcases r with e | f
    · exact ⟨Δ', x, q⟩
    · cases f <;> first | exact ⟨Δ', x, q⟩ | exact q.elim)
theorem TN.onR {m : Sem α} {k : Value → Sem Unit} {Q : α → Hp → Prop} (h : TN c A Δ m Q (fun e Δ' => TN c A Δ' (k e) (fun _ Δ'' => E e Δ'') E)) : TN c A Δ (m.onRaise k) Q E := fun s hs =>
  ((h s hs).mono (fun _ _ q => q) fun e s' ⟨_, x, q⟩ => q s' x).onRaise
theorem TN.att {m : Sem α} {Q : Except Value α → Hp → Prop} (h : TN c A Δ m (fun a => Q (.ok a)) (fun e => Q (.error e))) : TN c A Δ m.attempt Q E := fun s hs => (h s hs).attempt
theorem TN.runV {k : Code} {Q : Value → Hp → Prop} (hf : isFin k = false)
    (h : TCN c A Δ k (fun r Δ' => match r with | .ok (.ret v) => Q v Δ' | .ok _ => False | .error e => E e Δ')) : TN c A Δ (runValue k) Q E := fun s hs =>
  wpN.runValue ((h s hs).mono fun r s' ⟨Δ', x, q⟩ => by
    rcases r with e | f
    · exact ⟨Δ', x, q⟩
    · cases f <;> first | exact ⟨Δ', x, q⟩ | exact q.elim) hf
end
end Mine
end
/-! N3 -/
section
open PySem PySem.W PyProof.Rows PySem.Calls
set_option maxRecDepth 100000
namespace Mine
section
variable {prog : Program} {w : World} {A : Around} {E : Value → Shared → Prop} {R : Result → Shared → Prop} {s : Shared}
theorem codeN_fun {a : Addr} {args : Args} {o : Obj} {fd : FuncData} {body : List Stmt} (hroom : A.depth < recursionLimit) (ho : s.heap.get? a = some o)
    (hd' : o.data = .func fd) (hco : fd.scope.isCoroutine = false) (hgen : fd.scope.isGenerator = false) (hbody : fd.body = .stmts body) (hcd : s.heap.CodeRec fd.code fd.qualname)
    (h : wpAny (model prog w) A.in1 (bindArgs fd args) (fun binds s₁ =>
      wpAny (model prog w) A.in1 (newFunctionEnv fd.scope fd.globals fd.closure binds (fd.qualname ++ ".<locals>.") (some a) fd.code none fd.builtins)
        (fun env s₂ => s₂.heap.NoLimit ∧ codeN (model prog w) A (.func body env) R s₂) (fun e s' => R (.error e) s') s₁) (fun e s' => R (.error e) s') s) : codeN (model prog w) A (.call (.ref a) args) R s := by
  refine codeN.tree (wpN.of ?_)
  show wpAny _ A.in1 (callAny (.ref a) args) _ _ s
  simp only [callAny]
  refine wpAny_bind (wpAny_load ho ?_)
  obtain ⟨c, oc, vs, tq, hc, hoc, hdc, hq⟩ := hcd
  simp only [hd', callFunction, hco, hgen, hbody, hc]
  rw [hc] at h
  refine wpAny_bind (m := field (.ref c) 1) (wpAny_field hoc hdc hq (wpAny_bind (wpAny_pure ?_)))
  exact wpAny_bind (wpAny_mono h (fun binds s₁ h₁ => wpAny_bind (wpAny_mono h₁ (fun env s₂ h₂ => wpAny_bind (wpAny_enterFrame h₂.1 hroom
    (wpAny_pure (And.intro (And.intro rfl rfl) h₂.2)))) fun _ _ h' => h')) fun _ _ h' => h')
theorem codeN_body {body : List Stmt} {env : Env}
    (h : wpN (model prog w) (A.deeper env) (execs body env) (fun f s' => R (.ok (.ret (match f with | .ret v => v | _ => .none))) s')
      (fun e s' => wpAny (model prog w) (A.deeper env) (leaving env e) (fun _ s'' => R (.error e) s'') (fun e' s'' => R (.error e') s'') s') s) : codeN (model prog w) A (.func body env) R s := by
  refine codeN.tree ?_
  show wpN _ (A.deeper env) (do point; match ← (execs body env).onRaise (leaving env) with | .ret v => ret v | _ => ret .none) _ _ s
  refine wpN.bind (wpN.of (wpAny_point ?_))
  refine wpN.bind (wpN.onRaise (h.mono (fun f s' h' => ?_) fun e s' h' => wpN.of h'))
  cases f <;> exact wpN.pure h'
end
end Mine
end
/-! N4 -/
section
open PySem PySem.W PyProof.Rows PySem.Calls
set_option maxRecDepth 100000
namespace Mine
section
variable {c : Cx} {A : Around} {Δ Δ' : Hp} {E : Value → Hp → Prop} {env : Env}
theorem TN.callFn {f : Addr} {fd : FuncData} {body : List Stmt} {args : Args} {oc : Value} {od : Option Addr} {sl : Array (Option Value)} {Q : Value → Hp → Prop}
    (hk : (kopf.heap_39 c.w.params).lookup f = some ⟨oc, od, .func fd, sl⟩) (hcd : codeIn (kopf.heap_39 c.w.params) fd.code fd.qualname = true) (hbody : fd.body = .stmts body) (hclo : fd.closure = []) (hroom : A.depth < recursionLimit)
    (h : T c A.in1 Δ (bindArgs fd args) (fun binds Δ₁ => (binds.all fun y => fd.scope.names.lookup y.1 == some .local || fd.scope.names.lookup y.1 == some .cell) = true ∧
      ∃ l, (∀ L, ∀ p ∈ l, bindL (callEnvC fd L f).kindOf binds (fun _ => none) p.1 = some p.2) ∧
      ∀ L, TN c (A.deeper (callEnvC fd L f)) ((L, PFr l) :: (cellsHp fd.scope.names (bindC (callEnvC fd L f).kindOf binds fun _ => none) L ++ Δ₁)) (execs body (callEnvC fd L f))
        (fun fl Δ₂ => ∃ Δ₃, List.Sublist Δ₃ Δ₂ ∧ Q (retv fl) Δ₃) NoE) NoE)
    (hnd : ((cellsFrom 0 fd.scope.names []).map (·.1)).Nodup)
    (hco : fd.scope.isCoroutine = false) (hgen : fd.scope.isGenerator = false) (hkd : fd.scope.kind = .function) :
    TCN c A Δ (.call (.ref f) args) (fun r Δ' => match r with | .ok (.ret v) => Q v Δ' | .ok _ => False | .error e => E e Δ') := fun s hs => by
  refine codeN_fun hroom (hs.kin _ _ hk) rfl hco hgen hbody (codeRec_of hs.kin hcd) ?_
  refine wpAny_mono (h s hs) (fun binds s₁ ⟨Δ₁, h₁, hkind, l, hl, hb⟩ => ?_) fun _ _ ⟨_, _, x⟩ => x.elim
  rw [hclo]
  refine wpAny_newFunctionEnv_cells hkd (kindsX hkind _) fun env he s₂ hin => ?_
  subst he
  obtain ⟨⟨⟨h₂, tk, rfl⟩, ns, keep, fresh⟩, cell, apart, above⟩ := hin
  refine ⟨h₁.nolimit.keeps keep, codeN_body ?_⟩
  have hnone : ∀ b, s₁.heap.objs.size ≤ b → s₁.heap.get? b = none := fun b hb => by
    cases q : s₁.heap.get? b with
    | none => rfl
    | some o => exact absurd (Heap.lt_size q) (Nat.not_lt.mpr hb)
  have hlook : ∀ n a, (n, a) ∈ cellsFrom (s₁.heap.objs.size + 1) fd.scope.names [] → (cellsFrom (s₁.heap.objs.size + 1) fd.scope.names []).lookup n = some a := by
    have nk := cellsFrom_names fd.scope.names 0 (s₁.heap.objs.size + 1) [] [] rfl
    intro n a hm
    exact lookup_of_nodup' (by rw [← nk]; exact hnd) hm
  have S := h₁.adds (h' := h₂) (n := tk) keep ((s₁.heap.objs.size, PFr l) :: cellsHp fd.scope.names (bindC (callEnvC fd s₁.heap.objs.size f).kindOf binds fun _ => none) s₁.heap.objs.size)
    (fun p hp => by
      rcases List.mem_cons.mp hp with rfl | hp
      · obtain ⟨o, es, ep, e, r⟩ := ns
        exact ⟨Nat.le_refl _, o, e, _, ⟨es, ep, r⟩, hl _⟩
      · obtain ⟨⟨n, a⟩, hm, rfl⟩ := List.mem_map.mp hp
        exact ⟨Nat.le_of_lt (above n a hm), cell n a (hlook n a hm)⟩)
    (by
      rw [List.map_cons, List.nodup_cons]
      refine ⟨fun hm => ?_, ?_⟩
      · obtain ⟨p, hp, e⟩ := List.mem_map.mp hm
        obtain ⟨⟨n, a⟩, hm, rfl⟩ := List.mem_map.mp hp
        have := above n a hm
        have e : a = s₁.heap.objs.size := e
        exact Nat.lt_irrefl _ (e ▸ this)
      · show List.Nodup _
        unfold cellsHp
        rw [List.map_map]
        exact List.pairwise_map.mpr (apart.imp fun h => h))
  refine (hb _ _ S).mono (fun fl s₃ ⟨Δ₂, h₃, Δ₃, sub, q⟩ => ⟨Δ₃, h₃.drop sub, ?_⟩) fun _ _ ⟨_, _, x⟩ => x.elim
  cases fl <;> exact q
end
end Mine
end
/-! N5 -/
section
open PySem PySem.W PyProof.Rows PySem.Calls
set_option maxRecDepth 100000
namespace Mine
section
variable {c : Cx} {A : Around} {Δ Δ' : Hp} {E : Value → Hp → Prop} {env : Env}
theorem TN.execsCons {st : Stmt} {rest : List Stmt} {Q : Flow → Hp → Prop} (h : TN c A Δ (exec st env) (fun f Δ₁ => match f with | .next => TN c A Δ₁ (execs rest env) Q E | f => Q f Δ₁) E) : TN c A Δ (execs (st :: rest) env) Q E := fun s hs Γ p hΓ hn => by
  rw [execs_cons, Sem.wp_bind']
  refine Sem.wp_mono _ Γ _ (fun f p' s' ⟨Δ₁, h₁, q⟩ => ?_) (fun _ _ _ h' => h') _ _ (h s hs Γ p hΓ hn)
  cases f <;> first | exact q s' h₁ Γ p' hΓ hn | exact ⟨Δ₁, h₁, q⟩
theorem TN.retS {e : Expr} {pos : Pos} {Q : Flow → Hp → Prop} (h : TN c A Δ (eval e env) (fun v Δ₁ => Q (.ret v) Δ₁) E) : TN c A Δ (exec (.Return (some e) pos) env) Q E := fun s hs Γ p hΓ hn => by
  simp only [exec_Return_some, Sem.wp_bind', Sem.wp_cmd_standAt, Sem.wp_pure']; exact h s hs Γ _ hΓ hn
theorem TN.assignName {x : Str} {p' pos : Pos} {value : Expr} {Q : Flow → Hp → Prop} (h : TN c A Δ (eval value env) (fun v Δ₁ => T c A Δ₁ (storeName env x v) (fun _ Δ₂ => Q .next Δ₂) E) E)
    (hs : swapsWith value (some (.Name x p')) pos.line env = pure false := by k_dflt rfl) : TN c A Δ (exec (.Assign [.Name x p'] value pos) env) Q E := fun s hs' Γ p hΓ hn => by
  simp only [exec_Assign_Name env x p' value pos hs, Sem.wp_bind', Sem.wp_cmd_standAt, Sem.wp_bindName, Sem.wp_pure']
  exact Sem.wp_mono _ Γ _ (fun v _ s₁ ⟨Δ₁, h₁, q⟩ => q s₁ h₁ Γ _ hΓ) (fun _ _ _ h' => h') _ _ (h s hs' Γ _ hΓ hn)
end
end Mine
end
/-! N6 -/
section
open PySem PySem.W PyProof.Rows PySem.Calls
set_option maxRecDepth 100000
namespace Mine
section
variable {c : Cx} {A : Around} {Δ Δ' : Hp} {E : Value → Hp → Prop} {env : Env}
/-- T first, then TN -/
theorem TN.seq {α β : Type} {m : Sem β} {f : β → Sem α} {Q : α → Hp → Prop} (h : T c A Δ m (fun b Δ => TN c A Δ (f b) Q E) E) : TN c A Δ (m >>= f) Q E := TN.bnd (TN.of h)
theorem TN.cw {pos : Pos} {f : Value} {first : List Value} {args : List (Bool × Sem Value)} {kws : List (Option Str × Sem Value)} {Q : Value → Hp → Prop}
    (h : T c A Δ (evalArgs f true args kws) (fun a Δ₁ => T c A Δ₁ (keeperOf f) (fun k Δ₂ => TN c A Δ₂ (call f (first ++ a.pos) a.kw) Q E) E) E) (hplain : (args.any (·.1) || kws.any (·.1.isNone)) = false := by k_dflt rfl)
    (hop : ∀ {vs : List Value} {t : Sem Value} {Δ₂ : Hp}, TN c A Δ₂ t Q E → TN c A Δ₂ (operate vs t) Q E) (hkeep : ∀ {vs : List Value} {t : Sem Value} {Δ₂ : Hp}, TN c A Δ₂ t Q E → TN c A Δ₂ (t.keep vs) Q E) : TN c A Δ (callWith pos f first args kws) Q E := by
  unfold PySem.callWith
  refine TN.bnd (TN.hold (TN.of (h.mono (fun a Δ₁ q => ?_) fun _ _ e => e)))
  refine TN.seq (T.stand ?_)
  simp only [hplain]
  refine TN.seq (q.mono (fun k Δ₂ q => ?_) fun _ _ e => e)
  have tail : ∀ {t : Sem Value}, TN c A Δ₂ t Q E → TN c A Δ₂ (t >>= fun r => holding [r] point >>= fun _ => Pure.pure r) Q E := fun ht =>
    TN.bnd (ht.mono (fun r Δ₃ q => TN.seq (T.hold (T.pnt (TN.pur q)))) fun _ _ e => e)
  have marked (mk : Value) : TN c A Δ₂ (callMarked mk f (first ++ a.pos) a.kw) Q E := hkeep q
  cases k <;> dsimp only
  · split <;> first | exact tail q | exact tail (marked _)
  · split <;> first | exact tail q | exact tail (marked _)
  · exact tail q
  · exact tail (hop q)
end
end Mine
end
/-! N7 -/
section
open PySem PySem.W PyProof.Rows PySem.Calls
set_option maxRecDepth 100000
namespace Mine
section
variable {c : Cx} {A : Around} {Δ Δ' : Hp} {E : Value → Hp → Prop} {env : Env}
theorem TN.oper {vs : List Value} {t : Sem Value} {Q : Value → Hp → Prop} (h : TN c A Δ t Q E) : TN c A Δ (operate vs t) Q E := fun s hs Γ p hΓ hn => by
  rw [Sem.wp_operate]; exact h s hs Γ p hΓ hn
theorem TN.kp {α : Type} {vs : List Value} {t : Sem α} {Q : α → Hp → Prop} (h : TN c A Δ t Q E) : TN c A Δ (t.keep vs) Q E := fun s hs Γ p hΓ hn => by
  rw [Sem.wp_keep]; exact h s hs Γ p hΓ hn
theorem TN.callName {id : Str} {p pos : Pos} {args : List Expr} {Q : Value → Hp → Prop}
    (h : T c A Δ (eval (.Name id p) env) (fun f Δ₁ => TN c A Δ₁ (callWith pos f [] (backTo pos (starEach args env)) []) Q E) E) : TN c A Δ (eval (.Call (.Name id p) args [] pos) env) Q E := by
  show TN c A Δ (do callWith pos (← eval (.Name id p) env) [] (backTo pos (starEach args env)) (backToKw pos (keywordEach [] env))) Q E
  exact TN.seq h
end
end Mine
end
/-! N8 -/
section
open PySem PySem.W PyProof.Rows PySem.Calls
set_option maxRecDepth 100000
namespace Mine
section
variable {M : Model} {A : Around} {E : Value → Shared → Prop} {s : Shared}
theorem wpN.of_ite {α : Type} {b : Prop} [Decidable b] {x y : Sem α} {Q : α → Shared → Prop} (h1 : wpN M A x Q E s) (h2 : wpN M A y Q E s) : wpN M A (if b then x else y) Q E s := by split <;> assumption
theorem wpN.stack {Q : List (Code × Pos) → Shared → Prop} (h : ∀ st : List (Code × Pos), (∀ x ∈ st, isFin x.1 = false) → Q st s) : wpN M A PySem.stack Q E s := fun Γ p hΓ hn => by
  show Q ((Γ.code, p) :: Γ.below) s
  exact h _ fun x hx => by
    rcases List.mem_cons.mp hx with rfl | hx
    · exact hn.1
    · exact hn.2 x hx
theorem wpN.handedOut {x dx C : Addr} {cd : ClassData} {o : Obj} {K : Frag} {mc : Str → Option Value} {Q : Option Addr → Shared → Prop} (X : K.In s.heap) (hc : clsIn K C = some cd) (hd : cd.hasDict = true) (hx : s.heap.get? x = some (instObj C dx)) (ho : s.heap.get? dx = some o) (es : Array DictEntry) (en : Nat) (hod : o.data = .dict es en)
    (hm : s.heap.Ns cStatics mc) (hn : mc "_thread.count" = none)
    (h : ∀ h', Heap.SameBut dx s.heap h' → h'.get? dx = some (if o.slots.isEmpty then { o with slots := #[none] } else o) → Q (some dx) { s with heap := h' }) : wpN M A (instanceDictHandedOut x) Q E s := by
  unfold instanceDictHandedOut instanceDict
  refine wpN.bind (wpN.of (wpAny_bind (wpAny_loadPart hx ?_)))
  dsimp only
  refine wpAny_bind ((looks_clsIn X hc).here ?_)
  rw [hd]
  refine wpAny_pure ?_
  dsimp only
  refine wpN.bind (wpN.of (wpAny_loadPart hx ?_))
  dsimp only
  refine wpN.bind ?_
  show wpN M A (load dx >>= _) _ _ s
  refine wpN.bind (wpN.of (wpAny_load ho ?_))
  have fin : wpN M A (do update dx fun o => if o.slots.isEmpty then { o with slots := #[none] } else o; Pure.pure (some dx)) Q E s :=
    wpN.of (wpAny_bind (wpAny_update ho (wpAny_pure (h _ (Heap.SameBut.update ..) (Heap.get?_update_self _ ho (by split <;> exact Obj.isFreed_of_dict (es := es) (ep := en) hod))))))
  refine wpN.of_ite ?_ ?_
  · exact wpN.pure fin
  · refine wpN.bind (wpN.stack fun st hst => ?_)
    generalize hf : List.findSome? _ st = r
    cases r with
    | some mg =>
      exfalso
      obtain ⟨x, hx, e⟩ := List.exists_of_findSome?_eq_some hf
      have := hst x hx
      obtain ⟨cc, pp⟩ := x
      dsimp only at e
      split at e
      · exact absurd this (by simp [isFin])
      · cases e
    | none =>
    dsimp only
    refine wpN.bind (wpN.of (wpAny_nsGet hm ?_))
    rw [hn]
    exact wpN.pure fin
end
end Mine
end
/-! N9 -/
section
open PySem PySem.W PyProof.Rows PySem.Calls Builtin Builtin.Getset_descriptor
set_option maxRecDepth 100000
namespace Mine
theorem entry_fdict : entryFor table "function.__dict__" = some Builtin.«function.__dict__» := entryFor_of_tree (by kernel_rfl)
section
variable {prog : Program} {w : World} {A : Around} {E : Value → Shared → Prop} {s : Shared} {R : Result → Shared → Prop} {K : Frag} {p x C : Addr}
theorem codeN_builtin {id : String} {args : Args} {b : Builtin} (hb : entryFor table id = some b)
    (h : wpN (model prog w) (A.under (.builtin id args)) (b args)
      (fun fin s' => match fin with | .done f => R (.ok f) s' | .again c' => (c'.quiet = true ∧ isFin c' = false) ∧ codeN (model prog w) A c' R s') (fun e s' => R (.error e) s') s) :
    codeN (model prog w) A (.builtin id args) R s := by
  refine codeN.tree ?_
  show wpN _ _ (match entryFor table id with | some b => b args | none => unsupported ((withoutEnding? id "#data").getD id)) _ _ s
  rw [hb]; exact h
theorem codeN_call_builtin {id : String} {args : Args} {b : Builtin} (hq : plainId id = true) (hf : isFin (.builtin id args) = false) (hb : entryFor table id = some b)
    (h : wpAny (model prog w) A.in1 (checkBuiltinCall id args) (fun _ s₁ => wpN (model prog w) A.in1 (b args)
      (fun fin s' => match fin with | .done f => R (.ok f) s' | .again c' => (c'.quiet = true ∧ isFin c' = false) ∧ codeN (model prog w) A c' R s') (fun e s' => R (.error e) s') s₁)
      (fun e s' => R (.error e) s') s) : codeN (model prog w) A (.call (.builtin id) args) R s := by
  refine codeN.tree (wpN.of ?_)
  show wpAny _ A.in1 (do checkBuiltinCall id args; again (.builtin id args)) _ _ s
  refine wpAny_bind (wpAny_mono h (fun _ s₁ h₁ => wpAny_pure (And.intro (And.intro (plainId_quiet hq args) hf) (codeN_builtin hb ?_))) fun _ _ h' => h')
  rw [Around.under_plainId hq args]; exact h₁
/-- the descriptor of an instance's __dict__ -/
def gsRec (K : Frag) (p C : Addr) : Bool := match recIn K p "getset_descriptor" with
  | some [.str _ _, owner, .builtin "function.__dict__", _] => mroIn K C owner == some true
  | _ => false
theorem gs_first {ox : Obj} {od : Option Obj} {tp : Value} {G : PySem.Fin → Shared → Prop} (X : K.In s.heap) (I : PySem.W.InstAt s.heap x ox C od) (hp : gsRec K p C = true)
    (h : G (.again (.builtin "function.__dict__" ⟨[.ref x], []⟩)) s) : wpAny (model prog w) A (Builtin.«getset_descriptor.__get__» ⟨[.ref p, .ref x, tp], []⟩) G E s := by
  unfold gsRec at hp
  split at hp
  · rename_i n tn owner u hr
    obtain ⟨d, sl, ho⟩ := rec_of X hr
    have hm : mroIn K C owner = some true := beq_iff_eq.mp hp
    obtain ⟨hh, g, dr, t, os⟩ := s
    have L0 := I.type (M := model prog w)
    have L1 := looks_mroIn (M := model prog w) X hm
    have hx := I.at_
    dsimp only at ho hx L0 L1
    have f0 := looks_field (M := model prog w) ho 0 (v := .str n tn) rfl
    have f1 := looks_field (M := model prog w) ho 1 (v := owner) rfl
    have f2 := looks_field (M := model prog w) ho 2 (v := .builtin "function.__dict__") rfl
    unfold Builtin.«getset_descriptor.__get__» descrGet
    rw [dga_obj]
    refine wpAny_bind (wpAny_pure ?_)
    unfold descrGetter descrCheckInstance descrNameAndClass isInstance
    repeat lk
    exact h
  · cases hp
theorem gs_type (X : K.In s.heap) (hp : gsRec K p C = true) : s.TypeIs (.ref p) "getset_descriptor" := by
  unfold gsRec at hp
  split at hp
  · rename_i hr
    obtain ⟨d, sl, ho⟩ := rec_of X hr
    exact ⟨_, ho, rfl⟩
  · cases hp
theorem fd_first {ox : Obj} {od : Option Obj} {G : Bool → Shared → Prop} (X : K.In s.heap) (I : PySem.W.InstAt s.heap x ox C od) (h1 : mroIn K C (.type "staticmethod") = some false) (h2 : mroIn K C (.type "classmethod") = some false)
    (h : G false s) : wpAny (model prog w) A (isInstance (.ref x) (.type "staticmethod") <||> isInstance (.ref x) (.type "classmethod")) G E s := by
  obtain ⟨hh, g, dr, t, os⟩ := s
  have L0 := I.type (M := model prog w)
  have L1 := looks_mroIn (M := model prog w) X h1
  have L2 := looks_mroIn (M := model prog w) X h2
  dsimp only at L0 L1 L2
  unfold isInstance
  unfold orM
  repeat lk
  repeat lk
  exact h
theorem handedM {dx : Addr} {cd : ClassData} {o : Obj} {Q : Option Addr → Shared → Prop} (X : K.In s.heap) (hc : clsIn K C = some cd) (hd : cd.hasDict = true) (hx : s.heap.get? x = some (instObj C dx)) (ho : s.heap.get? dx = some o) (es : Array DictEntry) (en : Nat) (hod : o.data = .dict es en)
    (hsl : o.slots.isEmpty = false) (h : ∀ h', Heap.SameBut dx s.heap h' → h'.get? dx = some o → Q (some dx) { s with heap := h' }) : wpAny (model prog w) A (instanceDictHandedOut x) Q E s := by
  unfold instanceDictHandedOut instanceDict
  refine wpAny_bind (wpAny_bind (wpAny_loadPart hx ?_))
  dsimp only
  refine wpAny_bind ((looks_clsIn X hc).here ?_)
  rw [hd]
  refine wpAny_pure ?_
  dsimp only
  refine wpAny_bind (wpAny_loadPart hx ?_)
  dsimp only
  refine wpAny_bind ?_
  show wpAny _ A (load dx >>= _) _ _ s
  refine wpAny_bind (wpAny_load ho ?_)
  have fin : wpAny (model prog w) A (do update dx fun o => if o.slots.isEmpty then { o with slots := #[none] } else o; Pure.pure (some dx)) Q E s :=
    wpAny_bind (wpAny_update ho (wpAny_pure (h _ (Heap.SameBut.update ..) (by
      have := Heap.get?_update_self (fun o : Obj => if o.slots.isEmpty then { o with slots := #[none] } else o) ho (by rw [if_neg (by rw [hsl]; exact Bool.false_ne_true)]; exact Obj.isFreed_of_dict (es := es) (ep := en) hod)
      rw [this, if_neg (by rw [hsl]; exact Bool.false_ne_true)]))))
  rw [if_pos (by rw [hsl]; rfl)]
  exact wpAny_pure fin
end
section
variable {c : Cx} {A : Around} {Δ Δ' : Hp} {E : Value → Hp → Prop} {env : Env}
theorem PDS.ofD {w : World} {kvs : List (Str × Value)} {ep : Nat} {o : Obj} (h : PDS w kvs ep o) : PDM w kvs ep (if o.slots.isEmpty then { o with slots := #[none] } else o) := by
  obtain ⟨es, ⟨h1, h2, h3⟩, r⟩ := h
  obtain ⟨a, b, d, sl⟩ := o
  dsimp only at h1 h2 h3
  subst h1 h2 h3
  exact ⟨⟨es, ⟨rfl, rfl, rfl⟩, r⟩, rfl⟩
theorem fin_of {α β : Type} {M : Model} {A : Around} {E : Value → Shared → Prop} {s : Shared} {a : α} {f : α → Sem β} {Q : β → Shared → Prop} (h : wpN M A (f a) Q E s) : wpN M A (Pure.pure a >>= f) Q E s := wpN.bind (wpN.pure h)
theorem Upd.refl_of {a : Addr} {P : Pr} : ∀ {Δ : Hp}, (a, P) ∈ Δ → Upd a P P Δ Δ
  | (b, R) :: Δ, h => by
    by_cases e : (a, P) = (b, R)
    · cases e; exact .head
    · exact .tail (Upd.refl_of ((List.mem_cons.mp h).resolve_left e))
/-- instance.__dict__, once it has been handed out -/
theorem T.dictM {x C dx p : Addr} {kvs ep} {ex : Bool} {Q : Value → Hp → Prop} (hC : ClsOk (kopf.heap_39 c.w.params) C) (hx : (x, PInst C dx) ∈ Δ) (hd : (dx, PDM c.w kvs ep) ∈ Δ)
    (hc : isClsIn (kopf.heap_39 c.w.params) C = true) (ha : findIn (kopf.heap_39 c.w.params) (.ref C) "__dict__" = some (some (.ref p))) (hg : specialIn (kopf.heap_39 c.w.params) (.ref p) "__get__" = some (some (.builtin "getset_descriptor.__get__"))) (ht : takesIn (kopf.heap_39 c.w.params) (.ref p) = some true)
    (hgs : gsRec (kopf.heap_39 c.w.params) p C = true) (h1 : mroIn (kopf.heap_39 c.w.params) C (.type "staticmethod") = some false) (h2 : mroIn (kopf.heap_39 c.w.params) C (.type "classmethod") = some false)
    (h : Q (.ref dx) Δ) : T c A Δ (getAttr (.ref x) "__dict__" ex) Q E := fun s hs => by
  obtain ⟨od, I, ho, pd⟩ := hs.instM hx hd
  obtain ⟨cd, hcl, hcd⟩ := any_some hC.hd
  refine get_bind hs.kin I hC.ga (findObj_data hc ha hg ht) hC.gb (wpAny_call (codeAny_call_builtin KF.slot_gs.plain KF.entry_gs (KF.slot_gs.check _ _ _ _ _ _ _ _ (gs_type (s := { s with toks := s.toks + 1 }) hs.kin hgs) (KF.args_gs _ _ _)
    (gs_first (s := { s with toks := s.toks + 1 }) hs.kin I hgs ⟨Code.quiet_builtin _ (by decide +kernel), codeAny_builtin entry_fdict ?_⟩))))
  show wpAny _ _ (do
    if ← (isInstance (.ref x) (.type "staticmethod") <||> isInstance (.ref x) (.type "classmethod")) then
      if (← fieldsOf (.ref x))[1]? == some (.bool true) then unsupported "staticmethod:attribute-copied-from-the-function"
    ret (match ← instanceDictHandedOut x with | some d => .ref d | none => .none)) _ _ _
  refine wpAny_bind (fd_first (s := { s with toks := s.toks + 1 }) hs.kin I h1 h2 ?_)
  rw [if_neg Bool.false_ne_true]
  obtain ⟨_, _, es, hod, _⟩ := pd.parts
  refine wpAny_bind (handedM (s := { s with toks := s.toks + 1 }) (o := od) hs.kin hcl hcd I.at_ ho es _ hod pd.2 fun h' sb e => ?_)
  refine wpAny_pure ?_
  exact handed_on rfl ⟨Δ, hs.upd (Upd.refl_of hd) sb ⟨od, e, pd⟩, h⟩
theorem get_bindN {prog : Program} {w : World} {s : Shared} {K : Frag} {x C : Addr} {ox : Obj} {od : Option Obj} {name : Str} {expr : Bool} {Q E : Value → Shared → Prop} {g a : Value} (X : K.In s.heap) (I : PySem.W.InstAt s.heap x ox C od) (hga : findIn K (.ref C) "__getattribute__" = some (some (.builtin "object.__getattribute__")))
    (hf : findObj K C od name = some (.bind g a)) (hk : findIn K (.ref C) "__getattr__" = some none)
    (h : wpN (model prog w) A.in1 (call g [a, .ref x, .ref C]) (fun v s' => wpN (model prog w) A (handedOut v) Q E s') (fun e s' => wpN (model prog w) A (noteIf true (.ref x) (.str name s.toks) e) (fun _ s'' => E e s'') E s') { s with toks := s.toks + 1 }) :
    wpN (model prog w) A (getAttr (.ref x) name expr) Q E s := by
  obtain ⟨hh, gg, d, t, os⟩ := s
  have L0 := I.type (M := model prog w)
  have L1 := looks_findIn (M := model prog w) X hga
  unfold getAttr getAttrBy
  refine wpN.bind (wpN.of (wpAny_mkText (wpN.holding (wpN.bind (wpN.of (L0.at (wpN.bind (wpN.of (L1.at ?_)))))))))
  show wpN _ _ (getAttrEveryday _ _ _) _ _ _
  refine wpN.bind (wpN.onRaise (wpN.runValue (codeN_builtin PySem.F.plainObj_entry_getattr_hooked ?_) rfl))
  have L2 := looks_find (M := model prog w) X I hf
  have L3 := looks_findIn (M := model prog w) X hk
  refine wpN.bind (wpN.of (wpAny_pure (wpN.bind (wpN.of (L0.at (wpN.bind (wpN.of (L2.at (wpN.bind (wpN.of (L3.at ?_)))))))))))
  show wpN _ _ (holding [a] (call g [a, .ref x, .ref C]) >>= ret) _ _ _
  exact wpN.bind (wpN.holding (wpN.mono h (fun v s' z => wpN.of (wpAny_pure z)) fun _ _ z => z))
/-- instance.__dict__, handed out for the first time -/
theorem TN.dictD {x C dx p : Addr} {kvs ep} {ex : Bool} {Q : Value → Hp → Prop} (hC : ClsOk (kopf.heap_39 c.w.params) C) (hx : (x, PInst C dx) ∈ Δ) (hu : Upd dx (PDS c.w kvs ep) (PDM c.w kvs ep) Δ Δ')
    (hc : isClsIn (kopf.heap_39 c.w.params) C = true) (ha : findIn (kopf.heap_39 c.w.params) (.ref C) "__dict__" = some (some (.ref p))) (hg : specialIn (kopf.heap_39 c.w.params) (.ref p) "__get__" = some (some (.builtin "getset_descriptor.__get__"))) (ht : takesIn (kopf.heap_39 c.w.params) (.ref p) = some true)
    (hgs : gsRec (kopf.heap_39 c.w.params) p C = true) (h1 : mroIn (kopf.heap_39 c.w.params) C (.type "staticmethod") = some false) (h2 : mroIn (kopf.heap_39 c.w.params) C (.type "classmethod") = some false)
    (hok : nsOkIn (kopf.heap_39 c.w.params) cStatics = true) (hst : nsIn (kopf.heap_39 c.w.params) cStatics "_thread.count" = some none)
    (h : Q (.ref dx) Δ') : TN c A Δ (getAttr (.ref x) "__dict__" ex) Q E := fun s hs => by
  obtain ⟨od, I, ho, pd⟩ := hs.inst hx hu.mem
  obtain ⟨cd, hcl, hcd⟩ := any_some hC.hd
  refine get_bindN hs.kin I hC.ga (findObj_data hc ha hg ht) hC.gb (wpN.call (codeN_call_builtin KF.slot_gs.plain rfl KF.entry_gs (KF.slot_gs.check _ _ _ _ _ _ _ _ (gs_type (s := { s with toks := s.toks + 1 }) hs.kin hgs) (KF.args_gs _ _ _)
    (wpN.of (gs_first (s := { s with toks := s.toks + 1 }) hs.kin I hgs ⟨⟨Code.quiet_builtin _ (by decide +kernel), rfl⟩, codeN_builtin entry_fdict ?_⟩)))))
  show wpN _ _ (do
    if ← (isInstance (.ref x) (.type "staticmethod") <||> isInstance (.ref x) (.type "classmethod")) then
      if (← fieldsOf (.ref x))[1]? == some (.bool true) then unsupported "staticmethod:attribute-copied-from-the-function"
    ret (match ← instanceDictHandedOut x with | some d => .ref d | none => .none)) _ _ _
  refine wpN.bind (wpN.of (fd_first (s := { s with toks := s.toks + 1 }) hs.kin I h1 h2 ?_))
  rw [if_neg Bool.false_ne_true]
  have pd' := pd
  obtain ⟨es, _, hod, _⟩ := pd'
  refine wpN.bind (wpN.handedOut (s := { s with toks := s.toks + 1 }) (o := od) hs.kin hcl hcd I.at_ ho es _ hod (Heap.Ns.of_isNs (isNs_of_in hs.kin hok)) (nsMap_none_of_in hs.kin hok hst) fun h' sb e => ?_)
  refine wpN.pure ?_
  exact wpN.of (handed_on rfl ⟨Δ', hs.upd hu sb ⟨_, e, PDS.ofD pd⟩, h⟩)
end
end Mine
end
/-! NA -/
section
open PySem PySem.W PyProof.Rows PySem.Calls
open Sem (wp)
set_option maxRecDepth 100000
namespace Mine
section
variable {c : Cx} {A : Around} {Δ Δ' : Hp} {E : Value → Hp → Prop} {env : Env}
theorem TN.at {α : Type} {t : Sem α} {Q : α → Hp → Prop} {s : Shared} {G : α → Shared → Prop} {F : Value → Shared → Prop} (h : TN c A Δ t Q E) (hs : St c Δ s) (g : ∀ a s', Lf c Q a s' → G a s') (f : ∀ e s', Lf c E e s' → F e s') : wpN (model PG c.w) A t G F s := (h s hs).mono g f
theorem wpN.ob {α β : Type} {M : Model} {F : Value → Shared → Prop} {s : Shared} {m : Sem α} {f : α → Sem β} {Q : β → Shared → Prop} (h : wpAny M A m (fun a s' => wpN M A (f a) Q F s') F s) : wpN M A (m >>= f) Q F s := wpN.bind (wpN.of h)
/-- the frame of a loop or a try that an exception comes back to -/
abbrev cameBack (e : Value) (env : Env) : Sem Unit := do
    if (← field e 1) == .none then unsupported "frame.own-activation:exception-without-traceback"
    setFlight e env.frame
theorem TN.tryE {body orelse : List Stmt} {h₀ : ExceptHandler} {hs : List ExceptHandler} {pos : Pos} {Q : Flow → Hp → Prop}
    (h : TN c A Δ (execs body env) (fun f Δ₁ => match f with | .next => TN c A Δ₁ (execs orelse env) Q E | f => Q f Δ₁)
      (fun e Δ₁ => T c A Δ₁ (noteFrame e env) (fun _ Δ₂ => T c A Δ₂ (setFlight e none) (fun _ Δ₃ => T c A Δ₃ (handleBy e env (h₀ :: hs)) Q E) E) E)) : TN c A Δ (exec (.Try body (h₀ :: hs) orelse [] pos) env) Q E := fun s hs' => by
  rw [arm_exec_Try]
  refine wpN.ob (wpAny_standAt ?_)
  unfold tryStmt
  simp only [List.isEmpty_nil, if_true, List.isEmpty_cons, Bool.false_and, Bool.false_eq_true, if_false]
  refine wpN.bind (wpN.attempt ((h s hs').mono (fun f s₁ ⟨Δ₁, h₁, q⟩ => ?_) fun e s₁ ⟨Δ₁, h₁, q⟩ => ?_))
  · cases f <;> first | exact q s₁ h₁ | exact wpN.pure ⟨Δ₁, h₁, q⟩
  · exact wpN.of (wpAny_bind (wpAny_mono (q s₁ h₁) (fun _ s₂ ⟨Δ₂, h₂, q⟩ => wpAny_bind (wpAny_mono (q s₂ h₂) (fun _ s₃ ⟨Δ₃, h₃, q⟩ => q s₃ h₃) fun _ _ x => x)) fun _ _ x => x))
theorem TN.tryOk {body orelse : List Stmt} {h₀ : ExceptHandler} {hs : List ExceptHandler} {pos : Pos} {Q : Flow → Hp → Prop}
    (h : TN c A Δ (execs body env) (fun f Δ₁ => match f with | .next => TN c A Δ₁ (execs orelse env) Q E | f => Q f Δ₁) NoE) : TN c A Δ (exec (.Try body (h₀ :: hs) orelse [] pos) env) Q E :=
  TN.tryE (h.mono (fun _ _ q => q) fun _ _ x => x.elim)
theorem TN.ifS {test : Expr} {body orelse : List Stmt} {pos : Pos} {Q : Flow → Hp → Prop} (h : T c A Δ (isTrue test env (eval test env)) (fun b Δ₁ => if b = true then TN c A Δ₁ (execs body env) Q E else TN c A Δ₁ (execs orelse env) Q E) E) :
    TN c A Δ (exec (.If test body orelse pos) env) Q E := fun s hs Γ p hΓ hn => by
  simp only [exec_If, Sem.wp_bind', Sem.wp_cmd_standAt]
  refine Sem.wp_mono _ Γ _ (fun b p₂ s₂ ⟨Δ₁, h₁, q⟩ => ?_) (fun _ _ _ h' => h') _ _ (h s hs Γ _ hΓ)
  cases b <;> exact q s₂ h₁ Γ p₂ hΓ hn
theorem TN.assignAttr {o : Expr} {attr : Str} {p' : Pos} {value : Expr} {pos : Pos} {Q : Flow → Hp → Prop} (h : TN c A Δ (eval value env) (fun v Δ₁ => T c A Δ₁ (eval o env) (fun ov Δ₂ => T c A Δ₂ (setAttr ov attr v) (fun _ Δ₃ => Q .next Δ₃) E) E) E)
    (hs : swapsWith value (some (o.Attribute attr p')) pos.line env = pure false := by k_dflt rfl) : TN c A Δ (exec (.Assign [o.Attribute attr p'] value pos) env) Q E := fun s hs' Γ p hΓ hn => by
  simp only [plainObj_exec_Assign_Attribute o attr p' value pos hs, assign_Attribute, Sem.wp_bind', Sem.wp_holding, Sem.wp_cmd_standAt, Sem.wp_release, Sem.wp_pure']
  exact Sem.wp_mono _ Γ _ (fun v p₁ s₁ ⟨Δ₁, h₁, q⟩ => Sem.wp_mono _ Γ _ (fun ov _ s₂ ⟨Δ₂, h₂, q⟩ => q s₂ h₂ Γ _ hΓ) (fun _ _ _ h' => h') _ _ (q s₁ h₁ Γ p₁ hΓ)) (fun _ _ _ h' => h') _ _ (h s hs' Γ _ hΓ hn)
theorem TN.getAttrE {value : Expr} {attr : Str} {pos : Pos} {Q : Value → Hp → Prop} (h : T c A Δ (eval value env) (fun o Δ₁ => TN c A Δ₁ (getAttr o attr true) Q E) E)
    (hg : ∀ o r, letTemporaryGo value o r = pure () := by intro _ _; k_dflt rfl)
    (he : eval (value.Attribute attr pos) env = (do
          let o ← eval value env
          standAt pos.atName
          let r ← holding [o] (getAttr o attr true)
          letTemporaryGo value o r
          pure r) := by k_dflt rfl) : TN c A Δ (eval (value.Attribute attr pos) env) Q E := by
  rw [he]
  refine TN.seq (h.mono (fun o Δ₁ q => TN.seq (T.stand (TN.bnd (TN.hold (q.mono (fun r Δ₂ q => ?_) fun _ _ e => e))))) fun _ _ e => e)
  rw [hg]
  exact TN.seq (T.pur (TN.pur q))
theorem TN.callAttr {o : Expr} {name : Str} {apos pos : Pos} {args : List Expr} {kws : List Keyword} {pl : Sem Bool} {Q : Value → Hp → Prop}
    (h : T c A Δ (eval o env) (fun ov Δ₁ => TN c A Δ₁ (getMethod ov name pl) (fun fx Δ₂ => TN c A Δ₂ (callWith pos fx.1 fx.2 (backTo pos (starEach args env)) (backToKw pos (keywordEach kws env))) Q E) E) E)
    (he : eval (.Call (.Attribute o name apos) args kws pos) env = (do
      let ov ← eval o env
      standAt apos.atName
      let (f, first) ← holding [ov] (getMethod ov name pl)
      callWith pos f first (backTo pos (starEach args env)) (backToKw pos (keywordEach kws env))) := by k_dflt rfl) : TN c A Δ (eval (.Call (.Attribute o name apos) args kws pos) env) Q E := by
  rw [he]
  exact TN.seq (h.mono (fun o Δ₁ q => TN.seq (T.stand (TN.bnd (TN.hold (q.mono (fun fx Δ₂ q => by obtain ⟨f, x⟩ := fx; exact q) fun _ _ e => e))))) fun _ _ e => e)
theorem TN.getBind {x C dx : Addr} {name : Str} {a g : Value} {kvs ep} {ex : Bool} {Q : Value → Hp → Prop} (hC : ClsOk (kopf.heap_39 c.w.params) C) (hx : (x, PInst C dx) ∈ Δ) (hd : (dx, PDS c.w kvs ep) ∈ Δ) (hv : valueAt kvs name = none)
    (ha : findIn (kopf.heap_39 c.w.params) (.ref C) name = some (some a)) (hg : specialIn (kopf.heap_39 c.w.params) a "__get__" = some (some g)) (ht : takesIn (kopf.heap_39 c.w.params) a = some false) (hcop : copiedNames.contains name = false)
    (h : TN c A.in1 Δ (call g [a, .ref x, .ref C]) (fun v Δ' => handedIn v = true ∧ Q v Δ') NoE) : TN c A Δ (getAttr (.ref x) name ex) Q E := fun s hs => by
  obtain ⟨od, I, _, p⟩ := hs.inst hx hd
  refine get_bindN hs.kin I hC.ga (findObj_miss hC.hd ha hg ht hcop (by rw [p.look, hv])) hC.gb ?_
  exact (h { s with toks := s.toks + 1 } hs.toks).mono (fun v s' ⟨Δ', h', hh, q⟩ => wpN.of (handed_on hh ⟨Δ', h', q⟩)) fun _ _ ⟨_, _, x⟩ => x.elim
theorem TN.usual {x C dx : Addr} {name : Str} {r : Option Value} {kvs ep} {pl : Sem Bool} {Q : Value × List Value → Hp → Prop} (hC : ClsOk (kopf.heap_39 c.w.params) C) (hx : (x, PInst C dx) ∈ Δ) (hd : (dx, PDS c.w kvs ep) ∈ Δ)
    (hf : findIn (kopf.heap_39 c.w.params) (.ref C) name = some r) (ht : r.all (fun a => (typeIn (kopf.heap_39 c.w.params) a).any fun t => t != .type "function" && t != .type "method_descriptor" && t != .type "wrapper_descriptor") = true)
    (h : TN c A Δ (getAttr (.ref x) name) (fun v Δ' => Q (v, []) Δ') E) : TN c A Δ (getMethod (.ref x) name pl) Q E := fun s hs => by
  obtain ⟨od, I, _, p⟩ := hs.inst hx hd
  have X := hs.kin
  have hcan := PySem.F.canon_object_ga
  have u : wpN (model PG c.w) A (do return (← getAttr (.ref x) name, ([] : List Value))) (Lf c Q) (Lf c E) s := wpN.bind ((h s hs).mono (fun _ _ z => wpN.pure z) fun _ _ z => z)
  unfold getMethod specialOf
  refine wpN.ob (wpAny_bind (I.type.here ((looks_findIn X hC.ga).here ?_)))
  dsimp only
  rw [hcan, if_neg (by decide)]
  refine wpN.ob (wpAny_bind (I.type.here ((looks_findIn X hC.gb).here ?_)))
  refine wpN.ob (wpAny_bind (I.type.here ((looks_findIn X hf).here ?_)))
  cases r with
  | none => exact u
  | some a =>
    obtain ⟨t, a1, a2⟩ := any_some ht
    refine wpN.ob ((looks_typeIn X a1).here ?_)
    rw [if_pos a2]; exact u
end
end Mine
end
/-! NB -/
section
open PySem PySem.W PyProof.Rows PySem.Calls
open Sem (wp)
set_option maxRecDepth 100000
namespace Mine
section
variable {c : Cx} {A : Around} {Δ Δ' : Hp} {E : Value → Hp → Prop} {env : Env}
/-- the way of an exception out of a loop of this frame -/
def OutLoop (c : Cx) (A : Around) (env : Env) (E : Value → Hp → Prop) : Value → Hp → Prop := fun e Δ => T c A Δ (noteFrame e env) (fun _ Δ' => T c A Δ' (cameBack e env) (fun _ Δ'' => E e Δ'') NoE) NoE
theorem OutLoop.noted {E : Value → Hp → Prop} {e : Value} {s : Shared} (h : Lf c (OutLoop c A env E) e s) : notedBy (model PG c.w) A env (cameBackBy (model PG c.w) A env (Lf c E)) e s := by
  obtain ⟨Δ, hs, q⟩ := h
  refine wpAny_mono (q s hs) (fun _ s' ⟨Δ', h', q⟩ => ?_) fun _ _ ⟨_, _, x⟩ => x.elim
  exact wpAny_mono (q s' h') (fun _ s'' ⟨Δ'', h'', q⟩ => ⟨Δ'', h'', q⟩) fun _ _ ⟨_, _, x⟩ => x.elim
theorem TN.forE {target iter : Expr} {body orelse : List Stmt} {pos : Pos} {Q : Flow → Hp → Prop}
    (h : TN c A Δ (eval iter env) (fun x Δ₁ => T c A Δ₁ (pyIter x) (fun it Δ₂ => ∃ (I : Nat → Hp → Prop) (n : Nat), I n Δ₂ ∧ ∀ n Δ, I n Δ → T c A Δ (pyNext it) (fun r Δ₃ => match r with
        | none => T c A Δ₃ (execs orelse env) Q (OutLoop c A env E)
        | some v => T c A Δ₃ (assign target env v) (fun _ Δ₄ => T c A Δ₄ (execs body env) (fun f Δ₅ => match f with
          | .next => ∃ m, m < n ∧ I m Δ₅
          | .cont => ∃ m, m < n ∧ I m Δ₅
          | .brk => Q .next Δ₅
          | .ret v => Q (.ret v) Δ₅) (OutLoop c A env E)) (OutLoop c A env E)) (OutLoop c A env E)) E) E)
    (hf : ∀ x, foldedSetIterable iter env x = pure x := by intro _; k_dflt rfl) (hl : ∀ it v, letOwnedTupleGo target it v = pure () := by intro _ _; k_dflt rfl) : TN c A Δ (exec (.For target iter body orelse pos) env) Q E := fun s hs => by
  rw [exec_For]
  refine wpN.ob (wpAny_standAt (wpN.bind ((h s hs).mono (fun x s₁ ⟨Δ₁, h₁, q⟩ => wpN.of ?_) fun _ _ e => e)))
  refine wpAny_bind (wpAny_of_eq (hf x) (wpAny_bind (wpAny_standAt (wpAny_bind (wpAny_holding (q.to h₁ fun it s₂ ⟨Δ₂, h₂, I, n, hI, turn⟩ => ?_))))))
  refine wpAny_runOwn (codeAny_forLoop (fun n s => ∃ Δ, St c Δ s ∧ I n Δ) (fun n s ⟨Δ, hs, hi⟩ => ?_) n ⟨Δ₂, h₂, hI⟩ (hl it))
  refine wpAny_mono (turn n Δ hi s hs) (fun r s₃ ⟨Δ₃, h₃, q⟩ => ?_) fun _ _ x => OutLoop.noted x
  cases r with
  | none => exact wpAny_mono (q s₃ h₃) (fun f s₂ q => q) fun _ _ x => OutLoop.noted x
  | some v =>
    refine wpAny_mono (q s₃ h₃) (fun _ s₄ ⟨Δ₄, h₄, q⟩ => ?_) fun _ _ x => OutLoop.noted x
    refine wpAny_mono (q s₄ h₄) (fun f s₅ ⟨Δ₅, h₅, q⟩ => ?_) fun _ _ x => OutLoop.noted x
    cases f with
    | next => obtain ⟨m, hm, hi⟩ := q; exact ⟨m, hm, Δ₅, h₅, hi⟩
    | cont => obtain ⟨m, hm, hi⟩ := q; exact ⟨m, hm, Δ₅, h₅, hi⟩
    | brk => exact ⟨Δ₅, h₅, q⟩
    | ret v => exact ⟨Δ₅, h₅, q⟩
theorem TN.compW {x : Str} {px kp : Pos} {vx iter : Expr} {scope : Scope} {cl : List (Str × Addr)} {pos : Pos} {Q : Value → Hp → Prop} (f : Int → Int)
    (h : TN c A Δ (eval iter env) (fun xv Δ₁ => T c A Δ₁ (pyIter xv) (fun itv Δ₂ => ∃ it S ns, itv = .ref it ∧ Δ₂ = (it, S 0) :: Δ₁ ∧ IW c A it S Δ₁ ns ∧ ns.length ≤ sizeLine ∧ ns.Nodup ∧
      (∀ C D ys i n t, ns[i]? = some n → T c A ((C, PFr [(x, .int n t)]) :: (D, PWt ys) :: (it, S (i + 1)) :: Δ₁) (eval vx (compEnvC scope cl C env)) (fun y Δ' => (∃ t, y = .int (f n) t) ∧ Δ' = (C, PFr [(x, .int n t)]) :: (D, PWt ys) :: (it, S (i + 1)) :: Δ₁) NoE) ∧
      ∀ D, Q (.ref D) ((D, PWt (ns.map fun n => (n, f n))) :: Δ₁)) E) E)
    (hclos : closureFor scope env = pure cl) (hcell : ∀ y ∈ scope.names, y.2 ≠ .cell) (hkind : scope.kind = .function)
    (hnames : ∀ y ∈ scope.names, y.2 = .local → scope.names.lookup y.1 = some .local) (hx : scope.names.lookup x = some .local) (hd1 : (x == ("__debug__" : Str)) = false)
    (hs : ∀ x, foldedSetIterable iter env x = pure x := by intro _; k_dflt rfl) : TN c A Δ (eval (.DictComp (.Name x kp) vx [⟨.Name x px, iter, [], 0⟩] scope pos) env) Q E := by
  rw [arm_eval_DictComp]
  show TN c A Δ (eval iter env >>= fun xv => comprehension (.DictComp (.Name x kp) vx [⟨.Name x px, iter, [], 0⟩] scope pos) scope env _ PySem.newDict false (Pure.pure xv) none) Q E
  exact TN.bnd (h.mono (fun xv Δ₁ q => TN.of (T.compWU f (T.pur q) hclos hcell hkind hnames hx hd1 hs)) fun _ _ e => e)
end
end Mine
end
/-! NC -/
section
open PySem PySem.W PyProof.Rows PySem.Calls Builtin Builtin.ObjectAttr
open Sem (wp)
set_option maxRecDepth 100000
namespace Mine
section
variable {prog : Program} {w : World} {A : Around} {E : Value → Shared → Prop} {s : Shared} {R : Result → Shared → Prop} {K : Frag} {C : Addr} {h : Heap} {g : Array GenState} {d : Drawn} {t : Nat} {os : OsState}
theorem codeN_call_builtin_at {id : String} {args : Args} {b : Builtin} (hq : (Code.builtin id args).quiet = true) (hf : isFin (.builtin id args) = false) (hb : entryFor table id = some b)
    (h : wpAny (model prog w) A.in1 (checkBuiltinCall id args) (fun _ s₁ => wpN (model prog w) (A.under (.builtin id args)) (b args)
      (fun fin s' => match fin with | .done f => R (.ok f) s' | .again c' => (c'.quiet = true ∧ isFin c' = false) ∧ codeN (model prog w) A c' R s') (fun e s' => R (.error e) s') s₁)
      (fun e s' => R (.error e) s') s) : codeN (model prog w) A (.call (.builtin id) args) R s := by
  refine codeN.tree (wpN.of ?_)
  show wpAny _ A.in1 (do checkBuiltinCall id args; again (.builtin id args)) _ _ s
  exact wpAny_bind (wpAny_mono h (fun _ s₁ h₁ => wpAny_pure (And.intro (And.intro hq hf) (codeN_builtin hb h₁))) fun _ _ h' => h')
theorem make_coreN {rest : List Value} {kw : List (Str × Value)} {init : Value} (Y : Makes (model prog w) h C) (hi : Looks (model prog w) h (typeLookup (.ref C) "__init__") (some init))
    (hb : ∀ self, Looks (model prog w) h (bindSpecial init self) (init, [self])) (hne : (some init != some (Value.builtin "object.__init__")) = true ∨ (rest = [] ∧ kw = []))
    (hq : codeN (model prog w) (A.under (.builtin "type.__call__" ⟨.ref C :: rest, kw⟩)) (.call init ⟨.ref (h.objs.size + 1) :: rest, kw⟩) (InitBack (h.objs.size + 1) R) ⟨(h.push emptyDict).push (instObj C h.objs.size), g, d, t, os⟩) :
    codeN (model prog w) A (.call (.ref C) ⟨rest, kw⟩) R ⟨h, g, d, t, os⟩ := by
  have Y' := Y
  obtain ⟨⟨oc, od, cd, sl, hC, e1, e2, e4⟩, made, base, self, top, call, typ⟩ := Y
  refine codeN.tree ?_
  show wpN _ _ (callAny (.ref C) _) _ _ _
  refine wpN.of ?_
  refine nd_load hC ?_
  show wpAny _ _ (callAny.viaDunder (.ref C) _) _ _ _
  unfold callAny.viaDunder
  refine wpAny_bind (call.at ?_)
  dsimp only
  rw [tc_bind]
  refine wpAny_bind (wpAny_pure (wpAny_bind (wpAny_pure ?_)))
  refine wpAny_pure (a := Fin.again (.call (.builtin "type.__call__") ⟨.ref C :: rest, kw⟩)) (And.intro ⟨rfl, rfl⟩ ?_)
  refine codeN_call_builtin_at (Code.quiet_builtin _ (by decide +kernel)) rfl entry_typeCall (check_slot tc_kind tc_split typ (tc_args _ _ _) ?_)
  unfold Builtin.«type.__call__»
  have hm : Looks (model prog w) h (mroOf (.ref C)) cd.mro := ((Looks.ld (part := none) hC).andThen .now).andThen .now
  show wpN _ _ (mroOf (.ref C) >>= _) _ _ _
  refine wpN.ob (hm.at ?_)
  rw [e4, if_neg Bool.false_ne_true]
  show wpN _ _ (Bind.madeBy (.ref C) >>= _) _ _ _
  refine wpN.ob (made.at ?_)
  dsimp only
  refine wpN.ob (wpAny_pure (wpN.ob (wpAny_holding (wpAny_call (new_K Y' hi hne ?_)))))
  have k : ∀ b o, h.get? b = some o → ((h.push emptyDict).push (instObj C h.objs.size)).get? b = some o := fun b o e => Heap.get?_push_of_some _ (Heap.get?_push_of_some _ e)
  have hx : ((h.push emptyDict).push (instObj C h.objs.size)).get? (h.objs.size + 1) = some (instObj C h.objs.size) := by heap_get
  have t1 : Looks (model prog w) ((h.push emptyDict).push (instObj C h.objs.size)) (typeOf (.ref (h.objs.size + 1))) (.ref C) := (Looks.ld hx).andThen .now
  have s1 := self.keeps k
  have i1 := hi.keeps k
  have b1 := (hb (.ref (h.objs.size + 1))).keeps k
  unfold isInstance
  refine wpN.ob (wpAny_bind (t1.at (s1.at ?_)))
  rw [if_neg (by decide)]
  unfold callSpecial? specialOf
  refine wpN.bind (wpN.holding (wpN.ob (wpAny_bind (t1.at (i1.at ?_)))))
  dsimp only
  refine wpN.holding (wpN.ob (b1.at ?_))
  refine wpN.bind (wpN.call (codeN.mono hq fun r s' z => ?_))
  rcases r with e | (v | _ | _ | _) <;> first | exact z | exact z.elim | skip
  obtain ⟨rfl, z⟩ := z
  exact wpN.of (wpAny_pure (wpN.of (wpAny_pure z)))
end
section
variable {c : Cx} {A : Around} {Δ Δ' : Hp} {E : Value → Hp → Prop} {env : Env}
theorem TN.make {C fI : Addr} {pos : List Value} {kw : List (Str × Value)} {Q : Value → Hp → Prop} (hm : makesIn (kopf.heap_39 c.w.params) C = true) (hi : findIn (kopf.heap_39 c.w.params) (.ref C) "__init__" = some (some (.ref fI))) (hf : typeIn (kopf.heap_39 c.w.params) (.ref fI) = some (.type "function"))
    (h : ∀ (x dx : Addr) (A' : Around), A'.depth = A.depth + 1 → A'.handled = A.handled → A'.frames = A.frames → TCN c A' ((x, PInst C dx) :: (dx, PDS c.w [] 0) :: Δ) (.call (.ref fI) ⟨.ref x :: pos, kw⟩) (fun r Δ' => match r with | .ok (.ret v) => v = .none ∧ Q (.ref x) Δ' | .ok _ => False | .error e => E e Δ')) : TN c A Δ (call (.ref C) pos kw) Q E := TN.call_of fun s hs => by
  obtain ⟨hh, g, d, t, os⟩ := s
  have S1 := (hs.push (P := PDS c.w [] 0) (o := emptyDict) ⟨#[], ⟨rfl, rfl, rfl⟩, rfl, fun e he => (by simp at he), ⟨rfl, fun p hp => (by simp at hp)⟩, List.nodup_nil⟩ (n := t))
  have S2 := S1.push (P := PInst C hh.objs.size) (o := instObj C hh.objs.size) rfl (n := t)
  rw [Heap.size_push] at S2
  refine make_coreN (makes_of hs.kin hm) (looks_findIn hs.kin hi) (fun self => bind_fn hs.kin self hf) (.inl rfl) ?_
  refine codeN.mono (h (hh.objs.size + 1) hh.objs.size (A.under (Code.builtin "type.__call__" ⟨.ref C :: pos, kw⟩)) rfl rfl ?_ _ S2) fun r s' ⟨Δ', h', q⟩ => ?_
  · rfl
  rcases r with e | (v | _ | _ | _) <;> first | exact ⟨Δ', h', q⟩ | exact q.elim | exact ⟨q.1, Δ', h', q.2⟩
end
end Mine
end
/-! ND -/
section
open PySem PySem.W PyProof.Rows PySem.Calls
open Sem (wp)
set_option maxRecDepth 100000
namespace Mine
/-- an exception, and its traceback -/
def PEx (cls : String) (tb : Value) : Pr := fun o => o.cls = .type cls ∧ ∃ vs, o.data = .fields vs ∧ vs[1]? = some tb
def PTb (fl : Value) : Pr := fun o => ∃ ts, o.data = .fields ts ∧ ts[3]? = some fl
/-- every frame of the stack is one that we own -/
def FrOk (A : Around) (Δ : Hp) : Prop := ∃ l, A.frames = some l ∧ ∀ e ∈ l, e.scope.kind ≠ .module ∧ ∃ L fr, e.frame = some L ∧ (L, PFr fr) ∈ Δ
section
variable {c : Cx} {A : Around} {Δ Δ' : Hp} {E : Value → Hp → Prop} {env : Env}
theorem FrOk.push {A' : Around} {env : Env} {L : Addr} {fr : List (Str × Value)} (h : FrOk A Δ) (he : A'.frames = A.frames.map (env :: ·)) (hk : env.scope.kind ≠ .module) (hf : env.frame = some L) (hs : ∀ p ∈ Δ, p ∈ Δ') (hm : (L, PFr fr) ∈ Δ') : FrOk A' Δ' := by
  obtain ⟨l, h1, h2⟩ := h
  refine ⟨env :: l, by rw [he, h1]; rfl, fun e hm' => ?_⟩
  rcases List.mem_cons.mp hm' with rfl | hm'
  · exact ⟨hk, L, fr, hf, hm⟩
  · obtain ⟨a, L', fr', b, d⟩ := h2 e hm'
    exact ⟨a, L', fr', b, hs _ d⟩
theorem FrOk.mono {A' : Around} (h : FrOk A Δ) (he : A'.frames = A.frames) (hs : ∀ p ∈ Δ, p ∈ Δ') : FrOk A' Δ' := by
  obtain ⟨l, h1, h2⟩ := h
  exact ⟨l, he.trans h1, fun e hm => let ⟨a, L', fr', b, d⟩ := h2 e hm; ⟨a, L', fr', b, hs _ d⟩⟩
theorem T.ready {l : List Env} {Q : Unit → Hp → Prop} (hl : ∀ e ∈ l, e.scope.kind ≠ .module ∧ ∃ L fr, e.frame = some L ∧ (L, PFr fr) ∈ Δ) (h : Q () Δ) : T c A Δ (readyFrames l) Q E := by
  induction l with
  | nil => exact T.pur h
  | cons env outer ih =>
    intro s hs
    obtain ⟨hk, L, fr, hf, hm⟩ := hl env (.head _)
    obtain ⟨o, ho, m, hn, hp⟩ := hs.has hm
    simp only [readyFrames, hf]
    refine wpAny_bind (wpAny_load ho ?_)
    by_cases hrd : ((o.slots.getD 3 none).isSome) = true
    · rw [if_pos hrd]; exact wpAny_pure ⟨Δ, hs, h⟩
    · rw [if_neg hrd]
      refine wpAny_bind (wpAny_of_eq (a := false) (by simp [behindIsImport, hk]) ?_)
      refine wpAny_bind (wpAny_keptBack_false fun back => ?_)
      refine wpAny_bind (wpAny_update ho ?_)
      refine ih (fun e he => hl e (.tail _ he)) _ (hs.upd (n := s.toks) (Upd.refl_of hm) (Heap.SameBut.update ..) ⟨_, Heap.get?_update_self _ ho ?_, m, ?_, hp⟩)
      · obtain ⟨es, ep, hd, _⟩ := hn
        obtain ⟨a, b, dd, sl⟩ := o
        dsimp only at hd
        subst hd
        rfl
      · obtain ⟨es, ep, hd, r⟩ := hn
        exact ⟨es, ep, hd, r⟩
theorem T.frameOf {L : Addr} {Q : Value → Hp → Prop} {outer : List Env} (hfr : A.frames = some (env :: outer)) (hl : ∀ e ∈ env :: outer, e.scope.kind ≠ .module ∧ ∃ L fr, e.frame = some L ∧ (L, PFr fr) ∈ Δ) (hf : env.frame = some L) (h : Q (.ref L) Δ) : T c A Δ (PySem.frameOf env) Q E := fun s hs => by
  unfold PySem.frameOf
  refine wpAny_bind (wpAny_frameEnvs hfr ?_)
  have hdw : ((env :: outer).dropWhile fun x => x.frame != env.frame) = env :: outer := by simp [List.dropWhile]
  rw [hdw]
  unfold frameObject
  refine wpAny_bind (wpAny_bind (wpAny_mono (T.ready (E := E) (Q := fun _ Δ' => Δ' = Δ) hl rfl s hs) (fun _ s' ⟨Δ', h', e⟩ => ?_) fun _ _ x => x))
  subst e
  rw [hf]
  exact wpAny_pure (wpAny_pure ⟨_, h', h⟩)
theorem T.newEntry {L e : Addr} {cls : String} {tb head : Value} {hadNext : Bool} {Q : Unit → Hp → Prop} {outer : List Env} {D : Addr → Hp} (hfr : A.frames = some (env :: outer)) (hl : ∀ e ∈ env :: outer, e.scope.kind ≠ .module ∧ ∃ L fr, e.frame = some L ∧ (L, PFr fr) ∈ Δ) (hf : env.frame = some L)
    (hu : ∀ b, Upd e (PEx cls tb) (PEx cls (.ref b)) Δ (D b)) (h : ∀ b, Q () ((b, PTb (rawInt L)) :: D b)) :
    T c A Δ (do let a ← PySem.frameOf env; let pl ← entryPlaceOf L hadNext; let b ← EntryCells.newEntry head a .none (rawInt L) .none pl; setField (.ref e) 1 b) Q E := fun s hs => by
  refine wpAny_bind (wpAny_mono (T.frameOf (E := E) (Q := fun v Δ' => v = .ref L ∧ Δ' = Δ) hfr hl hf ⟨rfl, rfl⟩ s hs) (fun _ s' ⟨Δ', h', e1, e2⟩ => ?_) fun _ _ x => x)
  subst e1 e2
  refine wpAny_bind (wpAny_entryPlaceOf fun pl hpl => ?_)
  unfold EntryCells.newEntry newFields
  refine wpAny_bind (wpAny_newObj_type ?_ (hpl.sizeOk5 _ _ _ _ _))
  have S := h'.push (P := PTb (rawInt L)) (o := { cls := .type "traceback", dict := none, data := .fields ([head, .ref L, .none, rawInt L, .none] ++ (if pl.isEmpty then List.replicate 6 Value.none else pl)).toArray }) ⟨_, rfl, by simp⟩ (n := s'.toks)
  obtain ⟨o, ho, hc, vs, hd, h1⟩ := S.has (.tail _ (hu s'.heap.objs.size).mem)
  refine wpAny_setField ho hd (Array.getElem?_eq_some_iff.mp h1).1 ?_
  have hd3 := Obj.data_mapFields hd (·.setIfInBounds 1 (Value.ref s'.heap.objs.size))
  refine ⟨_, S.upd (n := s'.toks) (.tail (hu s'.heap.objs.size)) (Heap.SameBut.update ..) ⟨_, Heap.get?_update_self _ ho (Obj.isFreed_of_fields hd3), ?_⟩, h _⟩
  exact ⟨(Obj.cls_mapFields _ _).trans hc, _, hd3, by simp [(Array.getElem?_eq_some_iff.mp h1).1]⟩
theorem St.pex {s : Shared} {e : Addr} {cls : String} {tb : Value} (hs : St c Δ s) (h : (e, PEx cls tb) ∈ Δ) : ∃ o vs, s.heap.get? e = some o ∧ o.data = .fields vs ∧ vs[1]? = some tb := let ⟨o, ho, _, vs, hd, h1⟩ := hs.has h; ⟨o, vs, ho, hd, h1⟩
theorem T.noteFirst {L e : Addr} {cls : String} {Q : Unit → Hp → Prop} {outer : List Env} {D : Addr → Hp} (hfr : A.frames = some (env :: outer)) (hl : ∀ e ∈ env :: outer, e.scope.kind ≠ .module ∧ ∃ L fr, e.frame = some L ∧ (L, PFr fr) ∈ Δ) (hf : env.frame = some L)
    (hu : ∀ b, Upd e (PEx cls .none) (PEx cls (.ref b)) Δ (D b)) (h : ∀ b, Q () ((b, PTb (rawInt L)) :: D b)) : T c A Δ (noteFrame (.ref e) env) Q E := fun s hs => by
  obtain ⟨o, vs, ho, hd, h1⟩ := hs.pex (hu 0).mem
  unfold noteFrame
  simp only [hf]
  refine wpAny_bind (wpAny_field ho hd h1 ?_)
  rw [if_neg (by decide)]
  exact T.newEntry hfr hl hf hu h s hs
theorem T.noteNext {L e b₀ : Addr} {cls : String} {Q : Unit → Hp → Prop} {outer : List Env} {D : Addr → Hp} (hfr : A.frames = some (env :: outer)) (hl : ∀ e ∈ env :: outer, e.scope.kind ≠ .module ∧ ∃ L fr, e.frame = some L ∧ (L, PFr fr) ∈ Δ) (hf : env.frame = some L)
    (hm : (b₀, PTb .none) ∈ Δ) (hu : ∀ b, Upd e (PEx cls (.ref b₀)) (PEx cls (.ref b)) Δ (D b)) (h : ∀ b, Q () ((b, PTb (rawInt L)) :: D b)) : T c A Δ (noteFrame (.ref e) env) Q E := fun s hs => by
  obtain ⟨o, vs, ho, hd, h1⟩ := hs.pex (hu 0).mem
  obtain ⟨ob, hob, ts, htd, ht3⟩ := hs.has hm
  unfold noteFrame
  simp only [hf]
  refine wpAny_bind (wpAny_field ho hd h1 ?_)
  rw [if_pos (show (Value.ref b₀ != Value.none) = true from by simp)]
  refine wpAny_bind (wpAny_field hob htd ht3 ?_)
  rw [if_neg (show ¬ ((Value.none == rawInt L) = true) from by simp [rawInt])]
  refine wpAny_bind (wpAny_setField hob htd (Array.getElem?_eq_some_iff.mp ht3).1 ?_)
  have hd3 := Obj.data_mapFields htd (·.setIfInBounds 3 Value.none)
  exact T.newEntry hfr hl hf hu h _ (hs.upd (n := s.toks) (Upd.refl_of hm) (Heap.SameBut.update ..) ⟨_, Heap.get?_update_self _ hob (Obj.isFreed_of_fields hd3), _, hd3, by simp [(Array.getElem?_eq_some_iff.mp ht3).1]⟩)
theorem T.noteSame {L e b : Addr} {cls : String} {Q : Unit → Hp → Prop} (hf : env.frame = some L) (hm : (e, PEx cls (.ref b)) ∈ Δ) (hb : (b, PTb (rawInt L)) ∈ Δ) (h : Q () Δ) : T c A Δ (noteFrame (.ref e) env) Q E := fun s hs => by
  obtain ⟨o, vs, ho, hd, h1⟩ := hs.pex hm
  obtain ⟨ob, hob, ts, htd, ht3⟩ := hs.has hb
  unfold noteFrame
  simp only [hf]
  refine wpAny_bind (wpAny_field ho hd h1 ?_)
  rw [if_pos (show (Value.ref b != Value.none) = true from by simp)]
  refine wpAny_bind (wpAny_field hob htd ht3 ?_)
  rw [if_pos (by simp)]
  exact wpAny_pure ⟨Δ, hs, h⟩
theorem T.flight {e b : Addr} {cls : String} {fl : Value} {fr : Option Addr} {Q : Unit → Hp → Prop} (hm : (e, PEx cls (.ref b)) ∈ Δ) (hu : Upd b (PTb fl) (PTb (fr.elim .none fun f => rawInt f)) Δ Δ') (h : Q () Δ') : T c A Δ (setFlight (.ref e) fr) Q E := fun s hs => by
  obtain ⟨o, vs, ho, hd, h1⟩ := hs.pex hm
  obtain ⟨ob, hob, ts, htd, ht3⟩ := hs.has hu.mem
  unfold setFlight
  refine wpAny_bind (wpAny_field ho hd h1 ?_)
  rw [if_pos (show (Value.ref b != Value.none) = true from by simp)]
  have hd3 := Obj.data_mapFields htd (·.setIfInBounds 3 (fr.elim Value.none fun f => rawInt f))
  exact wpAny_setField hob htd (Array.getElem?_eq_some_iff.mp ht3).1 ⟨_, hs.upd (n := s.toks) hu (Heap.SameBut.update ..) ⟨_, Heap.get?_update_self _ hob (Obj.isFreed_of_fields hd3), _, hd3, by simp [(Array.getElem?_eq_some_iff.mp ht3).1]⟩, h⟩
theorem T.cameBack {e b : Addr} {cls : String} {fl : Value} {L : Addr} {Q : Unit → Hp → Prop} (hf : env.frame = some L) (hm : (e, PEx cls (.ref b)) ∈ Δ) (hu : Upd b (PTb fl) (PTb (rawInt L)) Δ Δ') (h : Q () Δ') : T c A Δ (cameBack (.ref e) env) Q E := fun s hs => by
  obtain ⟨o, vs, ho, hd, h1⟩ := hs.pex hm
  refine wpAny_bind (wpAny_field ho hd h1 ?_)
  rw [if_neg (by simp)]
  rw [hf]
  exact T.flight (fr := some L) hm hu h s hs
theorem T.leaveFirst {L e : Addr} {cls : String} {Q : Unit → Hp → Prop} {outer : List Env} {D : Addr → Hp} (hfr : A.frames = some (env :: outer)) (hl : ∀ e ∈ env :: outer, e.scope.kind ≠ .module ∧ ∃ L fr, e.frame = some L ∧ (L, PFr fr) ∈ Δ) (hf : env.frame = some L)
    (hu : ∀ b, Upd e (PEx cls .none) (PEx cls (.ref b)) Δ (D b)) (h : ∀ b, Q () ((b, PTb .none) :: D b)) : T c A Δ (leaving env (.ref e)) Q E :=
  T.bnd (T.noteFirst hfr hl hf hu fun b => T.flight (fr := none) (.tail _ (hu b).mem') .head (h b))
theorem T.leaveNext {L e b₀ : Addr} {cls : String} {Q : Unit → Hp → Prop} {outer : List Env} {D : Addr → Hp} (hfr : A.frames = some (env :: outer)) (hl : ∀ e ∈ env :: outer, e.scope.kind ≠ .module ∧ ∃ L fr, e.frame = some L ∧ (L, PFr fr) ∈ Δ) (hf : env.frame = some L)
    (hm : (b₀, PTb .none) ∈ Δ) (hu : ∀ b, Upd e (PEx cls (.ref b₀)) (PEx cls (.ref b)) Δ (D b)) (h : ∀ b, Q () ((b, PTb .none) :: D b)) : T c A Δ (leaving env (.ref e)) Q E :=
  T.bnd (T.noteNext hfr hl hf hm hu fun b => T.flight (fr := none) (.tail _ (hu b).mem') .head (h b))
theorem T.leaveSame {L e b : Addr} {cls : String} {Q : Unit → Hp → Prop} (hf : env.frame = some L) (hm : (e, PEx cls (.ref b)) ∈ Δ) (hu : Upd b (PTb (rawInt L)) (PTb .none) Δ Δ') (h : Q () Δ') : T c A Δ (leaving env (.ref e)) Q E :=
  T.bnd (T.noteSame hf hm hu.mem (T.flight (fr := none) hm hu h))
theorem callExc {X N I : String} (hc : ExcClass X N I) {rest : List Value} {E : Value → Shared → Prop} {Q : Value → Shared → Prop} {s : Shared}
    (h : ∀ h' e ob vs, s.heap.objs.size ≤ e → (∀ b o, s.heap.get? b = some o → h'.get? b = some o) → h'.get? e = some ob → ob.cls = .type X → ob.data = .fields vs → vs[1]? = some .none → Q (.ref e) { s with heap := h' }) (hrest : rest.length ≤ sizeLine) :
    wpAny (model PG c.w) A (call (.type X) rest) Q E s := by
  refine wpAny_call (codeAny_of_tree ?_)
  show wpAny _ _ (callAny (.type X) ⟨rest, []⟩) _ _ s
  simp only [callAny]
  refine wpAny_pure ⟨Code.quiet_builtin _ (by decide +kernel), codeAny_builtin entry_type_call ?_⟩
  rw [Around.under_plain (weight_type_call X _ _) (by first | rfl | kernel_rfl | decide +kernel)]
  unfold Builtin.«type.__call__»
  dsimp only
  rw [if_neg (by rw [hc.notType]; exact Bool.false_ne_true), if_neg (by rw [hc.canNew]; exact Bool.false_ne_true)]
  obtain ⟨l, hl, hle⟩ := hc.mro
  refine wpAny_bind (wpAny_of_eq (hc.typeCall rest) (wpAny_bind (wpAny_of_eq hl ?_)))
  rw [if_neg (by rw [hle]; exact Bool.false_ne_true)]
  refine wpAny_bind (wpAny_of_eq hc.madeBy ?_)
  dsimp only
  refine wpAny_bind (wpAny_pure (wpAny_bind (wpAny_holding (new_exc hc ?_ hrest))))
  have got := Heap.get?_push_size (s.heap.push { cls := .type "tuple", data := .seq rest.toArray }) (o := { cls := .type X, data := .fields #[.ref s.heap.objs.size, .none, .none, .none, .bool false, .none] }) rfl
  refine wpAny_bind (wpAny_isInstance (T := X) ⟨_, got, rfl⟩ hc.self ?_)
  simp only [Bool.not_true, Bool.false_eq_true, if_false]
  refine wpAny_bind (wpAny_holding (wpAny_callSpecial?_slot (name := Str.ofString "__init__") (T := X) ⟨_, got, rfl⟩ hc.init (init_exc hc got rfl rfl rfl ?_ hrest)))
  dsimp only
  rw [if_neg (by simp)]
  refine wpAny_pure (h _ _ _ _ (by simp) (fun b o hb => ?_) (Heap.get?_update_self _ (Heap.get?_push_of_some _ got) (Obj.isFreed_of_fields (Obj.data_mapFields rfl _))) (Obj.cls_mapFields _ _) (Obj.data_mapFields rfl _) rfl)
  rw [Heap.get?_update_other _ _ (Nat.ne_of_gt (Nat.lt_of_lt_of_le (Heap.lt_size hb) (by simp)))]
  exact Heap.get?_push_of_some _ (Heap.get?_push_of_some _ (Heap.get?_push_of_some _ hb))
/-- raise X("..") -/
theorem T.raise {cls N I : String} (F : ExcClass cls N I) {x : Str} {np cpos pos : Pos} {args : List Expr} {Q : Flow → Hp → Prop} (hh : A.handled = none) (hplain : (backTo cpos (starEach args env)).any (·.1) = false)
    (h : T c A Δ (eval (.Name x np) env) (fun f Δ₁ => f = .type cls ∧ T c A Δ₁ (evalArgs (.type cls) true (backTo cpos (starEach args env)) []) (fun a Δ₂ => a.kw = [] ∧ a.pos.length ≤ sizeLine ∧ ∀ e, E (.ref e) ((e, PEx cls .none) :: Δ₂)) E) E) :
    T c A Δ (exec (.Raise (some (.Call (.Name x np) args [] cpos)) none pos) env) Q E := fun s hs =>
  Raise_new hh (wpAny_Call_ofName (h.to hs fun f s₁ ⟨Δ₁, h₁, e, q⟩ => by
    subst e
    refine callWith_excType hplain (q.to h₁ fun a s₂ ⟨Δ₂, h₂, e1, e2, q⟩ => ?_)
    obtain ⟨apos, akw⟩ := a
    obtain rfl : akw = [] := e1
    exact callExc F (fun h' e ob vs hsz hk he hc hd h1 => ⟨e, ob, vs, cls, N, I, F, rfl, he, hc, hd, h1, _, h₂.add (P := PEx cls .none) (n := s₂.toks) hk hsz ⟨ob, he, hc, vs, hd, h1⟩, q e⟩) e2))
/-- an except clause: the exception is of the class, or is not -/
theorem T.handle {e : Addr} {X T tbx : String} {tb : Value} {b : Bool} {t : Expr} {b₀ : Stmt} {suite : List Stmt} {pos : Pos} {rest : List ExceptHandler} {Q : Flow → Hp → Prop}
    (hexc : isSubtype (.type T) (.type "BaseException") = pure true) (hnt : isSubtype (.type ((Manifest.find? T).elim "type" fun x => x.metatype)) (.type "tuple") = pure false) (hsub : isSubtype (.type X) (.type T) = pure b)
    (hm : (e, PEx X tb) ∈ Δ)
    (h : Mine.T c (A.mark (some (.ref e))) Δ (eval t env) (fun c' Δ₁ => c' = .type T ∧ Δ₁ = Δ ∧
      if b then Mine.T c (A.mark (some (.ref e))) Δ (setFlight (.ref e) none) (fun _ Δ₂ => Mine.T c (A.mark (some (.ref e))) Δ₂ (execs (b₀ :: suite) env) Q NoE) NoE
      else Mine.T c A Δ (handleBy (.ref e) env rest) Q E) NoE) : Mine.T c A Δ (handleBy (.ref e) env (.ExceptHandler (some t) none (b₀ :: suite) pos :: rest)) Q E := fun s hs =>
  wpAny_handleBy_builtin (X := X) (T := T) (b := b) hexc hnt hsub (wpAny_mono (h s hs) (fun c' s₁ ⟨Δ₁, h₁, e1, e2, q⟩ => by
    subst e2
    obtain ⟨o, ho, hcl, _⟩ := h₁.has hm
    refine ⟨e1, ⟨o, ho, hcl⟩, ?_⟩
    cases b with
    | true => exact wpAny_mono (q s₁ h₁) (fun _ s₂ ⟨Δ₂, h₂, q⟩ => wpAny_mono (q s₂ h₂) (fun _ _ z => z) fun _ _ ⟨_, _, x⟩ => x.elim) fun _ _ ⟨_, _, x⟩ => x.elim
    | false => exact q s₁ h₁) fun _ _ ⟨_, _, x⟩ => x.elim)
end
end Mine
end
/-! NE -/
section
open PySem PySem.W PyProof.Rows PySem.Calls
open Sem (wp)
set_option maxRecDepth 100000
namespace Mine
section
variable {c : Cx} {A : Around} {Δ Δ' : Hp} {E : Value → Hp → Prop} {env : Env}
theorem TN.callFE {f : Addr} {fd : FuncData} {body : List Stmt} {args : Args} {oc : Value} {od : Option Addr} {sl : Array (Option Value)} {Q : Value → Hp → Prop}
    (hk : (kopf.heap_39 c.w.params).lookup f = some ⟨oc, od, .func fd, sl⟩) (hcd : codeIn (kopf.heap_39 c.w.params) fd.code fd.qualname = true) (hbody : fd.body = .stmts body) (hclo : fd.closure = []) (hroom : A.depth < recursionLimit)
    (h : T c A.in1 Δ (bindArgs fd args) (fun binds Δ₁ => (binds.all fun y => fd.scope.names.lookup y.1 == some .local || fd.scope.names.lookup y.1 == some .cell) = true ∧
      ∃ l, (∀ L, ∀ p ∈ l, bindL (callEnvC fd L f).kindOf binds (fun _ => none) p.1 = some p.2) ∧
      ∀ L, TN c (A.deeper (callEnvC fd L f)) ((L, PFr l) :: (cellsHp fd.scope.names (bindC (callEnvC fd L f).kindOf binds fun _ => none) L ++ Δ₁)) (execs body (callEnvC fd L f))
        (fun fl Δ₂ => ∃ Δ₃, List.Sublist Δ₃ Δ₂ ∧ Q (retv fl) Δ₃) (fun e Δ₂ => T c (A.deeper (callEnvC fd L f)) Δ₂ (leaving (callEnvC fd L f) e) (fun _ Δ₃ => E e Δ₃) NoE)) NoE)
    (hnd : ((cellsFrom 0 fd.scope.names []).map (·.1)).Nodup)
    (hco : fd.scope.isCoroutine = false) (hgen : fd.scope.isGenerator = false) (hkd : fd.scope.kind = .function) :
    TCN c A Δ (.call (.ref f) args) (fun r Δ' => match r with | .ok (.ret v) => Q v Δ' | .ok _ => False | .error e => E e Δ') := fun s hs => by
  refine codeN_fun hroom (hs.kin _ _ hk) rfl hco hgen hbody (codeRec_of hs.kin hcd) ?_
  refine wpAny_mono (h s hs) (fun binds s₁ ⟨Δ₁, h₁, hkind, l, hl, hb⟩ => ?_) fun _ _ ⟨_, _, x⟩ => x.elim
  rw [hclo]
  refine wpAny_newFunctionEnv_cells hkd (kindsX hkind _) fun env he s₂ hin => ?_
  subst he
  obtain ⟨⟨⟨h₂, tk, rfl⟩, ns, keep, fresh⟩, cell, apart, above⟩ := hin
  refine ⟨h₁.nolimit.keeps keep, codeN_body ?_⟩
  have hlook : ∀ n a, (n, a) ∈ cellsFrom (s₁.heap.objs.size + 1) fd.scope.names [] → (cellsFrom (s₁.heap.objs.size + 1) fd.scope.names []).lookup n = some a := by
    have nk := cellsFrom_names fd.scope.names 0 (s₁.heap.objs.size + 1) [] [] rfl
    intro n a hm
    exact lookup_of_nodup' (by rw [← nk]; exact hnd) hm
  have S := h₁.adds (h' := h₂) (n := tk) keep ((s₁.heap.objs.size, PFr l) :: cellsHp fd.scope.names (bindC (callEnvC fd s₁.heap.objs.size f).kindOf binds fun _ => none) s₁.heap.objs.size)
    (fun p hp => by
      rcases List.mem_cons.mp hp with rfl | hp
      · obtain ⟨o, es, ep, e, r⟩ := ns
        exact ⟨Nat.le_refl _, o, e, _, ⟨es, ep, r⟩, hl _⟩
      · obtain ⟨⟨n, a⟩, hm, rfl⟩ := List.mem_map.mp hp
        exact ⟨Nat.le_of_lt (above n a hm), cell n a (hlook n a hm)⟩)
    (by
      rw [List.map_cons, List.nodup_cons]
      refine ⟨fun hm => ?_, ?_⟩
      · obtain ⟨p, hp, e⟩ := List.mem_map.mp hm
        obtain ⟨⟨n, a⟩, hm, rfl⟩ := List.mem_map.mp hp
        have := above n a hm
        have e : a = s₁.heap.objs.size := e
        exact Nat.lt_irrefl _ (e ▸ this)
      · show List.Nodup _
        unfold cellsHp
        rw [List.map_map]
        exact List.pairwise_map.mpr (apart.imp fun h => h))
  refine (hb _ _ S).mono (fun fl s₃ ⟨Δ₂, h₃, Δ₃, sub, q⟩ => ⟨Δ₃, h₃.drop sub, ?_⟩) fun e s₃ ⟨Δ₂, h₃, q⟩ => ?_
  · cases fl <;> exact q
  · exact wpAny_mono (q s₃ h₃) (fun _ s₄ ⟨Δ₄, h₄, q⟩ => ⟨Δ₄, h₄, q⟩) fun _ _ ⟨_, _, x⟩ => x.elim
/-- a call of a def in the restricted contexts; exceptions pass its frame -/
theorem TN.callKE {f : Addr} {name qual : Str} {params : Arguments} {body : List Stmt} {scope : Scope} {dV kV doc pm cdv ct oc : Value} {an od : Option Addr} {sl : Array (Option Value)} {pos : List Value} {kw : List (Str × Value)} {binds : List (Str × Value)} {Q : Value → Hp → Prop}
    (l : List (Str × Value)) (cs : Addr → Hp)
    (hk : (kopf.heap_39 c.w.params).lookup f = some ⟨oc, od, .func (fnOf name qual params body scope dV kV doc pm an cdv ct), sl⟩) (hcd : codeIn (kopf.heap_39 c.w.params) cdv qual = true) (hroom : A.depth < recursionLimit)
    (hb : ∀ S, PySem.W.peek (kopf.heap_39 c.w.params) S (bindArgs (fnOf name qual params body scope dV kV doc pm an cdv ct) ⟨pos, kw⟩) = some binds)
    (h1 : (binds.all fun y => scope.names.lookup y.1 == some .local || scope.names.lookup y.1 == some .cell) = true)
    (h2 : ∀ L, ∀ p ∈ l, bindL (mkEnv qual scope L (cellsFrom (L + 1) scope.names []) f cdv).kindOf binds (fun _ => none) p.1 = some p.2)
    (h3 : ∀ L, cellsHp scope.names (bindC (mkEnv qual scope L (cellsFrom (L + 1) scope.names []) f cdv).kindOf binds fun _ => none) L ++ Δ = cs L)
    (hnd : ((cellsFrom 0 scope.names []).map (·.1)).Nodup)
    (hco : scope.isCoroutine = false) (hgen : scope.isGenerator = false) (hkd : scope.kind = .function)
    (h : ∀ (L : Addr) (A' : Around), A'.depth = A.depth + 1 → A'.handled = A.handled → A'.units = A.units + 3 → A'.frames = A.frames.map (mkEnv qual scope L (cellsFrom (L + 1) scope.names []) f cdv :: ·) → TN c A' ((L, PFr l) :: cs L) (execs body (mkEnv qual scope L (cellsFrom (L + 1) scope.names []) f cdv))
        (fun fl Δ₂ => ∃ Δ₃, List.Sublist Δ₃ Δ₂ ∧ Q (retv fl) Δ₃) (fun e Δ₂ => T c A' Δ₂ (leaving (mkEnv qual scope L (cellsFrom (L + 1) scope.names []) f cdv) e) (fun _ Δ₃ => E e Δ₃) NoE)) : TCN c A Δ (.call (.ref f) ⟨pos, kw⟩) (fun r Δ' => match r with | .ok (.ret v) => Q v Δ' | .ok _ => False | .error e => E e Δ') :=
  TN.callFE (body := body) hk hcd rfl rfl hroom (T.peek hb ⟨h1, l, h2, fun L => (h3 L).symm ▸ h L _ rfl rfl rfl rfl⟩) hnd hco hgen hkd
end
end Mine
end
/-! NF -/
section
open PySem PySem.W PyProof.Rows PySem.Calls
open Sem (wp)
set_option maxRecDepth 100000
namespace Mine
section
variable {c : Cx} {A : Around} {Δ Δ' : Hp} {E : Value → Hp → Prop} {env : Env}
theorem T.isiInt {n : Int} {t : Tok} {Q : Value → Hp → Prop} (h : Q (.bool true) Δ) : T c A Δ (call (.builtin "isinstance") [.int n t, .type "int"] []) Q E := fun s hs => PySem.IsiPair.int_int ⟨Δ, hs, h⟩
theorem T.isiStr {x : Str} {t : Tok} {Q : Value → Hp → Prop} (h : Q (.bool false) Δ) : T c A Δ (call (.builtin "isinstance") [.str x t, .type "int"] []) Q E := fun s hs => PySem.IsiPair.str_int ⟨Δ, hs.toks, h⟩
/-- the parts of an f-string: n signs so far -/
def TJoin (c : Cx) (A : Around) (E : Value → Hp → Prop) : List (Sem Value) → Nat → Hp → (Hp → Prop) → Prop
  | [], n, Δ, Q => Q Δ
  | x :: rest, n, Δ, Q => T c A Δ x (fun v Δ₁ => ∃ y t, v = .str y t ∧ y.length ≤ 100 ∧ TJoin c A E rest (n + 1) Δ₁ Q) E
theorem TJoin.joins : ∀ {l : List (Sem Value)} {n : Nat} {Δ : Hp} {Q : Hp → Prop} {acc : Str} {s : Shared}, TJoin c A E l n Δ Q → St c Δ s → acc.length ≤ n * 100 → n + l.length ≤ 50 →
    Joins (model PG c.w) A (Lf c E) l acc (fun out s₁ => out.length ≤ sizeLine ∧ ∃ Δ₁, St c Δ₁ s₁ ∧ Q Δ₁) s
  | [], n, Δ, Q, acc, s, h, hs, ha, hn => ⟨by rw [sizeLine_eq]; simp at hn; omega, Δ, hs, h⟩
  | x :: rest, n, Δ, Q, acc, s, h, hs, ha, hn => by
    refine wpAny_mono (h s hs) (fun v s₁ ⟨Δ₁, h₁, y, t, e, hy, hr⟩ => ⟨y, t, e, ?_, ?_⟩) fun _ _ x => x
    · rw [strLen_append, sizeLine_eq]; simp at hn; omega
    · exact hr.joins h₁ (by rw [strLen_append]; omega) (by simp at hn; omega)
theorem Joins.mono {M : Model} {A : Around} {E : Value → Shared → Prop} : ∀ {l : List (Sem Value)} {acc : Str} {Q Q' : Str → Shared → Prop} {s : Shared}, (∀ x s, Q x s → Q' x s) → Joins M A E l acc Q s → Joins M A E l acc Q' s
  | [], acc, Q, Q', s, h, j => h _ _ j
  | x :: rest, acc, Q, Q', s, h, j => wpAny_mono j (fun v s₁ ⟨y, t, e, hy, hr⟩ => ⟨y, t, e, hy, Mine.Joins.mono h hr⟩) fun _ _ x => x
theorem T.joined {v₁ v₂ : Expr} {rest : List Expr} {pos : Pos} {Q : Value → Hp → Prop} (hn : (evalEach (v₁ :: v₂ :: rest) env).length ≤ 50) (h : TJoin c A E (evalEach (v₁ :: v₂ :: rest) env) 0 Δ (fun Δ₁ => ∀ x t, Q (.str x t) Δ₁)) : T c A Δ (eval (.JoinedStr (v₁ :: v₂ :: rest) pos) env) Q E := fun s hs =>
  wpAny_JoinedStr (Mine.Joins.mono (fun x s₁ ⟨hz, Δ₁, h₁, q⟩ => ⟨hz, Δ₁, h₁.toks, q _ _⟩) (h.joins hs (Nat.le_refl _) (by omega)))
theorem T.fvInt {value : Expr} {pos : Pos} {Q : Value → Hp → Prop} (h : T c A Δ (eval value env) (fun v Δ₁ => ∃ n t, v = .int n t ∧ 0 ≤ n ∧ n < 6 ∧ ∀ x t, x.length ≤ 100 → Q (.str x t) Δ₁) E) : T c A Δ (eval (.FormattedValue value 114 none pos) env) Q E := fun s hs =>
  wpAny_FormattedValue_repr (wpAny_mono (h s hs) (fun v s₁ ⟨Δ₁, h₁, n, t, e, h0, h6, q⟩ => by
    subst e
    have hl : (Str.ofString (toString n)).length ≤ 100 := by
      obtain rfl | rfl | rfl | rfl | rfl | rfl : n = 0 ∨ n = 1 ∨ n = 2 ∨ n = 3 ∨ n = 4 ∨ n = 5 := by omega
      all_goals decide +kernel
    have hd : n.natAbs.log2 < 1920 := by
      obtain rfl | rfl | rfl | rfl | rfl | rfl : n = 0 ∨ n = 1 ∨ n = 2 ∨ n = 3 ∨ n = 4 ∨ n = 5 := by omega
      all_goals decide +kernel
    exact pyReprObj_int hd (wpAny_formatField_str ⟨Δ₁, h₁.toks, q _ _ hl⟩ ⟨Δ₁, h₁.toks.toks, q _ _ hl⟩ (by rw [sizeLine_eq]; omega))) fun _ _ x => x)
theorem T.fvStr {value : Expr} {pos : Pos} {Q : Value → Hp → Prop} (h : T c A Δ (eval value env) (fun v Δ₁ => ∃ y t, v = .str y t ∧ (reprText y).length ≤ 100 ∧ ∀ x t, x.length ≤ 100 → Q (.str x t) Δ₁) E) : T c A Δ (eval (.FormattedValue value 114 none pos) env) Q E := fun s hs =>
  wpAny_FormattedValue_repr (wpAny_mono (h s hs) (fun v s₁ ⟨Δ₁, h₁, y, t, e, hl, q⟩ => by
    subst e
    exact pyReprObj_str (wpAny_formatField_str ⟨Δ₁, h₁.toks, q _ _ hl⟩ ⟨Δ₁, h₁.toks.toks, q _ _ hl⟩ (by rw [sizeLine_eq]; omega)) (by rw [sizeLine_eq]; omega)) fun _ _ x => x)
theorem TJoin.nil {n : Nat} {Q : Hp → Prop} (h : Q Δ) : TJoin c A E (evalEach [] env) n Δ Q := h
theorem TJoin.cons {e : Expr} {r : List Expr} {n : Nat} {Q : Hp → Prop} (h : T c A Δ (eval e env) (fun v Δ₁ => ∃ y t, v = .str y t ∧ y.length ≤ 100 ∧ TJoin c A E (evalEach r env) (n + 1) Δ₁ Q) E) : TJoin c A E (evalEach (e :: r) env) n Δ Q := h
theorem T.subAt {value slice : Expr} {d : Addr} {a : NA} {t : Tok} {Q : Value → Hp → Prop} (hm : (d, PAt c.w a) ∈ Δ) (ha : a ≠ .key) (h : ∀ v, a.is v → Q v Δ)
    (hs : subscripted slice false (.ref d) (.str "w" t) = operate [.ref d, .str "w" t] (getItem (.ref d) (.str "w" t)) := by with_unfolding_all rfl) : T c A Δ (subscriptTail value slice (.ref d) (.str "w" t)) Q E := fun s hs' => by
  obtain ⟨kn, ep, p, q⟩ := hs'.na hm
  exact tail_any p.dictOf.typeIs slot_dict_getitem.lookup (T.itemAt hm ha h s hs') hs
end
end Mine
end
/-! NG -/
section
open PySem PySem.W PyProof.Rows PySem.Calls
open Sem (wp)
set_option maxRecDepth 100000
namespace Mine
theorem list_keys_none : typeLookup (.type "list") "keys" = pure none := by rw [typeLookup_type, builtinLookup_eq_fast]; kernel_rfl
theorem keysMiss {prog : Program} {w : World} {A : Around} {E : Value → Shared → Prop} {s : Shared} {a : Addr} {xs : Array Value} {k : Nat} {sl : Array (Option Value)} {Q : Option Value → Shared → Prop}
    (hx : s.heap.get? a = some { cls := .type "list", dict := none, data := .seq xs k, slots := sl }) (hA : A.handled = none)
    (h : ∀ h' tk, (∀ b o, s.heap.get? b = some o → h'.get? b = some o) → Q none { s with heap := h', toks := tk }) :
    wpAny (model prog w) A (getAttr? (.ref a) "keys") Q E s := by
  obtain ⟨hp, g, d, tk, os⟩ := s
  have hT : ∀ tk', (⟨hp, g, d, tk', os⟩ : Shared).TypeIs (.ref a) "list" := fun _ => ⟨_, hx, rfl⟩
  have f1 := sub_AttributeError
  have f3 := F.slot_list_getattribute.lookup
  have f4 := F.slot_list_getattribute.bind (.ref a)
  have f5 := am_list_getattr_none
  unfold getAttr? getAttrBy? getAttrBy
  repeat (any_goals (first | assumption | exact hT _ | ((with_reducible show wpAny _ _ (call (Value.builtin "list.__getattribute__") _ _) _ _ _); refine call_meets F.slot_list_getattribute (hT _) am_entry_list_getattribute (F.args_list_getattribute_2 _ _) (meets_getattribute_miss_list a xs k sl "keys" _ list_keys_none (by decide +kernel) (by rw [sizeLine_eq]; decide)) ⟨hx, hA, fun h' tk' e hx' => ?_⟩) | wp_step))
  obtain ⟨t', u', he⟩ := hx'.there
  show wpAny _ _ (getattributeRaised _ _ _ _ _ _ _) _ _ _
  unfold getattributeRaised
  repeat (any_goals (first | assumption | wp_step))
  exact h _ _ hx'.keeps
section
variable {c : Cx} {A : Around} {Δ Δ' : Hp} {E : Value → Hp → Prop} {env : Env}
theorem entry_update_loop : entryFor table "dict.update.loop" = some Builtin.«dict.update.loop» := entryFor_of_tree (by kernel_rfl)
/-- d is filled out of pairs -/
theorem updLoop {Φ : Hp} {d it l : Addr} {as : List Addr} {ns : List Int} {f : Int → Int} (hA : A.handled = none) (hn : ns.Nodup) (hz : ns.length ≤ 1000) (hlen : as.length = ns.length) (hl : (l, PList (as.map Value.ref).toArray) ∈ Φ) (ht : ∀ p ∈ tiesHp as (ns.map fun n => (n, f n)), p ∈ Φ) :
    ∀ (k i : Nat), i + k = ns.length → TC c A ((it, PLIter l i) :: (d, PWt ((ns.take i).map fun n => (n, f n))) :: Φ) (.builtin "dict.update.loop" ⟨[.ref d, .ref it, rawInt i, .none], []⟩) (fun r Δ' => r = .ok (.ret .none) ∧ Δ' = (d, PWt (ns.map fun n => (n, f n))) :: Φ)
  | 0, i, hi => fun s hs => by
    have hi : i = ns.length := by omega
    subst hi
    refine codeAny_builtin entry_update_loop ?_
    rw [Around.under_plain rfl rfl]
    unfold Builtin.«dict.update.loop»
    dsimp only
    refine wpAny_bind (wpAny_mono (T.nextListEnd (c := c) (E := NoE) (Q := fun r Δ' => r = none ∧ Δ' = (d, PWt ((ns.take ns.length).map fun n => (n, f n))) :: Φ) (by exact hA) .head (.tail _ (.tail _ hl)) (by simp [hlen]) ⟨rfl, rfl⟩ s hs) (fun r s' ⟨Δ', h', e1, e2⟩ => ?_) fun _ _ ⟨_, _, x⟩ => x.elim)
    subst e1 e2
    rw [List.take_length] at h'
    exact wpAny_bind (wpAny_pure (wpAny_pure ⟨_, h', rfl, rfl⟩))
  | k + 1, i, hi => fun s hs => by
    obtain ⟨n, hin⟩ : ∃ n, ns[i]? = some n := ⟨_, List.getElem?_eq_some_iff.mpr ⟨by omega, rfl⟩⟩
    obtain ⟨a, hia⟩ : ∃ a, as[i]? = some a := ⟨_, List.getElem?_eq_some_iff.mpr ⟨by omega, rfl⟩⟩
    have hat : (a, PPair n (f n)) ∈ Φ := by
      refine ht _ ?_
      unfold tiesHp
      refine List.mem_map.mpr ⟨(a, (n, f n)), ?_, rfl⟩
      refine List.mem_of_getElem? (i := i) ?_
      rw [List.getElem?_zip_eq_some]
      exact ⟨hia, by rw [List.getElem?_map, hin]; rfl⟩
    have hset : setI ((ns.take i).map fun n => (n, f n)) n (f n) = (ns.take (i + 1)).map fun n => (n, f n) := by
      have hno : ¬ ((ns.take i).map fun n => (n, f n)).any (fun kv => kv.1 = n) = true := by
        rw [List.any_eq_true]
        rintro ⟨kv, hm, hk⟩
        obtain ⟨m, hm', rfl⟩ := List.mem_map.mp hm
        have hk : m = n := of_decide_eq_true hk
        subst hk
        obtain ⟨j, hj, ej⟩ := List.getElem_of_mem hm'
        rw [List.getElem_take] at ej
        have hj' : j < i := by rw [List.length_take] at hj; omega
        have hjl : j < ns.length := by omega
        have ej' : ns[j]? = some m := List.getElem?_eq_some_iff.mpr ⟨hjl, ej⟩
        have := (List.getElem?_inj hjl hn).mp (ej'.trans hin.symm)
        omega
      rw [setI, if_neg hno, List.take_add_one, hin, List.map_append]
      rfl
    refine codeAny_builtin entry_update_loop ?_
    rw [Around.under_plain rfl rfl]
    unfold Builtin.«dict.update.loop»
    dsimp only
    refine wpAny_bind (wpAny_mono (T.nextList (c := c) (E := NoE) (Q := fun r Δ' => r = some (.ref a) ∧ Δ' = (it, PLIter l (i + 1)) :: (d, PWt ((ns.take i).map fun n => (n, f n))) :: Φ) .head (.tail _ (.tail _ hl)) (by simp [hia]) ⟨rfl, rfl⟩ s hs) (fun r s' ⟨Δ', h', e1, e2⟩ => ?_) fun _ _ ⟨_, _, x⟩ => x.elim)
    subst e1 e2
    dsimp only
    obtain ⟨o, ho, hcl, m, t1, t2, hd⟩ := h'.has (.tail _ (.tail _ hat))
    have hp : wpAny (model PG c.w) A.in1 (Builtin.Dict.pairItems (.ref a)) (fun l s₂ => l = [Value.int n t1, Value.int (f n) t2] ∧ s₂ = s') (fun _ _ => False) s' := by
      unfold Builtin.Dict.pairItems
      refine wpAny_bind (wpAny_typeOf ⟨o, ho, hcl⟩ ?_)
      rw [if_pos (by decide)]
      unfold seqItems?
      refine wpAny_bind (wpAny_bind (wpAny_load ho ?_))
      rw [hd]
      exact wpAny_pure (wpAny_pure ⟨rfl, rfl⟩)
    refine wpAny_bind (wpAny_holding (wpAny_bind (wpAny_tryCatch (wpAny_mono hp (fun r s₂ ⟨e1, e2⟩ => ?_) fun _ _ x => x.elim))))
    subst e1 e2
    dsimp only
    refine wpAny_holding (wpAny_mono (T.dsetW (c := c) (E := NoE) (Q := fun r Δ' => Δ' = (it, PLIter l (i + 1)) :: (d, PWt ((ns.take (i + 1)).map fun n => (n, f n))) :: Φ) (t := t1) (u := t2) (.tail (by rw [hset]; exact .head)) (by rw [List.length_map, List.length_take, sizeLine_eq]; omega) rfl _ h') (fun r s₃ ⟨Δ', h₃, e2⟩ => ?_) fun _ _ ⟨_, _, x⟩ => x.elim)
    subst e2
    refine wpAny_pure ⟨Code.quiet_builtin _ (by decide +kernel), ?_⟩
    exact updLoop hA hn hz hlen hl ht k (i + 1) (by omega) s₃ h₃
theorem wpAny_of_updLoop {c : Cx} {A : Around} {Δ Ψ : Hp} {code : Code} {s : Shared} {obj : Value} {Q : Value → Shared → Prop} {E : Value → Shared → Prop} (h : TC c A Δ code (fun r Δ' => r = .ok (.ret .none) ∧ Δ' = Ψ)) (hs : St c Δ s) (q : ∀ s', St c Ψ s' → Q obj s') : codeAny (model PG c.w) A code (wants (fun r s₂ => r = .none ∧ Q obj s₂) E) s :=
  codeAny_mono (h s hs) fun r s' ⟨Δ', h', e1, e2⟩ => by subst e1 e2; exact ⟨rfl, q s' h'⟩
theorem T.dictPairs {l : Addr} {as : List Addr} {ns : List Int} {f : Int → Int} {Q : Value → Hp → Prop} (hA : A.handled = none) (hn : ns.Nodup) (hz : ns.length ≤ 1000) (hlen : as.length = ns.length) (hl : (l, PList (as.map Value.ref).toArray) ∈ Δ) (ht : ∀ p ∈ tiesHp as (ns.map fun n => (n, f n)), p ∈ Δ)
    (h : ∀ D, Q (.ref D) ((D, PWt (ns.map fun n => (n, f n))) :: Δ)) : T c A Δ (call (.type "dict") [.ref l] []) Q E := fun s hs => by
  have S1 := (hs.push (P := PWt []) (o := { cls := .type "dict", data := .dict #[] }) (PWt.nil ⟨#[], ⟨rfl, rfl, rfl⟩, rfl, fun e he => (by simp at he), ⟨rfl, fun p hp => (by simp at hp)⟩, List.nodup_nil⟩) (n := s.toks))
  refine callType_codes (Q₁ := fun obj s₁ => obj = .ref s.heap.objs.size ∧ s₁ = { s with heap := s.heap.push { cls := .type "dict", data := .dict #[] } }) PySem.F.kt_called_dict (PySem.F.kt_typeCall_dict_1 _) PySem.F.entry_dict_init (kt_code_dict_new _ ⟨rfl, rfl⟩) ?_
  rintro obj s₁ ⟨rfl, rfl⟩
  have hnew : (s.heap.push { cls := .type "dict", data := .dict #[] }).DictOf (intKind PG c.w) s.heap.objs.size [] := Heap.DictOf.new s.heap
  refine ⟨hnew.typeIs, PySem.F.args_dict_init_2 _ _, ?_⟩
  unfold Builtin.«dict.__init__»
  refine wpAny_bind ?_
  unfold Builtin.Dict.selfAndRest
  refine wpAny_bind (wpAny_notOrdered_dict hnew.typeIs ?_)
  show wpAny _ _ (pure (s.heap.objs.size, [Value.ref l])) _ _ _
  refine wpAny_pure ?_
  show wpAny _ _ (Builtin.Dict.updateFrom "dict.__init__" s.heap.objs.size (.ref l) [] .none) _ _ _
  unfold Builtin.Dict.updateFrom
  obtain ⟨o, ho, n, e⟩ := S1.has (.tail _ hl)
  subst e
  refine wpAny_bind (wpAny_typeOf (T := "list") ⟨_, ho, rfl⟩ ?_)
  rw [if_pos (by decide)]
  refine wpAny_bind (keysMiss ho (by exact hA) fun h' tk hk => ?_)
  rw [if_pos (show (none : Option Value).isNone = true from rfl)]
  refine wpAny_bind (wpAny_rule ?_)
  have S2 := S1.grow (n := tk) hk
  refine wpAny_bind (wpAny_mono (T.iterList (c := c) (E := NoE) (Q := fun r Δ' => ∃ it, r = .ref it ∧ Δ' = (it, PLIter l 0) :: (s.heap.objs.size, PWt []) :: Δ) (.tail _ hl) (fun it => ⟨it, rfl, rfl⟩) _ S2) (fun r s₃ ⟨Δ', h₃, it, e1, e2⟩ => ?_) fun _ _ ⟨_, _, x⟩ => x.elim)
  subst e1 e2
  refine wpAny_pure ⟨Code.quiet_builtin _ (by decide +kernel), ?_⟩
  exact wpAny_of_updLoop (updLoop (A := A.in1) (f := f) hA hn hz hlen hl ht ns.length 0 (by omega)) h₃ fun s' h' => ⟨_, h', h _⟩
/-- a list of pairs, out of ints -/
theorem T.compPairs {x : Str} {px : Pos} {elt iter : Expr} {scope : Scope} {cl : List (Str × Addr)} {pos : Pos} {Q : Value → Hp → Prop} (f : Int → Int)
    (h : T c A Δ (eval iter env) (fun xv Δ₁ => T c A Δ₁ (pyIter xv) (fun itv Δ₂ => ∃ it S ns, itv = .ref it ∧ Δ₂ = (it, S 0) :: Δ₁ ∧ IW c A it S Δ₁ ns ∧ ns.length ≤ 1000 ∧
      (∀ C P n t Θ, T c A ((C, PFr [(x, .int n t)]) :: P :: Θ) (eval elt (compEnvC scope cl C env)) (fun y Δ' => ∃ a t1 t2, y = .ref a ∧ Δ' = (a, PTup #[.int n t1, .int (f n) t2]) :: (C, PFr [(x, .int n t)]) :: P :: Θ) NoE) ∧
      ∀ D as, as.length = ns.length → Q (.ref D) ((D, PList (as.map Value.ref).toArray) :: (tiesR as (ns.map fun n => (n, f n)) ++ Δ₁))) E) E)
    (hclos : closureFor scope env = pure cl) (hcell : ∀ y ∈ scope.names, y.2 ≠ .cell) (hkind : scope.kind = .function)
    (hnames : ∀ y ∈ scope.names, y.2 = .local → scope.names.lookup y.1 = some .local) (hx : scope.names.lookup x = some .local)
    (hs : ∀ x, foldedSetIterable iter env x = pure x := by intro _; k_dflt rfl) : T c A Δ (eval (.ListComp elt [⟨.Name x px, iter, [], 0⟩] scope pos) env) Q E := by
  refine T.listComp hclos hcell hkind hnames (h.mono (fun xv Δ₁ q => q.mono (fun itv Δ₂ => ?_) fun _ _ e => e) fun _ _ e => e) hs
  rintro ⟨it, S, ns, rfl, rfl, W, hz, el, q⟩
  refine ⟨⟨it, _, rfl, .head _, W.own⟩, fun D C => ?_⟩
  refine ⟨fun k Δ => ∃ i fr as, k = ns.length + 1 - i ∧ i ≤ ns.length ∧ as.length = i ∧ (fr = [] ∨ ∃ u, fr = [(x, u)]) ∧ Sb ((C, PFr fr) :: (D, PList (as.map Value.ref).toArray) :: (it, S i) :: (tiesR as ((ns.take i).map fun n => (n, f n)) ++ Δ₁)) Δ, ns.length + 1, ⟨_, fun s y => y, 0, [], [], rfl, Nat.zero_le _, rfl, .inl rfl, .tl (List.Sublist.refl _)⟩, ?_⟩
  rintro k Δ ⟨i, fr, as, rfl, hi, has, hfr, hsb⟩
  refine T.sb hsb ?_
  cases e : ns[i]? with
  | none =>
    have hi' : i = ns.length := by have := List.getElem?_eq_none_iff.mp e; omega
    subst hi'
    refine W.done _ _ (fun p hp => .tail _ (.tail _ (.tail _ (List.mem_append_right _ hp)))) (.tail (.tail .head)) _ _ ?_
    dsimp only
    refine ⟨fr, _, .head, ?_⟩
    rw [List.take_length]; exact q D as has
  | some n =>
    have hi' : i < ns.length := (List.getElem?_eq_some_iff.mp e).1
    refine W.item i n e _ _ (fun p hp => .tail _ (.tail _ (.tail _ (List.mem_append_right _ hp)))) (.tail (.tail .head)) _ _ fun t => ?_
    dsimp only
    refine T.storeC hkind hx hfr (T.testsNil ?_)
    rw [if_pos rfl]
    refine (el C _ n t _).mono (fun y Δ' => ?_) fun _ _ e => e
    rintro ⟨a, t1, t2, rfl, rfl⟩
    refine T.weak (a := a) (P := PTup #[.int n t1, .int (f n) t2]) (P' := PPair n (f n)) .head (fun o h => PTup.pair h) ?_
    refine T.append (.tail (.tail .head)) (by simp; rw [sizeLine_eq]; omega) ?_
    refine ⟨ns.length + 1 - (i + 1), by omega, i + 1, [(x, .int n t)], as ++ [a], rfl, hi', by simp [has], .inr ⟨_, rfl⟩, ?_⟩
    have e1 : (ns.take (i + 1)).map (fun n => (n, f n)) = (ns.take i).map (fun n => (n, f n)) ++ [(n, f n)] := by
      rw [List.take_add_one, e, List.map_append]; rfl
    have e2 : as.length = ((ns.take i).map fun n => (n, f n)).length := by rw [List.length_map, List.length_take]; omega
    rw [e1, tiesR_snoc e2]
    have e3 : ((as ++ [a]).map Value.ref).toArray = ((as.map Value.ref).toArray).push (.ref a) := by simp
    rw [e3, List.cons_append]
    refine .dl (.tail .head) (.dl (.tail .head) (.dl (.tail .head) (.tl (List.Sublist.refl _))))
end
end Mine
end
/-! NH -/
section
open PySem PySem.W PyProof.Rows PySem.Calls PySem.SeqAt
open Sem (wp)
set_option maxRecDepth 100000
namespace Mine
/-- a list of texts -/
def PStrs (xs : List Str) : Pr := fun o => ∃ (ys : List (Str × Tok)) (n : Nat), o = { cls := .type "list", dict := none, data := .seq (ys.map fun p => Value.str p.1 p.2).toArray n, slots := #[] } ∧ ys.map (·.1) = xs ∧ ∀ x ∈ xs, PyData.strOk x = true
theorem PStrs.nil {o : Obj} (h : PInts [] o) : PStrs [] o := by
  obtain ⟨vs, n, rfl, hi⟩ := h
  cases hi
  exact ⟨[], n, rfl, rfl, fun x hx => absurd hx List.not_mem_nil⟩
theorem reads_strs {h : Heap} : ∀ ys : List (Str × Tok), ReadsAll h (ys.map fun p => Value.str p.1 p.2) (ys.map fun p => PyData.str p.1) []
  | [] => .nil
  | p :: ys => .cons (as := []) (.str _ _) (reads_strs ys)
theorem shaped_strs (ys : List (Str × Tok)) (hok : ∀ x ∈ ys.map (·.1), PyData.strOk x = true) : shaped (.list (ys.map fun p => PyData.str p.1)) = true := by
  have h1 : ∀ ys : List (Str × Tok), (∀ x ∈ ys.map (·.1), PyData.strOk x = true) → PyData.canLayAll0 (ys.map fun p => PyData.str p.1) = true := by
    intro ys hok
    induction ys with
    | nil => rfl
    | cons p ys ih => simp [PyData.canLayAll0, PyData.canLay0, ih fun x hx => hok x (.tail _ hx), hok p.1 (.head _)]
  have h2 : ∀ ys : List (Str × Tok), PyData.depthAll (ys.map fun p => PyData.str p.1) ≤ 1 := by
    intro ys
    induction ys with
    | nil => simp [PyData.depthAll]
    | cons p ys ih => simp [PyData.depthAll, PyData.depth] at ih ⊢; omega
  unfold shaped
  have := h2 ys
  simp [PyData.canLay0, PyData.depth, h1 ys hok]
  omega
section
variable {c : Cx} {A : Around} {Δ Δ' : Hp} {E : Value → Hp → Prop} {env : Env}
theorem T.sapp {l : Addr} {xs : List Str} {x : Str} {t : Tok} {Q : Value → Hp → Prop} (hu : Upd l (PStrs xs) (PStrs (xs ++ [x])) Δ Δ') (hz : xs.length ≤ 1000) (hx : PyData.strOk x = true) (h : Q .none Δ') : T c A Δ (call (.builtin "list.append") [.ref l, .str x t]) Q E := fun s hs => by
  obtain ⟨o, ho, ys, n, rfl, rfl, hok⟩ := hs.has hu.mem
  refine wpAny_list_append_plain ⟨n, ho⟩ (fun h' ⟨n', e'⟩ hs' => ⟨Δ', hs.upd hu hs' ⟨_, e', ys ++ [(x, t)], n', by simp, by simp, fun z hz => (List.mem_append.mp hz).elim (hok z) fun h => (List.mem_singleton.mp h).symm ▸ hx⟩, h⟩) ?_
  have e : ys.length ≤ 1000 := by simpa using hz
  rw [sizeLine_eq]; simp; omega
theorem T.sneNil {l e : Addr} {xs : List Str} {Q : Value → Hp → Prop} (hu : A.units + 64 < cLine) (hm : (l, PStrs xs) ∈ Δ) (he : (e, PInts []) ∈ Δ) (h : Q (.bool (!xs.isEmpty)) Δ) : T c A Δ (compareOp .NotEq (.ref l) (.ref e)) Q E := fun s hs => by
  obtain ⟨o, ho, ys, n, rfl, rfl, hok⟩ := hs.has hm
  obtain ⟨o2, ho2, q⟩ := hs.has he
  obtain ⟨ys2, n2, rfl, e2, _⟩ := PStrs.nil q
  obtain rfl : ys2 = [] := by simpa using e2
  refine ne_dataH (.list ho rfl rfl (by simpa using reads_strs ys)) (.list (xs := []) ho2 rfl rfl .nil) (shaped_strs ys hok) (shaped_strs [] (by simp)) hu ⟨Δ, hs, ?_⟩
  have : (!PyData.eqv (.list (ys.map fun p => PyData.str p.1)) (.list [])) = !(ys.map (·.1)).isEmpty := by
    cases ys <;> simp [PyData.eqv, PyData.eqvAll]
  rw [this]; exact h
theorem T.ssub {value slice : Expr} {l : Addr} {xs : List Str} {x : Str} {t : Tok} {Q : Value → Hp → Prop} (hm : (l, PStrs (x :: xs)) ∈ Δ) (h : ∀ u, Q (.str x u) Δ)
    (hs : subscripted slice false (.ref l) (.int 0 t) = operate [.ref l, .int 0 t] (getItem (.ref l) (.int 0 t)) := by with_unfolding_all rfl) : T c A Δ (subscriptTail value slice (.ref l) (.int 0 t)) Q E := fun s hs' => by
  obtain ⟨o, ho, ys, n, rfl, e, _⟩ := hs'.has hm
  cases ys with
  | nil => cases e
  | cons y ys =>
    cases e
    have hl : s.heap.IsList l ((y :: ys).map fun p => Value.str p.1 p.2).toArray := ⟨_, ho, rfl, n, rfl⟩
    exact tail_any hl.typeIs slot_list_getitem.lookup (wpAny_getItem_list hl (by decide) (by decide) (x := .str y.1 y.2) (by simp) ⟨Δ, hs', h _⟩) hs
theorem T.eqStr {x y : Str} {t u : Tok} {Q : Value → Hp → Prop} (h : Q (.bool (x == y)) Δ) : T c A Δ (compareOp .Eq (.str x t) (.str y u)) Q E := fun s hs => PyProof.Rows.eq_str ⟨Δ, hs, h⟩
theorem T.eqTupStr {a : Addr} {items : Array Value} {y : Str} {u : Tok} {Q : Value → Hp → Prop} (hu : A.units < cLine) (hm : (a, PTup items) ∈ Δ) (h : Q (.bool false) Δ) : T c A Δ (compareOp .Eq (.ref a) (.str y u)) Q E := fun s hs => by
  obtain ⟨o, ho, hc, n, hd⟩ := hs.has hm
  exact RcAt.tuple_str y u ⟨o, ho, hc, n, hd⟩ hu _ _ _ _ ⟨Δ, hs, h⟩
end
end Mine
end
/-! Pl4 -/
section
open PySem PySem.W PyProof.Rows PySem.Calls
set_option maxRecDepth 100000
namespace Mine
def drawOf (ns : List Int) (n : Int) : Int := cell ns (4 + n).toNat
def kindAt (ns : List Int) (n : Int) : Int := ((drawOf ns n).fdiv 9).fmod 23
def wtOf (ns : List Int) (n : Int) : Int := (drawOf ns n).fmod 9 - 3
def attrOf (ns : List Int) (n : Int) : NA := if kindAt ns n = 1 then .key else if kindAt ns n = 2 then .bad else .num (wtOf ns n)
def metAt (ns : List Int) (n : Int) : List Str := if kindAt ns n = 1 then ["key"] else if kindAt ns n = 2 then ["value"] else []
def metOf (ns : List Int) (l : List Int) : List Str := l.flatMap (metAt ns)
theorem metAt_len (ns : List Int) (x : Int) : (metAt ns x).length ≤ 1 := by
  unfold metAt
  split
  · exact Nat.le_refl _
  · split <;> simp
theorem metOf_len (ns : List Int) : ∀ l : List Int, (metOf ns l).length ≤ l.length
  | [] => Nat.le_refl _
  | x :: l => by
    have ih := metOf_len ns l
    have := metAt_len ns x
    unfold metOf at ih ⊢
    rw [List.flatMap_cons, List.length_append, List.length_cons]
    omega
/-- the objects of the nodes, the last made first -/
def nodeObjs (w : World) (a : Int → NA) (at' nb : Int → Addr) (l : List Int) : Hp := l.reverse.flatMap fun x => [(at' x, PAt w (a x)), (nb x, PNb (adjR [] x) (adjK [] x))]
theorem nodeObjs_snoc {w : World} {a : Int → NA} {at' nb : Int → Addr} {l : List Int} {n : Int} : nodeObjs w a at' nb (l ++ [n]) = (at' n, PAt w (a n)) :: (nb n, PNb (adjR [] n) (adjK [] n)) :: nodeObjs w a at' nb l := by
  unfold nodeObjs
  rw [List.reverse_append]
  rfl
theorem nodeObjs_congr {w : World} {a : Int → NA} {at' nb at2 nb2 : Int → Addr} {l : List Int} (h1 : ∀ x ∈ l, at' x = at2 x) (h2 : ∀ x ∈ l, nb x = nb2 x) : nodeObjs w a at' nb l = nodeObjs w a at2 nb2 l := by
  unfold nodeObjs
  have : ∀ r : List Int, (∀ x ∈ r, x ∈ l) → (r.flatMap fun x => [(at' x, PAt w (a x)), (nb x, PNb (adjR [] x) (adjK [] x))]) = r.flatMap fun x => [(at2 x, PAt w (a x)), (nb2 x, PNb (adjR [] x) (adjK [] x))] := by
    intro r
    induction r with
    | nil => intro _; rfl
    | cons x r ih =>
      intro h
      rw [List.flatMap_cons, List.flatMap_cons, ih fun y hy => h y (.tail _ hy), h1 x (h x (.head _)), h2 x (h x (.head _))]
  exact this _ fun x hx => List.mem_reverse.mp hx
theorem nodeObjs_perm {w : World} {a : Int → NA} {at' nb : Int → Addr} (l : List Int) : List.Perm (nodeObjs w a at' nb l) ((l.map fun x => (nb x, PNb (adjR [] x) (adjK [] x))) ++ l.map fun x => (at' x, PAt w (a x))) := by
  have h : ∀ r : List Int, List.Perm (r.flatMap fun x => [(at' x, PAt w (a x)), (nb x, PNb (adjR [] x) (adjK [] x))]) ((r.map fun x => (nb x, PNb (adjR [] x) (adjK [] x))) ++ r.map fun x => (at' x, PAt w (a x))) := by
    intro r
    induction r with
    | nil => exact .refl _
    | cons x r ih =>
      rw [List.flatMap_cons, List.map_cons, List.map_cons, List.cons_append]
      refine (List.Perm.swap _ _ _).trans (.cons _ ?_)
      refine (List.Perm.cons _ ih).trans ?_
      exact List.perm_middle.symm
  unfold nodeObjs
  refine (h _).trans ?_
  rw [List.map_reverse, List.map_reverse]
  exact (List.reverse_perm _).append (List.reverse_perm _)
theorem adjR_nil (x : Int) : adjR [] x = fun _ => false := by funext y; rfl
theorem adjK_nil (x : Int) : adjK [] x = 0 := rfl
theorem PNb.start {x : Int} {o : Obj} (h : PDI [] 0 o) : PNb (adjR [] x) (adjK [] x) o := by rw [adjR_nil, adjK_nil]; exact PNb.nil h
/-- f, but v at n -/
def setAt (f : Int → Addr) (n : Int) (v : Addr) : Int → Addr := fun x => if x = n then v else f x
theorem setAt_self {f : Int → Addr} {n : Int} {v : Addr} : setAt f n v n = v := if_pos rfl
theorem setAt_other {f : Int → Addr} {n : Int} {v : Addr} {l : List Int} (h : n ∉ l) : ∀ x ∈ l, f x = setAt f n v x := fun x hx => (if_neg (fun e : x = n => h (e ▸ hx))).symm
theorem valueAt_keys_none {K : Type} [DecidableEq K] {l : List (K × Value)} {k : K} (h : k ∉ l.map (·.1)) : valueAt l k = none := by
  cases e : valueAt l k with
  | none => rfl
  | some v =>
    have := any_valueAt (l := l) (k := k)
    rw [e] at this
    obtain ⟨p, hp, hk⟩ := List.any_eq_true.mp this
    exact absurd (List.mem_map.mpr ⟨p, hp, of_decide_eq_true hk⟩) h
theorem stored_keys {K : Type} [DecidableEq K] {l : List (K × Value)} {k : K} {v : Value} (h : k ∉ l.map (·.1)) : (stored l k v).map (·.1) = l.map (·.1) ++ [k] := by
  unfold stored
  have e := valueAt_keys_none h
  have := any_valueAt (l := l) (k := k)
  rw [e] at this
  rw [if_neg (by rw [this]; exact Bool.false_ne_true)]
  simp
theorem setI_new {kvs : List (Int × Int)} {k v : Int} (h : k ∉ kvs.map (·.1)) : setI kvs k v = kvs ++ [(k, v)] := by
  unfold setI
  rw [if_neg]
  rw [List.any_eq_true]
  rintro ⟨p, hp, e⟩
  exact h (List.mem_map.mpr ⟨p, hp, of_decide_eq_true e⟩)
end Mine
end
open PySem PySem.W PyProof.Rows PySem.Calls
set_option maxRecDepth 100000
set_option maxHeartbeats 4000000
namespace Mine
local macro_rules | `(tactic| k_upd) => `(tactic| first | with_reducible exact Mine.Upd.head | (with_reducible apply Mine.Upd.tail; k_upd))
local macro_rules | `(tactic| end_is "mem") => `(tactic| first | with_reducible exact List.mem_cons_self | (with_reducible refine List.mem_cons_of_mem _ ?_; end_is "mem") | assumption)
local macro_rules | `(tactic| end_is "setv") => `(tactic| first | exact SetV.nil | (with_reducible exact SetV.hit (by k_dflt rfl)) | (refine' SetV.miss (by k_dflt rfl) ?sm; (case sm => end_is "setv")))
local macro_rules | `(tactic| end_is "sub") => `(tactic| first | with_reducible exact List.Sublist.refl _ | (with_reducible refine List.Sublist.cons_cons _ ?_; end_is "sub") | (with_reducible refine List.Sublist.cons _ ?_; end_is "sub"))
local macro_rules | `(tactic| end_is "local") => `(tactic| ((with_reducible refine' T.nameM ?hm ?hv ?_ ?r1 ?r2 ?r3); (case r1 => exact rfl); (case r2 => exact rfl); (case r3 => exact rfl); (case hm => end_is "mem"); (case hv => end_is "mem")))
local macro_rules | `(tactic| end_is "free") => `(tactic| ((with_reducible refine' T.nameFree ?r1 ?hm ?_ ?r2 ?r3 ?r4 ?r5); (case r1 => exact rfl); (case r2 => exact rfl); (case r3 => exact rfl); (case r4 => exact rfl); (case r5 => exact rfl); (case hm => end_is "mem")))
local macro_rules | `(tactic| end_is "cell") => `(tactic| ((with_reducible refine' T.nameCell ?r1 ?hm ?_ ?r2 ?r3 ?r4); (case r1 => exact rfl); (case r2 => exact rfl); (case r3 => exact rfl); (case r4 => exact rfl); (case hm => end_is "mem")))
local macro_rules | `(tactic| end_is "glob") => `(tactic| ((with_reducible refine' T.nameGlobal ?he ?_ ?r1 ?r2 ?r3 ?r4); (case r1 => exact rfl); (case r2 => exact rfl); (case r3 => exact rfl); (case r4 => exact rfl); (case he => k_is)))
local macro_rules | `(tactic| end_is "built") => `(tactic| ((with_reducible refine' T.nameBuiltin ?he ?hv ?hn ?_ ?r1 ?r2 ?r3 ?r4 ?r5); (case r1 => exact rfl); (case r2 => exact rfl); (case r3 => exact rfl); (case r4 => exact rfl); (case r5 => exact rfl); (case he => k_is); (case hv => boot_by_name); (case hn => decide)))
local macro_rules | `(tactic| end_is "localc") => `(tactic| ((with_reducible refine' T.nameLocalC ?hm ?hv ?_ ?r1 ?r2 ?r3); (case r1 => exact rfl); (case r2 => exact rfl); (case r3 => exact rfl); (case hm => end_is "mem"); (case hv => end_is "mem")))
local macro_rules | `(tactic| end_is "name") => `(tactic| ((with_reducible show T _ _ _ (PySem.eval (PySem.Expr.Name _ _) _) _ _); first | end_is "local" | end_is "localc" | end_is "cell" | end_is "free" | end_is "glob" | end_is "built"))
local macro_rules | `(tactic| end_is "store") => `(tactic| ((with_reducible refine' T.storeM ?hv ?hu ?_ ?r1 ?r2); (case r1 => exact rfl); (case r2 => exact rfl); (case hu => k_upd); (case hv => end_is "setv")))
local macro_rules | `(tactic| end_is "frame") => `(tactic| (intro L; (repeat' (refine List.forall_mem_cons.mpr ⟨rfl, ?_⟩)); exact List.forall_mem_nil _))
local macro_rules | `(tactic| end_is "storecell") => `(tactic| ((with_reducible refine' T.storeCell ?r1 ?hu ?_ ?r2 ?r3); (case r1 => exact rfl); (case r2 => exact rfl); (case r3 => exact rfl); (case hu => k_upd)))
local macro_rules | `(tactic| end_is "st") => `(tactic| (with_reducible show T _ _ _ (PySem.storeName _ _ _) _ _); first | end_is "store" | end_is "storecell")
local macro_rules | `(tactic| end_is "del") => `(tactic| first | with_reducible exact Mine.Del.head | (with_reducible apply Mine.Del.tail; end_is "del"))
local macro_rules | `(tactic| end_is "sb") => `(tactic| first | ((with_reducible refine' Mine.Sb.dl ?hd ?hr); (case hd => end_is "del"); (case hr => end_is "sb")) | ((with_reducible refine' Mine.Sb.wkd ?hu ?hs ?hd ?hr); (case hu => k_upd); (case hs => end_is "fsub"); (case hd => end_is "del"); (case hr => end_is "sb")) | (refine Mine.Sb.tl ?_; end_is "sub"))
local macro_rules | `(tactic| end_is "ex") => `(tactic| with_reducible first
  | ((show T _ _ _ (PySem.eval _ _) _ _); first | refine T.constInt (fun _ => ?_) | refine T.constStr (fun _ => ?_) | refine T.constNone ?_ | refine T.constBool ?_ | refine T.binOp ?_ | refine T.compare ?_ | refine T.notE ?_ | refine T.ifExp ?_ | refine T.and2 ?_ | refine T.or2 ?_ | refine T.islice ?_ | refine T.isliceFrom ?_ | refine T.sub ?_ | refine T.callName ?_ | refine T.callNameKw ?_ | refine T.callAttr ?_ | refine T.getAttrE ?_ | refine T.list0 (fun _ => ?_) | refine T.listE ?_ | refine T.tupleE ?_)
  | ((show T _ _ _ (PySem.execs _ _) _ _); first | refine T.execsNil ?_ | refine T.execsCons ?_)
  | ((show T _ _ _ (PySem.exec _ _) _ _); first | refine T.assignName ?_ | refine T.assignAttr ?_ | refine T.assignSub ?_ | refine T.assignTuple ?_ | refine T.augName ?_ | refine T.augSub ?_ | refine T.ifS ?_ | refine T.retS ?_ | refine T.brk ?_ | refine T.exprS ?_)
  | refine T.testCompare ?_ | refine T.testNot ?_ | refine T.testBool ?_ | refine T.testPlain ?_ | refine T.allAndCons ?_ | refine T.allAndNil ?_ | refine T.allOrCons ?_ | refine T.allOrNil ?_ | refine T.testsNil ?_ | refine T.testsOne ?_ | refine T.spN ?_ | refine T.spC ?_ | refine T.eaN ?_ | refine T.eaN' ?_ | refine T.eaC ?_ | refine T.eaC' ?_ | refine T.cw ?_ | refine T.splNil ?_ | refine T.splCons ?_ | refine T.allNil ?_ | refine T.allCons ?_ | refine T.eArgsNil ?_ | refine T.eArgs ?_ | refine T.keeperBuiltin ?_ | refine T.keeperType ?_ | refine T.thenStand ?_ | refine T.truthyBool ?_ | refine T.addIntBool (fun _ => ?_) | refine T.eqNone ?_ | refine T.addInt (fun _ => ?_) | refine T.subInt (fun _ => ?_) | refine T.eqInt ?_ | refine T.neInt ?_ | refine T.ltInt ?_ | refine T.gtInt ?_ | refine T.iaddInt (fun _ => ?_) | refine T.isubInt (fun _ => ?_) | refine T.asName ?_ | refine T.inOrderNil ?_ | refine T.inOrder ?_)
local macro_rules | `(tactic| end_is "go") => `(tactic| repeat (end_is "one"))
local macro_rules | `(tactic| end_is "keep") => `(tactic| ((with_reducible refine' T.keeperK ?hk (fun _ => ?_)); (case hk => k_is)))
local macro_rules | `(tactic| end_is "fsub") => `(tactic| ((repeat' (refine List.forall_mem_cons.mpr ⟨by end_is "mem", ?_⟩)); exact List.forall_mem_nil _))
local macro_rules | `(tactic| end_is "load") => `(tactic| (first | ((with_reducible refine' T.loadM ?hm ?hv ?_ ?r1 ?r2); (case r1 => exact rfl); (case r2 => exact rfl); (case hm => end_is "mem"); (case hv => end_is "mem")) | ((with_reducible refine' T.loadCell ?r1 ?hm ?_ ?r2 ?r3); (case r1 => exact rfl); (case r2 => exact rfl); (case r3 => exact rfl); (case hm => end_is "mem"))))
local macro_rules | `(tactic| end_is "five") => `(tactic| first | end_is "name" | end_is "st" | end_is "keep" | end_is "load" | end_is "ex")
local macro_rules | `(tactic| end_is "one") => `(tactic| first | end_is "five" | (dsimp only [List.nil_append, List.cons_append]; end_is "five"))
/-! F2 -/
section
theorem fill : PySem.Challenge.rw_ez0180_01 = PySem.Challenge.rw_ez0180_01 ∧ kopf.heap_39 = kopf.heap_39 := by (k_fill; exact ⟨rfl, rfl⟩)
theorem clsGraph (P : Params) : ClsOk (kopf.heap_39 P) 671 := ⟨by k_is, by k_is, by k_is, by k_is, by k_is⟩
theorem clsMWC (P : Params) : ClsOk (kopf.heap_39 P) 63 := ⟨by k_is, by k_is, by k_is, by k_is, by k_is⟩
theorem sz {n : Nat} (h : n ≤ 1000) : n ≤ sizeLine := by rw [sizeLine_eq]; omega
/-- the graph, as has_edge reads it -/
def GOk (c : Cx) (Δ : Hp) (g : Addr) (R : Int → Int → Bool) (dom : List Int) : Prop :=
  ∃ gd kg eg adj ka ea, (g, PInst 671 gd) ∈ Δ ∧ (gd, PDM c.w kg eg) ∈ Δ ∧ valueAt kg "_adj" = some (.ref adj) ∧ valueAt kg "has_edge" = none ∧ (adj, PDI ka ea) ∈ Δ ∧
    ∀ u ∈ dom, ∃ nb k, valueAt ka u = some (.ref nb) ∧ (nb, PNb (R u) k) ∈ Δ
theorem GOk.mono {c : Cx} {Δ Δ' : Hp} {g : Addr} {R dom} (h : GOk c Δ g R dom) (hs : ∀ p ∈ Δ, p ∈ Δ') : GOk c Δ' g R dom :=
  let ⟨gd, kg, eg, adj, ka, ea, h1, h2, h3, h4, h5, h6⟩ := h
  ⟨gd, kg, eg, adj, ka, ea, hs _ h1, hs _ h2, h3, h4, hs _ h5, fun u hu => let ⟨nb, k, a, b⟩ := h6 u hu; ⟨nb, k, a, hs _ b⟩⟩
theorem has_edge {c : Cx} {A : Around} {E : Value → Hp → Prop} (hA : A.depth + 10 < recursionLimit) {Δ : Hp} {g : Addr} {R : Int → Int → Bool} {dom : List Int} {u v : Int} {tu tv : Tok} (hG : GOk c Δ g R dom) (hu : u ∈ dom) :
    T c A Δ (call (.ref 567) [.ref g, .int u tu, .int v tv] []) (fun r Δ' => r = .bool (R u v) ∧ Δ' = Δ) E := by
  obtain ⟨gd, kg, eg, adj, ka, ea, hg, hgd, h1, h4, ha, h6⟩ := hG
  obtain ⟨nb, k, h2, hn⟩ := h6 u hu
  refine T.callA [("self", .ref g), ("u", .int u tu), ("v", .int v tv)] (fun _ => Δ) (by k_is) (by k_is) (by omega) rfl rfl (by end_is "frame") (fun _ => rfl) (by decide) rfl rfl rfl fun L A' hd' hh' _ => ?_
  refine T.execsCons (T.tryOk ?_)
  end_is "go"
  refine T.getOwnM (clsGraph _) (.tail _ hg) (.tail _ hgd) h1 (by k_is) (by k_is) rfl ?_
  end_is "go"
  refine T.subDI (.tail _ ha) h2 ?_
  refine T.inNb (.tail _ hn) ?_
  exact ⟨_, by end_is "sub", rfl, rfl⟩
theorem gMeth {c : Cx} {A : Around} {E : Value → Hp → Prop} {Δ : Hp} {g : Addr} {R : Int → Int → Bool} {dom : List Int} {pl : Sem Bool} {Q : Value × List Value → Hp → Prop} (hG : GOk c Δ g R dom) (h : Q (.ref 567, [.ref g]) Δ) : T c A Δ (getMethod (.ref g) "has_edge" pl) Q E := by
  obtain ⟨gd, kg, eg, adj, ka, ea, hg, hgd, h1, h4, ha, h6⟩ := hG
  exact T.methodM (clsGraph _) hg hgd h4 (by k_is) (by k_is) h
theorem greedySet {c : Cx} {A : Around} {E : Value → Hp → Prop} (hA : A.depth + 20 < recursionLimit) (hh : A.handled = none) {Δ : Hp} {m md g P : Addr} {km em} {R : Int → Int → Bool} {dom ps : List Int} (hG : GOk c Δ g R dom)
    (hm : (m, PInst 63 md) ∈ Δ) (hmd : (md, PDS c.w km em) ∈ Δ) (h1 : valueAt km "G" = some (.ref g)) (hP : (P, PInts ps) ∈ Δ) (hps : ∀ p ∈ ps, p ∈ dom) (hz : ps.length ≤ 1000) :
    T c A Δ (call (.ref 45) [.ref m, .ref P] []) (fun r Δ' => ∃ l, r = .ref l ∧ Sb ((l, PInts (greedy R ps)) :: Δ) Δ') E := by
  refine T.callA [("P", .ref P)] (fun L => (L + 1 + 1, PCell none) :: (L + 1, PCell (some (.ref m))) :: Δ) (by k_is) (by k_is) (by omega) rfl rfl (by end_is "frame") (fun _ => rfl) (by decide) rfl rfl rfl fun L A' hd' hh' _ => ?_
  rw [hh] at hh'
  end_is "go"
  rename_i S
  refine ⟨P, ps, rfl, by end_is "mem", sz hz, fun P' => ?_⟩
  end_is "go"
  refine T.whileS (fun k Δ' => ∃ rest done P' cv, k = rest.length ∧ done ++ greedy R rest = greedy R ps ∧ (∀ p ∈ rest, p ∈ dom) ∧ done.length + rest.length ≤ 1000 ∧
    Sb ((L, PFr [("P", .ref P'), ("independent_set", .ref S)]) :: (P', PInts rest) :: (S, PInts done) :: (L + 1 + 1, PCell cv) :: (L + 1, PCell (some (.ref m))) :: Δ) Δ') ?_ ps.length ⟨ps, [], P', none, rfl, rfl, hps, by simpa using hz, by end_is "sb"⟩
  rintro k Δ' ⟨rest, done, P', cv, rfl, hd, hr, hl, hsb⟩
  refine T.sb hsb ?_
  refine T.testPlain ?_
  end_is "go"
  refine T.itru (by end_is "mem") (sz (by omega)) ?_
  cases rest with
  | nil =>
    simp only [List.isEmpty_nil, Bool.not_true, if_neg Bool.false_ne_true]
    end_is "go"
    refine ⟨_, by end_is "sub", S, rfl, ?_⟩
    rw [greedy, List.append_nil] at hd
    rw [← hd]
    end_is "sb"
  | cons v r =>
    simp only [List.isEmpty_cons, Bool.not_false, if_true]
    end_is "go"
    refine T.isub (k := 0) (by end_is "mem") (by decide) (by decide) rfl fun tv => ?_
    end_is "go"
    refine T.mList (by end_is "mem") (fun _ => PInts.is) F.slot_list_append F.type_list_append ?_
    end_is "go"
    refine T.iapp (by k_upd) (sz (by simp at hl; omega)) ?_
    refine ⟨trivial, ?_⟩
    end_is "go"
    refine T.asgCompI (fun w => v != w && !R v w) id ?_ rfl (by decide) rfl (by decide) rfl
    end_is "go"
    refine T.iiter (by end_is "mem") fun it => ?_
    refine ⟨it, PLIter P', v :: r, rfl, rfl, IW.list hh' (by end_is "mem"), sz (by simp at hl ⊢; omega), fun C D ys i n t hn => ⟨?_, fun hp => ?_⟩, fun D C fr => ?_⟩
    · end_is "go"
      cases hvn : (v != n) with
      | false => rw [if_neg Bool.false_ne_true]; exact ⟨by simp [hvn], rfl⟩
      | true =>
        rw [if_pos rfl]
        end_is "go"
        refine T.getOwn (clsMWC _) (by end_is "mem") (by end_is "mem") h1 (by k_is) (by k_is) rfl ?_
        refine gMeth (hG.mono fun p hp => by end_is "mem") ?_
        end_is "go"
        refine (has_edge (by omega) (hG.mono fun p hp => by end_is "mem") (hr v (.head _))).mono (fun r Δ' => ?_) (fun _ _ e => e)
        rintro ⟨rfl, rfl⟩
        end_is "go"
        cases hR : R v n with
        | false => rw [Bool.not_false, if_pos rfl]; end_is "go"; exact ⟨by simp [hvn], rfl⟩
        | true => rw [Bool.not_true, if_neg Bool.false_ne_true]; exact ⟨by simp [hvn], rfl⟩
    · end_is "go"
      exact ⟨⟨_, rfl⟩, rfl⟩
    · end_is "go"
      refine ⟨_, _, .head, ?_⟩
      end_is "go"
      refine ⟨_, ?_, r.filter fun w => v != w && !R v w, done ++ [v], D, some (.int v tv), rfl, ?_, ?_, ?_, ?_⟩
      · have := List.length_filter_le (fun w => v != w && !R v w) r
        simp only [List.length_cons]; omega
      · rw [← hd, greedy, List.append_assoc]; rfl
      · intro p hp
        exact hr p (.tail _ (List.mem_filter.mp hp).1)
      · have := List.length_filter_le (fun w => v != w && !R v w) r
        simp only [List.length_append, List.length_cons, List.length_nil] at hl ⊢
        omega
      · rw [List.map_id, List.filter_cons_of_neg (by simp)]
        end_is "sb"
end
/-! F3 -/
section
/-- the values of the instance, while the search goes on -/
def kmOf (g inc : Addr) (W : Int) (t : Tok) (nw : Addr) : List (Str × Value) := [("G", .ref g), ("incumbent_nodes", .ref inc), ("incumbent_weight", .int W t), ("node_weights", .ref nw)]
theorem kmOf_G {g inc : Addr} {W : Int} {t : Tok} {nw : Addr} : valueAt (kmOf g inc W t nw) "G" = some (.ref g) := rfl
theorem kmOf_I {g inc : Addr} {W : Int} {t : Tok} {nw : Addr} : valueAt (kmOf g inc W t nw) "incumbent_nodes" = some (.ref inc) := rfl
theorem kmOf_W {g inc : Addr} {W : Int} {t : Tok} {nw : Addr} : valueAt (kmOf g inc W t nw) "incumbent_weight" = some (.int W t) := rfl
theorem kmOf_N {g inc : Addr} {W : Int} {t : Tok} {nw : Addr} : valueAt (kmOf g inc W t nw) "node_weights" = some (.ref nw) := rfl
theorem kmOf_setI {g inc inc' : Addr} {W : Int} {t : Tok} {nw : Addr} : stored (kmOf g inc W t nw) "incumbent_nodes" (.ref inc') = kmOf g inc' W t nw := by rfl
theorem kmOf_setW {g inc : Addr} {W W' : Int} {t t' : Tok} {nw : Addr} : stored (kmOf g inc W t nw) "incumbent_weight" (.int W' t') = kmOf g inc W' t' nw := by rfl
/-- the instance and its incumbent, ahead of what stays -/
def MSt (c : Cx) (Φ : Hp) (md g nw : Addr) (W : Int) (items : List Int) (Δ : Hp) : Prop := ∃ inc t em, Sb ((md, PDS c.w (kmOf g inc W t nw) em) :: (inc, PInts items) :: Φ) Δ
theorem update {c : Cx} {A : Around} {E : Value → Hp → Prop} (hA : A.depth + 20 < recursionLimit) (hh : A.handled = none) {Φ Δ : Hp} {m md g nw C : Addr} {W w : Int} {tw : Tok} {items cs : List Int} (hm : (m, PInst 63 md) ∈ Φ) (hC : (C, PInts cs) ∈ Φ) (hz : cs.length ≤ 1000)
    (hS : MSt c Φ md g nw W items Δ) :
    T c A Δ (call (.ref 40) [.ref m, .ref C, .int w tw] []) (fun r Δ' => r = .none ∧ MSt c Φ md g nw (if W < w then w else W) (if W < w then cs else items) Δ') E := by
  obtain ⟨inc, t, em, hsb⟩ := hS
  refine T.sb hsb ?_
  refine T.callA [("self", .ref m), ("C", .ref C), ("C_weight", .int w tw)] (fun _ => (md, PDS c.w (kmOf g inc W t nw) em) :: (inc, PInts items) :: Φ) (by k_is) (by k_is) (by omega) rfl rfl (by end_is "frame") (fun _ => rfl) (by decide) rfl rfl rfl fun L A' hd' hh' _ => ?_
  rw [‹A.handled = none›] at hh'
  end_is "go"
  refine T.getOwn (clsMWC _) (by end_is "mem") (by end_is "mem") kmOf_W (by k_is) (by k_is) rfl ?_
  end_is "go"
  by_cases hw : W < w
  · rw [if_pos (decide_eq_true hw), if_pos hw, if_pos hw]
    end_is "go"
    refine ⟨C, cs, rfl, by end_is "mem", sz hz, fun C' => ?_⟩
    end_is "go"
    refine T.setOwn (clsMWC _) (by end_is "mem") (fun ep' => by k_upd) (by k_is) (by show 4 ≤ 1000; decide) fun ep' => ?_
    rw [kmOf_setI]
    end_is "go"
    refine T.setOwn (clsMWC _) (by end_is "mem") (fun ep'' => by k_upd) (by k_is) (by show 4 ≤ 1000; decide) fun ep'' => ?_
    rw [kmOf_setW]
    end_is "go"
    exact ⟨_, by end_is "sub", rfl, C', tw, ep'', by end_is "sb"⟩
  · rw [if_neg (by rw [decide_eq_false hw]; exact Bool.false_ne_true), if_neg hw, if_neg hw]
    end_is "go"
    exact ⟨_, by end_is "sub", rfl, inc, t, em, by end_is "sb"⟩
end
/-! F4 -/
section
theorem branch {c : Cx} {A : Around} {E : Value → Hp → Prop} (hA : A.depth + 30 < recursionLimit) (hh : A.handled = none) {Δ : Hp} {m md g nw P : Addr} {km em} {R : Int → Int → Bool} {dom ps : List Int} {wts : List (Int × Int)} {wt : Int → Int} {tgt : Int} {tt : Tok}
    (hG : GOk c Δ g R dom) (hm : (m, PInst 63 md) ∈ Δ) (hmd : (md, PDS c.w km em) ∈ Δ) (h1 : valueAt km "G" = some (.ref g)) (h2 : valueAt km "node_weights" = some (.ref nw)) (h3 : valueAt km "greedily_find_independent_set" = none)
    (hnw : (nw, PWt wts) ∈ Δ) (hT : (47, PTab) ∈ Δ) (hP : (P, PInts ps) ∈ Δ) (hps : ∀ p ∈ ps, p ∈ dom) (hz : ps.length ≤ 1000) (hnd : ps.Nodup) (hwt : ∀ p ∈ ps, getI wts p = some (wt p)) (hpos : ∀ p ∈ ps, 0 < wt p) (h0 : 0 ≤ tgt) :
    T c A Δ (call (.ref 50) [.ref m, .ref P, .int tgt tt] []) (fun r Δ' => ∃ l bs, r = .ref l ∧ bs.Sublist ps ∧ (∀ K, Clq R K → (∀ v ∈ K, v ∈ ps ∧ v ∉ bs) → wsum wt K ≤ tgt) ∧ Sb ((l, PInts bs) :: Δ) Δ') E := by
  refine T.callA [("P", .ref P), ("target", .int tgt tt)] (fun L => (L + 1 + 1, PCell none) :: (L + 1, PCell (some (.ref m))) :: Δ) (by k_is) (by k_is) (by omega) rfl rfl (by end_is "frame") (fun _ => rfl) (by decide) rfl rfl rfl fun L A' hd' hh' _ => ?_
  rw [‹A.handled = none›] at hh'
  end_is "go"
  refine T.compW wt ?_ rfl (by decide) rfl (by decide) rfl rfl
  end_is "go"
  refine T.iiter (by end_is "mem") fun it => ?_
  refine ⟨it, PLIter P, ps, rfl, rfl, IW.list hh' (by end_is "mem"), sz hz, hnd, fun C D ys i n t hn => ?_, fun D => ?_⟩
  · end_is "go"
    refine T.getOwn (clsMWC _) (by end_is "mem") (by end_is "mem") h2 (by k_is) (by k_is) rfl ?_
    end_is "go"
    refine T.subW (by end_is "mem") (hwt n (List.mem_of_getElem? hn)) fun u => ?_
    exact ⟨⟨u, rfl⟩, rfl⟩
  end_is "go"
  refine ⟨P, ps, rfl, by end_is "mem", sz hz, fun P₀ => ?_⟩
  end_is "go"
  refine T.whileS (fun k Δ' => ∃ cur rwf total tt' P', k = cur.length ∧ BInv R wt ps rwf total cur ∧ total ≤ tgt ∧
    Sb ((L, PFr [("P", .ref P'), ("target", .int tgt tt), ("total_wt", .int total tt')]) :: (P', PInts cur) :: (D, PWt (ps.map fun n => (n, rwf n))) :: (L + 1 + 1, PCell (some (.ref D))) :: (L + 1, PCell (some (.ref m))) :: Δ) Δ') ?_ ps.length
    ⟨ps, wt, 0, _, P₀, rfl, BInv.init hpos, h0, by end_is "sb"⟩
  rintro k Δ' ⟨cur, rwf, total, tt', P', rfl, hB, htot, hsb⟩
  refine T.sb hsb ?_
  end_is "go"
  refine T.itru (by end_is "mem") (sz (Nat.le_trans hB.sub.length_le hz)) ?_
  by_cases hce : cur = []
  · subst hce
    simp only [List.isEmpty_nil, Bool.not_true, if_neg Bool.false_ne_true]
    end_is "go"
    exact ⟨_, by end_is "sub", P', [], rfl, List.nil_sublist _, fun K hK hs => Int.le_trans (hB.stop hK hs) htot, by end_is "sb"⟩
  have hce' : (!cur.isEmpty) = true := by cases cur <;> simp_all
  rw [if_pos hce']
  have hcl : cur.length ≤ 1000 := Nat.le_trans hB.sub.length_le hz
  end_is "go"
  refine T.method (clsMWC _) (by end_is "mem") (by end_is "mem") h3 (by k_is) (by k_is) ?_
  end_is "go"
  refine (greedySet (by omega) hh' (hG.mono fun p hp => by end_is "mem") (by end_is "mem") (by end_is "mem") h1 (by end_is "mem") (fun p hp => hps p (hB.sub.subset hp)) hcl).mono (fun r Δ₁ => ?_) (fun _ _ e => e)
  rintro ⟨Sl, rfl, hsb1⟩
  refine T.sb hsb1 ?_
  end_is "one"
  end_is "one"
  end_is "one"
  end_is "one"
  end_is "one"
  have hgs : ∀ v ∈ greedy R cur, v ∈ ps := fun v hv => hB.sub.subset ((greedy_sub R _ cur (Nat.le_refl _)).subset hv)
  have hgl : (greedy R cur).length ≤ 1000 := Nat.le_trans (greedy_sub R _ cur (Nat.le_refl _)).length_le hcl
  have hgn : (greedy R cur).Nodup := (greedy_sub R _ cur (Nat.le_refl _)).nodup (hB.sub.nodup hnd)
  refine T.minGen (cd := 49) (P := 47) (dc := L + 1 + 1) (d := D) (l := Sl) (ns := greedy R cur) (f := rwf) hh' (by omega) rfl (by kernel_rfl) rfl rfl (by end_is "mem") (by end_is "mem") (by end_is "mem") (by end_is "mem") (sz hgl) (greedy_ne R hce) (fun n hn => getI_map (hgs n hn)) ?hit (fun mm tm hmm hle => ?_) rfl rfl rfl (by decide) rfl rfl rfl rfl rfl rfl rfl
  case hit => end_is "go"; exact ⟨rfl, rfl⟩
  end_is "go"
  by_cases hgt : tgt < total + mm
  · rw [if_pos (decide_eq_true hgt)]
    end_is "go"
    exact ⟨_, by end_is "sub", P', cur, rfl, hB.sub, fun K hK hs => Int.le_trans (hB.stop hK hs) htot, by end_is "sb"⟩
  rw [if_neg (by rw [decide_eq_false hgt]; exact Bool.false_ne_true)]
  end_is "go"
  refine T.forS ?_
  end_is "go"
  refine T.iiter (by end_is "mem") fun itv => ?_
  obtain ⟨hB2, hlt, hm0⟩ := hB.step hmm hle
  refine ⟨fun k Δ' => ∃ i, k = (greedy R cur).length + 1 - i ∧ i ≤ (greedy R cur).length ∧ ∃ tt2,
    Sb ((itv, PLIter Sl i) :: (L, PFr [("P", .ref P'), ("target", .int tgt tt), ("total_wt", .int (total + mm) tt2), ("independent_set", .ref Sl), ("min_wt_in_class", .int mm tm)]) :: (Sl, PInts (greedy R cur)) :: (P', PInts cur) ::
      (D, PWt (ps.map fun n => (n, taken ((greedy R cur).take i) rwf mm n))) :: (L + 1 + 1, PCell (some (.ref D))) :: (L + 1, PCell (some (.ref m))) :: Δ) Δ', (greedy R cur).length + 1,
    ⟨0, rfl, Nat.zero_le _, _, by rw [taken_nil]; end_is "sb"⟩, ?_⟩
  rintro k Δ₂ ⟨i, rfl, hi, tt2, hsb2⟩
  refine T.sb hsb2 ?_
  cases e : (greedy R cur)[i]? with
  | none =>
    have hi' : i = (greedy R cur).length := by have := List.getElem?_eq_none_iff.mp e; omega
    subst hi'
    refine T.inextEnd hh' (by end_is "del") (by end_is "mem") e ?_
    dsimp only
    rw [List.take_length]
    end_is "go"
    refine T.asgCompI (fun n => taken (greedy R cur) rwf mm n != 0) id ?_ rfl (by decide) rfl (by decide) rfl
    end_is "go"
    refine T.iiter (by end_is "mem") fun itc => ?_
    refine ⟨itc, PLIter P', cur, rfl, rfl, IW.list hh' (by end_is "mem"), sz hcl, fun C D' ys i n t hn => ⟨?_, fun hp => ?_⟩, fun D' C fr => ?_⟩
    · end_is "go"
      refine T.subW (by end_is "mem") (getI_map (hB.sub.subset (List.mem_of_getElem? hn))) fun u => ?_
      end_is "go"
      exact ⟨rfl, rfl⟩
    · end_is "go"
      exact ⟨⟨_, rfl⟩, rfl⟩
    · end_is "go"
      refine ⟨_, _, .head, ?_⟩
      end_is "go"
      refine ⟨_, hlt, _, _, total + mm, tt2, D', rfl, hB2, by omega, ?_⟩
      rw [List.map_id]
      end_is "sb"
  | some v =>
    have hi' : i < (greedy R cur).length := (List.getElem?_eq_some_iff.mp e).1
    have hvp : v ∈ ps := hgs v (List.mem_of_getElem? e)
    refine T.inext (by k_upd) (by end_is "mem") e fun tv => ?_
    end_is "go"
    refine T.getW (by end_is "mem") (getI_map hvp) fun u => ?_
    end_is "go"
    refine T.setW (by k_upd) (by rw [List.length_map]; exact sz hz) ?_
    rw [setI_map hvp]
    end_is "go"
    refine ⟨(greedy R cur).length + 1 - (i + 1), by omega, i + 1, rfl, hi', tt2, ?_⟩
    rw [← taken_snoc (rw := rwf) (m := mm) hgn e]
    end_is "sb"
end
/-! F5 -/
section
/-- what the incumbent is -/
def IncOk (R : Int → Int → Bool) (wt : Int → Int) (dom : List Int) (W : Int) (items : List Int) : Prop := Clq R items ∧ (∀ v ∈ items, v ∈ dom) ∧ W = wsum wt items ∧ 0 ≤ W ∧ items.length ≤ 900
theorem nodup_le : ∀ {a b : List Int}, a.Nodup → (∀ x ∈ a, x ∈ b) → a.length ≤ b.length
  | [], _, _, _ => Nat.zero_le _
  | x :: a, b, hn, h => by
    have hx := h x (.head _)
    have hn' := List.nodup_cons.mp hn
    have := nodup_le hn'.2 (b := b.erase x) fun y hy => (List.mem_erase_of_ne (fun e : y = x => hn'.1 (e ▸ hy))).mpr (h y (.tail _ hy))
    have h1 := List.length_erase_of_mem hx
    have h2 := List.length_pos_of_mem hx
    simp only [List.length_cons]; omega
theorem step_cover {R : Int → Int → Bool} {wt : Int → Int} {ps pcur : List Int} {v cw W W2 : Int} (hnd : pcur.Nodup) (hW : W ≤ W2) (hcov : ∀ K, Clq R K → (∀ x ∈ K, x ∈ ps) → (∀ x ∈ K, x ∈ pcur) ∨ cw + wsum wt K ≤ W)
    (hnew : ∀ K, Clq R K → (∀ x ∈ K, x ∈ (pcur.erase v).filter (R v)) → cw + wt v + wsum wt K ≤ W2) :
    ∀ K, Clq R K → (∀ x ∈ K, x ∈ ps) → (∀ x ∈ K, x ∈ pcur.erase v) ∨ cw + wsum wt K ≤ W2 := fun K hK hs => by
  rcases hcov K hK hs with h | h
  · by_cases hv : v ∈ K
    · right
      have hp := List.perm_cons_erase hv
      have hK' := hK.perm hp
      have := hnew (K.erase v) hK'.tail fun x hx => by
        have hxK := List.mem_of_mem_erase hx
        have hne : x ≠ v := fun e => (List.nodup_cons.mp hK'.1).1 (e ▸ hx)
        exact List.mem_filter.mpr ⟨(List.mem_erase_of_ne hne).mpr (h x hxK), hK.2 v hv x hxK (Ne.symm hne)⟩
      rw [wsum_perm hp, wsum_cons]; omega
    · left
      intro x hx
      exact (List.mem_erase_of_ne (fun e : x = v => hv (by rw [← e]; exact hx))).mpr (h x hx)
  · right; omega
theorem expand {c : Cx} {R : Int → Int → Bool} {dom : List Int} {wts : List (Int × Int)} {wt : Int → Int} {m md g nw : Addr} (hsym : ∀ a b, R a b = R b a) (hwt : ∀ p ∈ dom, getI wts p = some (wt p)) : ∀ (n : Nat) {A : Around} {E : Value → Hp → Prop} {Φ Δ : Hp} {C P inc : Addr} {t : Tok} {em : Nat} {W : Int} {items cs ps : List Int} {cw : Int} {tw : Tok},
    ps.length ≤ n → A.depth + n + 40 < recursionLimit → A.handled = none → GOk c Φ g R dom → (m, PInst 63 md) ∈ Φ → (nw, PWt wts) ∈ Φ → (47, PTab) ∈ Φ → (C, PInts cs) ∈ Φ → cs.length + ps.length ≤ 900 → ps.Nodup → (∀ p ∈ ps, p ∈ dom) → (∀ p ∈ ps, 0 < wt p) →
    Clq R cs → (∀ v ∈ cs, v ∈ dom) → (∀ p ∈ ps, ∀ a ∈ cs, a ≠ p ∧ R a p = true) → cw = wsum wt cs → 0 ≤ cw → IncOk R wt dom W items →
    Sb ((P, PInts ps) :: (md, PDS c.w (kmOf g inc W t nw) em) :: (inc, PInts items) :: Φ) Δ →
    T c A Δ (call (.ref 55) [.ref m, .ref C, .int cw tw, .ref P] []) (fun r Δ' => r = .none ∧ ∃ W' items', MSt c Φ md g nw W' items' Δ' ∧ W ≤ W' ∧ IncOk R wt dom W' items' ∧ ∀ K, Clq R K → (∀ v ∈ K, v ∈ ps) → cw + wsum wt K ≤ W') E := by
  intro n
  induction n using Nat.strongRecOn with
  | _ n ih =>
  intro A E Φ Δ C P inc t em W items cs ps cw tw hn hA hh hG hm hnw hT hC hz hnd hps hpos hcs hcd hadj hcw hcw0 hinc hsb
  refine T.sb hsb ?_
  refine T.callA [("C", .ref C), ("C_weight", .int cw tw), ("P", .ref P)] (fun L => (L + 1 + 1, PCell none) :: (L + 1, PCell (some (.ref m))) :: (P, PInts ps) :: (md, PDS c.w (kmOf g inc W t nw) em) :: (inc, PInts items) :: Φ) (by k_is) (by k_is) (by omega) rfl rfl (by end_is "frame") (fun _ => rfl) (by decide) rfl rfl rfl fun L A' hd' hh' _ => ?_
  rw [hh] at hh'
  end_is "go"
  refine T.method (clsMWC _) (by end_is "mem") (by end_is "mem") rfl (by k_is) (by k_is) ?_
  end_is "go"
  refine (update (Φ := (L, PFr [("C", .ref C), ("C_weight", .int cw tw), ("P", .ref P)]) :: (L + 1 + 1, PCell none) :: (L + 1, PCell (some (.ref m))) :: (P, PInts ps) :: Φ) (by omega) hh' (by end_is "mem") (by end_is "mem") (by omega) ⟨inc, t, em, by end_is "sb"⟩).mono (fun r Δ₁ => ?_) (fun _ _ e => e)
  rintro ⟨rfl, hS1⟩
  refine ⟨trivial, ?_⟩
  have hinc1 : IncOk R wt dom (if W < cw then cw else W) (if W < cw then cs else items) ∧ W ≤ (if W < cw then cw else W) ∧ cw ≤ (if W < cw then cw else W) := by
    split
    · exact ⟨⟨hcs, hcd, hcw, hcw0, by omega⟩, by omega, by omega⟩
    · exact ⟨hinc, by omega, by omega⟩
  generalize hW1 : (if W < cw then cw else W) = W1 at hS1 hinc1
  generalize (if W < cw then cs else items) = items1 at hS1 hinc1
  obtain ⟨inc1, t1, em1, hsb1⟩ := hS1
  refine T.sb hsb1 ?_
  end_is "go"
  refine T.method (clsMWC _) (by end_is "mem") (by end_is "mem") rfl (by k_is) (by k_is) ?_
  end_is "go"
  refine T.getOwn (clsMWC _) (by end_is "mem") (by end_is "mem") kmOf_W (by k_is) (by k_is) rfl ?_
  end_is "go"
  refine (branch (tgt := W1 - cw) (by omega) hh' (hG.mono fun p hp => by end_is "mem") (by end_is "mem") (by end_is "mem") kmOf_G kmOf_N rfl (by end_is "mem") (by end_is "mem") (by end_is "mem") hps (by omega) hnd (fun p hp => hwt p (hps p hp)) hpos (by omega)).mono (fun r Δ₂ => ?_) (fun _ _ e => e)
  rintro ⟨B, bs, rfl, hbs, hbr, hsb2⟩
  refine T.sb hsb2 ?_
  end_is "go"
  refine T.whileS (fun k Δ' => ∃ bs pcur W' items' inc' t' em' cv, k = bs.length ∧ bs.Nodup ∧ (∀ x ∈ bs, x ∈ pcur) ∧ pcur.Sublist ps ∧ W1 ≤ W' ∧ IncOk R wt dom W' items' ∧
      (∀ K, Clq R K → (∀ x ∈ K, x ∈ ps) → (∀ x ∈ K, x ∈ pcur) ∨ cw + wsum wt K ≤ W') ∧ (∀ K, Clq R K → (∀ x ∈ K, x ∈ pcur ∧ x ∉ bs) → cw + wsum wt K ≤ W') ∧
      Sb ((L, PFr [("C", .ref C), ("C_weight", .int cw tw), ("P", .ref P), ("branching_nodes", .ref B)]) :: (L + 1 + 1, PCell cv) :: (L + 1, PCell (some (.ref m))) :: (B, PInts bs) :: (P, PInts pcur) :: (md, PDS c.w (kmOf g inc' W' t' nw) em') :: (inc', PInts items') :: Φ) Δ')
    ?_ bs.length ⟨bs, ps, W1, items1, inc1, t1, em1, none, rfl, hbs.nodup hnd, fun x hx => hbs.subset hx, .refl _, Int.le_refl _, hinc1.1, fun K _ h => .inl h, fun K hK h => by have := hbr K hK h; omega, by end_is "sb"⟩
  rintro k Δ₃ ⟨bs, pcur, W', items', inc', t', em', cv, rfl, hbn, hbp, hpc, hW', hinc', hcov, hdis, hsb3⟩
  refine T.sb hsb3 ?_
  end_is "go"
  have hpl : pcur.length ≤ ps.length := hpc.length_le
  have hbl : bs.length ≤ 900 := by
    have : bs.length ≤ pcur.length := nodup_le hbn hbp
    omega
  refine T.itru (by end_is "mem") (sz (by omega)) ?_
  rcases List.eq_nil_or_concat bs with rfl | ⟨bs0, v, rfl⟩
  · simp only [List.isEmpty_nil, Bool.not_true, if_neg Bool.false_ne_true]
    end_is "go"
    refine ⟨_, by end_is "sub", rfl, W', items', ⟨inc', t', em', by end_is "sb"⟩, by omega, hinc', fun K hK hs => ?_⟩
    rcases hcov K hK hs with h | h
    · exact hdis K hK fun x hx => ⟨h x hx, List.not_mem_nil⟩
    · exact h
  rw [List.concat_eq_append] at *
  rw [if_pos (by simp)]
  have hvp : v ∈ pcur := hbp v (by simp)
  have hpn : pcur.Nodup := hpc.nodup hnd
  have hel := List.length_erase_of_mem hvp
  have hpos1 : 0 < pcur.length := List.length_pos_of_mem hvp
  end_is "go"
  refine T.mList (by end_is "mem") (fun _ => PInts.is) F.slot_list_pop F.type_list_pop ?_
  end_is "go"
  refine T.ipop (by k_upd) (by have := sz (n := 1000) (by omega); simp at hbl; omega) fun tv => ?_
  end_is "go"
  refine T.mList (by end_is "mem") (fun _ => PInts.is) F.slot_list_remove F.type_list_remove ?_
  end_is "go"
  refine T.iremove (by k_upd) hvp (sz (by omega)) ?_
  refine ⟨trivial, ?_⟩
  end_is "go"
  refine ⟨sz (by simp), fun l1 => ?_⟩
  refine T.weak (P' := PInts [v]) .head (fun o h => h.ints (.cons v _ .nil)) ?_
  refine T.icat (by end_is "mem") (by end_is "mem") (sz (by simp; omega)) fun C2 => ?_
  end_is "go"
  refine T.getOwn (clsMWC _) (by end_is "mem") (by end_is "mem") kmOf_N (by k_is) (by k_is) rfl ?_
  end_is "go"
  refine T.subW (by end_is "mem") (hwt v (hps v (hpc.subset hvp))) fun u => ?_
  end_is "go"
  refine T.asgCompI (R v) id ?_ rfl (by decide) rfl (by decide) rfl
  end_is "go"
  refine T.iiter (by end_is "mem") fun itc => ?_
  refine ⟨itc, PLIter P, pcur.erase v, rfl, rfl, IW.list hh' (by end_is "mem"), sz (by omega), fun C' D' ys i n' t hn' => ⟨?_, fun hp => ?_⟩, fun P2 C' fr => ?_⟩
  · end_is "go"
    refine T.getOwn (clsMWC _) (by end_is "mem") (by end_is "mem") kmOf_G (by k_is) (by k_is) rfl ?_
    refine gMeth (hG.mono fun p hp => by end_is "mem") ?_
    end_is "go"
    refine (has_edge (by omega) (hG.mono fun p hp => by end_is "mem") (hps v (hpc.subset hvp))).mono (fun r Δ' => ?_) (fun _ _ e => e)
    rintro ⟨rfl, rfl⟩
    end_is "go"
    exact ⟨rfl, rfl⟩
  · end_is "go"
    exact ⟨⟨_, rfl⟩, rfl⟩
  end_is "go"
  refine ⟨_, _, .head, ?_⟩
  rw [List.map_id]
  end_is "go"
  refine T.method (clsMWC _) (by end_is "mem") (by end_is "mem") rfl (by k_is) (by k_is) ?_
  end_is "go"
  have hfl := List.length_filter_le (R v) (pcur.erase v)
  have hfm : ∀ p ∈ (pcur.erase v).filter (R v), p ∈ ps ∧ R v p = true ∧ v ≠ p := fun p hp => by
    obtain ⟨h1, h2⟩ := List.mem_filter.mp hp
    refine ⟨hpc.subset (List.mem_of_mem_erase h1), h2, fun e => ?_⟩
    subst e
    exact ((List.Nodup.mem_erase_iff hpn).mp h1).1 rfl
  have hvps : v ∈ ps := hpc.subset hvp
  have hbn' := List.nodup_append.mp hbn
  refine (ih ((pcur.erase v).filter (R v)).length (by omega) (Φ := (L, PFr [("C", .ref C), ("C_weight", .int cw tw), ("P", .ref P), ("branching_nodes", .ref B)]) :: (L + 1 + 1, PCell (some (.int v tv))) :: (L + 1, PCell (some (.ref m))) :: (B, PInts bs0) :: (P, PInts (pcur.erase v)) :: (C2, PInts (cs ++ [v])) :: Φ)
    (cs := cs ++ [v]) (ps := (pcur.erase v).filter (R v)) (Nat.le_refl _) (by omega) hh' (hG.mono fun p hp => by end_is "mem") (by end_is "mem") (by end_is "mem") (by end_is "mem") (by end_is "mem") (by simp; omega) (List.filter_sublist.nodup (List.erase_sublist.nodup hpn))
    (fun p hp => hps p (hfm p hp).1) (fun p hp => hpos p (hfm p hp).1) ⟨?n1, ?n2⟩ (fun x hx => ?n3) (fun p hp a ha => ?n4) ?n5 ?n6 hinc' (by end_is "sb")).mono (fun r Δ₄ => ?_) (fun _ _ e => e)
  case n1 =>
    refine List.nodup_append.mpr ⟨hcs.1, by simp, fun a ha b hb => ?_⟩
    rw [List.mem_singleton.mp hb]
    exact (hadj v hvps a ha).1
  case n2 =>
    intro a ha b hb hab
    rcases List.mem_append.mp ha with ha | ha <;> rcases List.mem_append.mp hb with hb | hb
    · exact hcs.2 a ha b hb hab
    · rw [List.mem_singleton.mp hb]; exact (hadj v hvps a ha).2
    · rw [List.mem_singleton.mp ha, hsym]; exact (hadj v hvps b hb).2
    · exact absurd ((List.mem_singleton.mp ha).trans (List.mem_singleton.mp hb).symm) hab
  case n3 =>
    rcases List.mem_append.mp hx with hx | hx
    · exact hcd x hx
    · rw [List.mem_singleton.mp hx]; exact hps v hvps
  case n4 =>
    rcases List.mem_append.mp ha with ha | ha
    · exact hadj p (hfm p hp).1 a ha
    · rw [List.mem_singleton.mp ha]; exact ⟨(hfm p hp).2.2, (hfm p hp).2.1⟩
  case n5 => rw [wsum_append, wsum_cons, wsum_nil, hcw]; omega
  case n6 => have := hpos v hvps; omega
  rintro ⟨rfl, W2, items2, ⟨inc2, t2, em2, hsb4⟩, hW2, hinc2, hnew⟩
  refine ⟨trivial, ?_⟩
  refine T.sb hsb4 ?_
  end_is "go"
  refine ⟨bs0.length, by simp, bs0, pcur.erase v, W2, items2, inc2, t2, em2, _, rfl, hbn'.1, fun x hx => ?_, List.erase_sublist.trans hpc, by omega, hinc2, step_cover hpn hW2 hcov hnew, fun K hK h => ?_, by end_is "sb"⟩
  · have hne : x ≠ v := hbn'.2.2 x hx v (by simp)
    exact (List.mem_erase_of_ne hne).mpr (hbp x (by simp [hx]))
  · have := hdis K hK fun x hx => by
      obtain ⟨h1, h2⟩ := h x hx
      obtain ⟨h3, h4⟩ := (List.Nodup.mem_erase_iff hpn).mp h1
      exact ⟨h4, by simp [h2, h3]⟩
    omega
end
/-! F6 -/
section
theorem clsDeg (P : Params) : ClsOk (kopf.heap_39 P) 208 := ⟨by k_is, by k_is, by k_is, by k_is, by k_is⟩
theorem clsCP (P : Params) : ClsOk (kopf.heap_39 P) 373 := ⟨by k_is, by k_is, by k_is, by k_is, by k_is⟩
theorem T.isP {c : Cx} {A : Around} {E : Value → Hp → Prop} {Δ : Hp} {a b : Value} {Q : Value → Hp → Prop} (r : Bool) (hp : plainIs a b = true) (he : (a == b) = r) (h : Q (.bool r) Δ) : T c A Δ (compareOp .Is a b) Q E := fun s hs => wpAny_is_plain hp ⟨Δ, hs, he.symm ▸ h⟩
/-- the view of the nodes -/
def NvOk (c : Cx) (Δ : Hp) (nv d : Addr) (kvs : List (Int × Value)) (ep : Nat) : Prop := ∃ nd e, (nv, PSl 130 nd #[some (.ref d)]) ∈ Δ ∧ (nd, PDS c.w [] e) ∈ Δ ∧ (d, PDI kvs ep) ∈ Δ
theorem NvOk.mono {c : Cx} {Δ Δ' : Hp} {nv d : Addr} {kvs ep} (h : NvOk c Δ nv d kvs ep) (hs : ∀ p ∈ Δ, p ∈ Δ') : NvOk c Δ' nv d kvs ep := let ⟨nd, e, a, b, x⟩ := h; ⟨nd, e, hs _ a, hs _ b, hs _ x⟩
theorem NvOk.inst {c : Cx} {Δ : Hp} {nv d : Addr} {kvs ep} (h : NvOk c Δ nv d kvs ep) : IsInst c Δ nv 130 := let ⟨nd, e, a, b, _⟩ := h; ⟨nd, _, _, e, a, b⟩
theorem nvIter {c : Cx} {A : Around} {E : Value → Hp → Prop} (hA : A.depth + 10 < recursionLimit) {Δ : Hp} {nv d : Addr} {kvs ep} (h : NvOk c Δ nv d kvs ep) :
    T c A Δ (call (.ref 104) [.ref nv] []) (fun it Δ' => ∃ a, it = .ref a ∧ Δ' = (a, PKIter d 0 kvs.length ep) :: Δ) E := by
  obtain ⟨nd, e, h1, h2, h3⟩ := h
  refine T.callA [("self", .ref nv)] (fun _ => Δ) (by k_is) (by k_is) (by omega) rfl rfl (by end_is "frame") (fun _ => rfl) (by decide) rfl rfl rfl fun L A' hd' hh' _ => ?_
  end_is "go"
  refine T.slotGet (C := 130) (p := 131) (by k_is) (by k_is) (by end_is "mem") (by end_is "mem") (by k_is) (by k_is) (by k_is) (by k_is) (by k_is) rfl rfl ?_
  end_is "go"
  refine T.iterCall (by end_is "mem") fun it => ?_
  exact ⟨_, by end_is "sub", it, rfl, rfl⟩
theorem nvLen {c : Cx} {A : Around} {E : Value → Hp → Prop} (hA : A.depth + 10 < recursionLimit) {Δ : Hp} {nv d : Addr} {kvs ep} (h : NvOk c Δ nv d kvs ep) (hz : kvs.length ≤ 1000) :
    T c A Δ (call (.ref 97) [.ref nv] []) (fun v Δ' => (∃ t, v = .int kvs.length t) ∧ Δ' = Δ) E := by
  obtain ⟨nd, e, h1, h2, h3⟩ := h
  refine T.callA [("self", .ref nv)] (fun _ => Δ) (by k_is) (by k_is) (by omega) rfl rfl (by end_is "frame") (fun _ => rfl) (by decide) rfl rfl rfl fun L A' hd' hh' _ => ?_
  end_is "go"
  refine T.slotGet (C := 130) (p := 131) (by k_is) (by k_is) (by end_is "mem") (by end_is "mem") (by k_is) (by k_is) (by k_is) (by k_is) (by k_is) rfl rfl ?_
  end_is "go"
  refine T.lenD (intKind PG c.w) (d := d) (kvs := kvs) (ep := ep) (.tail _ h3) hz fun t => ?_
  exact ⟨_, by end_is "sub", ⟨t, rfl⟩, rfl⟩
theorem nvItem {c : Cx} {A : Around} {E : Value → Hp → Prop} (hA : A.depth + 10 < recursionLimit) {Δ : Hp} {nv d : Addr} {kvs ep} {n : Int} {t : Tok} {v : Value} (h : NvOk c Δ nv d kvs ep) (hv : valueAt kvs n = some v) :
    T c A Δ (call (.ref 111) [.ref nv, .int n t] []) (fun r Δ' => r = v ∧ Δ' = Δ) E := by
  obtain ⟨nd, e, h1, h2, h3⟩ := h
  refine T.callA [("self", .ref nv), ("n", .int n t)] (fun _ => Δ) (by k_is) (by k_is) (by omega) rfl rfl (by end_is "frame") (fun _ => rfl) (by decide) rfl rfl rfl fun L A' hd' hh' _ => ?_
  end_is "go"
  refine T.slotGet (C := 130) (p := 131) (by k_is) (by k_is) (by end_is "mem") (by end_is "mem") (by k_is) (by k_is) (by k_is) (by k_is) (by k_is) rfl rfl ?_
  end_is "go"
  refine T.subDI (.tail _ h3) hv ?_
  exact ⟨_, by end_is "sub", rfl, rfl⟩
theorem nvCall {c : Cx} {A : Around} {E : Value → Hp → Prop} (hA : A.depth + 10 < recursionLimit) {Δ : Hp} {nv : Addr} (h : IsInst c Δ nv 130) :
    T c A Δ (call (.ref nv) [] []) (fun r Δ' => r = .ref nv ∧ Δ' = Δ) E := by
  refine T.callObj (C := 130) h (by k_is) (by k_is) (by k_is) ?_
  refine T.callK [("self", .ref nv), ("data", .bool false)] (fun _ => Δ) (by k_is) (by k_is) (by omega) (fun _ => rfl) rfl (by end_is "frame") (fun _ => rfl) (by decide) rfl rfl rfl fun L A' hd' hh' _ => ?_
  end_is "go"
  refine T.isP true rfl rfl ?_
  end_is "go"
  rw [if_pos rfl]
  end_is "go"
  exact ⟨_, by end_is "sub", rfl, rfl⟩
/-- the view of the degrees -/
def DvOk (c : Cx) (Δ : Hp) (dv : Addr) (ns : List Int) : Prop := ∃ dd kd ed adj ka ea, (dv, PInst 208 dd) ∈ Δ ∧ (dd, PDS c.w kd ed) ∈ Δ ∧ valueAt kd "_succ" = some (.ref adj) ∧ valueAt kd "_nodes" = some (.ref adj) ∧ valueAt kd "_weight" = some .none ∧ (adj, PDI ka ea) ∈ Δ ∧
  ∀ n ∈ ns, ∃ nb f k, valueAt ka n = some (.ref nb) ∧ (nb, PNb f k) ∈ Δ ∧ k ≤ 1000
theorem DvOk.mono {c : Cx} {Δ Δ' : Hp} {dv : Addr} {ns} (h : DvOk c Δ dv ns) (hs : ∀ p ∈ Δ, p ∈ Δ') : DvOk c Δ' dv ns :=
  let ⟨dd, kd, ed, adj, ka, ea, h1, h2, h3, h4, h5, h6, h7⟩ := h
  ⟨dd, kd, ed, adj, ka, ea, hs _ h1, hs _ h2, h3, h4, h5, hs _ h6, fun n hn => let ⟨nb, kn, en, a, b, z⟩ := h7 n hn; ⟨nb, kn, en, a, hs _ b, z⟩⟩
theorem DvOk.inst {c : Cx} {Δ : Hp} {dv : Addr} {ns} (h : DvOk c Δ dv ns) : IsInst c Δ dv 208 := let ⟨dd, kd, ed, _, _, _, h1, h2, _⟩ := h; ⟨dd, _, _, ed, h1, h2⟩
theorem dvItem {c : Cx} {A : Around} {E : Value → Hp → Prop} (hA : A.depth + 10 < recursionLimit) {Δ : Hp} {dv : Addr} {ns : List Int} {n : Int} {t : Tok} (h : DvOk c Δ dv ns) (hn : n ∈ ns) :
    T c A Δ (call (.ref 198) [.ref dv, .int n t] []) (fun r Δ' => (∃ k t, r = .int k t) ∧ Δ' = Δ) E := by
  obtain ⟨dd, kd, ed, adj, ka, ea, h1, h2, h3, h4, h5, h6, h7⟩ := h
  obtain ⟨nb, kn, en, a1, a2, a3⟩ := h7 n hn
  refine T.callA [("self", .ref dv), ("n", .int n t)] (fun L => (L + 1, PCell none) :: Δ) (by k_is) (by k_is) (by omega) rfl rfl (by end_is "frame") (fun _ => rfl) (by decide) rfl rfl rfl fun L A' hd' hh' _ => ?_
  end_is "go"
  refine T.getOwn (clsDeg _) (by end_is "mem") (by end_is "mem") h5 (by k_is) (by k_is) rfl ?_
  end_is "go"
  refine T.getOwn (clsDeg _) (by end_is "mem") (by end_is "mem") h3 (by k_is) (by k_is) rfl ?_
  end_is "go"
  refine T.subDI (kvs := ka) (ep := ea) (by end_is "mem") a1 ?_
  end_is "go"
  refine T.isP true rfl rfl ?_
  end_is "go"
  rw [if_pos rfl]
  end_is "go"
  refine T.lenNb (d := nb) (f := kn) (k := en) (.tail _ (.tail _ a2)) a3 fun _ t => ?_
  end_is "go"
  refine T.inNb (f := kn) (k := en) (.tail _ (.tail _ a2)) ?_
  end_is "go"
  exact ⟨_, by end_is "sub", ⟨_, _, rfl⟩, rfl⟩
theorem dvCall {c : Cx} {A : Around} {E : Value → Hp → Prop} (hA : A.depth + 20 < recursionLimit) {Δ : Hp} {dv : Addr} {ns : List Int} {n : Int} {t : Tok} (h : DvOk c Δ dv ns) (hn : n ∈ ns) :
    T c A Δ (call (.ref dv) [.int n t] []) (fun r Δ' => (∃ k t, r = .int k t) ∧ Δ' = Δ) E := by
  obtain ⟨dd, kd, ed, adj, ka, ea, h1, h2, h3, h4, h5, h6, h7⟩ := id h
  obtain ⟨nb, kn, en, a1, a2, a3⟩ := h7 n hn
  refine T.callObj (C := 208) h.inst (by k_is) (by k_is) (by k_is) ?_
  refine T.callK [("self", .ref dv), ("nbunch", .int n t), ("weight", .none)] (fun _ => Δ) (by k_is) (by k_is) (by omega) (fun _ => rfl) rfl (by end_is "frame") (fun _ => rfl) (by decide) rfl rfl rfl fun L A' hd' hh' _ => ?_
  end_is "go"
  refine T.isP false rfl rfl ?_
  end_is "go"
  rw [if_neg Bool.false_ne_true]
  end_is "go"
  refine T.tryOk ?_
  end_is "go"
  refine T.getOwn (clsDeg _) (by end_is "mem") (by end_is "mem") h4 (by k_is) (by k_is) rfl ?_
  refine T.inDI (kvs := ka) (ep := ea) (by end_is "mem") ?_
  rw [a1, Option.isSome_some]
  end_is "go"
  rw [if_pos rfl]
  end_is "go"
  refine T.getOwn (clsDeg _) (by end_is "mem") (by end_is "mem") h5 (by k_is) (by k_is) rfl ?_
  end_is "go"
  rw [if_pos rfl]
  end_is "go"
  refine T.subObj (C := 208) (h.mono fun p hp => .tail _ hp).inst (by k_is) (by k_is) (by k_is) ?_
  refine (dvItem (A := A'.in1) (by show A'.depth + 10 < _; omega) (h.mono fun p hp => .tail _ hp) hn).mono (fun r Δ' => ?_) (fun _ _ e => e)
  rintro ⟨hr, rfl⟩
  exact ⟨_, by end_is "sub", hr, rfl⟩
end
/-! F7 -/
section
theorem TC.mono {c : Cx} {A : Around} {Δ : Hp} {k : Code} {R R' : Result → Hp → Prop} (h : TC c A Δ k R) (hR : ∀ r Δ, R r Δ → R' r Δ) : TC c A Δ k R' := fun s hs => codeAny_mono (h s hs) fun r s' ⟨Δ', h', q⟩ => ⟨Δ', h', hR _ _ q⟩
theorem TCN.mono {c : Cx} {A : Around} {Δ : Hp} {k : Code} {R R' : Result → Hp → Prop} (h : TCN c A Δ k R) (hR : ∀ r Δ, R r Δ → R' r Δ) : TCN c A Δ k R' := fun s hs => (h s hs).mono fun r s' ⟨Δ', h', q⟩ => ⟨Δ', h', hR _ _ q⟩
theorem TCN.of {c : Cx} {A : Around} {Δ : Hp} {k : Code} {R : Result → Hp → Prop} (h : TC c A Δ k R) : TCN c A Δ k R := fun s hs => .of (h s hs)
theorem nvInit {c : Cx} {A : Around} {E : Value → Hp → Prop} (hA : A.depth + 10 < recursionLimit) {Δ : Hp} {nv nd g gd d : Addr} {kg eg} (hg : (g, PInst 671 gd) ∈ Δ) (hgd : (gd, PDM c.w kg eg) ∈ Δ) (hn : valueAt kg "_node" = some (.ref d)) :
    TC c A ((nv, PSl 130 nd #[]) :: (nd, PDS c.w [] 0) :: Δ) (.call (.ref 90) ⟨[.ref nv, .ref g], []⟩) (fun r Δ' => match r with | .ok (.ret v) => v = .none ∧ Δ' = (nv, PSl 130 nd #[some (.ref d)]) :: (nd, PDS c.w [] 0) :: Δ | .ok _ => False | .error e => E e Δ') := by
  refine T.callK (Q := fun v Δ' => v = .none ∧ Δ' = (nv, PSl 130 nd #[some (.ref d)]) :: (nd, PDS c.w [] 0) :: Δ) [("self", .ref nv), ("graph", .ref g)] (fun _ => (nv, PSl 130 nd #[]) :: (nd, PDS c.w [] 0) :: Δ) (by k_is) (by k_is) (by omega) (fun _ => rfl) rfl (by end_is "frame") (fun _ => rfl) (by decide) rfl rfl rfl fun L A' hd' hh' _ => ?_
  end_is "go"
  refine T.getOwnM (clsGraph _) (.tail _ (.tail _ (.tail _ hg))) (.tail _ (.tail _ (.tail _ hgd))) hn (by k_is) (by k_is) rfl ?_
  end_is "go"
  refine T.slotSet (C := 130) (p := 131) (L := L) (sl := #[]) (sl' := #[some (.ref d)]) (i := 0) (by k_is) (by k_is) (by end_is "mem") (by k_upd) (by end_is "mem") (by k_is) (by k_is) (by k_is) (by decide) rfl ?_
  end_is "go"
  exact ⟨_, by end_is "sub", rfl, rfl⟩
/-- the property nodes -/
theorem nodesFn {c : Cx} {A : Around} {E : Value → Hp → Prop} (hA : A.depth + 20 < recursionLimit) {Δ : Hp} {g gd d : Addr} {kg eg} (hg : (g, PInst 671 gd) ∈ Δ) (hgd : (gd, PDM c.w kg eg) ∈ Δ) (hn : valueAt kg "_node" = some (.ref d)) :
    T c A Δ (call (.ref 508) [.ref g] []) (fun r Δ' => ∃ nv nd, r = .ref nv ∧ Δ' = (nv, PSl 130 nd #[some (.ref d)]) :: (nd, PDS c.w [] 0) :: Δ) E := by
  refine T.callA [("self", .ref g)] (fun _ => Δ) (by k_is) (by k_is) (by omega) rfl rfl (by end_is "frame") (fun _ => rfl) (by decide) rfl rfl rfl fun L A' hd' hh' _ => ?_
  end_is "go"
  refine T.make (C := 130) (fI := 90) (by k_is) (by k_is) (by k_is) fun nv nd A2 h1 h2 => ?_
  show TC c A2 ((nv, PSl 130 nd #[]) :: _) _ _
  refine TC.mono (nvInit (E := NoE) (A := A2) (by rw [h1]; show A'.depth + 1 + 10 < _; omega) (.tail _ hg) (.tail _ hgd) hn) fun r Δ' q => ?_
  rcases r with e | (v | _ | _ | _) <;> first | exact q | exact q.elim | skip
  obtain ⟨rfl, rfl⟩ := q
  refine ⟨rfl, _, ?_, nv, nd, rfl, rfl⟩
  end_is "sub"
end
/-! F8 -/
section
theorem nmGraph (P : Params) : clsNm (kopf.heap_39 P) 671 = some "Graph" := by kernel_rfl
theorem ddInit {c : Cx} {A : Around} {E : Value → Hp → Prop} (hA : A.depth + 10 < recursionLimit) (hh : A.handled = none) {Δ : Hp} {dv dd g gd adj : Addr} {kg eg} (hg : (g, PInst 671 gd) ∈ Δ) (hgd : (gd, PDM c.w kg eg) ∈ Δ) (hn : valueAt kg "_adj" = some (.ref adj)) (hs : valueAt kg "_succ" = none) (hp : valueAt kg "_pred" = none) :
    TC c A ((dv, PInst 208 dd) :: (dd, PDS c.w [] 0) :: Δ) (.call (.ref 148) ⟨[.ref dv, .ref g], []⟩) (fun r Δ' => match r with | .ok (.ret v) => v = .none ∧ ∃ ed, Δ' = (dv, PInst 208 dd) :: (dd, PDS c.w [("_succ", .ref adj), ("_pred", .ref adj), ("_nodes", .ref adj), ("_weight", .none)] ed) :: Δ | .ok _ => False | .error e => E e Δ') := by
  refine T.callK (Q := fun v Δ' => v = .none ∧ ∃ ed, Δ' = (dv, PInst 208 dd) :: (dd, PDS c.w [("_succ", .ref adj), ("_pred", .ref adj), ("_nodes", .ref adj), ("_weight", .none)] ed) :: Δ) [("self", .ref dv), ("G", .ref g), ("weight", .none)] (fun _ => (dv, PInst 208 dd) :: (dd, PDS c.w [] 0) :: Δ) (by k_is) (by k_is) (by omega) (fun _ => rfl) rfl (by end_is "frame") (fun _ => rfl) (by decide) rfl rfl rfl fun L A' hd' hh' _ => ?_
  rw [hh] at hh'
  end_is "go"
  refine T.hasattrM (C := 671) hh' (clsGraph _) (.tail _ (.tail _ (.tail _ hg))) (.tail _ (.tail _ (.tail _ hgd))) hs (by k_is) (by decide) (by k_is) (nm := "Graph") (nmGraph _) (by rintro _ rfl; decide +kernel) (by decide +kernel) ?_
  end_is "go"
  rw [if_neg Bool.false_ne_true]
  end_is "go"
  refine T.getOwnM (clsGraph _) (.tail _ (.tail _ (.tail _ hg))) (.tail _ (.tail _ (.tail _ hgd))) hn (by k_is) (by k_is) rfl ?_
  end_is "go"
  refine T.setOwn (clsDeg _) (by end_is "mem") (fun ep' => by k_upd) (by k_is) (by show 0 ≤ 1000; decide) fun ep1 => ?_
  end_is "go"
  refine T.hasattrM (C := 671) hh' (clsGraph _) (.tail _ (.tail _ (.tail _ hg))) (.tail _ (.tail _ (.tail _ hgd))) hp (by k_is) (by decide) (by k_is) (nm := "Graph") (nmGraph _) (by rintro _ rfl; decide +kernel) (by decide +kernel) ?_
  end_is "go"
  rw [if_neg Bool.false_ne_true]
  end_is "go"
  refine T.getOwnM (clsGraph _) (.tail _ (.tail _ (.tail _ hg))) (.tail _ (.tail _ (.tail _ hgd))) hn (by k_is) (by k_is) rfl ?_
  end_is "go"
  refine T.setOwn (clsDeg _) (by end_is "mem") (fun ep' => by k_upd) (by k_is) (by show 1 ≤ 1000; decide) fun ep2 => ?_
  end_is "go"
  refine T.getOwn (clsDeg _) (by end_is "mem") (by end_is "mem") (v := .ref adj) rfl (by k_is) (by k_is) rfl ?_
  end_is "go"
  refine T.setOwn (clsDeg _) (by end_is "mem") (fun ep' => by k_upd) (by k_is) (by show 2 ≤ 1000; decide) fun ep3 => ?_
  end_is "go"
  refine T.setOwn (clsDeg _) (by end_is "mem") (fun ep' => by k_upd) (by k_is) (by show 3 ≤ 1000; decide) fun ep4 => ?_
  end_is "go"
  exact ⟨_, List.Sublist.cons _ (List.Sublist.refl _), rfl, ep4, rfl⟩
/-- the property degree -/
theorem degreeFn {c : Cx} {A : Around} {E : Value → Hp → Prop} (hA : A.depth + 20 < recursionLimit) (hh : A.handled = none) {Δ : Hp} {g gd adj : Addr} {kg eg} (hg : (g, PInst 671 gd) ∈ Δ) (hgd : (gd, PDM c.w kg eg) ∈ Δ) (hn : valueAt kg "_adj" = some (.ref adj)) (hs : valueAt kg "_succ" = none) (hp : valueAt kg "_pred" = none) :
    T c A Δ (call (.ref 606) [.ref g] []) (fun r Δ' => ∃ dv dd ed, r = .ref dv ∧ Δ' = (dv, PInst 208 dd) :: (dd, PDS c.w [("_succ", .ref adj), ("_pred", .ref adj), ("_nodes", .ref adj), ("_weight", .none)] ed) :: Δ) E := by
  refine T.callA [("self", .ref g)] (fun _ => Δ) (by k_is) (by k_is) (by omega) rfl rfl (by end_is "frame") (fun _ => rfl) (by decide) rfl rfl rfl fun L A' hd' hh' _ => ?_
  rw [hh] at hh'
  end_is "go"
  refine T.make (C := 208) (fI := 148) (by k_is) (by k_is) (by k_is) fun nv nd A2 h1 h2 => ?_
  refine TC.mono (ddInit (E := NoE) (A := A2) (by rw [h1]; show A'.depth + 1 + 10 < _; omega) (h2.trans hh') (.tail _ hg) (.tail _ hgd) hn hs hp) fun r Δ' q => ?_
  rcases r with e | (v | _ | _ | _) <;> first | exact q | exact q.elim | skip
  obtain ⟨rfl, ed, rfl⟩ := q
  refine ⟨rfl, _, ?_, nv, nd, ed, rfl, rfl⟩
  end_is "sub"
theorem T.isSelf {c : Cx} {A : Around} {E : Value → Hp → Prop} {Δ : Hp} {a : Addr} {Q : Value → Hp → Prop} (h : Q (.bool true) Δ) : T c A Δ (compareOp .Is (.ref a) (.ref a)) Q E := fun s hs => wpAny_is_ref_self ⟨Δ, hs, h⟩
theorem dgName (P : Params) : topOwn (kopf.heap_39 P) 608 373 "attrname" = some (.str "degree" 990) := by kernel_rfl
theorem dgFunc (P : Params) : topOwn (kopf.heap_39 P) 608 373 "func" = some (.ref 606) := by kernel_rfl
theorem ndName (P : Params) : topOwn (kopf.heap_39 P) 510 373 "attrname" = some (.str "nodes" 853) := by kernel_rfl
theorem ndFunc (P : Params) : topOwn (kopf.heap_39 P) 510 373 "func" = some (.ref 508) := by kernel_rfl
/-- the cached property degree, the first time -/
theorem degreeGet {c : Cx} {A : Around} {E : Value → Hp → Prop} (hA : A.depth + 40 < recursionLimit) (hh : A.handled = none) {Δ Δ' : Hp} {g gd adj : Addr} {kg eg} (hg : (g, PInst 671 gd) ∈ Δ) (hgd : (gd, PDM c.w kg eg) ∈ Δ) (hn : valueAt kg "_adj" = some (.ref adj)) (hs : valueAt kg "_succ" = none) (hp : valueAt kg "_pred" = none) (hdg : valueAt kg "degree" = none) (hz : kg.length ≤ 100)
    {D : Addr → Nat → Hp} (hu : ∀ dv e', Upd gd (PDM c.w kg eg) (PDM c.w (stored kg "degree" (.ref dv)) e') Δ (D dv e')) :
    T c A Δ (call (.ref 363) [.ref 608, .ref g, .ref 671] []) (fun r Δ' => ∃ dv dd ed e', r = .ref dv ∧ Δ' = (dv, PInst 208 dd) :: (dd, PDS c.w [("_succ", .ref adj), ("_pred", .ref adj), ("_nodes", .ref adj), ("_weight", .none)] ed) :: D dv e') E := by
  refine T.call_of (T.callK (Q := fun r Δ' => ∃ dv dd ed e', r = .ref dv ∧ Δ' = (dv, PInst 208 dd) :: (dd, PDS c.w [("_succ", .ref adj), ("_pred", .ref adj), ("_nodes", .ref adj), ("_weight", .none)] ed) :: D dv e') [("self", .ref 608), ("instance", .ref g)] (fun _ => Δ) (by k_is) (by k_is) (by omega) (fun _ => rfl) rfl (by end_is "frame") (fun _ => rfl) (by decide) rfl rfl rfl fun L A' hd' hh' _ => ?_)
  rw [hh] at hh'
  end_is "go"
  refine T.isP false rfl rfl ?_
  end_is "go"
  rw [if_neg Bool.false_ne_true]
  end_is "go"
  refine T.getTop (clsCP _) (dgName _) (by k_is) (by k_is) rfl ?_
  end_is "go"
  refine T.isP false rfl rfl ?_
  end_is "go"
  rw [if_neg Bool.false_ne_true]
  end_is "go"
  refine T.tryOk ?_
  end_is "go"
  refine T.dictM (C := 671) (p := 672) (clsGraph _) (.tail _ hg) (.tail _ hgd) (by k_is) (by k_is) (by k_is) (by k_is) (by kernel_rfl) (by k_is) (by k_is) ?_
  end_is "go"
  refine T.mDict (.tail _ hgd) (fun _ => PDM.is) PySem.F.slot_dict_get PySem.F.type_dict_get ?_
  end_is "go"
  refine T.getTop (clsCP _) (dgName _) (by k_is) (by k_is) rfl ?_
  end_is "go"
  refine T.dgetM (.tail _ hgd) ?_
  rw [hdg, Option.getD_none]
  end_is "go"
  refine T.isSelf ?_
  end_is "go"
  rw [if_pos rfl]
  end_is "go"
  refine T.usualTop (clsCP _) (dgFunc _) (by k_is) (by k_is) rfl (by rfl) ?_
  end_is "go"
  refine (degreeFn (A := A') (by omega) hh' (.tail _ hg) (.tail _ hgd) hn hs hp).mono (fun r Δ2 => ?_) fun _ _ e => e
  rintro ⟨dv, dd, ed, rfl, rfl⟩
  end_is "go"
  refine T.tryOk ?_
  end_is "go"
  refine T.getTop (clsCP _) (dgName _) (by k_is) (by k_is) rfl ?_
  end_is "go"
  refine T.setItemM (d := gd) (kvs := kg) (ep := eg) (Δ' := fun e' => _ :: _ :: _ :: D dv e') (fun e' => .tail (.tail (.tail (hu dv e')))) (sz (by omega)) fun e' => ?_
  end_is "go"
  exact ⟨_, by end_is "sub", dv, dd, ed, e', rfl, rfl⟩
end
/-! F9 -/
section
/-- the cached property nodes, the first time -/
theorem nodesGet {c : Cx} {A : Around} {E : Value → Hp → Prop} (hA : A.depth + 40 < recursionLimit) (hh : A.handled = none) {Δ : Hp} {g gd d : Addr} {kg : List (Str × Value)} {eg : Nat} (hg : (g, PInst 671 gd) ∈ Δ) (hn : valueAt kg "_node" = some (.ref d)) (hdg : valueAt kg "nodes" = none) (hz : kg.length ≤ 100)
    {D : Addr → Nat → Hp} {Δm : Hp} (hum : Upd gd (PDS c.w kg eg) (PDM c.w kg eg) Δ Δm) (hgm : (g, PInst 671 gd) ∈ Δm) (hu : ∀ nv e', Upd gd (PDM c.w kg eg) (PDM c.w (stored kg "nodes" (.ref nv)) e') Δm (D nv e')) :
    TN c A Δ (call (.ref 363) [.ref 510, .ref g, .ref 671] []) (fun r Δ' => ∃ nv nd e', r = .ref nv ∧ Δ' = (nv, PSl 130 nd #[some (.ref d)]) :: (nd, PDS c.w [] 0) :: D nv e') E := by
  refine TN.call_of (TN.callKE (Q := fun r Δ' => ∃ nv nd e', r = .ref nv ∧ Δ' = (nv, PSl 130 nd #[some (.ref d)]) :: (nd, PDS c.w [] 0) :: D nv e') [("self", .ref 510), ("instance", .ref g)] (fun _ => Δ) (by k_is) (by k_is) (by omega) (fun _ => rfl) rfl (by end_is "frame") (fun _ => rfl) (by decide) rfl rfl rfl fun L A' hd' hh' _ _ => ?_)
  rw [hh] at hh'
  have hgd := hum.mem'
  refine TN.mono (E := NoE) ?_ (fun _ _ q => q) (fun _ _ x => x.elim)
  refine TN.execsCons (TN.of ?_)
  end_is "go"
  refine T.isP false rfl rfl ?_
  end_is "go"
  rw [if_neg Bool.false_ne_true]
  end_is "go"
  refine TN.execsCons (TN.of ?_)
  end_is "go"
  refine T.getTop (clsCP _) (ndName _) (by k_is) (by k_is) rfl ?_
  end_is "go"
  refine T.isP false rfl rfl ?_
  end_is "go"
  rw [if_neg Bool.false_ne_true]
  end_is "go"
  refine TN.execsCons (TN.tryOk (TN.execsCons (TN.assignName (TN.getAttrE ?_))))
  end_is "go"
  refine TN.dictD (C := 671) (p := 672) (clsGraph _) (.tail _ hg) (.tail hum) (by k_is) (by k_is) (by k_is) (by k_is) (by kernel_rfl) (by k_is) (by k_is) (by kernel_rfl) (by k_is) ?_
  end_is "go"
  refine TN.of (T.execsNil ?_)
  show TN _ _ _ _ _ _
  refine TN.of (T.execsNil ?_)
  show TN _ _ _ _ _ _
  refine TN.of ?_
  end_is "go"
  refine T.mDict (.tail _ hgd) (fun _ => PDM.is) PySem.F.slot_dict_get PySem.F.type_dict_get ?_
  end_is "go"
  refine T.getTop (clsCP _) (ndName _) (by k_is) (by k_is) rfl ?_
  end_is "go"
  refine T.dgetM (.tail _ hgd) ?_
  rw [hdg, Option.getD_none]
  end_is "go"
  refine T.isSelf ?_
  end_is "go"
  rw [if_pos rfl]
  end_is "go"
  refine T.usualTop (clsCP _) (ndFunc _) (by k_is) (by k_is) rfl (by rfl) ?_
  end_is "go"
  refine (nodesFn (A := A') (by omega) (.tail _ hgm) (.tail _ hgd) hn).mono (fun r Δ2 => ?_) fun _ _ e => e
  rintro ⟨nv, nd, rfl, rfl⟩
  end_is "go"
  refine T.tryOk ?_
  end_is "go"
  refine T.getTop (clsCP _) (ndName _) (by k_is) (by k_is) rfl ?_
  end_is "go"
  refine T.setItemM (d := gd) (kvs := kg) (ep := eg) (Δ' := fun e' => _ :: _ :: _ :: D nv e') (fun e' => .tail (.tail (.tail (hu nv e')))) (sz (by omega)) fun e' => ?_
  end_is "go"
  exact ⟨_, by end_is "sub", nv, nd, e', rfl, rfl⟩
end
/-! GA -/
section
section
variable {c : Cx} {A : Around} {E : Value → Hp → Prop} {Δ : Hp} {g : Addr}
theorem fGraph (hA : A.depth + 10 < recursionLimit) : T c A Δ (call (.ref 427) [.ref g] []) (fun r Δ' => ∃ d, r = .ref d ∧ Δ' = (d, PDS c.w [] 0) :: Δ) E := by
  refine T.callA [("self", .ref g)] (fun _ => Δ) (by k_is) (by k_is) (by omega) rfl rfl (by end_is "frame") (fun _ => rfl) (by decide) rfl rfl rfl fun L A' hd' hh' _ => ?_
  end_is "go"
  exact T.dictE (PySem.strKind PG c.w) fun d => ⟨_, List.Sublist.cons_cons _ (List.Sublist.cons _ (List.Sublist.refl _)), d, rfl, rfl⟩
theorem fNode (hA : A.depth + 10 < recursionLimit) : T c A Δ (call (.ref 392) [.ref g] []) (fun r Δ' => ∃ d, r = .ref d ∧ Δ' = (d, PDI [] 0) :: Δ) E := by
  refine T.callA [("self", .ref g)] (fun _ => Δ) (by k_is) (by k_is) (by omega) rfl rfl (by end_is "frame") (fun _ => rfl) (by decide) rfl rfl rfl fun L A' hd' hh' _ => ?_
  end_is "go"
  exact T.dictE (intKind PG c.w) fun d => ⟨_, List.Sublist.cons_cons _ (List.Sublist.cons _ (List.Sublist.refl _)), d, rfl, rfl⟩
theorem fNodeAttr (hA : A.depth + 10 < recursionLimit) : T c A Δ (call (.ref 399) [.ref g] []) (fun r Δ' => ∃ d, r = .ref d ∧ Δ' = (d, PDS c.w [] 0) :: Δ) E := by
  refine T.callA [("self", .ref g)] (fun _ => Δ) (by k_is) (by k_is) (by omega) rfl rfl (by end_is "frame") (fun _ => rfl) (by decide) rfl rfl rfl fun L A' hd' hh' _ => ?_
  end_is "go"
  exact T.dictE (PySem.strKind PG c.w) fun d => ⟨_, List.Sublist.cons_cons _ (List.Sublist.cons _ (List.Sublist.refl _)), d, rfl, rfl⟩
theorem fOuter (hA : A.depth + 10 < recursionLimit) : T c A Δ (call (.ref 406) [.ref g] []) (fun r Δ' => ∃ d, r = .ref d ∧ Δ' = (d, PDI [] 0) :: Δ) E := by
  refine T.callA [("self", .ref g)] (fun _ => Δ) (by k_is) (by k_is) (by omega) rfl rfl (by end_is "frame") (fun _ => rfl) (by decide) rfl rfl rfl fun L A' hd' hh' _ => ?_
  end_is "go"
  exact T.dictE (intKind PG c.w) fun d => ⟨_, List.Sublist.cons_cons _ (List.Sublist.cons _ (List.Sublist.refl _)), d, rfl, rfl⟩
theorem fInner (hA : A.depth + 10 < recursionLimit) : T c A Δ (call (.ref 413) [.ref g] []) (fun r Δ' => ∃ d, r = .ref d ∧ Δ' = (d, PDI [] 0) :: Δ) E := by
  refine T.callA [("self", .ref g)] (fun _ => Δ) (by k_is) (by k_is) (by omega) rfl rfl (by end_is "frame") (fun _ => rfl) (by decide) rfl rfl rfl fun L A' hd' hh' _ => ?_
  end_is "go"
  exact T.dictE (intKind PG c.w) fun d => ⟨_, List.Sublist.cons_cons _ (List.Sublist.cons _ (List.Sublist.refl _)), d, rfl, rfl⟩
theorem fEdge (hA : A.depth + 10 < recursionLimit) : T c A Δ (call (.ref 420) [.ref g] []) (fun r Δ' => ∃ d, r = .ref d ∧ Δ' = (d, PDS c.w [] 0) :: Δ) E := by
  refine T.callA [("self", .ref g)] (fun _ => Δ) (by k_is) (by k_is) (by omega) rfl rfl (by end_is "frame") (fun _ => rfl) (by decide) rfl rfl rfl fun L A' hd' hh' _ => ?_
  end_is "go"
  exact T.dictE (PySem.strKind PG c.w) fun d => ⟨_, List.Sublist.cons_cons _ (List.Sublist.cons _ (List.Sublist.refl _)), d, rfl, rfl⟩
end
/-- the values of the graph -/
def kgOf (gr d adj : Addr) : List (Str × Value) := [("graph", .ref gr), ("_node", .ref d), ("_adj", .ref adj)]
theorem gInit {c : Cx} {A : Around} {E : Value → Hp → Prop} (hA : A.depth + 20 < recursionLimit) {Δ : Hp} {g gd : Addr} :
    TC c A ((g, PInst 671 gd) :: (gd, PDS c.w [] 0) :: Δ) (.call (.ref 435) ⟨[.ref g], []⟩) (fun r Δ' => match r with | .ok (.ret v) => v = .none ∧ ∃ gr d adj eg, Δ' = (adj, PDI [] 0) :: (d, PDI [] 0) :: (g, PInst 671 gd) :: (gd, PDS c.w (kgOf gr d adj) eg) :: Δ | .ok _ => False | .error e => E e Δ') := by
  refine T.callP0 (Q := fun v Δ' => v = .none ∧ ∃ gr d adj eg, Δ' = (adj, PDI [] 0) :: (d, PDI [] 0) :: (g, PInst 671 gd) :: (gd, PDS c.w (kgOf gr d adj) eg) :: Δ) (fun D => [("self", .ref g), ("attr", .ref D)]) (fun D _ => (D, PDS c.w [] 0) :: (g, PInst 671 gd) :: (gd, PDS c.w [] 0) :: Δ) (by k_is) (by k_is) (by omega) rfl (fun _ => rfl) (fun _ => rfl) (fun _ => by end_is "frame") (fun _ _ => rfl) (by decide) rfl rfl rfl fun D L A' hd' hh' _ => ?_
  end_is "go"
  refine T.method (f := 427) (clsGraph _) (by end_is "mem") (by end_is "mem") rfl (by k_is) (by k_is) ?_
  end_is "go"
  refine (fGraph (A := A') (by omega)).mono (fun r Δ2 => ?_) fun _ _ e => e
  rintro ⟨gr, rfl, rfl⟩
  end_is "go"
  refine T.setOwn (clsGraph _) (by end_is "mem") (fun ep' => by k_upd) (by k_is) (by show 0 ≤ 1000; decide) fun ep1 => ?_
  end_is "go"
  refine T.method (f := 392) (clsGraph _) (by end_is "mem") (by end_is "mem") rfl (by k_is) (by k_is) ?_
  end_is "go"
  refine (fNode (A := A') (by omega)).mono (fun r Δ2 => ?_) fun _ _ e => e
  rintro ⟨d, rfl, rfl⟩
  end_is "go"
  refine T.setOwn (clsGraph _) (by end_is "mem") (fun ep' => by k_upd) (by k_is) (by show 1 ≤ 1000; decide) fun ep2 => ?_
  end_is "go"
  refine T.method (f := 406) (clsGraph _) (by end_is "mem") (by end_is "mem") rfl (by k_is) (by k_is) ?_
  end_is "go"
  refine (fOuter (A := A') (by omega)).mono (fun r Δ2 => ?_) fun _ _ e => e
  rintro ⟨adj, rfl, rfl⟩
  end_is "go"
  refine T.setOwn (clsGraph _) (by end_is "mem") (fun ep' => by k_upd) (by k_is) (by show 2 ≤ 1000; decide) fun ep3 => ?_
  end_is "go"
  refine T.mDict (d := D) (P := PDS c.w [] 0) (by end_is "mem") (fun _ => PDict.is) PySem.F.slot_dict_pop PySem.F.type_dict_pop ?_
  end_is "go"
  refine T.popS (kvs := []) (ep := 0) (by end_is "mem") rfl ?_
  end_is "go"
  refine ⟨trivial, ?_⟩
  end_is "go"
  refine T.getOwn (clsGraph _) (by end_is "mem") (by end_is "mem") (v := .ref gr) rfl (by k_is) (by k_is) rfl ?_
  end_is "go"
  refine T.mDict (d := gr) (P := PDS c.w [] 0) (by end_is "mem") (fun _ => PDict.is) PySem.F.slot_dict_update PySem.F.type_dict_update ?_
  end_is "go"
  refine T.neMem (a := gr) (b := D) (P := PDS c.w [] 0) (P' := PDS c.w [] 0) (by end_is "del") (by end_is "mem") fun hne => ?_
  refine T.updS (kvs := []) (more := []) (ep := 0) (ep2 := 0) (fun e' => by k_upd) (by end_is "mem") hne (by decide) fun e4 => ?_
  refine ⟨trivial, ?_⟩
  end_is "go"
  refine ⟨(adj, PDI [] 0) :: (d, PDI [] 0) :: (g, PInst 671 gd) :: (gd, PDS c.w (kgOf gr d adj) ep3) :: Δ, ?_, rfl, gr, d, adj, ep3, rfl⟩
  exact .cons_cons _ (.cons_cons _ (.cons _ (.cons _ (.cons _ (.refl _)))))
/-- Graph() -/
theorem graphNew {c : Cx} {A : Around} {E : Value → Hp → Prop} (hA : A.depth + 30 < recursionLimit) {Δ : Hp} :
    T c A Δ (call (.ref 671) [] []) (fun r Δ' => ∃ g gd gr d adj eg, r = .ref g ∧ Δ' = (adj, PDI [] 0) :: (d, PDI [] 0) :: (g, PInst 671 gd) :: (gd, PDS c.w (kgOf gr d adj) eg) :: Δ) E := by
  refine T.make (C := 671) (fI := 435) (by k_is) (by k_is) (by k_is) fun g gd A2 h1 h2 => ?_
  intro s hs
  refine codeAny_mono (gInit (E := NoE) (A := A2) (by omega) s hs) fun r s' ⟨Δ', h', q⟩ => ?_
  rcases r with e | (v | _ | _ | _) <;> first | exact q.elim | skip
  obtain ⟨rfl, gr, d, adj, eg, rfl⟩ := q
  exact ⟨_, h', rfl, g, gd, gr, d, adj, eg, rfl, rfl⟩
end
/-! GB -/
section
theorem addNode0 {c : Cx} {A : Around} {E : Value → Hp → Prop} (hA : A.depth + 30 < recursionLimit) {Φ : Hp} {g gd gr d adj : Addr} {ka kd : List (Int × Value)} {ea ed eg : Nat} {n : Int} {t : Tok} (hn : valueAt kd n = none) (hz : kd.length ≤ 100) (hz2 : ka.length ≤ 100) :
    T c A ((adj, PDI ka ea) :: (d, PDI kd ed) :: (g, PInst 671 gd) :: (gd, PDS c.w (kgOf gr d adj) eg) :: Φ) (call (.ref 480) [.ref g, .int n t] []) (fun r Δ' => r = .none ∧ ∃ a nb e1 e2, Δ' = (a, PAt c.w .key) :: (nb, PDI [] 0) :: (adj, PDI (stored ka n (.ref nb)) e1) :: (d, PDI (stored kd n (.ref a)) e2) :: (g, PInst 671 gd) :: (gd, PDS c.w (kgOf gr d adj) eg) :: Φ) E := by
  refine T.call_of ?_
  refine T.callP0 (Q := fun r Δ' => r = .none ∧ ∃ a nb e1 e2, Δ' = (a, PAt c.w .key) :: (nb, PDI [] 0) :: (adj, PDI (stored ka n (.ref nb)) e1) :: (d, PDI (stored kd n (.ref a)) e2) :: (g, PInst 671 gd) :: (gd, PDS c.w (kgOf gr d adj) eg) :: Φ) (fun D => [("self", .ref g), ("node_for_adding", .int n t), ("attr", .ref D)]) (fun D _ => (D, PDS c.w [] 0) :: (adj, PDI ka ea) :: (d, PDI kd ed) :: (g, PInst 671 gd) :: (gd, PDS c.w (kgOf gr d adj) eg) :: Φ) (by k_is) (by k_is) (by omega) rfl (fun _ => rfl) (fun _ => rfl) (fun _ => by end_is "frame") (fun _ _ => rfl) (by decide) rfl rfl rfl fun D L A' hd' hh' _ => ?_
  end_is "go"
  refine T.getOwn (clsGraph _) (by end_is "mem") (by end_is "mem") (v := .ref d) rfl (by k_is) (by k_is) rfl ?_
  end_is "go"
  refine T.notInDI (kvs := kd) (ep := ed) (by end_is "mem") ?_
  rw [hn]
  end_is "go"
  rw [if_pos (show (!(none : Option Value).isSome) = true from rfl)]
  end_is "go"
  refine T.isP false rfl rfl ?_
  end_is "go"
  rw [if_neg Bool.false_ne_true]
  end_is "go"
  refine T.method (f := 413) (clsGraph _) (by end_is "mem") (by end_is "mem") rfl (by k_is) (by k_is) ?_
  end_is "go"
  refine (fInner (A := A') (by omega)).mono (fun r Δ2 => ?_) fun _ _ e => e
  rintro ⟨nb, rfl, rfl⟩
  end_is "go"
  refine T.getOwn (clsGraph _) (by end_is "mem") (by end_is "mem") (v := .ref adj) rfl (by k_is) (by k_is) rfl ?_
  end_is "go"
  refine T.setDI (kvs := ka) (ep := ea) (fun e1 => by k_upd) (by omega) fun e1 => ?_
  end_is "go"
  refine T.assign2 ?_
  end_is "go"
  refine T.method (f := 399) (clsGraph _) (by end_is "mem") (by end_is "mem") rfl (by k_is) (by k_is) ?_
  end_is "go"
  refine (fNodeAttr (A := A') (by omega)).mono (fun r Δ2 => ?_) fun _ _ e => e
  rintro ⟨a, rfl, rfl⟩
  end_is "go"
  refine T.getOwn (clsGraph _) (by end_is "mem") (by end_is "mem") (v := .ref d) rfl (by k_is) (by k_is) rfl ?_
  end_is "go"
  refine T.setDI (kvs := kd) (ep := ed) (fun e2 => by k_upd) (by omega) fun e2 => ?_
  end_is "go"
  refine T.mDict (d := a) (P := PDS c.w [] 0) (by end_is "mem") (fun _ => PDict.is) PySem.F.slot_dict_update PySem.F.type_dict_update ?_
  end_is "go"
  refine T.neMem (a := a) (b := D) (P := PDS c.w [] 0) (P' := PDS c.w [] 0) (by end_is "del") (by end_is "mem") fun hne => ?_
  refine T.updS (kvs := []) (more := []) (ep := 0) (fun e' => by k_upd) (by end_is "mem") hne (by simp) fun e4 => ?_
  refine ⟨trivial, ?_⟩
  refine T.weak (P' := PAt c.w .key) .head (fun o ho => ⟨_, e4, ho, rfl⟩) ?_
  end_is "go"
  exact ⟨_, .cons_cons _ (.cons_cons _ (.cons _ (.cons _ (.refl _)))), rfl, a, nb, e1, e2, rfl⟩
theorem addNodeS {c : Cx} {A : Around} {E : Value → Hp → Prop} (hA : A.depth + 30 < recursionLimit) {Φ : Hp} {g gd gr d adj : Addr} {ka kd : List (Int × Value)} {ea ed eg : Nat} {n : Int} {t : Tok} {t' : Tok} (hn : valueAt kd n = none) (hz : kd.length ≤ 100) (hz2 : ka.length ≤ 100) :
    T c A ((adj, PDI ka ea) :: (d, PDI kd ed) :: (g, PInst 671 gd) :: (gd, PDS c.w (kgOf gr d adj) eg) :: Φ) (call (.ref 480) [.ref g, .int n t] [(Str.ofString "w", .str "5" t')]) (fun r Δ' => r = .none ∧ ∃ a nb e1 e2, Δ' = (a, PAt c.w .bad) :: (nb, PDI [] 0) :: (adj, PDI (stored ka n (.ref nb)) e1) :: (d, PDI (stored kd n (.ref a)) e2) :: (g, PInst 671 gd) :: (gd, PDS c.w (kgOf gr d adj) eg) :: Φ) E := by
  refine T.call_of ?_
  refine T.callP1 (Q := fun r Δ' => r = .none ∧ ∃ a nb e1 e2, Δ' = (a, PAt c.w .bad) :: (nb, PDI [] 0) :: (adj, PDI (stored ka n (.ref nb)) e1) :: (d, PDI (stored kd n (.ref a)) e2) :: (g, PInst 671 gd) :: (gd, PDS c.w (kgOf gr d adj) eg) :: Φ) (fun D => [("self", .ref g), ("node_for_adding", .int n t), ("attr", .ref D)]) (fun D e _ => (D, PDS c.w [(Str.ofString "w", .str "5" t')] e) :: (adj, PDI ka ea) :: (d, PDI kd ed) :: (g, PInst 671 gd) :: (gd, PDS c.w (kgOf gr d adj) eg) :: Φ) (by k_is) (by k_is) (by omega) rfl (fun _ => rfl) (fun _ => rfl) (fun _ => by end_is "frame") (fun _ _ _ => rfl) (by decide) rfl rfl rfl fun D L e A' hd' hh' _ => ?_
  end_is "go"
  refine T.getOwn (clsGraph _) (by end_is "mem") (by end_is "mem") (v := .ref d) rfl (by k_is) (by k_is) rfl ?_
  end_is "go"
  refine T.notInDI (kvs := kd) (ep := ed) (by end_is "mem") ?_
  rw [hn]
  end_is "go"
  rw [if_pos (show (!(none : Option Value).isSome) = true from rfl)]
  end_is "go"
  refine T.isP false rfl rfl ?_
  end_is "go"
  rw [if_neg Bool.false_ne_true]
  end_is "go"
  refine T.method (f := 413) (clsGraph _) (by end_is "mem") (by end_is "mem") rfl (by k_is) (by k_is) ?_
  end_is "go"
  refine (fInner (A := A') (by omega)).mono (fun r Δ2 => ?_) fun _ _ e => e
  rintro ⟨nb, rfl, rfl⟩
  end_is "go"
  refine T.getOwn (clsGraph _) (by end_is "mem") (by end_is "mem") (v := .ref adj) rfl (by k_is) (by k_is) rfl ?_
  end_is "go"
  refine T.setDI (kvs := ka) (ep := ea) (fun e1 => by k_upd) (by omega) fun e1 => ?_
  end_is "go"
  refine T.assign2 ?_
  end_is "go"
  refine T.method (f := 399) (clsGraph _) (by end_is "mem") (by end_is "mem") rfl (by k_is) (by k_is) ?_
  end_is "go"
  refine (fNodeAttr (A := A') (by omega)).mono (fun r Δ2 => ?_) fun _ _ e => e
  rintro ⟨a, rfl, rfl⟩
  end_is "go"
  refine T.getOwn (clsGraph _) (by end_is "mem") (by end_is "mem") (v := .ref d) rfl (by k_is) (by k_is) rfl ?_
  end_is "go"
  refine T.setDI (kvs := kd) (ep := ed) (fun e2 => by k_upd) (by omega) fun e2 => ?_
  end_is "go"
  refine T.mDict (d := a) (P := PDS c.w [] 0) (by end_is "mem") (fun _ => PDict.is) PySem.F.slot_dict_update PySem.F.type_dict_update ?_
  end_is "go"
  refine T.neMem (a := a) (b := D) (P := PDS c.w [] 0) (P' := PDS c.w [(Str.ofString "w", .str "5" t')] e) (by end_is "del") (by end_is "mem") fun hne => ?_
  refine T.updS (kvs := []) (more := [(Str.ofString "w", .str "5" t')]) (ep := 0) (fun e' => by k_upd) (by end_is "mem") hne (by simp) fun e4 => ?_
  refine ⟨trivial, ?_⟩
  refine T.weak (P' := PAt c.w .bad) .head (fun o ho => ⟨_, e4, ho, ⟨t', rfl⟩⟩) ?_
  end_is "go"
  exact ⟨_, .cons_cons _ (.cons_cons _ (.cons _ (.cons _ (.refl _)))), rfl, a, nb, e1, e2, rfl⟩
theorem addNodeI {c : Cx} {A : Around} {E : Value → Hp → Prop} (hA : A.depth + 30 < recursionLimit) {Φ : Hp} {g gd gr d adj : Addr} {ka kd : List (Int × Value)} {ea ed eg : Nat} {n : Int} {t : Tok} {k : Int} {t' : Tok} (hn : valueAt kd n = none) (hz : kd.length ≤ 100) (hz2 : ka.length ≤ 100) :
    T c A ((adj, PDI ka ea) :: (d, PDI kd ed) :: (g, PInst 671 gd) :: (gd, PDS c.w (kgOf gr d adj) eg) :: Φ) (call (.ref 480) [.ref g, .int n t] [(Str.ofString "w", .int k t')]) (fun r Δ' => r = .none ∧ ∃ a nb e1 e2, Δ' = (a, PAt c.w (.num k)) :: (nb, PDI [] 0) :: (adj, PDI (stored ka n (.ref nb)) e1) :: (d, PDI (stored kd n (.ref a)) e2) :: (g, PInst 671 gd) :: (gd, PDS c.w (kgOf gr d adj) eg) :: Φ) E := by
  refine T.call_of ?_
  refine T.callP1 (Q := fun r Δ' => r = .none ∧ ∃ a nb e1 e2, Δ' = (a, PAt c.w (.num k)) :: (nb, PDI [] 0) :: (adj, PDI (stored ka n (.ref nb)) e1) :: (d, PDI (stored kd n (.ref a)) e2) :: (g, PInst 671 gd) :: (gd, PDS c.w (kgOf gr d adj) eg) :: Φ) (fun D => [("self", .ref g), ("node_for_adding", .int n t), ("attr", .ref D)]) (fun D e _ => (D, PDS c.w [(Str.ofString "w", .int k t')] e) :: (adj, PDI ka ea) :: (d, PDI kd ed) :: (g, PInst 671 gd) :: (gd, PDS c.w (kgOf gr d adj) eg) :: Φ) (by k_is) (by k_is) (by omega) rfl (fun _ => rfl) (fun _ => rfl) (fun _ => by end_is "frame") (fun _ _ _ => rfl) (by decide) rfl rfl rfl fun D L e A' hd' hh' _ => ?_
  end_is "go"
  refine T.getOwn (clsGraph _) (by end_is "mem") (by end_is "mem") (v := .ref d) rfl (by k_is) (by k_is) rfl ?_
  end_is "go"
  refine T.notInDI (kvs := kd) (ep := ed) (by end_is "mem") ?_
  rw [hn]
  end_is "go"
  rw [if_pos (show (!(none : Option Value).isSome) = true from rfl)]
  end_is "go"
  refine T.isP false rfl rfl ?_
  end_is "go"
  rw [if_neg Bool.false_ne_true]
  end_is "go"
  refine T.method (f := 413) (clsGraph _) (by end_is "mem") (by end_is "mem") rfl (by k_is) (by k_is) ?_
  end_is "go"
  refine (fInner (A := A') (by omega)).mono (fun r Δ2 => ?_) fun _ _ e => e
  rintro ⟨nb, rfl, rfl⟩
  end_is "go"
  refine T.getOwn (clsGraph _) (by end_is "mem") (by end_is "mem") (v := .ref adj) rfl (by k_is) (by k_is) rfl ?_
  end_is "go"
  refine T.setDI (kvs := ka) (ep := ea) (fun e1 => by k_upd) (by omega) fun e1 => ?_
  end_is "go"
  refine T.assign2 ?_
  end_is "go"
  refine T.method (f := 399) (clsGraph _) (by end_is "mem") (by end_is "mem") rfl (by k_is) (by k_is) ?_
  end_is "go"
  refine (fNodeAttr (A := A') (by omega)).mono (fun r Δ2 => ?_) fun _ _ e => e
  rintro ⟨a, rfl, rfl⟩
  end_is "go"
  refine T.getOwn (clsGraph _) (by end_is "mem") (by end_is "mem") (v := .ref d) rfl (by k_is) (by k_is) rfl ?_
  end_is "go"
  refine T.setDI (kvs := kd) (ep := ed) (fun e2 => by k_upd) (by omega) fun e2 => ?_
  end_is "go"
  refine T.mDict (d := a) (P := PDS c.w [] 0) (by end_is "mem") (fun _ => PDict.is) PySem.F.slot_dict_update PySem.F.type_dict_update ?_
  end_is "go"
  refine T.neMem (a := a) (b := D) (P := PDS c.w [] 0) (P' := PDS c.w [(Str.ofString "w", .int k t')] e) (by end_is "del") (by end_is "mem") fun hne => ?_
  refine T.updS (kvs := []) (more := [(Str.ofString "w", .int k t')]) (ep := 0) (fun e' => by k_upd) (by end_is "mem") hne (by simp) fun e4 => ?_
  refine ⟨trivial, ?_⟩
  refine T.weak (P' := PAt c.w (.num k)) .head (fun o ho => ⟨_, e4, ho, ⟨t', rfl⟩⟩) ?_
  end_is "go"
  exact ⟨_, .cons_cons _ (.cons_cons _ (.cons _ (.cons _ (.refl _)))), rfl, a, nb, e1, e2, rfl⟩
end
/-! GC -/
section
theorem PNb.is {f k} {o : Obj} (h : PNb f k o) : o.cls = .type "dict" ∧ o.dict = none := let ⟨_, _, p, _⟩ := h; PDict.is p
theorem tie_at {as : List Addr} {ps : List (Int × Int)} {i : Nat} {p : Int × Int} (hl : as.length = ps.length) (e : ps[i]? = some p) : ∃ a, as[i]? = some a ∧ (a, PPair p.1 p.2) ∈ tiesHp as ps := by
  obtain ⟨hi, rfl⟩ := List.getElem?_eq_some_iff.mp e
  have hj : i < as.length := by omega
  refine ⟨as[i], List.getElem?_eq_some_iff.mpr ⟨hj, rfl⟩, ?_⟩
  refine List.mem_map.mpr ⟨(as[i], ps[i]), ?_, rfl⟩
  exact List.mem_iff_getElem.mpr ⟨i, by rw [List.length_zip]; omega, by simp⟩
/-- the graph: its objects, the rows of neighbours among them -/
abbrev grX (c : Cx) (order : List Int) (nb : Int → Addr) (qs : List (Int × Int)) (Ψ : Hp) : Hp := (order.map fun x => (nb x, PNb (adjR qs x) (adjK qs x))) ++ Ψ
abbrev grY (c : Cx) (g gd gr d adj : Addr) (ka kd : List (Int × Value)) (ea ed eg : Nat) (Φ : Hp) : Hp := (adj, PDI ka ea) :: (d, PDI kd ed) :: (g, PInst 671 gd) :: (gd, PDS c.w (kgOf gr d adj) eg) :: Φ
theorem addEdges {c : Cx} {A : Around} {E : Value → Hp → Prop} (hA : A.depth + 30 < recursionLimit) (hh : A.handled = none) {Φ : Hp} {tl g gd gr d adj : Addr} {ka kd : List (Int × Value)} {ea ed eg : Nat} {order : List Int} {nb : Int → Addr} {as : List Addr} {ps : List (Int × Int)}
    (hd : ∀ u ∈ order, (valueAt kd u).isSome = true) (ha : ∀ u ∈ order, valueAt ka u = some (.ref (nb u))) (hn : order.Nodup) (hp : ∀ p ∈ ps, p.1 < p.2) (hp1 : ∀ p ∈ ps, p.1 ∈ order ∧ p.2 ∈ order) (hpn : ps.Nodup) (hz : ps.length ≤ 900) (hl : as.length = ps.length)
    (htl : (tl, PList (as.map Value.ref).toArray) ∈ Φ) (hties : ∀ p ∈ tiesHp as ps, p ∈ Φ) :
    T c A (grX c order nb [] (grY c g gd gr d adj ka kd ea ed eg Φ)) (call (.ref 546) [.ref g, .ref tl] []) (fun r Δ' => r = .none ∧ Sb (grX c order nb ps (grY c g gd gr d adj ka kd ea ed eg Φ)) Δ') E := by
  refine T.call_of ?_
  refine T.callP0 (Q := fun r Δ' => r = .none ∧ Sb (grX c order nb ps (grY c g gd gr d adj ka kd ea ed eg Φ)) Δ') (fun D => [("self", .ref g), ("ebunch_to_add", .ref tl), ("attr", .ref D)]) (fun D _ => (D, PDS c.w [] 0) :: grX c order nb [] (grY c g gd gr d adj ka kd ea ed eg Φ)) (by k_is) (by k_is) (by omega) rfl (fun _ => rfl) (fun _ => rfl) (fun _ => by end_is "frame") (fun _ _ => rfl) (by decide) rfl rfl rfl fun D L A' hd' hh' _ => ?_
  rw [hh] at hh'
  have hY : ∀ {qs : List (Int × Int)} {p : Addr × Pr}, p ∈ grY c g gd gr d adj ka kd ea ed eg Φ → p ∈ grX c order nb qs (grY c g gd gr d adj ka kd ea ed eg Φ) := fun h => List.mem_append_right _ h
  have mtl : (tl, PList (as.map Value.ref).toArray) ∈ grY c g gd gr d adj ka kd ea ed eg Φ := .tail _ (.tail _ (.tail _ (.tail _ htl)))
  refine T.execsCons (T.forS ?_)
  end_is "go"
  refine T.iterList (items := (as.map Value.ref).toArray) (.tail _ (.tail _ (hY mtl))) fun it => ?_
  refine ⟨fun k Δ => ∃ i, k = ps.length - i ∧ i ≤ ps.length ∧ Sb ((it, PLIter tl i) :: (L, PFr [("self", .ref g), ("ebunch_to_add", .ref tl), ("attr", .ref D)]) :: (D, PDS c.w [] 0) :: grX c order nb (ps.take i) (grY c g gd gr d adj ka kd ea ed eg Φ)) Δ, ps.length, ⟨0, rfl, Nat.zero_le _, .tl (List.Sublist.refl _)⟩, ?_⟩
  rintro k Δ ⟨i, rfl, hi, hsb⟩
  refine T.sb hsb ?_
  cases e : ps[i]? with
  | none =>
    have hi' : i = ps.length := by have := List.getElem?_eq_none_iff.mp e; omega
    subst hi'
    refine T.nextListEnd (items := (as.map Value.ref).toArray) hh' .head (.tail _ (.tail _ (.tail _ (hY mtl)))) (by simp [hl]) ?_
    end_is "go"
    refine ⟨_, ?_, rfl, .tl (List.Sublist.refl _)⟩
    rw [List.take_length]
    exact .cons _ (.cons _ (.refl _))
  | some p =>
    obtain ⟨u, v⟩ := p
    obtain ⟨a, ea', hta⟩ := tie_at hl e
    have hlt := hp _ (List.mem_of_getElem? e)
    obtain ⟨hu1, hv1⟩ := hp1 _ (List.mem_of_getElem? e)
    obtain ⟨hf1, hf2⟩ := adjR_false hp hpn e
    have mta : (a, PPair u v) ∈ grY c g gd gr d adj ka kd ea ed eg Φ := .tail _ (.tail _ (.tail _ (.tail _ (hties _ hta))))
    have hrow : ∀ x ∈ order, (nb x, PNb (adjR (ps.take i) x) (adjK (ps.take i) x)) ∈ grX c order nb (ps.take i) (grY c g gd gr d adj ka kd ea ed eg Φ) := fun x h => mem_row (at_ := nb) (P := fun x => PNb (adjR (ps.take i) x) (adjK (ps.take i) x)) h
    refine T.nextList (items := (as.map Value.ref).toArray) .head (.tail _ (.tail _ (.tail _ (hY mtl)))) (x := .ref a) (by simp [ea']) ?_
    end_is "go"
    refine T.lenPair (.tail _ (.tail _ (.tail _ (hY mta)))) fun t0 => ?_
    end_is "go"
    rw [if_neg (by decide)]
    end_is "go"
    rw [if_pos (by decide)]
    end_is "go"
    refine T.unpack2 hh' (.tail _ (.tail _ (.tail _ (hY mta)))) fun t1 t2 => ?_
    end_is "go"
    refine T.dictE (PySem.strKind PG c.w) fun dd => ?_
    show T c A' ((dd, PDS c.w [] 0) :: _) _ _ _
    end_is "go"
    refine T.getOwn (clsGraph _) (.tail _ (.tail _ (.tail _ (.tail _ (hY (.tail _ (.tail _ (.head _)))))))) (.tail _ (.tail _ (.tail _ (.tail _ (hY (.tail _ (.tail _ (.tail _ (.head _))))))))) (v := .ref d) rfl (by k_is) (by k_is) rfl ?_
    end_is "go"
    refine T.notInDI (kvs := kd) (ep := ed) (.tail _ (.tail _ (.tail _ (.tail _ (hY (.tail _ (.head _))))))) ?_
    rw [hd _ hu1]
    end_is "go"
    rw [if_neg (by decide)]
    end_is "go"
    refine T.getOwn (clsGraph _) (.tail _ (.tail _ (.tail _ (.tail _ (hY (.tail _ (.tail _ (.head _)))))))) (.tail _ (.tail _ (.tail _ (.tail _ (hY (.tail _ (.tail _ (.tail _ (.head _))))))))) (v := .ref d) rfl (by k_is) (by k_is) rfl ?_
    end_is "go"
    refine T.notInDI (kvs := kd) (ep := ed) (.tail _ (.tail _ (.tail _ (.tail _ (hY (.tail _ (.head _))))))) ?_
    rw [hd _ hv1]
    end_is "go"
    rw [if_neg (by decide)]
    end_is "go"
    refine T.getOwn (clsGraph _) (.tail _ (.tail _ (.tail _ (.tail _ (hY (.tail _ (.tail _ (.head _)))))))) (.tail _ (.tail _ (.tail _ (.tail _ (hY (.tail _ (.tail _ (.tail _ (.head _))))))))) (v := .ref adj) rfl (by k_is) (by k_is) rfl ?_
    end_is "go"
    refine T.subDI (kvs := ka) (ep := ea) (.tail _ (.tail _ (.tail _ (.tail _ (hY (.head _)))))) (ha _ hu1) ?_
    end_is "go"
    refine T.mDict (d := nb u) (.tail _ (.tail _ (.tail _ (.tail _ (hrow _ hu1))))) (fun _ => PNb.is) PySem.F.slot_dict_get PySem.F.type_dict_get ?_
    end_is "go"
    refine T.method (f := 420) (clsGraph _) (.tail _ (.tail _ (.tail _ (.tail _ (hY (.tail _ (.tail _ (.head _)))))))) (.tail _ (.tail _ (.tail _ (.tail _ (hY (.tail _ (.tail _ (.tail _ (.head _))))))))) rfl (by k_is) (by k_is) ?_
    end_is "go"
    refine (fEdge (A := A') (by omega)).mono (fun r Δ2 => ?_) fun _ _ e => e
    rintro ⟨dt, rfl, rfl⟩
    end_is "go"
    refine T.getNb (.tail _ (.tail _ (.tail _ (.tail _ (.tail _ (hrow _ hu1)))))) hf1 ?_
    end_is "go"
    refine T.mDict (d := dt) (P := PDS c.w [] 0) (.head _) (fun _ => PDict.is) PySem.F.slot_dict_update PySem.F.type_dict_update ?_
    end_is "go"
    refine T.neMem (a := dt) (b := D) (P := PDS c.w [] 0) (P' := PDS c.w [] 0) .head (.tail _ (.tail _ (.tail _ (.head _)))) fun hne => ?_
    refine T.updS (kvs := []) (more := []) (ep := 0) (ep2 := 0) (fun e' => .head) (.tail _ (.tail _ (.tail _ (.tail _ (.head _))))) hne (by decide) fun e4 => ?_
    refine ⟨trivial, ?_⟩
    end_is "go"
    refine T.mDict (d := dt) (P := PDS c.w [] e4) (.head _) (fun _ => PDict.is) PySem.F.slot_dict_update PySem.F.type_dict_update ?_
    end_is "go"
    refine T.neMem (a := dt) (b := dd) (P := PDS c.w [] e4) (P' := PDS c.w [] 0) .head (.head _) fun hne2 => ?_
    refine T.updS (kvs := []) (more := []) (ep := e4) (ep2 := 0) (fun e' => .head) (.tail _ (.head _)) hne2 (by decide) fun e5 => ?_
    refine ⟨trivial, ?_⟩
    end_is "go"
    refine T.getOwn (clsGraph _) (.tail _ (.tail _ (.tail _ (.tail _ (.tail _ (hY (.tail _ (.tail _ (.head _))))))))) (.tail _ (.tail _ (.tail _ (.tail _ (.tail _ (hY (.tail _ (.tail _ (.tail _ (.head _)))))))))) (v := .ref adj) rfl (by k_is) (by k_is) rfl ?_
    end_is "go"
    refine T.subDI (kvs := ka) (ep := ea) (.tail _ (.tail _ (.tail _ (.tail _ (.tail _ (hY (.head _))))))) (ha _ hu1) ?_
    end_is "go"
    refine T.setNb (d := nb u) (.tail (.tail (.tail (.tail (.tail (Upd.map (at_ := nb) (P := fun x => PNb (adjR (ps.take i) x) (adjK (ps.take i) x)) hu1 hn)))))) (Nat.le_trans (adjK_le _ _) (by rw [List.length_take]; omega)) ?_
    end_is "go"
    have hY2 : ∀ {p : Addr × Pr} {P : Int → Pr}, p ∈ grY c g gd gr d adj ka kd ea ed eg Φ → p ∈ (order.map fun x => (nb x, P x)) ++ grY c g gd gr d adj ka kd ea ed eg Φ := fun h => List.mem_append_right _ h
    refine T.getOwn (clsGraph _) (.tail _ (.tail _ (.tail _ (.tail _ (.tail _ (hY2 (.tail _ (.tail _ (.head _))))))))) (.tail _ (.tail _ (.tail _ (.tail _ (.tail _ (hY2 (.tail _ (.tail _ (.tail _ (.head _)))))))))) (v := .ref adj) rfl (by k_is) (by k_is) rfl ?_
    end_is "go"
    refine T.subDI (kvs := ka) (ep := ea) (.tail _ (.tail _ (.tail _ (.tail _ (.tail _ (hY2 (.head _))))))) (ha _ hv1) ?_
    end_is "go"
    have hne : u ≠ v := fun e => by subst e; exact absurd hlt (Int.lt_irrefl _)
    have hU := Upd.map (at_ := nb) (P := fun x => if x = u then PNb (fun y => decide (y = v) || adjR (ps.take i) u y) (adjK (ps.take i) u + 1) else PNb (adjR (ps.take i) x) (adjK (ps.take i) x)) (P' := PNb (fun y => decide (y = u) || adjR (ps.take i) v y) (adjK (ps.take i) v + 1)) (Φ := grY c g gd gr d adj ka kd ea ed eg Φ) hv1 hn
    rw [if_neg (Ne.symm hne), row_step hne] at hU
    have htake : ps.take i ++ [(u, v)] = ps.take (i + 1) := by rw [List.take_add_one, e]; rfl
    rw [htake] at hU
    refine T.setNb (d := nb v) (.tail (.tail (.tail (.tail (.tail hU))))) (Nat.le_trans (adjK_le _ _) (by rw [List.length_take]; omega)) ?_
    end_is "go"
    refine ⟨ps.length - (i + 1), ?_, i + 1, rfl, ?_, ?_⟩
    · have := (List.getElem?_eq_some_iff.mp e).1; omega
    · have := (List.getElem?_eq_some_iff.mp e).1; omega
    · end_is "sb"
end
/-! GD -/
section
/-- the ints of the script: a list of the top's heap -/
def Script (c : Cx) (sc : Addr) (ns : List Int) : Prop := ∃ o, c.h₀.get? sc = some o ∧ PInts ns o
theorem Script.ints {c : Cx} {sc : Addr} {ns : List Int} {Δ : Hp} {s : Shared} (h : Script c sc ns) (hs : St c Δ s) : ∃ vs n, IsL s.heap sc vs.toArray n ∧ IntsAre vs ns := by
  obtain ⟨o, ho, vs, n, rfl, hi⟩ := h
  exact ⟨vs, n, hs.keep _ _ ho, hi⟩
theorem T.klen {c : Cx} {A : Around} {E : Value → Hp → Prop} {Δ : Hp} {sc : Addr} {ns : List Int} {Q : Value → Hp → Prop} (hm : Script c sc ns) (hz : ns.length ≤ sizeLine) (h : ∀ t, Q (.int ns.length t) Δ) : T c A Δ (call (.builtin "len") [.ref sc]) Q E := fun s hs => by
  obtain ⟨vs, k, e, hi⟩ := hm.ints hs
  have hl := hi.length
  refine call_len_list e.isList (by have := sizeLine_eq; simp; omega) ⟨Δ, hs.toks, ?_⟩
  rw [List.size_toArray, hl]; exact h _
theorem T.ksub {c : Cx} {A : Around} {E : Value → Hp → Prop} {Δ : Hp} {sc : Addr} {ns : List Int} {value slice : Expr} {k n : Int} {t : Tok} {Q : Value → Hp → Prop} (hm : Script c sc ns) (h0 : 0 ≤ k) (hf : k < 2 ^ 63) (hx : ns[k.toNat]? = some n) (h : ∀ u, Q (.int n u) Δ)
    (hs : subscripted slice false (.ref sc) (.int k t) = operate [.ref sc, .int k t] (getItem (.ref sc) (.int k t)) := by with_unfolding_all rfl) : T c A Δ (subscriptTail value slice (.ref sc) (.int k t)) Q E := fun s hs' => by
  obtain ⟨vs, k', e, hi⟩ := hm.ints hs'
  obtain ⟨u, hu⟩ := ints_iff hi _ _ hx
  exact tail_any e.isList.typeIs slot_list_getitem.lookup (wpAny_getItem_list e.isList h0 hf hu ⟨Δ, hs', h u⟩) hs
theorem lawCell {c : Cx} {A : Around} {E : Value → Hp → Prop} (hA : A.depth + 10 < recursionLimit) {Δ : Hp} {sc : Addr} {ns : List Int} {k : Nat} {t : Tok} (hsc : Script c sc ns) (hz : ns.length ≤ 1000) :
    T c A Δ (call (.ref 686) [.ref sc, .int k t] []) (fun r Δ' => (∃ u, r = .int (cell ns k) u) ∧ Δ' = Δ) E := by
  refine T.callA [("script", .ref sc), ("at", .int k t)] (fun _ => Δ) (by k_is) (by k_is) (by omega) rfl rfl (by end_is "frame") (fun _ => rfl) (by decide) rfl rfl rfl fun L A' hd' hh' _ => ?_
  end_is "go"
  refine T.klen hsc (sz hz) fun t1 => ?_
  end_is "go"
  by_cases h : (k : Int) < ns.length
  · rw [if_pos (decide_eq_true h)]
    obtain ⟨n, e⟩ : ∃ n, ns[k]? = some n := ⟨_, List.getElem?_eq_some_iff.mpr ⟨by omega, rfl⟩⟩
    end_is "go"
    refine T.ksub hsc (by omega) (by omega) (by simpa using e) fun u => ?_
    end_is "go"
    refine T.intInt ?_
    end_is "go"
    refine T.absInt fun u => ?_
    end_is "go"
    exact ⟨_, by end_is "sub", ⟨u, by unfold cell; rw [e]; rfl⟩, rfl⟩
  · rw [if_neg (by simpa using h)]
    have e : ns[k]? = none := List.getElem?_eq_none_iff.mpr (by omega)
    end_is "go"
    refine T.mulInt (by decide +kernel) fun u => ?_
    end_is "go"
    exact ⟨_, by end_is "sub", ⟨_, by unfold cell; rw [e]; rfl⟩, rfl⟩
theorem noPylong2 (a : Int) : Builtin.divisionGoesByPylong a 2 = false := by
  unfold Builtin.divisionGoesByPylong
  rw [Bool.and_eq_false_iff]
  exact .inl (by decide +kernel)
theorem push_refs {as : List Addr} {a : Addr} : ((as.map Value.ref).toArray).push (.ref a) = ((as ++ [a]).map Value.ref).toArray := by simp
theorem PList.is {o : Obj} {xs : Array Value} (h : PList xs o) : o.cls = .type "list" ∧ o.dict = none := by obtain ⟨_, rfl⟩ := h; exact ⟨rfl, rfl⟩
theorem ties_len (one : Int) : ∀ (l : List Int) (s : Int × List (Int × Int)), (l.foldl (tieStep one) s).2.length ≤ s.2.length + l.length
  | [], s => by simp
  | o :: l, s => by
    rw [List.foldl_cons, List.length_cons]
    have := ties_len one l (tieStep one s o)
    have h2 : (tieStep one s o).2.length ≤ s.2.length + 1 := by
      unfold tieStep
      dsimp only
      split <;> simp
    omega
theorem lawTies {c : Cx} {A : Around} {E : Value → Hp → Prop} (hA : A.depth + 30 < recursionLimit) (hh : A.handled = none) {Φ : Hp} {sc : Addr} {ns : List Int} {size : Nat} {t : Tok} (hsc : Script c sc ns) (hz : ns.length ≤ 1000) (hsz : size ≤ 6) :
    T c A Φ (call (.ref 693) [.ref sc, .int size t] []) (fun r Δ' => ∃ fl as, r = .ref fl ∧ as.length = (tiesOf (cell ns 2) size).length ∧ Sb ((fl, PList (as.map Value.ref).toArray) :: (tiesR as (tiesOf (cell ns 2) size) ++ Φ)) Δ') E := by
  refine T.callA [("script", .ref sc), ("size", .int size t)] (fun _ => Φ) (by k_is) (by k_is) (by omega) rfl rfl (by end_is "frame") (fun _ => rfl) (by decide) rfl rfl rfl fun L A' hd' hh' _ => ?_
  rw [hh] at hh'
  refine T.execsCons (T.swap2 hh' ?_)
  end_is "go"
  rename_i fl tk1 kp
  refine (lawCell (A := A') (k := 2) (by omega) hsc hz).mono (fun r Δ2 => ?_) fun _ _ e => e
  rintro ⟨⟨u, rfl⟩, rfl⟩
  end_is "go"
  refine ⟨by rw [sizeLine_eq]; simp, fun tp => ?_⟩
  refine ⟨tp, _, _, rfl, .head _, ?_⟩
  end_is "go"
  refine T.weak (a := fl) (P := PInts []) (P' := PList #[]) (.tail .head) (fun o h => by obtain ⟨vs, n, rfl, hi⟩ := h; cases hi; exact ⟨n, rfl⟩) ?_
  refine T.sb (Δ' := (L, PFr [("script", .ref sc), ("size", .int size t), ("draw", .int (cell ns 2) u), ("found", .ref fl)]) :: (fl, PList #[]) :: Φ) (by end_is "sb") ?_
  refine T.forW (Φ := []) (fun k Δ => ∃ as t', as.length = (tieFrom size (cell ns 2, []) k).2.length ∧ Δ = (L, PFr [("script", .ref sc), ("size", .int size t), ("draw", .int (tieFrom size (cell ns 2, []) k).1 t'), ("found", .ref fl)]) :: (fl, PList (as.map Value.ref).toArray) :: (tiesR as (tieFrom size (cell ns 2, []) k).2 ++ Φ)) ?_
  end_is "go"
  refine T.range1 fun r => ?_
  end_is "go"
  refine T.iterRange (by end_is "mem") (by omega) (by omega) (by omega) (by omega) (by omega) fun it => ?_
  rw [Int.sub_zero]
  refine ⟨it, _, _, _, rfl, IW.range (k := size) hh', ?_, ⟨[], u, rfl, rfl⟩, fun _ _ _ p hp => absurd hp List.not_mem_nil, ?_, ?_⟩
  · show Sb ((it, PRI ((0 : Nat) : Int) ((size : Int) - ((0 : Nat) : Int))) :: (L, PFr [("script", .ref sc), ("size", .int size t), ("draw", .int (cell ns 2) u), ("found", .ref fl)]) :: (fl, PList #[]) :: Φ) _
    rw [show ((size : Int) - ((0 : Nat) : Int)) = size by omega]
    show Sb ((it, PRI 0 size) :: _) _
    end_is "sb"
  · rintro k n tk Δ e ⟨as, t', hlen, rfl⟩
    have hk : k < size := by have := (List.getElem?_eq_some_iff.mp e).1; simpa using this
    have en : n = (k : Int) := by
      rw [List.getElem?_map, List.getElem?_range hk] at e
      exact (Option.some.inj e).symm
    subst en
    generalize PRI ((k + 1 : Nat) : Int) ((size : Int) - ((k + 1 : Nat) : Int)) = PK
    end_is "go"
    have hsucc : tieFrom size (cell ns 2, []) (k + 1) = (upTo (k + 1) size).foldl (tieStep k) (tieFrom size (cell ns 2, []) k) := by
      unfold tieFrom tieRow
      rw [List.range_succ, List.foldl_append]
      rfl
    have hcount : ∀ j, (((upTo (k + 1) size).take j).foldl (tieStep k) (tieFrom size (cell ns 2, []) k)).2.length ≤ 1000 := fun j => by
      have h1 := ties_len (k : Int) ((upTo (k + 1) size).take j) (tieFrom size (cell ns 2, []) k)
      have h2 := (tieFrom_sub size k (cell ns 2, [])).length_le
      have h3 : ((List.range k).flatMap fun one => (upTo (one + 1) size).map fun o => ((one : Int), o)).length ≤ 36 := by
        have hc : k < size ∧ size ≤ 6 := ⟨hk, hsz⟩
        have h6 : ∀ size : Nat, size ≤ 6 → ∀ k, k < size → ((List.range k).flatMap fun one => (upTo (one + 1) size).map fun o => ((one : Int), o)).length ≤ 36 := by decide
        exact h6 size hsz k hk
      have h4 : ((upTo (k + 1) size).take j).length ≤ 6 := by rw [List.length_take, upTo_length]; omega
      simp only [List.nil_append] at h2
      omega
    have hst : ∀ j m, (upTo (k + 1) size)[j]? = some m → ((upTo (k + 1) size).take (j + 1)).foldl (tieStep k) (tieFrom size (cell ns 2, []) k) = tieStep k (((upTo (k + 1) size).take j).foldl (tieStep k) (tieFrom size (cell ns 2, []) k)) m := fun j m e => by rw [List.take_add_one, e, List.foldl_append]; rfl
    refine T.forW (Φ := []) (fun j Δ => ∃ as t', as.length = (((upTo (k + 1) size).take j).foldl (tieStep k) (tieFrom size (cell ns 2, []) k)).2.length ∧ Δ = (it, PK) :: (L, PFr [("script", .ref sc), ("size", .int size t), ("draw", .int (((upTo (k + 1) size).take j).foldl (tieStep k) (tieFrom size (cell ns 2, []) k)).1 t'), ("found", .ref fl), ("one", .int k tk)]) :: (fl, PList (as.map Value.ref).toArray) :: (tiesR as (((upTo (k + 1) size).take j).foldl (tieStep k) (tieFrom size (cell ns 2, []) k)).2 ++ Φ)) ?_
    end_is "go"
    refine T.range2 fun r2 => ?_
    end_is "go"
    refine T.iterRange (by end_is "mem") (by omega) (by omega) (by omega) (by omega) (by omega) fun it2 => ?_
    refine ⟨it2, _, _, _, rfl, IW.rangeF (a := k + 1) (b := size) hh', ?_, ⟨as, t', hlen, rfl⟩, fun _ _ _ p hp => absurd hp List.not_mem_nil, ?_, ?_⟩
    · rw [show (((k + 1 : Nat) : Int) + ((0 : Nat) : Int)) = (k : Int) + 1 by omega, show (((size - (k + 1) : Nat) : Int) - ((0 : Nat) : Int)) = (size : Int) - ((k : Int) + 1) by omega]
      show Sb ((it2, PRI ((k : Int) + 1) ((size : Int) - ((k : Int) + 1))) :: (it, PK) :: (L, PFr [("script", .ref sc), ("size", .int size t), ("draw", .int (tieFrom size (cell ns 2, []) k).1 t'), ("found", .ref fl), ("one", .int k tk)]) :: (fl, PList (as.map Value.ref).toArray) :: (tiesR as (tieFrom size (cell ns 2, []) k).2 ++ Φ)) _
      end_is "sb"
    · rintro j m tm Δ e2 ⟨as2, t2, hlen2, rfl⟩
      rw [hst j m e2]
      have hfj : (((upTo (k + 1) size).take j).foldl (tieStep k) (tieFrom size (cell ns 2, []) k)).2.length ≤ 1000 := hcount j
      generalize ((upTo (k + 1) size).take j).foldl (tieStep k) (tieFrom size (cell ns 2, []) k) = sj at hlen2 hfj ⊢
      generalize PRI (((k + 1 : Nat) : Int) + ((j + 1 : Nat) : Int)) (((size - (k + 1) : Nat) : Int) - ((j + 1 : Nat) : Int)) = PJ
      obtain ⟨dj, fj⟩ := sj
      end_is "go"
      refine T.modInt (by decide) fun u1 => ?_
      end_is "go"
      by_cases hb : dj.fmod 2 = 1
      · rw [if_pos (by simpa using hb), show tieStep (k : Int) (dj, fj) m = (dj.fdiv 2, fj ++ [((k : Int), m)]) by unfold tieStep; simp [hb]]
        end_is "go"
        refine T.mList (l := fl) (items := PList (as2.map Value.ref).toArray) (by end_is "mem") (fun _ => PList.is) PySem.F.slot_list_append PySem.F.type_list_append ?_
        end_is "go"
        refine ⟨by rw [sizeLine_eq]; simp, fun tp => ?_⟩
        end_is "go"
        refine T.weak (a := tp) (P' := PPair k m) .head (fun o h => PTup.pair h) ?_
        refine T.append (l := fl) (items := (as2.map Value.ref).toArray) (by k_upd) (Nat.le_trans (m := 1000) ?_ (by rw [sizeLine_eq]; decide)) ?_
        · have h1 : fj.length ≤ 1000 := hfj
          simp only [List.size_toArray, List.length_map]
          have : as2.length = fj.length := hlen2
          omega
        rw [push_refs]
        refine ⟨trivial, ?_⟩
        end_is "go"
        refine T.divInt (by decide) (noPylong2 _) fun u2 => ?_
        end_is "go"
        refine ⟨_, ?_, as2 ++ [tp], u2, ?_, rfl⟩
        · rw [tiesR_snoc hlen2]
          dsimp only [List.cons_append]
          end_is "sb"
        · simp [hlen2]
      · rw [if_neg (by simpa using hb), show tieStep (k : Int) (dj, fj) m = (dj.fdiv 2, fj) by unfold tieStep; simp [hb]]
        end_is "go"
        refine T.divInt (by decide) (noPylong2 _) fun u2 => ?_
        end_is "go"
        refine ⟨_, ?_, as2, u2, hlen2, rfl⟩
        end_is "sb"
    · rintro Δ ⟨as2, t2, hlen2, rfl⟩
      rw [upTo_length, List.take_of_length_le (by rw [upTo_length]; exact Nat.le_refl _)] at hlen2 ⊢
      end_is "go"
      rw [hsucc]
      refine ⟨_, ?_, as2, t2, hlen2, rfl⟩
      end_is "sb"
  · rintro Δ ⟨as, t', hlen, rfl⟩
    rw [List.length_map, List.length_range] at hlen ⊢
    end_is "go"
    exact ⟨_, List.Sublist.cons _ (List.Sublist.refl _), fl, as, rfl, hlen, .tl (List.Sublist.refl _)⟩
end
/-! GE -/
section
/-- any two are tied -/
def isClq (ps : List (Int × Int)) : List Int → Bool
  | [] => true
  | a :: r => r.all (fun b => ps.contains (min a b, max a b)) && isClq ps r
theorem lawIsClique {c : Cx} {A : Around} {E : Value → Hp → Prop} (hA : A.depth + 30 < recursionLimit) (hh : A.handled = none) (hu : A.units + 20 < cLine) {Φ : Hp} {tl nl : Addr} {as : List Addr} {ps : List (Int × Int)} {ns : List Int} (hl : as.length = ps.length)
    (htl : (tl, PList (as.map Value.ref).toArray) ∈ Φ) (hties : ∀ p ∈ tiesHp as ps, p ∈ Φ) (hnl : (nl, PInts ns) ∈ Φ) (hz : ns.length ≤ 1000) :
    T c A Φ (call (.ref 700) [.ref tl, .ref nl] []) (fun r Δ' => r = .bool (isClq ps ns) ∧ Sb Φ Δ') E := by
  refine T.callA [("ties", .ref tl), ("nodes", .ref nl)] (fun _ => Φ) (by k_is) (by k_is) (by omega) rfl rfl (by end_is "frame") (fun _ => rfl) (by decide) rfl rfl rfl fun L A' hd' hh' hun => ?_
  rw [hh] at hh'
  refine T.execsCons (T.forT ?_)
  end_is "go"
  refine T.enumList (.tail _ hnl) fun e it => ?_
  end_is "go"
  refine T.iterEnum (.head _) ?_
  refine ⟨fun n Δ => ∃ i, n = ns.length - i ∧ i ≤ ns.length ∧ isClq ps ns = isClq ps (ns.drop i) ∧ Sb ((e, PEnum it (i : Nat) .none) :: (it, PLIter nl i) :: (L, PFr [("ties", .ref tl), ("nodes", .ref nl)]) :: Φ) Δ, ns.length, ⟨0, rfl, Nat.zero_le _, rfl, .tl (List.Sublist.refl _)⟩, ?_⟩
  rintro n Δ ⟨i, rfl, hi, hclq, hsb⟩
  refine T.sb hsb ?_
  cases e1 : ns[i]? with
  | none =>
    have hi' : i = ns.length := by have := List.getElem?_eq_none_iff.mp e1; omega
    subst hi'
    refine T.nextEnumEnd hh' (.head _) (.tail .head) (.tail _ (.tail _ (.tail _ hnl))) e1 ?_
    end_is "go"
    rw [hclq, List.drop_length]
    exact ⟨_, List.Sublist.cons _ (List.Sublist.cons _ (List.Sublist.refl _)), rfl, .tl (List.Sublist.refl _)⟩
  | some a =>
    have hlt := (List.getElem?_eq_some_iff.mp e1).1
    refine T.nextEnum (.tail _ hnl) e1 fun tp t1 t2 => ?_
    refine T.goEnum (it := it) (i := (i : Int) + 1) (.tail .head) ?_
    refine T.unpackT2 hh' (.head _) ?_
    end_is "go"
    have hdrop : ns.drop i = a :: ns.drop (i + 1) := by rw [List.drop_eq_getElem_cons hlt]; congr 1; exact (List.getElem?_eq_some_iff.mp e1).2
    have hstep : isClq ps (ns.drop i) = ((ns.drop (i + 1)).all (fun b => ps.contains (min a b, max a b)) && isClq ps (ns.drop (i + 1))) := by rw [hdrop]; rfl
    refine T.forX ?_
    end_is "go"
    refine ⟨nl, ns, i + 1, _, rfl, by rw [show (((i + 1 : Nat)) : Int) = (i : Int) + 1 by omega], by end_is "mem", sz hz, fun sl => ?_⟩
    refine T.iiter (ns := ns.drop (i + 1)) (.head _) fun it2 => ?_
    refine ⟨it2, _, _, _, (sl, PInts (ns.drop (i + 1))) :: [], (fun j Δ => ((ns.drop (i + 1)).take j).all (fun b => ps.contains (min a b, max a b)) = true ∧ Δ = (sl, PInts (ns.drop (i + 1))) :: (e, PEnum it ((i : Int) + 1) .none) :: (it, PLIter nl (i + 1)) :: (L, PFr [("ties", .ref tl), ("nodes", .ref nl), ("at", .int i t1), ("one", .int a t2)]) :: Φ), rfl, IW.list hh' (.head _), ?_, ⟨rfl, rfl⟩, fun _ _ h p hp => by rw [h.2, List.mem_singleton.mp hp]; exact .head _, ?_, ?_⟩
    · end_is "sb"
    · rintro j b t3 Δ e2 ⟨hall, rfl⟩
      end_is "go"
      refine T.min2 hh' fun u1 => ?_
      end_is "go"
      refine T.max2 hh' fun u2 => ?_
      end_is "go"
      refine ⟨by rw [sizeLine_eq]; simp, fun tp2 => ?_⟩
      refine T.weak (P' := PPair (min a b) (max a b)) .head (fun o h => PTup.pair h) ?_
      end_is "go"
      refine T.notInTies (as := as) (ps := ps) (by omega) (.tail _ (.tail _ (.tail _ (.tail _ (.tail _ (.tail _ htl)))))) hl (fun p hp => .tail _ (.tail _ (.tail _ (.tail _ (.tail _ (.tail _ (hties p hp))))))) (.head _) ?_
      end_is "go"
      by_cases hc : ps.contains (min a b, max a b) = true
      · rw [if_neg (by rw [hc]; decide)]
        end_is "go"
        refine ⟨_, ?_, ?_, rfl⟩
        · end_is "sb"
        · rw [List.take_add_one, e2, List.all_append, hall]
          simp only [Option.toList_some, List.all_cons, List.all_nil, hc, Bool.and_self]
      · rw [if_pos (by rw [Bool.eq_false_iff.mpr hc]; rfl)]
        end_is "go"
        have hf : (ns.drop (i + 1)).all (fun b => ps.contains (min a b, max a b)) = false := by
          rw [List.all_eq_false]
          exact ⟨b, List.mem_of_getElem? e2, hc⟩
        refine ⟨_, List.Sublist.refl _, ?_, ?_⟩
        · show Value.bool false = _
          rw [hclq, hstep, hf, Bool.false_and]
        · end_is "sb"
    · rintro Δ ⟨hall, rfl⟩
      end_is "go"
      rw [List.take_length] at hall
      refine ⟨ns.length - (i + 1), by omega, i + 1, rfl, hlt, ?_, ?_⟩
      · rw [hclq, hstep, hall, Bool.true_and]
      · rw [show (((i + 1 : Nat)) : Int) = (i : Int) + 1 by omega]
        end_is "sb"
end
/-! GF -/
section
/-- the nodes of a lot -/
def nodesTo (size : Nat) : List Int := (List.range size).map fun i : Nat => (i : Int)
def lotHas (lot : Int) (n : Int) : Bool := (lot.fdiv ((2 ^ n.toNat : Nat) : Int)).fmod 2 == 1
def lotOf (size : Nat) (lot : Int) : List Int := (nodesTo size).filter (lotHas lot)
def mostStep (ps : List (Int × Int)) (size : Nat) (w : Int → Int) (found lot : Int) : Int := if isClq ps (lotOf size lot) = true then max found (((lotOf size lot).map w).sum) else found
def mostOf (ps : List (Int × Int)) (size : Nat) (w : Int → Int) : Int := (nodesTo (2 ^ size)).foldl (mostStep ps size w) 0
theorem nodesTo_get {size i : Nat} {n : Int} (e : (nodesTo size)[i]? = some n) : n = (i : Int) ∧ i < size := by
  have hi := (List.getElem?_eq_some_iff.mp e).1
  have hk : i < size := by simpa [nodesTo] using hi
  unfold nodesTo at e
  rw [List.getElem?_map, List.getElem?_range hk] at e
  exact ⟨(Option.some.inj e).symm, hk⟩
theorem noPylongP (a : Int) {i : Nat} (h : i ≤ 8) : Builtin.divisionGoesByPylong a ((2 ^ i : Nat) : Int) = false := by
  unfold Builtin.divisionGoesByPylong
  rw [Bool.and_eq_false_iff]
  have hk : i = 0 ∨ i = 1 ∨ i = 2 ∨ i = 3 ∨ i = 4 ∨ i = 5 ∨ i = 6 ∨ i = 7 ∨ i = 8 := by omega
  rcases hk with rfl | rfl | rfl | rfl | rfl | rfl | rfl | rfl | rfl <;> exact .inl (by decide +kernel)
theorem T.pow2N {c : Cx} {A : Around} {Δ : Hp} {E : Value → Hp → Prop} {n : Nat} {t u : Tok} {Q : Value → Hp → Prop} (hn : n ≤ 8) (h : ∀ t, Q (.int ((2 ^ n : Nat) : Int) t) Δ) : T c A Δ (binaryOp .Pow (.int 2 t) (.int n u)) Q E :=
  T.pow2 hn fun t => by
    have e : ((2 : Int) ^ n) = ((2 ^ n : Nat) : Int) := by push_cast; rfl
    rw [e]; exact h t
theorem lawMost {c : Cx} {A : Around} {E : Value → Hp → Prop} (hA : A.depth + 40 < recursionLimit) (hh : A.handled = none) (hu : A.units + 30 < cLine) {Φ : Hp} {tl wd : Addr} {as : List Addr} {ps : List (Int × Int)} {size : Nat} {t : Tok} {wts : List (Int × Int)} {w : Int → Int} (hl : as.length = ps.length)
    (htl : (tl, PList (as.map Value.ref).toArray) ∈ Φ) (hties : ∀ p ∈ tiesHp as ps, p ∈ Φ) (hwd : (wd, PWt wts) ∈ Φ) (hw : ∀ n ∈ nodesTo size, getI wts n = some (w n)) (hs : size ≤ 6) :
    T c A Φ (call (.ref 705) [.ref tl, .int size t, .ref wd] []) (fun r Δ' => (∃ u, r = .int (mostOf ps size w) u) ∧ Sb Φ Δ') E := by
  refine T.callA [("ties", .ref tl), ("size", .int size t)] (fun L => (L + 1 + 1, PCell none) :: (L + 1, PCell (some (.ref wd))) :: Φ) (by k_is) (by k_is) (by omega) rfl rfl (by end_is "frame") (fun _ => rfl) (by decide) rfl rfl rfl fun L A' hd' hh' hun => ?_
  rw [hh] at hh'
  end_is "go"
  rename_i t0
  refine T.forW (Φ := []) (fun i Δ => ∃ t1 cv, Δ = (L, PFr [("ties", .ref tl), ("size", .int size t), ("found", .int (((nodesTo (2 ^ size)).take i).foldl (mostStep ps size w) 0) t1)]) :: (L + 1 + 1, PCell cv) :: (L + 1, PCell (some (.ref wd))) :: Φ) ?_
  end_is "go"
  refine T.pow2N (by omega) fun t2 => ?_
  end_is "go"
  refine T.range1 fun r => ?_
  have hp64 : (2 ^ size : Nat) ≤ 64 := by
    have : size = 0 ∨ size = 1 ∨ size = 2 ∨ size = 3 ∨ size = 4 ∨ size = 5 ∨ size = 6 := by omega
    rcases this with rfl | rfl | rfl | rfl | rfl | rfl | rfl <;> decide
  have hcast : ((2 ^ size : Nat) : Int) ≤ 64 ∧ 0 ≤ ((2 ^ size : Nat) : Int) := ⟨by exact_mod_cast hp64, Int.natCast_nonneg _⟩
  refine T.iterRange (by end_is "mem") (by decide) (by decide) hcast.2 (by have := hcast.1; generalize ((2 ^ size : Nat) : Int) = P at this ⊢; omega) hcast.2 fun it => ?_
  refine ⟨it, _, _, _, rfl, IW.range (k := 2 ^ size) hh', ?_, ⟨t0, none, rfl⟩, fun _ _ _ p hp => absurd hp List.not_mem_nil, ?_, ?_⟩
  · show Sb ((it, PRI 0 (((2 ^ size : Nat) : Int) - 0)) :: (L, PFr [("ties", .ref tl), ("size", .int size t), ("found", .int 0 t0)]) :: (L + 1 + 1, PCell none) :: (L + 1, PCell (some (.ref wd))) :: Φ) _
    end_is "sb"
  · rintro i lot t3 Δ e ⟨t1, cv, rfl⟩
    have hlot := nodesTo_get e
    generalize PRI ((i + 1 : Nat) : Int) (((2 ^ size : Nat) : Int) - ((i + 1 : Nat) : Int)) = PK
    rw [List.take_add_one, show (nodesTo (2 ^ size))[i]? = some lot from e, List.foldl_append]
    generalize ((nodesTo (2 ^ size)).take i).foldl (mostStep ps size w) 0 = F
    end_is "go"
    refine T.asgCompI (lotHas lot) id ?_ rfl (by decide) rfl (by decide) rfl
    end_is "go"
    refine T.range1 fun r2 => ?_
    end_is "go"
    refine T.iterRange (by end_is "mem") (by decide) (by decide) (by omega) (by omega) (by omega) fun it2 => ?_
    refine ⟨it2, _, nodesTo size, rfl, rfl, IW.range (k := size) hh', by rw [sizeLine_eq]; simp [nodesTo]; omega, fun C D ys j n t4 hn => ⟨?_, fun hp => ?_⟩, fun D C fr => ?_⟩
    · obtain ⟨rfl, hj⟩ := nodesTo_get hn
      end_is "go"
      refine T.pow2N (by omega) fun t5 => ?_
      end_is "go"
      refine T.divInt (by have : 0 < 2 ^ j := Nat.two_pow_pos j; omega) (noPylongP _ (by omega)) fun t6 => ?_
      end_is "go"
      refine T.modInt (by decide) fun t7 => ?_
      end_is "go"
      exact ⟨by simp [lotHas], rfl⟩
    · end_is "go"
      exact ⟨⟨_, rfl⟩, rfl⟩
    · end_is "go"
      refine ⟨_, _, .head, ?_⟩
      have hlo : ((nodesTo size).filter (lotHas lot)).map id = lotOf size lot := by simp [lotOf]
      rw [hlo]
      have hllen : (lotOf size lot).length ≤ 6 := by
        have := List.length_filter_le (lotHas lot) (nodesTo size)
        unfold lotOf
        simp [nodesTo] at this ⊢
        omega
      end_is "go"
      refine (lawIsClique (A := A') (as := as) (ps := ps) (by omega) hh' (by omega) hl (by end_is "mem") (fun p hp => .tail _ (.tail _ (.tail _ (.tail _ (.tail _ (.tail _ (hties p hp))))))) (.head _) (by omega)).mono (fun r Δ' => ?_) fun _ _ e => e
      rintro ⟨rfl, hsb⟩
      refine T.sb hsb ?_
      end_is "go"
      cases hcl : isClq ps (lotOf size lot) with
      | true =>
        rw [if_pos rfl, show List.foldl (mostStep ps size w) F (some lot).toList = max F ((lotOf size lot).map w).sum by show mostStep ps size w F lot = _; unfold mostStep; rw [if_pos hcl]]
        end_is "go"
        refine T.compI (fun _ => true) w ?_ rfl (by decide) rfl (by decide) rfl
        end_is "go"
        refine T.iiter (by end_is "mem") fun it3 => ?_
        refine ⟨it3, _, lotOf size lot, rfl, rfl, IW.list hh' (by end_is "mem"), sz (by omega), fun C2 D2 ys j n t4 hn => ⟨?_, fun _ => ?_⟩, fun D2 => ?_⟩
        · end_is "go"
          exact ⟨rfl, rfl⟩
        · end_is "go"
          refine T.subW (d := wd) (kvs := wts) (by end_is "mem") (hw n (List.mem_filter.mp (List.mem_of_getElem? hn)).1) fun u => ?_
          end_is "go"
          exact ⟨⟨_, rfl⟩, rfl⟩
        · have hft : (lotOf size lot).filter (fun _ => true) = lotOf size lot := List.filter_eq_self.mpr fun _ _ => rfl
          rw [hft]
          end_is "go"
          refine T.sumInts hh' (.head _) fun u => ?_
          end_is "go"
          refine T.max2 hh' fun u2 => ?_
          end_is "go"
          refine ⟨_, ?_, u2, some (.int lot t3), rfl⟩
          end_is "sb"
      | false =>
        rw [if_neg Bool.false_ne_true, show List.foldl (mostStep ps size w) F (some lot).toList = F by show mostStep ps size w F lot = _; unfold mostStep; rw [if_neg (by rw [hcl]; exact Bool.false_ne_true)]]
        end_is "go"
        refine ⟨_, ?_, t1, some (.int lot t3), rfl⟩
        end_is "sb"
  · rintro Δ ⟨t1, cv, rfl⟩
    end_is "go"
    refine ⟨_, List.Sublist.refl _, ⟨t1, ?_⟩, ?_⟩
    · show Value.int (((nodesTo (2 ^ size)).take (nodesTo (2 ^ size)).length).foldl (mostStep ps size w) 0) t1 = _
      rw [List.take_length]
      rfl
    · end_is "sb"
end
/-! Pl5 -/
section
theorem nodesTo_len {sz : Nat} : (nodesTo sz).length = sz := by simp [nodesTo]
theorem mem_nodesTo {sz : Nat} {n : Int} : n ∈ nodesTo sz ↔ 0 ≤ n ∧ n < sz := by
  unfold nodesTo
  rw [List.mem_map]
  constructor
  · rintro ⟨i, hi, rfl⟩
    have := List.mem_range.mp hi
    omega
  · rintro ⟨h0, h1⟩
    exact ⟨n.toNat, List.mem_range.mpr (by omega), by omega⟩
theorem nodesTo_nodup {sz : Nat} : (nodesTo sz).Nodup := by
  unfold nodesTo
  exact List.pairwise_map.mpr (List.nodup_range.imp fun h e => h (by omega))
theorem order_facts {turn : Int} {sz : Nat} (h1 : 1 ≤ sz) : ((nodesTo sz).map fun n => (n + turn).fmod sz).Nodup ∧ ((nodesTo sz).map fun n => (n + turn).fmod sz).length = sz ∧ ∀ n, n ∈ ((nodesTo sz).map fun n => (n + turn).fmod sz) ↔ 0 ≤ n ∧ n < sz := by
  have hp : (0 : Int) < sz := by omega
  have hf : ∀ x : Int, x.fmod sz = x % sz := fun x => Int.fmod_eq_emod_of_nonneg x (by omega)
  refine ⟨?_, by rw [List.length_map, nodesTo_len], fun n => ?_⟩
  · refine List.pairwise_map.mpr (nodesTo_nodup.imp_of_mem fun {i j} hi hj h e => h ?_)
    have hi := mem_nodesTo.mp hi
    have hj := mem_nodesTo.mp hj
    rw [hf, hf] at e
    have e2 := Int.emod_eq_emod_iff_emod_sub_eq_zero.mp e
    have e3 := Int.dvd_of_emod_eq_zero e2
    obtain ⟨k, hk⟩ := e3
    have hk0 : k = 0 := by
      rcases Int.lt_trichotomy k 0 with h | h | h
      · have : (sz : Int) * k ≤ sz * (-1) := Int.mul_le_mul_of_nonneg_left (by omega) (by omega)
        omega
      · exact h
      · have : (sz : Int) * 1 ≤ sz * k := Int.mul_le_mul_of_nonneg_left (by omega) (by omega)
        omega
    subst hk0
    omega
  · rw [List.mem_map]
    constructor
    · rintro ⟨i, _, rfl⟩
      exact ⟨Int.fmod_nonneg_of_pos _ hp, Int.fmod_lt_of_pos _ hp⟩
    · rintro ⟨a, b⟩
      refine ⟨(n - turn) % sz, mem_nodesTo.mpr ⟨Int.emod_nonneg _ (by omega), Int.emod_lt_of_pos _ hp⟩, ?_⟩
      rw [hf, Int.emod_add_emod, Int.sub_add_cancel, Int.emod_eq_of_lt a b]
theorem isClq_iff {ps : List (Int × Int)} (hp : ∀ p ∈ ps, p.1 < p.2) : ∀ {l : List Int}, l.Nodup → (isClq ps l = true ↔ ∀ a ∈ l, ∀ b ∈ l, a ≠ b → adjR ps a b = true)
  | [], _ => ⟨fun _ a ha => absurd ha List.not_mem_nil, fun _ => rfl⟩
  | a :: r, hn => by
    have hn' := List.nodup_cons.mp hn
    have ih := isClq_iff hp hn'.2
    have step : ∀ a b : Int, a ≠ b → (ps.contains (min a b, max a b) = true ↔ adjR ps a b = true) := by
      intro a b hab
      unfold adjR
      rw [Bool.or_eq_true, List.contains_iff_mem, List.contains_iff_mem, List.contains_iff_mem]
      rcases Int.lt_or_gt_of_ne hab with h | h
      · rw [show min a b = a by omega, show max a b = b by omega]
        exact ⟨.inl, fun q => q.elim id fun q => by have := hp _ q; simp at this; omega⟩
      · rw [show min a b = b by omega, show max a b = a by omega]
        exact ⟨.inr, fun q => q.elim (fun q => by have := hp _ q; simp at this; omega) id⟩
    unfold isClq
    rw [Bool.and_eq_true, ih, List.all_eq_true]
    constructor
    · rintro ⟨h1, h2⟩ x hx y hy hxy
      rcases List.mem_cons.mp hx with ex | hx1 <;> rcases List.mem_cons.mp hy with ey | hy1
      · exact absurd (ex.trans ey.symm) hxy
      · subst ex
        exact (step _ _ hxy).mp (h1 y hy1)
      · subst ey
        have := (step _ _ hxy.symm).mp (h1 x hx1)
        rw [adjR] at this ⊢
        rw [Bool.or_comm]; exact this
      · exact h2 x hx1 y hy1 hxy
    · intro h
      refine ⟨fun y hy => (step _ _ fun e : a = y => hn'.1 (e ▸ hy)).mpr (h a (.head _) y (.tail _ hy) fun e : a = y => hn'.1 (e ▸ hy)), fun x hx y hy => h x (.tail _ hx) y (.tail _ hy)⟩
theorem sum_perm {l l' : List Int} (h : List.Perm l l') : l.sum = l'.sum := by
  induction h with
  | nil => rfl
  | cons x _ ih => rw [List.sum_cons, List.sum_cons, ih]
  | swap x y l => rw [List.sum_cons, List.sum_cons, List.sum_cons, List.sum_cons]; omega
  | trans _ _ h1 h2 => exact h1.trans h2
theorem sum_pos_filter (f : Int → Int) : ∀ l : List Int, (l.map f).sum ≤ ((l.filter fun n => decide (0 < f n)).map f).sum
  | [] => Int.le_refl _
  | a :: l => by
    have ih := sum_pos_filter f l
    rw [List.map_cons, List.sum_cons, List.filter_cons]
    split
    · rw [List.map_cons, List.sum_cons]; omega
    · rename_i h
      have : ¬ 0 < f a := by simpa using h
      omega
/-- every set of the nodes is a lot -/
theorem lot_bits : ∀ b0 b1 b2 b3 b4 b5 : Bool, (lotHas (b0.toNat + 2 * b1.toNat + 4 * b2.toNat + 8 * b3.toNat + 16 * b4.toNat + 32 * b5.toNat : Nat) 0 = b0 ∧ lotHas (b0.toNat + 2 * b1.toNat + 4 * b2.toNat + 8 * b3.toNat + 16 * b4.toNat + 32 * b5.toNat : Nat) 1 = b1 ∧ lotHas (b0.toNat + 2 * b1.toNat + 4 * b2.toNat + 8 * b3.toNat + 16 * b4.toNat + 32 * b5.toNat : Nat) 2 = b2 ∧
    lotHas (b0.toNat + 2 * b1.toNat + 4 * b2.toNat + 8 * b3.toNat + 16 * b4.toNat + 32 * b5.toNat : Nat) 3 = b3 ∧ lotHas (b0.toNat + 2 * b1.toNat + 4 * b2.toNat + 8 * b3.toNat + 16 * b4.toNat + 32 * b5.toNat : Nat) 4 = b4 ∧ lotHas (b0.toNat + 2 * b1.toNat + 4 * b2.toNat + 8 * b3.toNat + 16 * b4.toNat + 32 * b5.toNat : Nat) 5 = b5) := by decide +kernel
theorem lot_of {sz : Nat} (h : sz ≤ 6) (S : Int → Bool) : ∃ lot ∈ nodesTo (2 ^ sz), lotOf sz lot = (nodesTo sz).filter S := by
  have hS : ∀ i : Nat, ∃ b : Bool, (i < sz → b = S i) ∧ (¬ i < sz → b = false) := fun i => ⟨if i < sz then S i else false, fun h => if_pos h, fun h => if_neg h⟩
  obtain ⟨b0, p0, q0⟩ := hS 0
  obtain ⟨b1, p1, q1⟩ := hS 1
  obtain ⟨b2, p2, q2⟩ := hS 2
  obtain ⟨b3, p3, q3⟩ := hS 3
  obtain ⟨b4, p4, q4⟩ := hS 4
  obtain ⟨b5, p5, q5⟩ := hS 5
  obtain ⟨r0, r1, r2, r3, r4, r5⟩ := lot_bits b0 b1 b2 b3 b4 b5
  refine ⟨((b0.toNat + 2 * b1.toNat + 4 * b2.toNat + 8 * b3.toNat + 16 * b4.toNat + 32 * b5.toNat : Nat) : Int), mem_nodesTo.mpr ⟨Int.natCast_nonneg _, ?_⟩, ?_⟩
  · have t : ∀ b : Bool, b.toNat ≤ 1 := fun b => by cases b <;> decide
    have z : ∀ b : Bool, b = false → b.toNat = 0 := fun b hb => by rw [hb]; rfl
    have := t b0; have := t b1; have := t b2; have := t b3; have := t b4; have := t b5
    have hc : sz = 0 ∨ sz = 1 ∨ sz = 2 ∨ sz = 3 ∨ sz = 4 ∨ sz = 5 ∨ sz = 6 := by omega
    have z0 : ¬ 0 < sz → b0.toNat = 0 := fun h => z _ (q0 h)
    have z1 : ¬ 1 < sz → b1.toNat = 0 := fun h => z _ (q1 h)
    have z2 : ¬ 2 < sz → b2.toNat = 0 := fun h => z _ (q2 h)
    have z3 : ¬ 3 < sz → b3.toNat = 0 := fun h => z _ (q3 h)
    have z4 : ¬ 4 < sz → b4.toNat = 0 := fun h => z _ (q4 h)
    have z5 : ¬ 5 < sz → b5.toNat = 0 := fun h => z _ (q5 h)
    rcases hc with rfl | rfl | rfl | rfl | rfl | rfl | rfl <;> omega
  · unfold lotOf
    refine List.filter_congr fun n hn => ?_
    obtain ⟨h0, h1⟩ := mem_nodesTo.mp hn
    have hc : n = 0 ∨ n = 1 ∨ n = 2 ∨ n = 3 ∨ n = 4 ∨ n = 5 := by omega
    rcases hc with rfl | rfl | rfl | rfl | rfl | rfl
    · exact r0.trans (p0 (by omega))
    · exact r1.trans (p1 (by omega))
    · exact r2.trans (p2 (by omega))
    · exact r3.trans (p3 (by omega))
    · exact r4.trans (p4 (by omega))
    · exact r5.trans (p5 (by omega))
theorem step_le {ps : List (Int × Int)} {sz : Nat} {w : Int → Int} {W : Int} (hl : ∀ lot, isClq ps (lotOf sz lot) = true → ((lotOf sz lot).map w).sum ≤ W) : ∀ (lots : List Int) (acc : Int), acc ≤ W → lots.foldl (mostStep ps sz w) acc ≤ W
  | [], acc, h => h
  | lot :: lots, acc, h => by
    rw [List.foldl_cons]
    refine step_le hl lots _ ?_
    unfold mostStep
    split
    · have := hl lot (by assumption)
      omega
    · exact h
theorem step_ge {ps : List (Int × Int)} {sz : Nat} {w : Int → Int} : ∀ (lots : List Int) (acc : Int), acc ≤ lots.foldl (mostStep ps sz w) acc
  | [], acc => Int.le_refl _
  | lot :: lots, acc => by
    rw [List.foldl_cons]
    refine Int.le_trans ?_ (step_ge lots _)
    unfold mostStep
    split <;> omega
theorem step_hit {ps : List (Int × Int)} {sz : Nat} {w : Int → Int} {lot : Int} (hq : isClq ps (lotOf sz lot) = true) : ∀ (lots : List Int) (acc : Int), lot ∈ lots → ((lotOf sz lot).map w).sum ≤ lots.foldl (mostStep ps sz w) acc
  | x :: lots, acc, h => by
    rw [List.foldl_cons]
    rcases List.mem_cons.mp h with rfl | h
    · refine Int.le_trans ?_ (step_ge lots _)
      unfold mostStep
      rw [if_pos hq]
      omega
    · exact step_hit hq lots _ h
theorem perm_of_mem : ∀ {l l' : List Int}, l.Nodup → l'.Nodup → (∀ a, a ∈ l ↔ a ∈ l') → List.Perm l l'
  | [], l', _, _, h => by
    cases l' with
    | nil => exact .refl _
    | cons b l' => exact absurd ((h b).mpr (.head _)) List.not_mem_nil
  | a :: l, l', hn, hn', h => by
    have ha : a ∈ l' := (h a).mp (.head _)
    have hc := List.nodup_cons.mp hn
    refine (List.Perm.cons a (perm_of_mem hc.2 (hn'.erase a) fun b => ?_)).trans (List.perm_cons_erase ha).symm
    rw [hn'.mem_erase_iff]
    constructor
    · intro hb
      exact ⟨fun e => hc.1 (e ▸ hb), (h b).mp (.tail _ hb)⟩
    · rintro ⟨hne, hb⟩
      exact (List.mem_cons.mp ((h b).mpr hb)).resolve_left hne
/-- the weight told is the greatest -/
theorem most_law {ps : List (Int × Int)} {sz : Nat} {wt : Int → Int} {order items : List Int} {W : Int} (hp : ∀ p ∈ ps, p.1 < p.2) (h6 : sz ≤ 6) (hoz : ∀ n, n ∈ nodesTo sz ↔ n ∈ order) (hk1 : Clq (adjR ps) items) (hk2 : ∀ v ∈ items, v ∈ order) (hW : W = wsum wt items) (hW0 : 0 ≤ W)
    (hcov : ∀ K, Clq (adjR ps) K → (∀ v ∈ K, v ∈ order ∧ 0 < wt v) → wsum wt K ≤ W) : mostOf ps sz wt = W := by
  have hnd : ∀ lot, (lotOf sz lot).Nodup := fun lot => nodesTo_nodup.filter _
  refine Int.le_antisymm ?_ ?_
  · refine step_le (fun lot hq => ?_) _ 0 hW0
    have hc : Clq (adjR ps) (lotOf sz lot) := ⟨hnd lot, (isClq_iff hp (hnd lot)).mp hq⟩
    refine Int.le_trans (sum_pos_filter wt _) ?_
    refine hcov _ (hc.sublist List.filter_sublist) fun v hv => ?_
    obtain ⟨h1, h2⟩ := List.mem_filter.mp hv
    exact ⟨(hoz v).mp (List.mem_filter.mp h1).1, of_decide_eq_true h2⟩
  · obtain ⟨lot, hlot, he⟩ := lot_of h6 fun n => decide (n ∈ items)
    have hperm : List.Perm (lotOf sz lot) items := perm_of_mem (hnd lot) hk1.1 fun a => by
      rw [he, List.mem_filter, decide_eq_true_eq]
      exact ⟨fun h => h.2, fun h => ⟨(hoz a).mpr (hk2 a h), h⟩⟩
    have hc := hk1.perm hperm.symm
    have hs := sum_perm (hperm.map wt)
    have hq := (isClq_iff hp (hnd lot)).mpr hc.2
    have := step_hit (w := wt) hq (nodesTo (2 ^ sz)) 0 hlot
    unfold mostOf
    rw [hW]
    unfold wsum
    omega
end
/-! GG -/
section
theorem Upd.app {a : Addr} {P P' : Pr} {Δ Δ' : Hp} (h : Upd a P P' Δ Δ') : ∀ X : Hp, Upd a P P' (X ++ Δ) (X ++ Δ')
  | [] => h
  | x :: X => .tail (h.app X)
abbrev kgN (gr d adj nv : Addr) : List (Str × Value) := [("graph", .ref gr), ("_node", .ref d), ("_adj", .ref adj), ("nodes", .ref nv)]
abbrev kgD (gr d adj nv dv : Addr) : List (Str × Value) := [("graph", .ref gr), ("_node", .ref d), ("_adj", .ref adj), ("nodes", .ref nv), ("degree", .ref dv)]
abbrev dvVals (adj : Addr) : List (Str × Value) := [("_succ", .ref adj), ("_pred", .ref adj), ("_nodes", .ref adj), ("_weight", .none)]
/-- the graph, its degrees read or not yet -/
def DegJ (c : Cx) (gr d adj nv gd : Addr) (pre Ψ : Hp) (Δ : Hp) : Prop := (∃ e, Δ = pre ++ (gd, PDM c.w (kgN gr d adj nv) e) :: Ψ) ∨ ∃ dv dd ed e, Δ = (dv, PInst 208 dd) :: (dd, PDS c.w (dvVals adj) ed) :: (pre ++ (gd, PDM c.w (kgD gr d adj nv dv) e) :: Ψ)
theorem Sb.past {p q : Addr × Pr} {Y : Hp} : ∀ X : Hp, Sb (X ++ (p :: q :: Y)) (p :: q :: (X ++ Y))
  | [] => .tl (List.Sublist.refl _)
  | x :: X => .dl (.tail (.tail .head)) (Sb.past X)
/-- g.degree -/
theorem degAttr {c : Cx} {A : Around} {E : Value → Hp → Prop} (hA : A.depth + 50 < recursionLimit) (hh : A.handled = none) {gr d adj nv gd g : Addr} {X pre Ψ Δ : Hp} {pl : Sem Bool} {Q : Value × List Value → Hp → Prop} (hg : (g, PInst 671 gd) ∈ Ψ) (hJ : DegJ c gr d adj nv gd pre Ψ Δ)
    (h : ∀ dv dd ed e Δ₃, Sb (X ++ ((dv, PInst 208 dd) :: (dd, PDS c.w (dvVals adj) ed) :: (pre ++ (gd, PDM c.w (kgD gr d adj nv dv) e) :: Ψ))) Δ₃ → Q (.ref dv, []) Δ₃) : T c A (X ++ Δ) (getMethod (.ref g) "degree" pl) Q E := by
  rcases hJ with ⟨e, rfl⟩ | ⟨dv, dd, ed, e, rfl⟩
  · have mg : (g, PInst 671 gd) ∈ X ++ (pre ++ (gd, PDM c.w (kgN gr d adj nv) e) :: Ψ) := List.mem_append_right _ (List.mem_append_right _ (.tail _ hg))
    have mgd : (gd, PDM c.w (kgN gr d adj nv) e) ∈ X ++ (pre ++ (gd, PDM c.w (kgN gr d adj nv) e) :: Ψ) := List.mem_append_right _ (List.mem_append_right _ (.head _))
    refine T.usualM (clsGraph _) mg mgd (by k_is) (by rfl) ?_
    refine T.getBindM (clsGraph _) mg mgd rfl (by k_is) (by k_is) (by k_is) (by decide) ?_
    refine (degreeGet (A := A.in1) (Δ' := []) (D := fun dv e' => X ++ (pre ++ (gd, PDM c.w (kgD gr d adj nv dv) e') :: Ψ)) (by show A.depth + 40 < _; omega) (show A.in1.handled = none from hh) mg mgd rfl rfl rfl rfl (by show 4 ≤ 100; decide) (fun dv e' => (Upd.head.app pre).app X)).mono (fun r Δ2 => ?_) fun _ _ x => x
    rintro ⟨dv, dd, ed, e', rfl, rfl⟩
    exact ⟨rfl, h dv dd ed e' _ (Sb.past X)⟩
  · have mg : (g, PInst 671 gd) ∈ X ++ ((dv, PInst 208 dd) :: (dd, PDS c.w (dvVals adj) ed) :: (pre ++ (gd, PDM c.w (kgD gr d adj nv dv) e) :: Ψ)) := List.mem_append_right _ (.tail _ (.tail _ (List.mem_append_right _ (.tail _ hg))))
    have mgd : (gd, PDM c.w (kgD gr d adj nv dv) e) ∈ X ++ ((dv, PInst 208 dd) :: (dd, PDS c.w (dvVals adj) ed) :: (pre ++ (gd, PDM c.w (kgD gr d adj nv dv) e) :: Ψ)) := List.mem_append_right _ (.tail _ (.tail _ (List.mem_append_right _ (.head _))))
    refine T.usualM (clsGraph _) mg mgd (by k_is) (by rfl) ?_
    exact T.getKeptM (clsGraph _) mg mgd (v := .ref dv) rfl (by k_is) (by k_is) (by k_is) rfl (h dv dd ed e _ (.tl (List.Sublist.refl _)))
theorem findMax {c : Cx} {A : Around} {E : Value → Hp → Prop} (hA : A.depth + 300 < recursionLimit) (hh : A.handled = none) {R : Int → Int → Bool} {wts : List (Int × Int)} {wt : Int → Int} {order : List Int} {m md g gd gr d adj nv nd nw inc : Addr} {kd ka : List (Int × Value)} {ed ea eg en em : Nat} {t0 : Tok} {Ψ : Hp}
    (hsym : ∀ a b, R a b = R b a) (hwt : ∀ p ∈ order, getI wts p = some (wt p)) (hn : order.Nodup) (hz : order.length ≤ 60) (hkd : kd.map (·.1) = order)
    (hm : (m, PInst 63 md) ∈ Ψ) (hg : (g, PInst 671 gd) ∈ Ψ) (hnv : (nv, PSl 130 nd #[some (.ref d)]) ∈ Ψ) (hnd : (nd, PDS c.w [] en) ∈ Ψ) (hd : (d, PDI kd ed) ∈ Ψ) (hadj : (adj, PDI ka ea) ∈ Ψ) (hnw : (nw, PWt wts) ∈ Ψ) (h47 : (47, PTab) ∈ Ψ)
    (hrows : ∀ u ∈ order, ∃ nb k, valueAt ka u = some (.ref nb) ∧ (nb, PNb (R u) k) ∈ Ψ ∧ k ≤ 1000) :
    T c A ((57, PIs (tabObj #[])) :: (gd, PDM c.w (kgN gr d adj nv) eg) :: (md, PDS c.w (kmOf g inc 0 t0 nw) em) :: (inc, PInts []) :: Ψ) (call (.ref 60) [.ref m] []) (fun r Δ' => r = .none ∧ ∃ W items inc t em, Sb ((md, PDS c.w (kmOf g inc W t nw) em) :: (inc, PInts items) :: (57, PTab) :: Ψ) Δ' ∧ IncOk R wt order W items ∧ ∀ K, Clq R K → (∀ v ∈ K, v ∈ order ∧ 0 < wt v) → wsum wt K ≤ W) E := by
  refine T.callA [] (fun L => (L + 1, PCell (some (.ref m))) :: (57, PIs (tabObj #[])) :: (gd, PDM c.w (kgN gr d adj nv) eg) :: (md, PDS c.w (kmOf g inc 0 t0 nw) em) :: (inc, PInts []) :: Ψ) (by k_is) (by k_is) (by omega) rfl rfl (by end_is "frame") (fun _ => rfl) (by decide) rfl rfl rfl fun L A' hd' hh' hun => ?_
  rw [hh] at hh'
  end_is "go"
  refine T.eArgsKw rfl ?_
  end_is "go"
  refine T.getOwn (clsMWC _) (by end_is "mem") (by end_is "mem") kmOf_G (by k_is) (by k_is) rfl ?_
  refine T.usualM (C := 671) (clsGraph _) (.tail _ (.tail _ (.tail _ (.tail _ (.tail _ (.tail _ hg)))))) (by end_is "mem") (by k_is) (by rfl) ?_
  refine T.getKeptM (C := 671) (clsGraph _) (.tail _ (.tail _ (.tail _ (.tail _ (.tail _ (.tail _ hg)))))) (by end_is "mem") (v := .ref nv) rfl (by k_is) (by k_is) (by k_is) rfl ?_
  have iNv : ∀ {Δ' : Hp}, (∀ p ∈ Ψ, p ∈ Δ') → IsInst c Δ' nv 130 := fun h => ⟨nd, _, _, en, h _ hnv, h _ hnd⟩
  refine T.cw ?_
  end_is "go"
  refine T.keeperObj (iNv fun p hp => .tail _ (.tail _ (.tail _ (.tail _ (.tail _ (.tail _ hp)))))) ?_
  refine (nvCall (A := A') (by omega) (iNv fun p hp => .tail _ (.tail _ (.tail _ (.tail _ (.tail _ (.tail _ hp))))))).mono (fun r Δ2 => ?_) fun _ _ e => e
  rintro ⟨rfl, rfl⟩
  end_is "go"
  show T _ _ _ (evalAll [do let v ← eval _ _; standAt _; Pure.pure v, do let v ← eval _ _; standAt _; Pure.pure v]) _ _
  end_is "go"
  refine T.lambda (cd := 59) (P := 57) rfl rfl rfl rfl (by kernel_rfl) (.tail (.tail .head)) fun f c' pm ctv => ?_
  end_is "go"
  show T _ _ _ (call (.builtin "sorted") [.ref nv] [("key", .ref f), ("reverse", .bool true)]) _ _
  have hlen : kd.length ≤ 60 := by rw [← hkd, List.length_map] at hz; exact hz
  have nvok : ∀ {Δ2 : Hp}, (∀ p ∈ Ψ, p ∈ Δ2) → NvOk c Δ2 nv d kd ed := fun h => ⟨nd, en, h _ hnv, h _ hnd, h _ hd⟩
  generalize hpre : ([(f, PIs (kla_obj "<lambda>" _ _ _ _ _ pm c' ctv)), (c', PRec _), (L, PFr []), (L + 1, PCell (some (.ref m))), (57, PTab)] : Hp) = pre
  refine T.sortedKey (ns := order) (DegJ c gr d adj nv gd pre ((md, PDS c.w (kmOf g inc 0 t0 nw) em) :: (inc, PInts []) :: Ψ)) (.inl ⟨eg, by rw [← hpre]; rfl⟩) (by omega) ?_ ?_ ?_
  · refine T.collectObj (C := 130) (fi := 104) (fl := 97) (d := d) (kvs := kd) (ep := ed) hh' (iNv fun p hp => .tail _ (.tail _ (.tail _ (.tail _ (.tail _ (.tail _ (.tail _ (.tail _ hp)))))))) (by k_is) (by k_is) (by k_is) (by k_is) (.tail _ (.tail _ (.tail _ (.tail _ (.tail _ (.tail _ (.tail _ (.tail _ hd)))))))) (by omega) ?_ ?_ ?_
    · intro A2 Δ2 e1 e2 hs
      exact nvIter (by rw [e1]; show A'.depth + 10 < _; omega) (nvok fun p hp => hs _ (.tail _ (.tail _ (.tail _ (.tail _ (.tail _ (.tail _ (.tail _ (.tail _ hp)))))))))
    · intro A2 Δ2 e1 e2 hs
      exact nvLen (by rw [e1]; show A'.depth + 10 < _; omega) (nvok fun p hp => hs _ (.tail _ (.tail _ (.tail _ (.tail _ (.tail _ (.tail _ (.tail _ (.tail _ hp))))))))) (by omega)
    · intro vs hvs
      exact ⟨hkd ▸ hvs, rfl⟩
  · intro A2 X Δ2 e1 e2 hJ n hn' t
    have mpre : ∀ p ∈ pre, p ∈ Δ2 := fun p hp => by
      rcases hJ with ⟨e, rfl⟩ | ⟨dv, dd, ed', e, rfl⟩
      · exact List.mem_append_left _ hp
      · exact .tail _ (.tail _ (List.mem_append_left _ hp))
    have mpsi : ∀ p ∈ ((md, PDS c.w (kmOf g inc 0 t0 nw) em) :: (inc, PInts []) :: Ψ), p ∈ Δ2 := fun p hp => by
      rcases hJ with ⟨e, rfl⟩ | ⟨dv, dd, ed', e, rfl⟩
      · exact List.mem_append_right _ (.tail _ hp)
      · exact .tail _ (.tail _ (List.mem_append_right _ (.tail _ hp)))
    have mx : ∀ p ∈ Δ2, p ∈ X ++ Δ2 := fun p hp => List.mem_append_right _ hp
    refine T.callLam (binds := [("v", .int n t)]) [("v", .int n t)] (mx _ (mpre _ (by rw [← hpre]; exact .head _))) (mx _ (mpre _ (by rw [← hpre]; exact .tail _ (.head _)))) (by rw [e1]; omega) rfl (by intro y hy; rw [List.mem_singleton.mp hy]; rfl) (by intro p hp; rw [List.mem_singleton.mp hp]; rfl) (by decide) rfl rfl rfl fun L2 A3 h3 h4 => ?_
    refine T.callAttr ?_
    refine T.getAttrE ?_
    refine T.nameFree rfl (.tail _ (mx _ (mpre _ (by rw [← hpre]; exact .tail _ (.tail _ (.tail _ (.head _))))))) ?_ rfl rfl rfl rfl
    refine T.getOwn (clsMWC _) (.tail _ (mx _ (mpsi _ (.tail _ (.tail _ hm))))) (.tail _ (mx _ (mpsi _ (.head _)))) kmOf_G (by k_is) (by k_is) rfl ?_
    refine degAttr (X := (L2, PFr [("v", .int n t)]) :: X) (by rw [h3, e1]; omega) (by rw [h4, e2]; exact hh') (.tail _ (.tail _ hg)) hJ fun dv dd ed2 e Δ3 hsb => ?_
    refine T.sb hsb ?_
    have mD : ∀ p ∈ ((dv, PInst 208 dd) :: (dd, PDS c.w (dvVals adj) ed2) :: (pre ++ (gd, PDM c.w (kgD gr d adj nv dv) e) :: (md, PDS c.w (kmOf g inc 0 t0 nw) em) :: (inc, PInts []) :: Ψ)), p ∈ (L2, PFr [("v", .int n t)]) :: X ++ ((dv, PInst 208 dd) :: (dd, PDS c.w (dvVals adj) ed2) :: (pre ++ (gd, PDM c.w (kgD gr d adj nv dv) e) :: (md, PDS c.w (kmOf g inc 0 t0 nw) em) :: (inc, PInts []) :: Ψ)) := fun p hp => List.mem_append_right _ hp
    have mP : ∀ p ∈ Ψ, p ∈ (L2, PFr [("v", .int n t)]) :: X ++ ((dv, PInst 208 dd) :: (dd, PDS c.w (dvVals adj) ed2) :: (pre ++ (gd, PDM c.w (kgD gr d adj nv dv) e) :: (md, PDS c.w (kmOf g inc 0 t0 nw) em) :: (inc, PInts []) :: Ψ)) := fun p hp => mD _ (.tail _ (.tail _ (List.mem_append_right _ (.tail _ (.tail _ (.tail _ hp))))))
    have hdv : DvOk c ((L2, PFr [("v", .int n t)]) :: X ++ ((dv, PInst 208 dd) :: (dd, PDS c.w (dvVals adj) ed2) :: (pre ++ (gd, PDM c.w (kgD gr d adj nv dv) e) :: (md, PDS c.w (kmOf g inc 0 t0 nw) em) :: (inc, PInts []) :: Ψ))) dv order := ⟨dd, _, ed2, adj, ka, ea, mD _ (.head _), mD _ (.tail _ (.head _)), rfl, rfl, rfl, mP _ hadj, fun u hu => by
      obtain ⟨nb, k, q1, q2, q3⟩ := hrows u hu
      exact ⟨nb, _, k, q1, mP _ q2, q3⟩⟩
    refine T.cw ?_
    dsimp only [List.cons_append] at hdv ⊢
    end_is "go"
    refine T.keeperObj hdv.inst ?_
    refine (dvCall (A := A3) (by rw [h3, e1]; omega) hdv hn').mono (fun r Δ4 => ?_) fun _ _ e => e
    rintro ⟨hr, rfl⟩
    exact ⟨_, List.Sublist.cons _ (List.Sublist.refl _), hr, _, .inr ⟨dv, dd, ed2, e, rfl⟩, .tl (List.Sublist.refl _)⟩
  · intro l ns' Δ2 hJ hp
    have hX : ∃ (kg : List (Str × Value)) (e : Nat), valueAt kg "_adj" = some (.ref adj) ∧ valueAt kg "has_edge" = none ∧ Sb ((l, PInts ns') :: (L, PFr []) :: (L + 1, PCell (some (.ref m))) :: (md, PDS c.w (kmOf g inc 0 t0 nw) em) :: (inc, PInts []) :: (gd, PDM c.w kg e) :: (57, PTab) :: Ψ) ((l, PInts ns') :: Δ2) := by
      subst hpre
      rcases hJ with ⟨e, rfl⟩ | ⟨dv, dd, ed', e, rfl⟩
      · refine ⟨kgN gr d adj nv, e, rfl, rfl, ?_⟩
        dsimp only [List.cons_append, List.nil_append]
        end_is "sb"
      · refine ⟨kgD gr d adj nv dv, e, rfl, rfl, ?_⟩
        dsimp only [List.cons_append, List.nil_append]
        end_is "sb"
    obtain ⟨kg, eg', hk1, hk2, hsb⟩ := hX
    refine T.sb hsb ?_
    end_is "go"
    refine T.asgCompI (fun n => decide (0 < wt n)) id ?_ rfl (by decide) rfl (by decide) rfl
    end_is "go"
    refine T.iiter (by end_is "mem") fun it => ?_
    refine ⟨it, PLIter l, ns', rfl, rfl, IW.list hh' (by end_is "mem"), sz (by rw [hp.length_eq]; omega), fun C D ys i n t hn' => ⟨?_, fun hp' => ?_⟩, fun D C fr => ?_⟩
    · end_is "go"
      refine T.getOwn (clsMWC _) (by end_is "mem") (by end_is "mem") kmOf_N (by k_is) (by k_is) rfl ?_
      end_is "go"
      refine T.subW (d := nw) (kvs := wts) (by end_is "mem") (hwt n (hp.mem_iff.mp (List.mem_of_getElem? hn'))) fun u => ?_
      end_is "go"
      exact ⟨rfl, rfl⟩
    · end_is "go"
      exact ⟨⟨_, rfl⟩, rfl⟩
    · end_is "go"
      refine ⟨_, _, .head, ?_⟩
      end_is "go"
      refine T.method (f := 55) (clsMWC _) (by end_is "mem") (by end_is "mem") rfl (by k_is) (by k_is) ?_
      end_is "go"
      rename_i C0 t1 kp
      rw [List.map_id]
      have hpsub : ∀ p ∈ ns'.filter (fun n => decide (0 < wt n)), p ∈ order ∧ 0 < wt p := fun p hp' => ⟨hp.mem_iff.mp (List.mem_filter.mp hp').1, of_decide_eq_true (List.mem_filter.mp hp').2⟩
      have hplen : (ns'.filter (fun n => decide (0 < wt n))).length ≤ 60 := Nat.le_trans (List.length_filter_le _ _) (by rw [hp.length_eq]; exact hz)
      refine (expand (R := R) (dom := order) (wts := wts) (wt := wt) (m := m) (md := md) (g := g) (nw := nw) hsym hwt 60 (A := A') (Φ := (C0, PInts []) :: (gd, PDM c.w kg eg') :: (L, PFr [("nodes", .ref D)]) :: (L + 1, PCell (some (.ref m))) :: (57, PTab) :: Ψ) (C := C0) (P := D) (inc := inc) (t := t0) (em := em) (W := 0) (items := []) (cs := []) (ps := ns'.filter (fun n => decide (0 < wt n))) (cw := 0) (tw := t1)
        hplen (by omega) hh' ⟨gd, kg, eg', adj, ka, ea, .tail _ (.tail _ (.tail _ (.tail _ (.tail _ hg)))), .tail _ (.head _), hk1, hk2, .tail _ (.tail _ (.tail _ (.tail _ (.tail _ hadj)))), fun u hu => by
          obtain ⟨nb, k, q1, q2, q3⟩ := hrows u hu
          exact ⟨nb, k, q1, .tail _ (.tail _ (.tail _ (.tail _ (.tail _ q2))))⟩⟩
        (by end_is "mem") (by end_is "mem") (by end_is "mem") (.head _) (by simp; omega) ((hp.nodup_iff.mpr hn).filter _) (fun p hp' => (hpsub p hp').1) (fun p hp' => (hpsub p hp').2)
        ⟨List.nodup_nil, fun a ha => absurd ha List.not_mem_nil⟩ (fun v hv => absurd hv List.not_mem_nil) (fun p hp' a ha => absurd ha List.not_mem_nil) rfl (Int.le_refl _) ⟨⟨List.nodup_nil, fun a ha => absurd ha List.not_mem_nil⟩, fun v hv => absurd hv List.not_mem_nil, rfl, Int.le_refl _, Nat.zero_le _⟩ (by end_is "sb")).mono (fun r Δ5 => ?_) fun _ _ e => e
      rintro ⟨rfl, W', items', ⟨inc', t', em', hsb'⟩, hW, hInc, hcov⟩
      refine ⟨trivial, ?_⟩
      refine T.sb hsb' ?_
      end_is "go"
      refine ⟨_, List.Sublist.refl _, rfl, W', items', inc', t', em', ?_, hInc, fun K hK hv => ?_⟩
      · end_is "sb"
      · have := hcov K hK fun v hv' => List.mem_filter.mpr ⟨hp.mem_iff.mpr (hv v hv').1, decide_eq_true (hv v hv').2⟩
        omega
end
/-! GH -/
section
/-- g.nodes, the first time -/
theorem nodesAttr {c : Cx} {A : Around} {E : Value → Hp → Prop} (hA : A.depth + 60 < recursionLimit) (hh : A.handled = none) {gr d adj gd g : Addr} {eg : Nat} {X Ψ : Hp} {pl : Sem Bool} {Q : Value × List Value → Hp → Prop} (hg : (g, PInst 671 gd) ∈ Ψ)
    (h : ∀ nv nd e', Q (.ref nv, []) ((nv, PSl 130 nd #[some (.ref d)]) :: (nd, PDS c.w [] 0) :: (X ++ (gd, PDM c.w (kgN gr d adj nv) e') :: Ψ))) : TN c A (X ++ (gd, PDS c.w (kgOf gr d adj) eg) :: Ψ) (getMethod (.ref g) "nodes" pl) Q E := by
  have mg : ∀ P, (g, PInst 671 gd) ∈ X ++ (gd, P) :: Ψ := fun P => List.mem_append_right _ (.tail _ hg)
  have mgd : (gd, PDS c.w (kgOf gr d adj) eg) ∈ X ++ (gd, PDS c.w (kgOf gr d adj) eg) :: Ψ := List.mem_append_right _ (.head _)
  refine TN.usual (clsGraph _) (mg _) mgd (by k_is) (by rfl) ?_
  refine TN.getBind (clsGraph _) (mg _) mgd rfl (by k_is) (by k_is) (by k_is) (by decide) ?_
  refine (nodesGet (A := A.in1) (Δm := X ++ (gd, PDM c.w (kgOf gr d adj) eg) :: Ψ) (D := fun nv e' => X ++ (gd, PDM c.w (kgN gr d adj nv) e') :: Ψ) (by show A.depth + 40 < _; omega) (show A.in1.handled = none from hh) (mg _) rfl rfl (by show 3 ≤ 100; decide) (Upd.head.app X) (mg _) (fun nv e' => Upd.head.app X)).mono (fun r Δ2 => ?_) fun _ _ x => x
  rintro ⟨nv, nd, e', rfl, rfl⟩
  exact ⟨rfl, h nv nd e'⟩
/-- the first part of MaxWeightClique.__init__: no name -/
theorem mwcInit0 {c : Cx} {A : Around} {E : Value → Hp → Prop} (hA : A.depth + 100 < recursionLimit) (hh : A.handled = none) {order : List Int} {m md g gd gr d adj : Addr} {kd : List (Int × Value)} {ed eg : Nat} {Ψ : Hp}
    (hn : order.Nodup) (hz : order.length ≤ 60) (hkd : kd.map (·.1) = order) (hg : (g, PInst 671 gd) ∈ Ψ) (hd : (d, PDI kd ed) ∈ Ψ) :
    TCN c A ((m, PInst 63 md) :: (md, PDS c.w [] 0) :: (gd, PDS c.w (kgOf gr d adj) eg) :: Ψ) (.call (.ref 33) ⟨[.ref m, .ref g, .none], []⟩) (fun r Δ' => match r with
      | .ok (.ret v) => v = .none ∧ ∃ inc nw nv nd t em eg', Sb ((m, PInst 63 md) :: (md, PDS c.w (kmOf g inc 0 t nw) em) :: (inc, PInts []) :: (nw, PWt (order.map fun n => (n, 1))) :: (nv, PSl 130 nd #[some (.ref d)]) :: (nd, PDS c.w [] 0) :: (gd, PDM c.w (kgN gr d adj nv) eg') :: Ψ) Δ'
      | .ok _ => False | .error e => E e Δ') := by
  refine TN.callKE (Q := fun v Δ' => v = .none ∧ ∃ inc nw nv nd t em eg', Sb ((m, PInst 63 md) :: (md, PDS c.w (kmOf g inc 0 t nw) em) :: (inc, PInts []) :: (nw, PWt (order.map fun n => (n, 1))) :: (nv, PSl 130 nd #[some (.ref d)]) :: (nd, PDS c.w [] 0) :: (gd, PDM c.w (kgN gr d adj nv) eg') :: Ψ) Δ') [("self", .ref m)] (fun L => (L + 2, PCell (some .none)) :: (L + 1, PCell (some (.ref g))) :: (m, PInst 63 md) :: (md, PDS c.w [] 0) :: (gd, PDS c.w (kgOf gr d adj) eg) :: Ψ) (by k_is) (by k_is) (by omega) (fun _ => rfl) rfl (by end_is "frame") (fun _ => rfl) (by decide) rfl rfl rfl fun L A' hd' hh' _ hfr => ?_
  rw [hh] at hh'
  clear hfr
  refine TN.mono (E := NoE) ?_ (fun _ _ q => q) (fun _ _ x => x.elim)
  refine TN.execsCons (TN.of ?_)
  end_is "go"
  refine T.setOwn (clsMWC _) (by end_is "mem") (fun ep' => by k_upd) (by k_is) (by show 0 ≤ 1000; decide) fun ep1 => ?_
  refine TN.execsCons (TN.of ?_)
  end_is "go"
  refine T.setOwn (clsMWC _) (by end_is "mem") (fun ep' => by k_upd) (by k_is) (by show 1 ≤ 1000; decide) fun ep2 => ?_
  refine TN.execsCons (TN.of ?_)
  end_is "go"
  refine T.setOwn (clsMWC _) (by end_is "mem") (fun ep' => by k_upd) (by k_is) (by show 2 ≤ 1000; decide) fun ep3 => ?_
  refine TN.execsCons (TN.ifS ?_)
  end_is "go"
  rename_i hun ginc tk
  refine T.isP true rfl rfl ?_
  end_is "go"
  rw [if_pos rfl]
  refine TN.execsCons (TN.assignAttr (TN.compW (fun _ => 1) (TN.callAttr ?_) rfl (by decide) rfl (by decide) rfl rfl))
  end_is "go"
  refine nodesAttr (A := A') (X := [_, _, _, _, _, _]) (by omega) hh' hg fun nv nd e' => ?_
  dsimp only [List.cons_append, List.nil_append]
  refine TN.of (T.cw ?_)
  end_is "go"
  have iNv : ∀ {Δ' : Hp}, (∀ p ∈ ((nv, PSl 130 nd #[some (.ref d)]) :: (nd, PDS c.w [] 0) :: [] : Hp), p ∈ Δ') → IsInst c Δ' nv 130 := fun h => ⟨nd, _, _, 0, h _ (.head _), h _ (.tail _ (.head _))⟩
  refine T.keeperObj (iNv (by end_is "fsub")) ?_
  refine (nvCall (A := A') (by omega) (iNv (by end_is "fsub"))).mono (fun r Δ2 => ?_) fun _ _ e => e
  rintro ⟨rfl, rfl⟩
  refine T.iterObj (C := 130) (f := 104) (iNv (by end_is "fsub")) (by k_is) (by k_is) ?_
  refine (nvIter (A := A') (by omega) ⟨nd, 0, .head _, .tail _ (.head _), by end_is "mem"⟩).mono (fun r Δ2 => ?_) fun _ _ e => e
  rintro ⟨it, rfl, rfl⟩
  refine ⟨⟨_, _, _, _, it, rfl, .head _⟩, it, (fun i => PKIter d i kd.length ed), order, rfl, rfl, hkd ▸ IW.keys hh' (by end_is "mem"), sz (by omega), hn, fun C D ys i n t hn' => ?_, fun D => ?_⟩
  · end_is "go"
    exact ⟨⟨_, rfl⟩, rfl⟩
  end_is "go"
  refine T.setOwn (clsMWC _) (by end_is "mem") (fun ep' => by k_upd) (by k_is) (by show 3 ≤ 1000; decide) fun ep4 => ?_
  refine TN.of (T.execsNil ?_)
  show TN _ _ _ _ _ _
  refine TN.of (T.execsNil ?_)
  refine ⟨_, List.Sublist.refl _, rfl, ?_⟩
  refine ⟨ginc, D, nv, nd, tk, ep4, e', ?_⟩
  show Sb _ ((D, PWt _) :: (nv, _) :: (nd, _) :: (ginc, _) :: (L, _) :: (L + 2, _) :: (L + 1, _) :: (m, _) :: (md, PDS c.w (kmOf g ginc 0 tk D) ep4) :: _)
  end_is "sb"
end
/-! GI -/
section
/-- a for loop over ints, with exceptions -/
theorem TN.forX {c : Cx} {A : Around} {Δ : Hp} {E : Value → Hp → Prop} {env : Env} {x : Str} {px pos : Pos} {iter : Expr} {body : List Stmt} {Q : Flow → Hp → Prop} {Φ : Hp} (J : Nat → Hp → Prop)
    (h : TN c A Δ (eval iter env) (fun xv Δ₁ => T c A Δ₁ (pyIter xv) (fun itv Δ₂ => ∃ it S ns Δ₃, itv = .ref it ∧ IW c A it S Φ ns ∧ Sb ((it, S 0) :: Δ₃) Δ₂ ∧ J 0 Δ₃ ∧ (∀ i Δ, J i Δ → ∀ p ∈ Φ, p ∈ Δ) ∧
      (∀ i n t Δ, ns[i]? = some n → J i Δ → T c A ((it, S (i + 1)) :: Δ) (storeName env x (.int n t)) (fun _ Δ₄ => T c A Δ₄ (execs body env) (fun f Δ₅ => match f with
        | .next => ∃ Δ₆, Sb ((it, S (i + 1)) :: Δ₆) Δ₅ ∧ J (i + 1) Δ₆
        | .cont => ∃ Δ₆, Sb ((it, S (i + 1)) :: Δ₆) Δ₅ ∧ J (i + 1) Δ₆
        | .brk => Q .next Δ₅
        | .ret v => Q (.ret v) Δ₅) (OutLoop c A env E)) (OutLoop c A env E)) ∧ (∀ Δ, J ns.length Δ → Q .next Δ)) E) E)
    (hf : ∀ x, foldedSetIterable iter env x = pure x := by intro _; k_dflt rfl) : TN c A Δ (exec (.For (.Name x px) iter body [] pos) env) Q E := by
  refine TN.forE (h.mono (fun xv Δ₁ q => q.mono (fun itv Δ₂ => ?_) fun _ _ e => e) fun _ _ e => e) hf (fun _ _ => rfl)
  rintro ⟨it, S, ns, Δ₃, rfl, W, hsb, hJ, hΦ, step, fin⟩
  refine ⟨fun n Δ => ∃ i Δ₃, n = ns.length - i ∧ i ≤ ns.length ∧ Sb ((it, S i) :: Δ₃) Δ ∧ J i Δ₃, ns.length, ⟨0, Δ₃, rfl, Nat.zero_le _, hsb, hJ⟩, ?_⟩
  rintro n Δ ⟨i, Δ₃, rfl, hi, hsb, hJ⟩
  refine T.sb hsb ?_
  cases e : ns[i]? with
  | none =>
    have hi' : i = ns.length := by have := List.getElem?_eq_none_iff.mp e; omega
    subst hi'
    exact W.done _ _ (fun p hp => .tail _ (hΦ _ _ hJ p hp)) .head _ _ (T.execsNil (fin _ hJ))
  | some n =>
    have hlt := (List.getElem?_eq_some_iff.mp e).1
    refine W.item i n e _ _ (fun p hp => .tail _ (hΦ _ _ hJ p hp)) .head _ _ fun t => ?_
    refine T.asName ((step i n t _ e hJ).mono (fun _ Δ₄ q => q.mono (fun f Δ₅ q => ?_) fun _ _ e => e) fun _ _ e => e)
    cases f with
    | next => obtain ⟨Δ₆, s6, j6⟩ := q; exact ⟨ns.length - (i + 1), by omega, i + 1, Δ₆, rfl, hlt, s6, j6⟩
    | cont => obtain ⟨Δ₆, s6, j6⟩ := q; exact ⟨ns.length - (i + 1), by omega, i + 1, Δ₆, rfl, hlt, s6, j6⟩
    | brk => exact q
    | ret v => exact q
/-- an exception made in a loop leaves the def -/
theorem outOfLoop {c : Cx} {A : Around} {Δ : Hp} {env : Env} {E' : Value → Hp → Prop} {L ex : Addr} {cls : String} {outer : List Env} (hfr : A.frames = some (env :: outer)) (hl : ∀ e ∈ env :: outer, e.scope.kind ≠ .module ∧ ∃ L fr, e.frame = some L ∧ (L, PFr fr) ∈ Δ) (hf : env.frame = some L)
    (h : ∀ b, E' (.ref ex) ((b, PTb .none) :: (ex, PEx cls (.ref b)) :: Δ)) : OutLoop c A env (fun e Δ₂ => T c A Δ₂ (leaving env e) (fun _ Δ₃ => E' e Δ₃) NoE) (.ref ex) ((ex, PEx cls .none) :: Δ) := by
  refine T.noteFirst (D := fun b => (ex, PEx cls (.ref b)) :: Δ) hfr (fun e he => ?_) hf (fun b => .head) fun b => ?_
  · obtain ⟨h1, L', fr, h2, h3⟩ := hl e he
    exact ⟨h1, L', fr, h2, .tail _ h3⟩
  refine T.cameBack hf (.tail _ (.head _)) .head ?_
  exact T.leaveSame hf (.tail _ (.head _)) .head (h b)
def badAt (a : Int → NA) : List Int → Option String
  | [] => none
  | v :: r => match a v with | .key => some "KeyError" | .bad => some "ValueError" | .num _ => badAt a r
def NA.val : NA → Int
  | .num k => k
  | _ => 0
def InitErr (c : Cx) (a : Int → NA) (order : List Int) (Ψ : Hp) : Value → Hp → Prop := fun e Δ' => ∃ cls ex b, e = .ref ex ∧ badAt a order = some cls ∧ Sb ((ex, PEx cls (.ref b)) :: (b, PTb .none) :: Ψ) Δ'
theorem badAt_step {a : Int → NA} : ∀ {order : List Int} {i : Nat}, (∀ v ∈ order.take i, ∃ k, a v = .num k) → badAt a order = badAt a (order.drop i)
  | [], i, h => by simp
  | v :: r, 0, h => rfl
  | v :: r, i + 1, h => by
    obtain ⟨k, hk⟩ := h v (by simp)
    rw [List.drop_succ_cons, ← badAt_step (order := r) (i := i) fun w hw => h w (by simp [hw])]
    simp only [badAt, hk]
theorem drop_get {order : List Int} {i : Nat} {n : Int} (h : order[i]? = some n) : order.drop i = n :: order.drop (i + 1) := by
  obtain ⟨h1, h2⟩ := List.getElem?_eq_some_iff.mp h
  rw [List.drop_eq_getElem_cons h1, h2]
theorem take_get {order : List Int} {i : Nat} {n v : Int} (h : order[i]? = some n) (hv : v ∈ order.take (i + 1)) : v ∈ order.take i ∨ v = n := by
  rw [List.take_add_one, h] at hv
  simpa using hv
theorem mwcInitW {c : Cx} {A : Around} (hA : A.depth + 100 < recursionLimit) (hh : A.handled = none) {order : List Int} {a : Int → NA} {m md g gd gr d adj : Addr} {kd : List (Int × Value)} {ed eg : Nat} {Ψ : Hp} {tw : Tok}
    (hn : order.Nodup) (hz : order.length ≤ 60) (hkd : kd.map (·.1) = order) (hr : ∀ v ∈ order, 0 ≤ v ∧ v < 6) (hg : (g, PInst 671 gd) ∈ Ψ) (hd : (d, PDI kd ed) ∈ Ψ) (hat : ∀ v ∈ order, ∃ at', valueAt kd v = some (.ref at') ∧ (at', PAt c.w (a v)) ∈ Ψ) (hF : FrOk A Ψ) :
    TCN c A ((m, PInst 63 md) :: (md, PDS c.w [] 0) :: (gd, PDS c.w (kgOf gr d adj) eg) :: Ψ) (.call (.ref 33) ⟨[.ref m, .ref g, .str "w" tw], []⟩) (fun r Δ' => match r with
      | .ok (.ret v) => v = .none ∧ badAt a order = none ∧ ∃ inc nw nv nd t em eg', Sb ((m, PInst 63 md) :: (md, PDS c.w (kmOf g inc 0 t nw) em) :: (inc, PInts []) :: (nw, PWt (order.map fun n => (n, (a n).val))) :: (nv, PSl 130 nd #[some (.ref d)]) :: (nd, PDS c.w [] 0) :: (gd, PDM c.w (kgN gr d adj nv) eg') :: Ψ) Δ'
      | .ok _ => False | .error e => InitErr c a order Ψ e Δ') := by
  refine TN.callKE (E := InitErr c a order Ψ) (Q := fun v Δ' => v = .none ∧ badAt a order = none ∧ ∃ inc nw nv nd t em eg', Sb ((m, PInst 63 md) :: (md, PDS c.w (kmOf g inc 0 t nw) em) :: (inc, PInts []) :: (nw, PWt (order.map fun n => (n, (a n).val))) :: (nv, PSl 130 nd #[some (.ref d)]) :: (nd, PDS c.w [] 0) :: (gd, PDM c.w (kgN gr d adj nv) eg') :: Ψ) Δ') [("self", .ref m)] (fun L => (L + 2, PCell (some (.str "w" tw))) :: (L + 1, PCell (some (.ref g))) :: (m, PInst 63 md) :: (md, PDS c.w [] 0) :: (gd, PDS c.w (kgOf gr d adj) eg) :: Ψ) (by k_is) (by k_is) (by omega) (fun _ => rfl) rfl (by end_is "frame") (fun _ => rfl) (by decide) rfl rfl rfl fun L A' hd' hh' _ hfr => ?_
  rw [hh] at hh'
  obtain ⟨outer, hA1, hA2⟩ := hF
  rw [hA1] at hfr
  dsimp only [Option.map_some] at hfr
  generalize henv : mkEnv _ _ L _ 33 _ = env at hfr ⊢
  have hLf : env.frame = some L := by rw [← henv]
  have hLk : env.scope.kind ≠ .module := by rw [← henv]; show ScopeKind.function ≠ .module; decide
  have out : ∀ {Δ : Hp} {ex : Addr} {cls : String} {fr : List (Str × Value)}, (L, PFr fr) ∈ Δ → (∀ p ∈ Ψ, p ∈ Δ) → (∀ b, InitErr c a order Ψ (.ref ex) ((b, PTb .none) :: (ex, PEx cls (.ref b)) :: Δ)) →
      OutLoop c A' env (fun e Δ₂ => T c A' Δ₂ (leaving env e) (fun _ Δ₃ => InitErr c a order Ψ e Δ₃) NoE) (.ref ex) ((ex, PEx cls .none) :: Δ) := fun hm hs h => by
    refine outOfLoop hfr (fun e he => ?_) hLf h
    rcases List.mem_cons.mp he with rfl | he
    · exact ⟨hLk, L, _, hLf, hm⟩
    · obtain ⟨h1, L', fr', h2, h3⟩ := hA2 e he
      exact ⟨h1, L', fr', h2, hs _ h3⟩
  clear hfr hLk hLf hA2
  subst henv
  refine TN.execsCons (TN.of ?_)
  end_is "go"
  refine T.setOwn (clsMWC _) (by end_is "mem") (fun ep' => by k_upd) (by k_is) (by show 0 ≤ 1000; decide) fun ep1 => ?_
  refine TN.execsCons (TN.of ?_)
  end_is "go"
  refine T.setOwn (clsMWC _) (by end_is "mem") (fun ep' => by k_upd) (by k_is) (by show 1 ≤ 1000; decide) fun ep2 => ?_
  refine TN.execsCons (TN.of ?_)
  end_is "go"
  refine T.setOwn (clsMWC _) (by end_is "mem") (fun ep' => by k_upd) (by k_is) (by show 2 ≤ 1000; decide) fun ep3 => ?_
  refine TN.execsCons (TN.ifS ?_)
  end_is "go"
  rename_i hun ginc tk
  refine T.isP false rfl rfl ?_
  end_is "go"
  rw [if_neg Bool.false_ne_true]
  generalize hkm : stored (stored (stored ([] : List (Str × Value)) "G" (.ref g)) "incumbent_nodes" (.ref ginc)) "incumbent_weight" (.int 0 tk) = km
  refine TN.execsCons ?_
  refine TN.forX (Φ := [(d, PDI kd ed)]) (fun i Δ => ∃ nv nd e', (∀ v ∈ order.take i, ∃ k, a v = .num k) ∧ Δ = (nv, PSl 130 nd #[some (.ref d)]) :: (nd, PDS c.w [] 0) :: (ginc, PInts []) :: (L, PFr [("self", .ref m)]) :: (L + 2, PCell (some (.str "w" tw))) :: (L + 1, PCell (some (.ref g))) :: (m, PInst 63 md) :: (md, PDS c.w km ep3) :: (gd, PDM c.w (kgN gr d adj nv) e') :: Ψ) ?_
  refine TN.callAttr ?_
  end_is "go"
  refine nodesAttr (A := A') (X := [_, _, _, _, _, _]) (by omega) hh' hg fun nv nd e' => ?_
  dsimp only [List.cons_append, List.nil_append]
  refine TN.of (T.cw ?_)
  end_is "go"
  have iNv : ∀ {Δ' : Hp}, (∀ p ∈ ((nv, PSl 130 nd #[some (.ref d)]) :: (nd, PDS c.w [] 0) :: [] : Hp), p ∈ Δ') → IsInst c Δ' nv 130 := fun h => ⟨nd, _, _, 0, h _ (.head _), h _ (.tail _ (.head _))⟩
  refine T.keeperObj (iNv (by end_is "fsub")) ?_
  refine (nvCall (A := A') (by omega) (iNv (by end_is "fsub"))).mono (fun r Δ2 => ?_) fun _ _ e => e
  rintro ⟨rfl, rfl⟩
  refine T.iterObj (C := 130) (f := 104) (iNv (by end_is "fsub")) (by k_is) (by k_is) ?_
  refine (nvIter (A := A') (by omega) ⟨nd, 0, .head _, .tail _ (.head _), by end_is "mem"⟩).mono (fun r Δ2 => ?_) fun _ _ e => e
  rintro ⟨it, rfl, rfl⟩
  refine ⟨⟨_, _, _, _, it, rfl, .head _⟩, it, (fun i => PKIter d i kd.length ed), order, _, rfl, hkd ▸ IW.keys hh' (.head _), .tl (List.Sublist.refl _), ⟨nv, nd, e', fun v hv => by simp at hv, rfl⟩, ?_, ?_, ?_⟩
  · rintro i Δ ⟨nv, nd, e', -, rfl⟩ p hp
    rw [List.mem_singleton.mp hp]
    end_is "mem"
  · clear iNv
    rintro i n t Δ hn' ⟨nv, nd, e', hpre, rfl⟩
    obtain ⟨at', hk1, hk2⟩ := hat n (List.mem_of_getElem? hn')
    obtain ⟨an, ha⟩ : ∃ an, a n = an := ⟨_, rfl⟩
    rw [ha] at hk2
    end_is "go"
    refine T.getKeptM (C := 671) (clsGraph _) (by end_is "mem") (by end_is "mem") (v := .ref nv) rfl (by k_is) (by k_is) (by k_is) rfl ?_
    end_is "go"
    refine T.subObj (C := 130) ⟨nd, _, _, 0, by end_is "mem", by end_is "mem"⟩ (by k_is) (by k_is) (by k_is) ?_
    refine (nvItem (A := A'.in1) (by show A'.depth + 10 < _; omega) ⟨nd, 0, by end_is "mem", by end_is "mem", by end_is "mem"⟩ hk1).mono (fun r Δ2 => ?_) fun _ _ e => e
    rintro ⟨rfl, rfl⟩
    cases an with
    | key =>
      refine T.notInAt (a := .key) (by end_is "mem") ?_
      end_is "go"
      rw [if_pos rfl]
      end_is "go"
      refine T.joined (by show 3 ≤ 50; decide) ?_
      refine TJoin.cons ?_
      end_is "go"
      refine ⟨_, _, rfl, by decide, TJoin.cons (T.fvInt ?_)⟩
      end_is "go"
      refine ⟨n, t, rfl, (hr n (List.mem_of_getElem? hn')).1, (hr n (List.mem_of_getElem? hn')).2, fun x tx hx => ⟨x, tx, rfl, hx, TJoin.cons ?_⟩⟩
      end_is "go"
      refine ⟨_, _, rfl, by decide, TJoin.nil fun x tx => ?_⟩
      end_is "go"
      refine T.raise excClass_KeyError hh' rfl ?_
      end_is "go"
      refine ⟨rfl, ?_⟩
      end_is "go"
      refine ⟨rfl, by rw [sizeLine_eq]; show 1 ≤ _; decide, fun ex => out (by end_is "mem") (fun p hp => by end_is "mem") fun b => ⟨"KeyError", ex, b, rfl, ?_, by end_is "sb"⟩⟩
      rw [badAt_step hpre, drop_get hn']
      simp only [badAt, ha]
    | bad =>
      refine T.notInAt (a := .bad) (by end_is "mem") ?_
      end_is "go"
      rw [if_neg Bool.false_ne_true]
      end_is "go"
      refine T.getKeptM (C := 671) (clsGraph _) (by end_is "mem") (by end_is "mem") (v := .ref nv) rfl (by k_is) (by k_is) (by k_is) rfl ?_
      end_is "go"
      refine T.subObj (C := 130) ⟨nd, _, _, 0, by end_is "mem", by end_is "mem"⟩ (by k_is) (by k_is) (by k_is) ?_
      refine (nvItem (A := A'.in1) (by show A'.depth + 10 < _; omega) ⟨nd, 0, by end_is "mem", by end_is "mem", by end_is "mem"⟩ hk1).mono (fun r Δ2 => ?_) fun _ _ e => e
      rintro ⟨rfl, rfl⟩
      end_is "go"
      refine T.subAt (a := .bad) (by end_is "mem") (by intro h; cases h) ?_
      rintro v ⟨tv, rfl⟩
      end_is "go"
      refine T.isiStr ?_
      end_is "go"
      rw [if_pos (show (!false) = true from rfl)]
      end_is "go"
      refine T.joined (by show 5 ≤ 50; decide) ?_
      refine TJoin.cons ?_
      end_is "go"
      refine ⟨_, _, rfl, by decide, TJoin.cons (T.fvStr ?_)⟩
      end_is "go"
      refine ⟨_, _, rfl, by decide +kernel, fun x tx hx => ⟨x, tx, rfl, hx, TJoin.cons ?_⟩⟩
      end_is "go"
      refine ⟨_, _, rfl, by decide, TJoin.cons (T.fvInt ?_)⟩
      end_is "go"
      refine ⟨n, t, rfl, (hr n (List.mem_of_getElem? hn')).1, (hr n (List.mem_of_getElem? hn')).2, fun x tx hx => ⟨x, tx, rfl, hx, TJoin.cons ?_⟩⟩
      end_is "go"
      refine ⟨_, _, rfl, by decide, TJoin.nil fun x tx => ?_⟩
      end_is "go"
      refine T.raise excClass_ValueError hh' rfl ?_
      end_is "go"
      refine ⟨rfl, ?_⟩
      end_is "go"
      refine ⟨rfl, by rw [sizeLine_eq]; show 1 ≤ _; decide, fun ex => out (by end_is "mem") (fun p hp => by end_is "mem") fun b => ⟨"ValueError", ex, b, rfl, ?_, by end_is "sb"⟩⟩
      rw [badAt_step hpre, drop_get hn']
      simp only [badAt, ha]
    | num k =>
      refine T.notInAt (a := .num k) (by end_is "mem") ?_
      end_is "go"
      rw [if_neg Bool.false_ne_true]
      end_is "go"
      refine T.getKeptM (C := 671) (clsGraph _) (by end_is "mem") (by end_is "mem") (v := .ref nv) rfl (by k_is) (by k_is) (by k_is) rfl ?_
      end_is "go"
      refine T.subObj (C := 130) ⟨nd, _, _, 0, by end_is "mem", by end_is "mem"⟩ (by k_is) (by k_is) (by k_is) ?_
      refine (nvItem (A := A'.in1) (by show A'.depth + 10 < _; omega) ⟨nd, 0, by end_is "mem", by end_is "mem", by end_is "mem"⟩ hk1).mono (fun r Δ2 => ?_) fun _ _ e => e
      rintro ⟨rfl, rfl⟩
      end_is "go"
      refine T.subAt (a := .num k) (by end_is "mem") (by intro h; cases h) ?_
      rintro v ⟨tv, rfl⟩
      end_is "go"
      refine T.isiInt ?_
      end_is "go"
      rw [if_neg (show ¬ (!true) = true from Bool.false_ne_true)]
      end_is "go"
      refine ⟨_, ?_, nv, nd, e', ?_, rfl⟩
      · dsimp only
        end_is "sb"
      · intro v hv
        rcases take_get hn' hv with h | rfl
        · exact hpre v h
        · exact ⟨k, ha⟩
  · rintro Δ ⟨nv, nd, e', hpre, rfl⟩
    clear iNv out
    rw [List.take_length] at hpre
    have iNv : ∀ {Δ' : Hp}, (∀ p ∈ ((nv, PSl 130 nd #[some (.ref d)]) :: (nd, PDS c.w [] 0) :: [] : Hp), p ∈ Δ') → IsInst c Δ' nv 130 := fun h => ⟨nd, _, _, 0, h _ (.head _), h _ (.tail _ (.head _))⟩
    refine TN.of (T.execsCons (T.assignAttr (T.compW (fun n => (a n).val) ?_ rfl (by decide) rfl (by decide) rfl rfl)))
    end_is "go"
    refine T.usualM (C := 671) (clsGraph _) (by end_is "mem") (by end_is "mem") (by k_is) (by rfl) ?_
    refine T.getKeptM (C := 671) (clsGraph _) (by end_is "mem") (by end_is "mem") (v := .ref nv) rfl (by k_is) (by k_is) (by k_is) rfl ?_
    refine T.cw ?_
    end_is "go"
    refine T.keeperObj (iNv (by end_is "fsub")) ?_
    refine (nvCall (A := A') (by omega) (iNv (by end_is "fsub"))).mono (fun r Δ2 => ?_) fun _ _ e => e
    rintro ⟨rfl, rfl⟩
    refine T.iterObj (C := 130) (f := 104) (iNv (by end_is "fsub")) (by k_is) (by k_is) ?_
    refine (nvIter (A := A') (by omega) ⟨nd, 0, .head _, .tail _ (.head _), by end_is "mem"⟩).mono (fun r Δ2 => ?_) fun _ _ e => e
    rintro ⟨it, rfl, rfl⟩
    refine ⟨⟨_, _, _, _, it, rfl, .head _⟩, it, (fun i => PKIter d i kd.length ed), order, rfl, rfl, hkd ▸ IW.keys hh' (by end_is "mem"), sz (by omega), hn, fun C D ys i n t hn' => ?_, fun D => ?_⟩
    · obtain ⟨at', hk1, hk2⟩ := hat n (List.mem_of_getElem? hn')
      obtain ⟨k, ha⟩ := hpre n (List.mem_of_getElem? hn')
      rw [ha] at hk2
      end_is "go"
      refine T.getKeptM (C := 671) (clsGraph _) (by end_is "mem") (by end_is "mem") (v := .ref nv) rfl (by k_is) (by k_is) (by k_is) rfl ?_
      end_is "go"
      refine T.subObj (C := 130) ⟨nd, _, _, 0, by end_is "mem", by end_is "mem"⟩ (by k_is) (by k_is) (by k_is) ?_
      refine (nvItem (A := A'.in1) (by show A'.depth + 10 < _; omega) ⟨nd, 0, by end_is "mem", by end_is "mem", by end_is "mem"⟩ hk1).mono (fun r Δ2 => ?_) fun _ _ e => e
      rintro ⟨rfl, rfl⟩
      end_is "go"
      refine T.subAt (a := .num k) (by end_is "mem") (by intro h; cases h) ?_
      rintro v ⟨tv, rfl⟩
      exact ⟨⟨tv, by rw [ha]; rfl⟩, rfl⟩
    end_is "go"
    refine T.setOwn (clsMWC _) (by end_is "mem") (fun ep' => by k_upd) (by k_is) (by rw [← hkm]; show 3 ≤ 1000; decide) fun ep4 => ?_
    refine T.execsNil ?_
    show TN _ _ _ _ _ _
    refine TN.of (T.execsNil ?_)
    have hbad : badAt a order = none := by
      rw [badAt_step (i := order.length) (by rw [List.take_length]; exact hpre), List.drop_length]; rfl
    refine ⟨_, List.Sublist.refl _, rfl, hbad, ?_⟩
    refine ⟨ginc, D, nv, nd, tk, ep4, e', ?_⟩
    subst hkm
    show Sb _ ((D, PWt _) :: (nv, _) :: (nd, _) :: (ginc, _) :: (L, _) :: (L + 2, _) :: (L + 1, _) :: (m, _) :: (md, PDS c.w (kmOf g ginc 0 tk D) ep4) :: _)
    end_is "sb"
end
/-! GJ -/
section
theorem TCN.sb {c : Cx} {A : Around} {Δ Δ' : Hp} {k : Code} {R : Result → Hp → Prop} (h : Sb Δ' Δ) (q : TCN c A Δ' k R) : TCN c A Δ k R := fun s hs => q s (hs.sb h)
theorem TCN.weak {c : Cx} {A : Around} {Δ : Hp} {k : Code} {R R' : Result → Hp → Prop} (h : TCN c A Δ k R) (hR : ∀ r Δ, R r Δ → ∃ Δ', Sb Δ' Δ ∧ R' r Δ') : TCN c A Δ k R' := fun s hs => (h s hs).mono fun r s' ⟨Δ', h', q⟩ =>
  let ⟨Δ'', sb, q'⟩ := hR _ _ q
  ⟨Δ'', h'.sb sb, q'⟩
/-- an exception is on its way -/
def ErrB (c : Cx) (bad : Option String) (Ψ : Hp) : Value → Hp → Prop := fun e Δ' => ∃ cls ex b, e = .ref ex ∧ bad = some cls ∧ Sb ((ex, PEx cls (.ref b)) :: (b, PTb .none) :: Ψ) Δ'
/-- what __init__ makes -/
def MadeOk (c : Cx) (bad : Option String) (wts : List (Int × Int)) (m md g gd gr d adj : Addr) (Ψ : Hp) (Δ' : Hp) : Prop := bad = none ∧ ∃ inc nw nv nd t em eg', Sb ((m, PInst 63 md) :: (md, PDS c.w (kmOf g inc 0 t nw) em) :: (inc, PInts []) :: (nw, PWt wts) :: (nv, PSl 130 nd #[some (.ref d)]) :: (nd, PDS c.w [] 0) :: (gd, PDM c.w (kgN gr d adj nv) eg') :: Ψ) Δ'
def InitC (c : Cx) (d₀ : Nat) (weight : Value) (bad : Option String) (wts : List (Int × Int)) (g gd gr d adj : Addr) (eg : Nat) (Ψ : Hp) : Prop := ∀ (A : Around) (m md : Addr), A.depth ≤ d₀ → A.handled = none → FrOk A Ψ →
  TCN c A ((m, PInst 63 md) :: (md, PDS c.w [] 0) :: (gd, PDS c.w (kgOf gr d adj) eg) :: Ψ) (.call (.ref 33) ⟨[.ref m, .ref g, weight], []⟩) (fun r Δ' => match r with
      | .ok (.ret v) => v = .none ∧ MadeOk c bad wts m md g gd gr d adj Ψ Δ'
      | .ok _ => False | .error e => ErrB c bad Ψ e Δ')
theorem initC0 {c : Cx} {order : List Int} {g gd gr d adj : Addr} {kd : List (Int × Value)} {ed eg : Nat} {Ψ : Hp} {d₀ : Nat} (hd₀ : d₀ + 100 < recursionLimit)
    (hn : order.Nodup) (hz : order.length ≤ 60) (hkd : kd.map (·.1) = order) (hg : (g, PInst 671 gd) ∈ Ψ) (hd : (d, PDI kd ed) ∈ Ψ) : InitC c d₀ .none none (order.map fun n => (n, 1)) g gd gr d adj eg Ψ := fun A m md hA hh hF => by
  refine (mwcInit0 (E := ErrB c none Ψ) (by omega) hh hn hz hkd hg hd).mono fun r Δ' q => ?_
  rcases r with e | (v | _ | _ | _) <;> first | exact q | exact q.elim | skip
  exact ⟨q.1, rfl, q.2⟩
theorem initCW {c : Cx} {order : List Int} {a : Int → NA} {g gd gr d adj : Addr} {kd : List (Int × Value)} {ed eg : Nat} {Ψ : Hp} {tw : Tok} {d₀ : Nat} (hd₀ : d₀ + 100 < recursionLimit)
    (hn : order.Nodup) (hz : order.length ≤ 60) (hkd : kd.map (·.1) = order) (hr : ∀ v ∈ order, 0 ≤ v ∧ v < 6) (hg : (g, PInst 671 gd) ∈ Ψ) (hd : (d, PDI kd ed) ∈ Ψ) (hat : ∀ v ∈ order, ∃ at', valueAt kd v = some (.ref at') ∧ (at', PAt c.w (a v)) ∈ Ψ) :
    InitC c d₀ (.str "w" tw) (badAt a order) (order.map fun n => (n, (a n).val)) g gd gr d adj eg Ψ := fun A m md hA hh hF => by
  refine (mwcInitW (by omega) hh hn hz hkd hr hg hd hat hF).mono fun r Δ' q => ?_
  rcases r with e | (v | _ | _ | _) <;> first | exact q | exact q.elim | skip
/-- an exception leaves a def of ours -/
theorem leaveOn {c : Cx} {A A' : Around} {Ψ Ψ₁ Δ₀ : Hp} {env : Env} {L : Addr} {fr : List (Str × Value)} {bad : Option String} {e : Value} (hF : FrOk A Ψ) (hfr : A'.frames = A.frames.map (env :: ·)) (hk : env.scope.kind ≠ .module) (hf : env.frame = some L)
    (hm : (L, PFr fr) ∈ Ψ₁) (hs : List.Sublist Ψ Ψ₁) (h : ErrB c bad Ψ₁ e Δ₀) : T c A' Δ₀ (leaving env e) (fun _ Δ₃ => ErrB c bad Ψ e Δ₃) NoE := by
  obtain ⟨cls, ex, b, rfl, hbad, hsb⟩ := h
  obtain ⟨l, h1, h2⟩ := hF
  rw [h1] at hfr
  refine T.sb hsb ?_
  refine T.leaveNext (D := fun b' => (ex, PEx cls (.ref b')) :: (b, PTb .none) :: Ψ₁) hfr (fun e' he => ?_) hf (.tail _ (.head _)) (fun b' => .head) fun b' => ⟨cls, ex, b', rfl, hbad, .dl (.tail .head) (.dl .head (.tl (List.Sublist.cons _ hs)))⟩
  rcases List.mem_cons.mp he with rfl | he
  · exact ⟨hk, L, _, hf, .tail _ (.tail _ hm)⟩
  · obtain ⟨q1, L', fr', q2, q3⟩ := h2 e' he
    exact ⟨q1, L', fr', q2, .tail _ (.tail _ (hs.subset q3))⟩
/-- max_weight_clique -/
theorem mwcRun {c : Cx} {A : Around} {d₀ : Nat} (hA : A.depth + 2 ≤ d₀) (hA2 : A.depth + 320 < recursionLimit) (hh : A.handled = none) {R : Int → Int → Bool} {wt : Int → Int} {order : List Int} {weight : Value} {bad : Option String} {g gd gr d adj : Addr} {kd ka : List (Int × Value)} {ed ea eg : Nat} {Ψ : Hp}
    (hsym : ∀ a b, R a b = R b a) (hn : order.Nodup) (hz : order.length ≤ 60) (hkd : kd.map (·.1) = order)
    (hg : (g, PInst 671 gd) ∈ Ψ) (hd : (d, PDI kd ed) ∈ Ψ) (hadj : (adj, PDI ka ea) ∈ Ψ) (h47 : (47, PTab) ∈ Ψ)
    (hrows : ∀ u ∈ order, ∃ nb k, valueAt ka u = some (.ref nb) ∧ (nb, PNb (R u) k) ∈ Ψ ∧ k ≤ 1000) (hF : FrOk A Ψ)
    (hI : ∀ Ψ', (∀ p ∈ Ψ, p ∈ Ψ') → InitC c d₀ weight bad (order.map fun n => (n, wt n)) g gd gr d adj eg Ψ') :
    TCN c A ((57, PIs (tabObj #[])) :: (gd, PDS c.w (kgOf gr d adj) eg) :: Ψ) (.call (.ref 75) ⟨[.ref g, weight], []⟩) (fun r Δ' => match r with
      | .ok (.ret v) => bad = none ∧ ∃ tup inc W items t, v = .ref tup ∧ Sb ((tup, PTup #[.ref inc, .int W t]) :: (inc, PInts items) :: (57, PTab) :: Ψ) Δ' ∧ IncOk R wt order W items ∧ ∀ K, Clq R K → (∀ v ∈ K, v ∈ order ∧ 0 < wt v) → wsum wt K ≤ W
      | .ok _ => False | .error e => ErrB c bad ((57, PIs (tabObj #[])) :: Ψ) e Δ') := by
  refine TN.callKE (E := ErrB c bad ((57, PIs (tabObj #[])) :: Ψ)) (Q := fun v Δ' => bad = none ∧ ∃ tup inc W items t, v = .ref tup ∧ Sb ((tup, PTup #[.ref inc, .int W t]) :: (inc, PInts items) :: (57, PTab) :: Ψ) Δ' ∧ IncOk R wt order W items ∧ ∀ K, Clq R K → (∀ v ∈ K, v ∈ order ∧ 0 < wt v) → wsum wt K ≤ W) [("G", .ref g), ("weight", weight)] (fun _ => (57, PIs (tabObj #[])) :: (gd, PDS c.w (kgOf gr d adj) eg) :: Ψ) (by k_is) (by k_is) (by omega) (fun _ => rfl) rfl (by end_is "frame") (fun _ => rfl) (by decide) rfl rfl rfl fun L A' hd' hh' _ hfr => ?_
  rw [hh] at hh'
  have hF' : FrOk A' ((57, PIs (tabObj #[])) :: (L, PFr [("G", .ref g), ("weight", weight)]) :: Ψ) := hF.push hfr (by show ScopeKind.function ≠ .module; decide) rfl (fun p hp => .tail _ (.tail _ hp)) (.tail _ (.head _))
  have hlv := fun {Δ₀ : Hp} {e : Value} (h : ErrB c bad ((57, PIs (tabObj #[])) :: (L, PFr [("G", .ref g), ("weight", weight)]) :: Ψ) e Δ₀) => leaveOn (Ψ := (57, PIs (tabObj #[])) :: Ψ) (hF.mono rfl fun p hp => .tail _ hp) hfr (by show ScopeKind.function ≠ .module; decide) rfl (.tail _ (.head _)) (.cons_cons _ (.cons _ (List.Sublist.refl _))) h
  clear hfr
  refine TN.execsCons (TN.assignName (TN.callName ?_))
  end_is "go"
  refine TN.cw ?_ rfl TN.oper TN.kp
  end_is "go"
  refine TN.make (C := 63) (fI := 33) (by k_is) (by k_is) (by k_is) fun m md A2 e1 e2 e3 => ?_
  have hinit := hI _ (fun p hp => .tail _ (.tail _ hp)) A2 m md (by rw [e1, hd']; omega) (e2.trans hh') (hF'.mono e3 fun _ h => h)
  refine TCN.sb (by end_is "sb") (hinit.mono fun r Δ' q => ?_)
  rcases r with e | (v | _ | _ | _)
  · exact hlv q
  · exact q.elim
  · exact q.elim
  · exact q.elim
  obtain ⟨rfl, hbad, inc, nw, nv, nd, t, em, eg', hsb⟩ := q
  refine ⟨rfl, ?_⟩
  refine T.sb hsb ?_
  end_is "go"
  refine TN.execsCons (TN.of ?_)
  end_is "go"
  refine T.method (f := 60) (clsMWC _) (by end_is "mem") (by end_is "mem") rfl (by k_is) (by k_is) ?_
  end_is "go"
  refine T.sb (Δ' := (57, PIs (tabObj #[])) :: (gd, PDM c.w (kgN gr d adj nv) eg') :: (md, PDS c.w (kmOf g inc 0 t nw) em) :: (inc, PInts []) :: (m, PInst 63 md) :: (nw, PWt (order.map fun n => (n, wt n))) :: (nv, PSl 130 nd #[some (.ref d)]) :: (nd, PDS c.w [] 0) :: (L, PFr [("G", .ref g), ("weight", weight), ("mwc", .ref m)]) :: Ψ) (by end_is "sb") ?_
  refine (findMax (A := A') (R := R) (wt := wt) (order := order) (m := m) (md := md) (g := g) (gd := gd) (gr := gr) (d := d) (adj := adj) (nv := nv) (nd := nd) (nw := nw) (inc := inc) (t0 := t) (Ψ := (m, PInst 63 md) :: (nw, PWt (order.map fun n => (n, wt n))) :: (nv, PSl 130 nd #[some (.ref d)]) :: (nd, PDS c.w [] 0) :: (L, PFr [("G", .ref g), ("weight", weight), ("mwc", .ref m)]) :: Ψ)
    (by rw [hd']; omega) hh' hsym (fun p hp => getI_map hp) hn hz hkd (by end_is "mem") (by end_is "mem") (by end_is "mem") (by end_is "mem") (by end_is "mem") (by end_is "mem") (by end_is "mem") (by end_is "mem") (fun u hu => ?_)).mono (fun r Δ3 => ?_) fun _ _ e => e
  · obtain ⟨nb, k, q1, q2, q3⟩ := hrows u hu
    exact ⟨nb, k, q1, by end_is "mem", q3⟩
  rintro ⟨rfl, W, items, inc', t', em', hsb', hInc, hcov⟩
  refine ⟨trivial, ?_⟩
  refine TN.sb hsb' ?_
  refine TN.execsCons (TN.of ?_)
  end_is "go"
  refine T.getOwn (clsMWC _) (by end_is "mem") (by end_is "mem") kmOf_I (by k_is) (by k_is) rfl ?_
  end_is "go"
  refine T.getOwn (clsMWC _) (by end_is "mem") (by end_is "mem") kmOf_W (by k_is) (by k_is) rfl ?_
  end_is "go"
  refine ⟨by rw [sizeLine_eq]; show 2 ≤ _; decide, fun l => ⟨(l, PTup #[.ref inc', .int W t']) :: (inc', PInts items) :: (57, PTab) :: Ψ, by end_is "sub", hbad, l, inc', W, items, t', rfl, .tl (List.Sublist.refl _), hInc, hcov⟩⟩
def Told (c : Cx) (R : Int → Int → Bool) (wt : Int → Int) (order : List Int) (Ψ : Hp) (bad : Option String) : Value → Hp → Prop := fun v Δ' =>
  (bad = none ∧ ∃ tup inc W items t, v = .ref tup ∧ Sb ((tup, PTup #[.ref inc, .int W t]) :: (inc, PInts items) :: (57, PTab) :: Ψ) Δ' ∧ IncOk R wt order W items ∧ ∀ K, Clq R K → (∀ v ∈ K, v ∈ order ∧ 0 < wt v) → wsum wt K ≤ W) ∨
  (bad = some "KeyError" ∧ (∃ t, v = .str "key" t) ∧ Sb ((57, PIs (tabObj #[])) :: Ψ) Δ') ∨ (bad = some "ValueError" ∧ (∃ t, v = .str "value" t) ∧ Sb ((57, PIs (tabObj #[])) :: Ψ) Δ')
/-- _law_told -/
theorem lawTold {c : Cx} {A : Around} {E : Value → Hp → Prop} {d₀ : Nat} (hA : A.depth + 3 ≤ d₀) (hA2 : A.depth + 330 < recursionLimit) (hh : A.handled = none) {R : Int → Int → Bool} {wt : Int → Int} {order : List Int} {weight : Value} {bad : Option String} {g gd gr d adj : Addr} {kd ka : List (Int × Value)} {ed ea eg : Nat} {Ψ : Hp}
    (hsym : ∀ a b, R a b = R b a) (hn : order.Nodup) (hz : order.length ≤ 60) (hkd : kd.map (·.1) = order)
    (hg : (g, PInst 671 gd) ∈ Ψ) (hd : (d, PDI kd ed) ∈ Ψ) (hadj : (adj, PDI ka ea) ∈ Ψ) (h47 : (47, PTab) ∈ Ψ)
    (hrows : ∀ u ∈ order, ∃ nb k, valueAt ka u = some (.ref nb) ∧ (nb, PNb (R u) k) ∈ Ψ ∧ k ≤ 1000) (hF : FrOk A Ψ) (hb : ∀ x, bad = some x → x = "KeyError" ∨ x = "ValueError")
    (hI : ∀ Ψ', (∀ p ∈ Ψ, p ∈ Ψ') → InitC c d₀ weight bad (order.map fun n => (n, wt n)) g gd gr d adj eg Ψ') :
    TN c A ((57, PIs (tabObj #[])) :: (gd, PDS c.w (kgOf gr d adj) eg) :: Ψ) (call (.ref 712) [.ref g, weight] []) (Told c R wt order Ψ bad) E := by
  refine TN.call_of (TN.callKE (Q := Told c R wt order Ψ bad) [("made", .ref g), ("name", weight)] (fun _ => (57, PIs (tabObj #[])) :: (gd, PDS c.w (kgOf gr d adj) eg) :: Ψ) (by k_is) (by k_is) (by omega) (fun _ => rfl) rfl (by end_is "frame") (fun _ => rfl) (by decide) rfl rfl rfl fun L A' hd' hh' _ hfr => ?_)
  rw [hh] at hh'
  have hF' : FrOk A' ((L, PFr [("made", .ref g), ("name", weight)]) :: Ψ) := hF.push hfr (by show ScopeKind.function ≠ .module; decide) rfl (fun p hp => .tail _ hp) (.head _)
  have hnote : ∀ {cls : String} {ex b : Addr} {Q : Unit → Hp → Prop} {Δ' : Hp}, Sb ((ex, PEx cls (.ref b)) :: (b, PTb .none) :: (57, PIs (tabObj #[])) :: (L, PFr [("made", .ref g), ("name", weight)]) :: Ψ) Δ' → (∀ b', Q () ((b', PTb (rawInt L)) :: (ex, PEx cls (.ref b')) :: (b, PTb .none) :: (57, PIs (tabObj #[])) :: (L, PFr [("made", .ref g), ("name", weight)]) :: Ψ)) → T c A' Δ' (noteFrame (.ref ex) _) Q NoE := fun {cls ex b Q Δ'} hsb hq => by
    obtain ⟨l, h1, h2⟩ := hF
    rw [h1] at hfr
    refine T.sb hsb ?_
    refine T.noteNext (D := fun b' => (ex, PEx cls (.ref b')) :: (b, PTb .none) :: (57, PIs (tabObj #[])) :: (L, PFr [("made", .ref g), ("name", weight)]) :: Ψ) hfr (fun e' he => ?_) rfl (.tail _ (.head _)) (fun b' => .head) hq
    rcases List.mem_cons.mp he with rfl | he
    · exact ⟨by show ScopeKind.function ≠ .module; decide, L, _, rfl, .tail _ (.tail _ (.tail _ (.head _)))⟩
    · obtain ⟨q1, L', fr', q2, q3⟩ := h2 e' he
      exact ⟨q1, L', fr', q2, .tail _ (.tail _ (.tail _ (.tail _ q3)))⟩
  clear hfr
  refine TN.mono (E := NoE) ?_ (fun _ _ q => q) (fun _ _ x => x.elim)
  refine TN.execsCons (TN.tryE ?_)
  refine TN.execsCons (TN.retS (TN.callName ?_))
  end_is "go"
  refine TN.cw ?_ rfl TN.oper TN.kp
  end_is "go"
  refine TN.call_of ?_
  have run := mwcRun (A := A') (d₀ := d₀) (Ψ := (L, PFr [("made", .ref g), ("name", weight)]) :: Ψ) (g := g) (gd := gd) (gr := gr) (d := d) (adj := adj) (eg := eg) (weight := weight) (by omega) (by omega) hh' hsym hn hz hkd (.tail _ hg) (.tail _ hd) (.tail _ hadj) (.tail _ h47) (fun u hu => by
    obtain ⟨nb, k, q1, q2, q3⟩ := hrows u hu
    exact ⟨nb, k, q1, .tail _ q2, q3⟩) hF' (fun Ψ' hs => hI Ψ' fun p hp => hs p (.tail _ hp))
  refine TCN.sb (by end_is "sb") (run.weak fun r Δ' q => ?_)
  clear run
  rcases r with e | (v | _ | _ | _)
  · obtain ⟨cls, ex, b, rfl, hbad, hsb⟩ := q
    refine ⟨_, .tl (List.Sublist.refl _), ?_⟩
    refine hnote hsb fun b' => ?_
    clear hnote
    refine T.flight (fr := none) (.tail _ (.head _)) .head ?_
    dsimp only [Option.elim]
    rcases hb cls hbad with rfl | rfl
    · refine T.handle (tbx := "") (X := "KeyError") (T := "KeyError") (b := true) (isSubtype_of_subB (by decide +kernel)) (isSubtype_of_subB (by decide +kernel)) (isSubtype_of_subB (by decide +kernel)) (.tail _ (.head _)) ?_
      end_is "go"
      refine ⟨rfl, rfl, ?_⟩
      rw [if_pos rfl]
      refine T.flight (fr := none) (.tail _ (.head _)) .head ?_
      end_is "go"
      exact ⟨(57, PIs (tabObj #[])) :: Ψ, by end_is "sub", .inr (.inl ⟨hbad, ⟨_, rfl⟩, .tl (List.Sublist.refl _)⟩)⟩
    · refine T.handle (tbx := "") (X := "ValueError") (T := "KeyError") (b := false) (isSubtype_of_subB (by decide +kernel)) (isSubtype_of_subB (by decide +kernel)) (isSubtype_of_subB (by decide +kernel)) (.tail _ (.head _)) ?_
      end_is "go"
      refine ⟨rfl, rfl, ?_⟩
      rw [if_neg Bool.false_ne_true]
      refine T.handle (tbx := "") (X := "ValueError") (T := "ValueError") (b := true) (isSubtype_of_subB (by decide +kernel)) (isSubtype_of_subB (by decide +kernel)) (isSubtype_of_subB (by decide +kernel)) (.tail _ (.head _)) ?_
      end_is "go"
      refine ⟨rfl, rfl, ?_⟩
      rw [if_pos rfl]
      refine T.flight (fr := none) (.tail _ (.head _)) .head ?_
      end_is "go"
      exact ⟨(57, PIs (tabObj #[])) :: Ψ, by end_is "sub", .inr (.inr ⟨hbad, ⟨_, rfl⟩, .tl (List.Sublist.refl _)⟩)⟩
  · exact q.elim
  · exact q.elim
  · exact q.elim
  obtain ⟨hbad, tup, inc, W, items, t, rfl, hsb, hInc, hcov⟩ := q
  refine ⟨_, hsb, ?_⟩
  exact ⟨(tup, PTup #[.ref inc, .int W t]) :: (inc, PInts items) :: (57, PTab) :: Ψ, by end_is "sub", .inl ⟨hbad, tup, inc, W, items, t, rfl, .tl (List.Sublist.refl _), hInc, hcov⟩⟩
end
/-! GK -/
section
theorem noPylong9 (a : Int) : Builtin.divisionGoesByPylong a 9 = false := by
  unfold Builtin.divisionGoesByPylong
  rw [Bool.and_eq_false_iff]
  exact .inl (by decide +kernel)
theorem PStrs.is {o : Obj} {xs : List Str} (h : PStrs xs o) : o.cls = .type "list" ∧ o.dict = none := by obtain ⟨_, _, rfl, _⟩ := h; exact ⟨rfl, rfl⟩
theorem perm_rows {Z N X Y R : Hp} (h : List.Perm N (X ++ Y)) : List.Perm (Z ++ (N ++ R)) (X ++ (Z ++ (Y ++ R))) := by
  refine (List.Perm.append_left Z (h.append_right R)).trans ?_
  rw [List.append_assoc]
  exact List.perm_append_comm_assoc Z X (Y ++ R)
theorem T.perm {c : Cx} {A : Around} {Δ Δ' : Hp} {α : Type} {t : Sem α} {Q : α → Hp → Prop} {E : Value → Hp → Prop} (h : List.Perm Δ Δ') (q : T c A Δ' t Q E) : T c A Δ t Q E := q.pre fun _ x => x.perm h
theorem adjR_symm (ps : List (Int × Int)) (a b : Int) : adjR ps a b = adjR ps b a := Bool.or_comm _ _
theorem met_bad (ns : List Int) : ∀ l : List Int, (badAt (attrOf ns) l = none ∧ metOf ns l = [] ∧ ∀ n ∈ l, attrOf ns n = .num (wtOf ns n)) ∨ (badAt (attrOf ns) l = some "KeyError" ∧ ∃ r, metOf ns l = Str.ofString "key" :: r) ∨ (badAt (attrOf ns) l = some "ValueError" ∧ ∃ r, metOf ns l = Str.ofString "value" :: r)
  | [] => .inl ⟨rfl, rfl, fun n hn => absurd hn List.not_mem_nil⟩
  | n :: l => by
    have hm : metOf ns (n :: l) = metAt ns n ++ metOf ns l := rfl
    by_cases h1 : kindAt ns n = 1
    · have ha : attrOf ns n = .key := if_pos h1
      have hk : metAt ns n = [Str.ofString "key"] := if_pos h1
      exact .inr (.inl ⟨by simp only [badAt, ha], metOf ns l, by rw [hm, hk]; rfl⟩)
    · by_cases h2 : kindAt ns n = 2
      · have ha : attrOf ns n = .bad := (if_neg h1).trans (if_pos h2)
        have hk : metAt ns n = [Str.ofString "value"] := (if_neg h1).trans (if_pos h2)
        exact .inr (.inr ⟨by simp only [badAt, ha], metOf ns l, by rw [hm, hk]; rfl⟩)
      · have ha : attrOf ns n = .num (wtOf ns n) := (if_neg h1).trans (if_neg h2)
        have hk : metAt ns n = [] := (if_neg h1).trans (if_neg h2)
        have hb : badAt (attrOf ns) (n :: l) = badAt (attrOf ns) l := by simp only [badAt, ha]
        rw [hb, hm, hk, List.nil_append]
        rcases met_bad ns l with ⟨q1, q2, q3⟩ | q | q
        · refine .inl ⟨q1, q2, fun x hx => ?_⟩
          rcases List.mem_cons.mp hx with rfl | hx
          · exact ha
          · exact q3 x hx
        · exact .inr (.inl q)
        · exact .inr (.inr q)
theorem tripNil : TriplesOk (#[] : Array Value).toList := by trivial
theorem T.weakPost {c : Cx} {A : Around} {Δ : Hp} {α : Type} {t : Sem α} {E : Value → Hp → Prop} {Q : α → Hp → Prop} (h : T c A Δ t (fun v Δ' => ∃ Δ'', Sb Δ'' Δ' ∧ Q v Δ'') E) : T c A Δ t Q E := fun s hs =>
  wpAny_mono (h s hs) (fun v s' ⟨Δ', h', Δ'', sb, q⟩ => ⟨Δ'', h'.sb sb, q⟩) fun _ _ e => e
theorem T.andFalse {c : Cx} {A : Around} {Δ : Hp} {E : Value → Hp → Prop} {b : Bool} {t : Sem Bool} {Q : Bool → Hp → Prop} (h1 : b = true → T c A Δ t (fun v Δ' => v = false ∧ Sb Δ Δ') E) (h2 : Q false Δ) : if b = true then T c A Δ t Q E else Q false Δ := by
  cases b with
  | true =>
    rw [if_pos rfl]
    refine T.weakPost ((h1 rfl).mono (fun v Δ' ⟨e, sb⟩ => ⟨Δ, sb, ?_⟩) fun _ _ e => e)
    subst e
    exact h2
  | false => rw [if_neg Bool.false_ne_true]; exact h2
theorem T.ifBoth {c : Cx} {A : Around} {Δ : Hp} {E : Value → Hp → Prop} {α : Type} {b : Bool} {t1 t2 : Sem α} {Q : α → Hp → Prop} (Q' : α → Hp → Prop) (h1 : b = true → T c A Δ t1 Q' E) (h2 : b = false → T c A Δ t2 Q' E) (h : ∀ v Δ', Q' v Δ' → Q v Δ') : if b = true then T c A Δ t1 Q E else T c A Δ t2 Q E := by
  cases b with
  | true => rw [if_pos rfl]; exact (h1 rfl).mono (fun _ _ q => h _ _ q) fun _ _ e => e
  | false => rw [if_neg Bool.false_ne_true]; exact (h2 rfl).mono (fun _ _ q => h _ _ q) fun _ _ e => e
theorem TN.perm {c : Cx} {A : Around} {Δ Δ' : Hp} {α : Type} {t : Sem α} {Q : α → Hp → Prop} {E : Value → Hp → Prop} (h : List.Perm Δ Δ') (q : TN c A Δ' t Q E) : TN c A Δ t Q E := q.pre fun _ x => x.perm h
theorem law {c : Cx} {A : Around} {E : Value → Hp → Prop} (hA : A.depth + 400 < recursionLimit) (hh : A.handled = none) (hu : A.units + 200 < cLine) (hF : FrOk A []) {sc : Addr} {ns : List Int} (hsc : Script c sc ns) (hz : ns.length ≤ 1000) :
    TN c A [(57, PIs (tabObj #[])), (47, PTab)] (call (.ref 717) [.ref sc] []) (fun r Δ' => r = .bool true ∧ ∃ P : Pr, (∀ o, P o → PTab o) ∧ Sb [(57, P), (47, PTab)] Δ') E := by
  refine TN.call_of (TN.callKE (Q := fun r Δ' => r = .bool true ∧ ∃ P : Pr, (∀ o, P o → PTab o) ∧ Sb [(57, P), (47, PTab)] Δ') [("script", .ref sc)] (fun L => [(L + 3, PCell none), (L + 2, PCell none), (L + 1, PCell none), (57, PIs (tabObj #[])), (47, PTab)]) (by k_is) (by k_is) (by omega) (fun _ => rfl) rfl (by end_is "frame") (fun _ => rfl) (by decide) rfl rfl rfl fun L A' hd' hh' hun hfr => ?_)
  rw [hh] at hh'
  have hF' : ∀ {Δ : Hp} {fr : List (Str × Value)}, (L, PFr fr) ∈ Δ → FrOk A' Δ := fun hm => hF.push hfr (by show ScopeKind.function ≠ .module; decide) rfl (fun p hp => absurd hp List.not_mem_nil) hm
  clear hfr
  refine TN.mono (E := NoE) ?_ (fun _ _ q => q) (fun _ _ x => x.elim)
  refine TN.execsCons (TN.of (T.assignTuple ?_))
  end_is "go"
  refine (lawCell (A := A') (k := 0) (by omega) hsc hz).mono (fun r Δ2 => ?_) fun _ _ e => e
  rintro ⟨⟨u0, rfl⟩, rfl⟩
  end_is "go"
  refine T.modInt (by decide) fun u1 => ?_
  end_is "go"
  refine (lawCell (A := A') (k := 1) (by omega) hsc hz).mono (fun r Δ2 => ?_) fun _ _ e => e
  rintro ⟨⟨u2, rfl⟩, rfl⟩
  end_is "go"
  rename_i ts tz kz
  refine ⟨by rw [sizeLine_eq]; show 2 ≤ _; decide, fun tp => ?_⟩
  refine T.unpackT2 hh' (.head _) ?_
  obtain ⟨sz, hsz, h1, h6⟩ : ∃ sz : Nat, 1 + (cell ns 0).fmod 6 = (sz : Int) ∧ 1 ≤ sz ∧ sz ≤ 6 := by
    have e0 := Int.fmod_nonneg_of_pos (cell ns 0) (b := 6) (by decide)
    have e1 := Int.fmod_lt_of_pos (cell ns 0) (b := 6) (by decide)
    exact ⟨(1 + (cell ns 0).fmod 6).toNat, by omega, by omega, by omega⟩
  rw [hsz]
  end_is "go"
  generalize htu : cell ns 1 = turn
  refine TN.execsCons (TN.of (T.swap2 hh' ?_))
  end_is "go"
  refine (lawTies (A := A') (by omega) hh' hsc hz h6).mono (fun r Δ2 => ?_) fun _ _ e => e
  rintro ⟨fl, as, rfl, hlen, hsb⟩
  generalize hps : tiesOf (cell ns 2) sz = ps at hlen hsb
  refine T.sb hsb ?_
  clear hsb
  have hR : ∀ p ∈ tiesHp as ps, p ∈ tiesR as ps := fun p hp => tiesR_mem.mp hp
  generalize tiesR as ps = R at hR ⊢
  refine T.perm (Δ' := (fl, PList (as.map Value.ref).toArray) :: (_ ++ R)) (List.Perm.cons _ List.perm_append_comm) ?_
  dsimp only [List.cons_append, List.nil_append]
  end_is "go"
  refine T.compI (fun _ => true) (fun n => (n + turn).fmod sz) ?_ rfl (by decide) rfl (by decide) rfl
  end_is "go"
  refine T.range1 fun r => ?_
  end_is "go"
  refine T.iterRange (by end_is "mem") (by omega) (by omega) (by omega) (by omega) (by omega) fun it => ?_
  refine ⟨it, _, nodesTo sz, rfl, rfl, IW.range (k := sz) hh', by rw [sizeLine_eq]; simp [nodesTo]; omega, fun C D ys j n t4 hn => ⟨?_, fun _ => ?_⟩, fun ol => ?_⟩
  · end_is "go"
    exact ⟨rfl, rfl⟩
  · end_is "go"
    refine T.modInt (by omega) fun t5 => ?_
    end_is "go"
    exact ⟨⟨_, rfl⟩, rfl⟩
  rw [show (nodesTo sz).filter (fun _ => true) = nodesTo sz from List.filter_eq_self.mpr fun _ _ => rfl]
  end_is "go"
  refine ⟨by rw [sizeLine_eq]; show 2 ≤ _; decide, fun tp2 => ?_⟩
  refine ⟨tp2, _, _, rfl, .head _, ?_⟩
  end_is "go"
  refine TN.sb (Δ' := (L, PFr [("script", .ref sc), ("order", .ref ol), ("ties", .ref fl)]) :: (L + 3, PCell none) :: (L + 2, PCell (some (.int turn u2))) :: (L + 1, PCell (some (.int sz ts))) :: (57, PIs (tabObj #[])) :: (ol, PInts ((nodesTo sz).map fun n => (n + turn).fmod sz)) :: (fl, PList (as.map Value.ref).toArray) :: (47, PTab) :: R) (by end_is "sb") ?_
  generalize hord : ((nodesTo sz).map fun n => (n + turn).fmod sz) = order
  refine TN.execsCons (TN.of (T.swap3 hh' ?_))
  end_is "go"
  refine (graphNew (A := A') (by omega)).mono (fun r Δ2 => ?_) fun _ _ e => e
  rintro ⟨g, gd, gr, d, adj, eg, rfl, rfl⟩
  end_is "go"
  refine T.dictE (intKind PG c.w) fun wd => ?_
  refine T.weak (a := wd) (P := PDict (intKind PG c.w).is (intKind PG c.w).hash [] 0) (P' := PWt []) .head (fun o h => PWt.nil h) ?_
  end_is "go"
  rename_i kg0 ml
  refine ⟨by rw [sizeLine_eq]; show 3 ≤ _; decide, fun tp3 => ⟨tp3, _, _, _, rfl, .head _, ?_⟩⟩
  refine T.weak (a := ml) (P := PInts []) (P' := PStrs []) (.tail .head) (fun o h => PStrs.nil h) ?_
  end_is "go"
  obtain ⟨hon, hol, hom⟩ := order_facts (turn := turn) h1
  rw [hord] at hon hol hom
  clear hord
  refine TN.execsCons (TN.of (T.forW (Φ := [(ol, PInts order)]) (fun i Δ => ∃ at' nb ka kd ea ed, kd.map (·.1) = order.take i ∧ ka.map (·.1) = order.take i ∧ (∀ u ∈ order.take i, valueAt ka u = some (.ref (nb u)) ∧ valueAt kd u = some (.ref (at' u))) ∧ Δ = (L, PFr [("script", .ref sc), ("order", .ref ol), ("ties", .ref fl), ("met", .ref ml), ("weights", .ref wd), ("made", .ref g)]) :: (L + 3, PCell none) :: (L + 2, PCell (some (.int turn u2))) :: (L + 1, PCell (some (.int sz ts))) :: (57, PIs (tabObj #[])) :: (ol, PInts order) :: (fl, PList (as.map Value.ref).toArray) :: (47, PTab) :: (wd, PWt ((order.take i).map fun n => (n, wtOf ns n))) :: (ml, PStrs (metOf ns (order.take i))) :: (adj, PDI ka ea) :: (d, PDI kd ed) :: (g, PInst 671 gd) :: (gd, PDS c.w (kgOf gr d adj) eg) :: (nodeObjs c.w (attrOf ns) at' nb (order.take i) ++ R)) ?_))
  end_is "go"
  refine T.iiter (by end_is "mem") fun it => ?_
  refine ⟨it, _, _, _, rfl, IW.list hh' (.head _), ?_, ⟨fun _ => 0, fun _ => 0, [], [], 0, 0, rfl, rfl, fun u hu => absurd hu List.not_mem_nil, rfl⟩, ?_, ?_, ?_⟩
  · show Sb ((it, PLIter ol 0) :: (L, PFr [("script", .ref sc), ("order", .ref ol), ("ties", .ref fl), ("met", .ref ml), ("weights", .ref wd), ("made", .ref g)]) :: (L + 3, PCell none) :: (L + 2, PCell (some (.int turn u2))) :: (L + 1, PCell (some (.int sz ts))) :: (57, PIs (tabObj #[])) :: (ol, PInts order) :: (fl, PList (as.map Value.ref).toArray) :: (47, PTab) :: (wd, PWt []) :: (ml, PStrs []) :: (adj, PDI [] 0) :: (d, PDI [] 0) :: (g, PInst 671 gd) :: (gd, PDS c.w (kgOf gr d adj) eg) :: R) _
    end_is "sb"
  · rintro i Δ ⟨at', nb, ka, kd, ea, ed, -, -, -, rfl⟩ p hp
    rw [List.mem_singleton.mp hp]
    end_is "mem"
  · rintro i n t Δ hin ⟨at', nb, ka, kd, ea, ed, hkd, hka, hva, rfl⟩
    have hno : n ∈ order := List.mem_of_getElem? hin
    obtain ⟨hn0, hn1⟩ := (hom n).mp hno
    have hnt : n ∉ order.take i := fun hm => by
      obtain ⟨j, hj, ej⟩ := List.getElem_of_mem hm
      rw [List.getElem_take] at ej
      have hj' : j < i := by rw [List.length_take] at hj; omega
      have hjl : j < order.length := by rw [List.length_take] at hj; omega
      have ej' : order[j]? = some n := List.getElem?_eq_some_iff.mpr ⟨hjl, ej⟩
      have := (List.getElem?_inj hjl hon).mp (ej'.trans hin.symm)
      omega
    have hlen' : (order.take i).length ≤ 6 := by rw [List.length_take]; omega
    have htk : order.take (i + 1) = order.take i ++ [n] := by rw [List.take_add_one, hin]; rfl
    rw [htk]
    generalize order.take i = l at hkd hka hva hnt hlen' ⊢
    have hJ : ∀ (a nbn : Addr) (e1 e2 : Nat), ∃ at2 nb2 ka2 kd2 ea2 ed2, kd2.map (·.1) = l ++ [n] ∧ ka2.map (·.1) = l ++ [n] ∧ (∀ u ∈ l ++ [n], valueAt ka2 u = some (.ref (nb2 u)) ∧ valueAt kd2 u = some (.ref (at2 u))) ∧ (L, PFr [("script", .ref sc), ("order", .ref ol), ("ties", .ref fl), ("met", .ref ml), ("weights", .ref wd), ("made", .ref g)]) :: (L + 3, PCell none) :: (L + 2, PCell (some (.int turn u2))) :: (L + 1, PCell (some (.int sz ts))) :: (57, PIs (tabObj #[])) :: (ol, PInts order) :: (fl, PList (as.map Value.ref).toArray) :: (47, PTab) :: (wd, PWt ((l ++ [n]).map fun n => (n, wtOf ns n))) :: (ml, PStrs (metOf ns (l ++ [n]))) :: (adj, PDI (stored ka n (.ref nbn)) e1) :: (d, PDI (stored kd n (.ref a)) e2) :: (g, PInst 671 gd) :: (gd, PDS c.w (kgOf gr d adj) eg) :: (a, PAt c.w (attrOf ns n)) :: (nbn, PNb (adjR [] n) (adjK [] n)) :: (nodeObjs c.w (attrOf ns) at' nb l ++ R) = (L, PFr [("script", .ref sc), ("order", .ref ol), ("ties", .ref fl), ("met", .ref ml), ("weights", .ref wd), ("made", .ref g)]) :: (L + 3, PCell none) :: (L + 2, PCell (some (.int turn u2))) :: (L + 1, PCell (some (.int sz ts))) :: (57, PIs (tabObj #[])) :: (ol, PInts order) :: (fl, PList (as.map Value.ref).toArray) :: (47, PTab) :: (wd, PWt ((l ++ [n]).map fun n => (n, wtOf ns n))) :: (ml, PStrs (metOf ns (l ++ [n]))) :: (adj, PDI ka2 ea2) :: (d, PDI kd2 ed2) :: (g, PInst 671 gd) :: (gd, PDS c.w (kgOf gr d adj) eg) :: (nodeObjs c.w (attrOf ns) at2 nb2 (l ++ [n]) ++ R) := fun a nbn e1 e2 => by
      refine ⟨setAt at' n a, setAt nb n nbn, stored ka n (.ref nbn), stored kd n (.ref a), e1, e2, ?_, ?_, ?_, ?_⟩
      · rw [stored_keys (by rw [hkd]; exact hnt), hkd]
      · rw [stored_keys (by rw [hka]; exact hnt), hka]
      · intro u hu
        rw [valueAt_stored, valueAt_stored]
        by_cases e : u = n
        · subst e
          rw [if_pos rfl, if_pos rfl, setAt_self, setAt_self]
          exact ⟨rfl, rfl⟩
        · have hul : u ∈ l := (List.mem_append.mp hu).resolve_right fun h => e (List.mem_singleton.mp h)
          rw [if_neg e, if_neg e, ← setAt_other hnt u hul, ← setAt_other hnt u hul]
          exact hva u hul
      · rw [nodeObjs_snoc, setAt_self, setAt_self, ← nodeObjs_congr (setAt_other hnt) (setAt_other hnt)]
        rfl
    have hset : setI (l.map fun n => (n, wtOf ns n)) n (wtOf ns n) = (l ++ [n]).map fun n => (n, wtOf ns n) := by
      rw [setI_new (by rw [List.map_map]; simpa using hnt), List.map_append]
      rfl
    end_is "go"
    rw [show (4 + n) = (((4 + n).toNat : Nat) : Int) by omega]
    refine (lawCell (A := A') (k := (4 + n).toNat) (by omega) hsc hz).mono (fun r Δ2 => ?_) fun _ _ e => e
    rintro ⟨⟨v1, rfl⟩, rfl⟩
    rw [show cell ns (4 + n).toNat = drawOf ns n from rfl]
    end_is "go"
    refine T.modInt (by decide) fun v2 => ?_
    end_is "go"
    refine T.setW (k := n) (v := wtOf ns n) (by k_upd) (by rw [List.length_map, sizeLine_eq]; omega) ?_
    rw [hset]
    end_is "go"
    refine T.divInt (by decide) (noPylong9 _) fun v3 => ?_
    end_is "go"
    refine T.modInt (by decide) fun v4 => ?_
    rw [show ((drawOf ns n).fdiv 9).fmod 23 = kindAt ns n from rfl]
    end_is "go"
    have hmz : (metOf ns l).length ≤ 1000 := by
      have := metOf_len ns l
      omega
    have hmet : metOf ns (l ++ [n]) = metOf ns l ++ metAt ns n := by unfold metOf; rw [List.flatMap_append]; simp
    by_cases hk1 : kindAt ns n = 1
    · rw [if_pos (by rw [hk1]; rfl)]
      have hattr : attrOf ns n = .key := by unfold attrOf; rw [if_pos hk1]
      rw [show metAt ns n = [Str.ofString "key"] from if_pos hk1] at hmet
      end_is "go"
      refine T.method (f := 480) (clsGraph _) (by end_is "mem") (by end_is "mem") rfl (by k_is) (by k_is) ?_
      end_is "go"
      refine T.sb (Δ' := (adj, PDI ka ea) :: (d, PDI kd ed) :: (g, PInst 671 gd) :: (gd, PDS c.w (kgOf gr d adj) eg) :: (it, PLIter ol (i + 1)) :: (L, PFr [("script", .ref sc), ("order", .ref ol), ("ties", .ref fl), ("met", .ref ml), ("weights", .ref wd), ("made", .ref g)]) :: (L + 3, PCell none) :: (L + 2, PCell (some (.int turn u2))) :: (L + 1, PCell (some (.int sz ts))) :: (57, PIs (tabObj #[])) :: (ol, PInts order) :: (fl, PList (as.map Value.ref).toArray) :: (47, PTab) :: (wd, PWt ((l ++ [n]).map fun n => (n, wtOf ns n))) :: (ml, PStrs (metOf ns l)) :: (nodeObjs c.w (attrOf ns) at' nb l ++ R)) (by end_is "sb") ?_
      refine (addNode0 (A := A') (by omega) (valueAt_keys_none (by rw [hkd]; exact hnt)) (by have := congrArg List.length hkd; rw [List.length_map] at this; omega) (by have := congrArg List.length hka; rw [List.length_map] at this; omega)).mono (fun r Δ2 => ?_) fun _ _ e => e
      rintro ⟨rfl, a, nbn, e1, e2, rfl⟩
      refine ⟨trivial, ?_⟩
      refine T.weak (a := nbn) (P := PDI [] 0) (P' := PNb (adjR [] n) (adjK [] n)) (.tail .head) (fun o h => PNb.start h) ?_
      end_is "go"
      refine T.mList (l := ml) (items := PStrs (metOf ns l)) (by end_is "mem") (fun _ => PStrs.is) PySem.F.slot_list_append PySem.F.type_list_append ?_
      end_is "go"
      refine T.sapp (xs := metOf ns l) (x := "key") (by k_upd) hmz (by decide +kernel) ?_
      refine ⟨trivial, ?_⟩
      end_is "go"
      refine ⟨_, ?_, hJ a nbn e1 e2⟩
      rw [hattr, hmet]
      show Sb ((it, PLIter ol (i + 1)) :: (L, PFr [("script", .ref sc), ("order", .ref ol), ("ties", .ref fl), ("met", .ref ml), ("weights", .ref wd), ("made", .ref g)]) :: _) _
      end_is "sb"
    · rw [if_neg (by simpa using hk1)]
      end_is "go"
      refine T.divInt (by decide) (noPylong9 _) fun v5 => ?_
      end_is "go"
      refine T.modInt (by decide) fun v6 => ?_
      rw [show ((drawOf ns n).fdiv 9).fmod 23 = kindAt ns n from rfl]
      end_is "go"
      by_cases hk2 : kindAt ns n = 2
      · rw [if_pos (by rw [hk2]; rfl)]
        have hattr : attrOf ns n = .bad := by unfold attrOf; rw [if_neg hk1, if_pos hk2]
        rw [show metAt ns n = [Str.ofString "value"] from (if_neg hk1).trans (if_pos hk2)] at hmet
        end_is "go"
        refine T.method (f := 480) (clsGraph _) (by end_is "mem") (by end_is "mem") rfl (by k_is) (by k_is) ?_
        end_is "go"
        refine T.eArgsKw rfl ?_
        end_is "go"
        show T _ _ _ (evalAll [do let v ← eval _ _; standAt _; Pure.pure v]) _ _
        end_is "go"
        refine T.sb (Δ' := (adj, PDI ka ea) :: (d, PDI kd ed) :: (g, PInst 671 gd) :: (gd, PDS c.w (kgOf gr d adj) eg) :: (it, PLIter ol (i + 1)) :: (L, PFr [("script", .ref sc), ("order", .ref ol), ("ties", .ref fl), ("met", .ref ml), ("weights", .ref wd), ("made", .ref g)]) :: (L + 3, PCell none) :: (L + 2, PCell (some (.int turn u2))) :: (L + 1, PCell (some (.int sz ts))) :: (57, PIs (tabObj #[])) :: (ol, PInts order) :: (fl, PList (as.map Value.ref).toArray) :: (47, PTab) :: (wd, PWt ((l ++ [n]).map fun n => (n, wtOf ns n))) :: (ml, PStrs (metOf ns l)) :: (nodeObjs c.w (attrOf ns) at' nb l ++ R)) (by end_is "sb") ?_
        refine (addNodeS (A := A') (by omega) (valueAt_keys_none (by rw [hkd]; exact hnt)) (by have := congrArg List.length hkd; rw [List.length_map] at this; omega) (by have := congrArg List.length hka; rw [List.length_map] at this; omega)).mono (fun r Δ2 => ?_) fun _ _ e => e
        rintro ⟨rfl, a, nbn, e1, e2, rfl⟩
        refine ⟨trivial, ?_⟩
        refine T.weak (a := nbn) (P := PDI [] 0) (P' := PNb (adjR [] n) (adjK [] n)) (.tail .head) (fun o h => PNb.start h) ?_
        end_is "go"
        refine T.mList (l := ml) (items := PStrs (metOf ns l)) (by end_is "mem") (fun _ => PStrs.is) PySem.F.slot_list_append PySem.F.type_list_append ?_
        end_is "go"
        refine T.sapp (xs := metOf ns l) (x := "value") (by k_upd) hmz (by decide +kernel) ?_
        refine ⟨trivial, ?_⟩
        end_is "go"
        refine ⟨_, ?_, hJ a nbn e1 e2⟩
        rw [hattr, hmet]
        show Sb ((it, PLIter ol (i + 1)) :: (L, PFr [("script", .ref sc), ("order", .ref ol), ("ties", .ref fl), ("met", .ref ml), ("weights", .ref wd), ("made", .ref g)]) :: _) _
        end_is "sb"
      · rw [if_neg (by simpa using hk2)]
        have hattr : attrOf ns n = .num (wtOf ns n) := by unfold attrOf; rw [if_neg hk1, if_neg hk2]
        rw [show metAt ns n = [] from (if_neg hk1).trans (if_neg hk2), List.append_nil] at hmet
        end_is "go"
        refine T.method (f := 480) (clsGraph _) (by end_is "mem") (by end_is "mem") rfl (by k_is) (by k_is) ?_
        end_is "go"
        refine T.eArgsKw rfl ?_
        end_is "go"
        show T _ _ _ (evalAll [do let v ← eval _ _; standAt _; Pure.pure v]) _ _
        end_is "go"
        refine T.subW (d := wd) (by end_is "mem") (getI_map (List.mem_append_right _ (.head _))) fun v7 => ?_
        end_is "go"
        refine T.sb (Δ' := (adj, PDI ka ea) :: (d, PDI kd ed) :: (g, PInst 671 gd) :: (gd, PDS c.w (kgOf gr d adj) eg) :: (it, PLIter ol (i + 1)) :: (L, PFr [("script", .ref sc), ("order", .ref ol), ("ties", .ref fl), ("met", .ref ml), ("weights", .ref wd), ("made", .ref g)]) :: (L + 3, PCell none) :: (L + 2, PCell (some (.int turn u2))) :: (L + 1, PCell (some (.int sz ts))) :: (57, PIs (tabObj #[])) :: (ol, PInts order) :: (fl, PList (as.map Value.ref).toArray) :: (47, PTab) :: (wd, PWt ((l ++ [n]).map fun n => (n, wtOf ns n))) :: (ml, PStrs (metOf ns l)) :: (nodeObjs c.w (attrOf ns) at' nb l ++ R)) (by end_is "sb") ?_
        refine (addNodeI (A := A') (by omega) (valueAt_keys_none (by rw [hkd]; exact hnt)) (by have := congrArg List.length hkd; rw [List.length_map] at this; omega) (by have := congrArg List.length hka; rw [List.length_map] at this; omega)).mono (fun r Δ2 => ?_) fun _ _ e => e
        rintro ⟨rfl, a, nbn, e1, e2, rfl⟩
        refine ⟨trivial, ?_⟩
        refine T.weak (a := nbn) (P := PDI [] 0) (P' := PNb (adjR [] n) (adjK [] n)) (.tail .head) (fun o h => PNb.start h) ?_
        end_is "go"
        refine ⟨_, ?_, hJ a nbn e1 e2⟩
        rw [hattr, hmet]
        show Sb ((it, PLIter ol (i + 1)) :: (L, PFr [("script", .ref sc), ("order", .ref ol), ("ties", .ref fl), ("met", .ref ml), ("weights", .ref wd), ("made", .ref g)]) :: _) _
        end_is "sb"
  · rintro Δ ⟨at', nb, ka, kd, ea, ed, hkd, hka, hva, rfl⟩
    rw [List.take_of_length_le (Nat.le_refl _)] at hkd hka hva ⊢
    dsimp only
    refine TN.execsCons (TN.of ?_)
    end_is "go"
    refine T.method (f := 546) (clsGraph _) (by end_is "mem") (by end_is "mem") rfl (by k_is) (by k_is) ?_
    end_is "go"
    have hpsub : ∀ p ∈ ps, p ∈ allPairs sz := fun p hp => (hps ▸ ties_sub (cell ns 2) sz).subset hp
    obtain ⟨hap1, hap2, hap3⟩ := allPairs_facts sz h6
    have hpn : ps.Nodup := (hps ▸ ties_sub (cell ns 2) sz).nodup hap1
    have hpl : ps.length ≤ 15 := Nat.le_trans (hps ▸ ties_sub (cell ns 2) sz).length_le hap2
    refine T.sb (Δ' := (adj, PDI ka ea) :: (d, PDI kd ed) :: (g, PInst 671 gd) :: (gd, PDS c.w (kgOf gr d adj) eg) :: (L, PFr [("script", .ref sc), ("order", .ref ol), ("ties", .ref fl), ("met", .ref ml), ("weights", .ref wd), ("made", .ref g)]) :: (L + 3, PCell none) :: (L + 2, PCell (some (.int turn u2))) :: (L + 1, PCell (some (.int sz ts))) :: (57, PIs (tabObj #[])) :: (ol, PInts order) :: (fl, PList (as.map Value.ref).toArray) :: (47, PTab) ::  (wd, PWt (order.map fun n => (n, wtOf ns n))) :: (ml, PStrs (metOf ns order)) ::  (nodeObjs c.w (attrOf ns) at' nb order ++ R)) (by end_is "sb") ?_
    refine T.perm (perm_rows (Z := [_, _, _, _, _, _, _, _, _, _, _, _, _, _]) (nodeObjs_perm order)) ?_
    dsimp only [List.cons_append, List.nil_append]
    refine (addEdges (A := A') (order := order) (nb := nb) (ka := ka) (kd := kd) (ps := ps) (as := as) (by omega) hh' (fun u hu => by rw [(hva u hu).2]; rfl) (fun u hu => (hva u hu).1) hon (fun p hp => (hap3 p (hpsub p hp)).2.1) (fun p hp => by
      obtain ⟨q1, q2, q3⟩ := hap3 p (hpsub p hp)
      exact ⟨(hom _).mpr ⟨q1, by omega⟩, (hom _).mpr ⟨by omega, q3⟩⟩) hpn (by omega) hlen (by end_is "mem") (fun p hp => by
      have := hR p hp
      refine .tail _ (.tail _ (.tail _ (.tail _ (.tail _ (.tail _ (.tail _ (.tail _ (.tail _ (.tail _ (List.mem_append_right _ this)))))))))))).mono (fun r Δ2 => ?_) fun _ _ e => e
    rintro ⟨rfl, hsb⟩
    refine ⟨trivial, ?_⟩
    refine TN.sb hsb ?_
    clear hsb
    refine TN.perm (perm_rows (Z := [_, _, _, _, _, _, _, _, _, _, _, _, _, _]) (List.Perm.refl _)).symm ?_
    dsimp only [List.cons_append, List.nil_append]
    have hRa : ∀ x ∈ order, (at' x, PAt c.w (attrOf ns x)) ∈ ((order.map fun x => (nb x, PNb (adjR ps x) (adjK ps x))) ++ (order.map fun x => (at' x, PAt c.w (attrOf ns x)))) ++ R := fun x hx => List.mem_append_left _ (List.mem_append_right _ (List.mem_map.mpr ⟨x, hx, rfl⟩))
    have hRb : ∀ x ∈ order, (nb x, PNb (adjR ps x) (adjK ps x)) ∈ ((order.map fun x => (nb x, PNb (adjR ps x) (adjK ps x))) ++ (order.map fun x => (at' x, PAt c.w (attrOf ns x)))) ++ R := fun x hx => List.mem_append_left _ (List.mem_append_left _ (List.mem_map.mpr ⟨x, hx, rfl⟩))
    have hRc : ∀ p ∈ tiesHp as ps, p ∈ ((order.map fun x => (nb x, PNb (adjR ps x) (adjK ps x))) ++ (order.map fun x => (at' x, PAt c.w (attrOf ns x)))) ++ R := fun p hp => List.mem_append_right _ (hR p hp)
    clear hR
    generalize ((order.map fun x => (nb x, PNb (adjR ps x) (adjK ps x))) ++ (order.map fun x => (at' x, PAt c.w (attrOf ns x)))) ++ R = R at hRa hRb hRc ⊢
    refine TN.execsCons (TN.of ?_)
    end_is "go"
    refine T.compPairs (fun _ => 1) ?_ rfl (by decide) rfl (by decide) rfl
    end_is "go"
    refine T.range1 fun r3 => ?_
    end_is "go"
    refine T.iterRange (by end_is "mem") (by omega) (by omega) (by omega) (by omega) (by omega) fun it3 => ?_
    refine ⟨it3, _, nodesTo sz, rfl, rfl, IW.range (k := sz) hh', by rw [nodesTo_len]; omega, fun C P n t Θ => ?_, fun D as3 hl3 => ?_⟩
    · end_is "go"
      refine ⟨by rw [sizeLine_eq]; show 2 ≤ _; decide, fun tp4 => ?_⟩
      exact ⟨tp4, _, _, rfl, rfl⟩
    end_is "go"
    refine T.dictPairs (l := D) (as := as3) (ns := nodesTo sz) (f := fun _ => 1) hh' nodesTo_nodup (by rw [nodesTo_len]; omega) hl3 (.head _) (fun p hp => .tail _ (List.mem_append_left _ (tiesR_mem.mp hp))) fun od => ?_
    refine T.sb (.tl (.cons_cons _ (.cons _ (List.sublist_append_right _ _)))) ?_
    end_is "go"
    refine TN.execsCons (TN.of ?_)
    end_is "go"
    refine (lawCell (A := A') (k := 3) (by omega) hsc hz).mono (fun r Δ2 => ?_) fun _ _ e => e
    rintro ⟨⟨v3, rfl⟩, rfl⟩
    end_is "go"
    refine T.modInt (by decide) fun v4 => ?_
    end_is "go"
    generalize hnm : decide (0 < (cell ns 3).fmod 4) = nm
    refine TN.sb (Δ' := (57, PIs (tabObj #[])) :: (gd, PDS c.w (kgOf gr d adj) eg) :: (adj, PDI ka ea) :: (d, PDI kd ed) :: (g, PInst 671 gd) :: (L, PFr [("script", .ref sc), ("order", .ref ol), ("ties", .ref fl), ("met", .ref ml), ("weights", .ref wd), ("made", .ref g), ("ones", .ref od), ("is_named", .bool nm)]) :: (L + 3, PCell none) :: (L + 1, PCell (some (.int sz ts))) :: (fl, PList (as.map Value.ref).toArray) :: (47, PTab) :: (wd, PWt (order.map fun n => (n, wtOf ns n))) :: (ml, PStrs (metOf ns order)) :: (od, PWt ((nodesTo sz).map fun n => (n, 1))) :: R) (by end_is "sb") ?_
    refine TN.execsCons (TN.assignName (TN.callName ?_))
    end_is "go"
    refine TN.cw ?_ rfl TN.oper TN.kp
    end_is "go"
    refine T.ifBoth (fun (v : Value) Δ' => ((nm = true ∧ ∃ t, v = .str "w" t) ∨ (nm = false ∧ v = .none)) ∧ Δ' = (57, PIs (tabObj #[])) :: (gd, PDS c.w (kgOf gr d adj) eg) :: (adj, PDI ka ea) :: (d, PDI kd ed) :: (g, PInst 671 gd) :: (L, PFr [("script", .ref sc), ("order", .ref ol), ("ties", .ref fl), ("met", .ref ml), ("weights", .ref wd), ("made", .ref g), ("ones", .ref od), ("is_named", .bool nm)]) :: (L + 3, PCell none) :: (L + 1, PCell (some (.int sz ts))) :: (fl, PList (as.map Value.ref).toArray) :: (47, PTab) :: (wd, PWt (order.map fun n => (n, wtOf ns n))) :: (ml, PStrs (metOf ns order)) :: (od, PWt ((nodesTo sz).map fun n => (n, 1))) :: R) (fun hb => ?_) (fun hb => ?_) fun wv Δ' => ?_
    · end_is "go"
      exact ⟨.inl ⟨hb, _, rfl⟩, rfl⟩
    · end_is "go"
      exact ⟨.inr ⟨hb, rfl⟩, rfl⟩
    rintro ⟨hw, rfl⟩
    end_is "go"
    have hmet := met_bad ns order
    obtain ⟨wt, bad, hI, hbw⟩ : ∃ (wt : Int → Int) (bad : Option String), (∀ Ψ' : Hp, (g, PInst 671 gd) ∈ Ψ' → (d, PDI kd ed) ∈ Ψ' → (∀ x ∈ order, (at' x, PAt c.w (attrOf ns x)) ∈ Ψ') → InitC c (A'.depth + 3) wv bad (order.map fun n => (n, wt n)) g gd gr d adj eg Ψ') ∧ ((nm = true ∧ bad = badAt (attrOf ns) order ∧ wt = fun n => (attrOf ns n).val) ∨ (nm = false ∧ bad = none ∧ wt = fun _ => 1)) := by
      rcases hw with ⟨hb, tw, rfl⟩ | ⟨hb, rfl⟩
      · exact ⟨fun n => (attrOf ns n).val, badAt (attrOf ns) order, fun Ψ' m1 m2 m3 => initCW (a := attrOf ns) (by omega) hon (by omega) hkd (fun v hv => by have := (hom v).mp hv; omega) m1 m2 fun v hv => ⟨at' v, (hva v hv).2, m3 v hv⟩, .inl ⟨hb, rfl, rfl⟩⟩
      · exact ⟨fun _ => 1, none, fun Ψ' m1 m2 m3 => initC0 (by omega) hon (by omega) hkd m1 m2, .inr ⟨hb, rfl, rfl⟩⟩
    have hbk : ∀ x, bad = some x → x = "KeyError" ∨ x = "ValueError" := fun x hx => by
      rcases hbw with ⟨_, hb, _⟩ | ⟨_, hb, _⟩
      · rcases hmet with ⟨q, _⟩ | ⟨q, _⟩ | ⟨q, _⟩ <;> rw [hb, q] at hx <;> cases hx
        · exact .inl rfl
        · exact .inr rfl
      · rw [hb] at hx; cases hx
    refine (lawTold (A := A') (R := adjR ps) (wt := wt) (order := order) (d₀ := A'.depth + 3) (kd := kd) (ka := ka) (ed := ed) (ea := ea) (by omega) (by omega) hh' (adjR_symm ps) hon (by omega) hkd (by end_is "mem") (by end_is "mem") (by end_is "mem") (by end_is "mem") (fun u hu => ⟨nb u, adjK ps u, (hva u hu).1, by have := hRb u hu; end_is "mem", Nat.le_trans (adjK_le ps u) (by omega)⟩) (hF' (fr := [("script", .ref sc), ("order", .ref ol), ("ties", .ref fl), ("met", .ref ml), ("weights", .ref wd), ("made", .ref g), ("ones", .ref od), ("is_named", .bool nm)]) (by end_is "mem")) hbk (fun Ψ' hs => hI Ψ' (hs _ (by end_is "mem")) (hs _ (by end_is "mem")) fun x hx => hs _ (by have := hRa x hx; end_is "mem"))).mono (fun v Δ' hv => ?_) fun _ _ e => e
    clear hI hw
    rcases hv with ⟨hb, tup, inc, W, items, tW, rfl, hsb, hInc, hcov⟩ | ⟨hb, ⟨tk, rfl⟩, hsb⟩ | ⟨hb, ⟨tk, rfl⟩, hsb⟩
    · have hfall : (nm && !(metOf ns order).isEmpty) = false := by
        rcases hbw with ⟨q1, q2, _⟩ | ⟨q1, _⟩
        · rcases hmet with ⟨q, q', _⟩ | ⟨q, _⟩ | ⟨q, _⟩
          · rw [q']; exact Bool.and_false _
          · rw [hb, q] at q2; cases q2
          · rw [hb, q] at q2; cases q2
        · rw [q1]; rfl
      refine T.sb hsb ?_
      clear hsb
      end_is "go"
      refine TN.of ?_
      end_is "go"
      refine T.andFalse (fun hb1 => ?_) ?_
      · rw [hb1, Bool.true_and] at hfall
        end_is "go"
        refine T.sneNil (by omega) (by end_is "mem") (by end_is "mem") ?_
        end_is "go"
        rw [if_neg (by rw [hfall]; exact Bool.false_ne_true)]
        exact ⟨rfl, .tl (.cons _ (List.Sublist.refl _))⟩
      rw [if_neg Bool.false_ne_true]
      end_is "go"
      have hwt : ∀ n ∈ order, wt n = if nm = true then wtOf ns n else 1 := fun n hn => by
        rcases hbw with ⟨q1, q2, q3⟩ | ⟨q1, _, q3⟩
        · rw [q3, if_pos q1]
          rcases hmet with ⟨_, _, q⟩ | ⟨q, _⟩ | ⟨q, _⟩
          · dsimp only; rw [q n hn]; rfl
          · rw [hb, q] at q2; cases q2
          · rw [hb, q] at q2; cases q2
        · rw [q3, q1]; rfl
      have hoz : ∀ n, n ∈ nodesTo sz ↔ n ∈ order := fun n => mem_nodesTo.trans (hom n).symm
      obtain ⟨hk1, hk2, hk3, hk4, hk5⟩ := hInc
      have hpl : ∀ p ∈ ps, p.1 < p.2 := fun p hp => (hap3 p (hpsub p hp)).2.1
      have hq1 : isClq ps items = true := (isClq_iff hpl hk1.1).mpr hk1.2
      have hq2 : W = (items.map wt).sum := hk3
      have hq3 : mostOf ps sz wt = W := most_law hpl h6 hoz hk1 hk2 hk3 hk4 hcov
      refine T.ifBoth (fun (f : Flow) Δ' => f = .next ∧ ∃ dw dwts, (∀ n ∈ order, getI dwts n = some (wt n)) ∧ (∀ {Δ : Hp}, (wd, PWt (order.map fun n => (n, wtOf ns n))) ∈ Δ → (od, PWt ((nodesTo sz).map fun n => (n, 1))) ∈ Δ → (dw, PWt dwts) ∈ Δ) ∧ Δ' = (tup, PTup #[.ref inc, .int W tW]) :: (inc, PInts items) :: (57, PTab) :: (adj, PDI ka ea) :: (d, PDI kd ed) :: (g, PInst 671 gd) :: (L, PFr [("script", .ref sc), ("order", .ref ol), ("ties", .ref fl), ("met", .ref ml), ("weights", .ref wd), ("made", .ref g), ("ones", .ref od), ("is_named", .bool nm), ("told", .ref tup)]) :: (L + 3, PCell (some (.ref dw))) :: (L + 1, PCell (some (.int sz ts))) :: (fl, PList (as.map Value.ref).toArray) :: (47, PTab) :: (wd, PWt (order.map fun n => (n, wtOf ns n))) :: (ml, PStrs (metOf ns order)) :: (od, PWt ((nodesTo sz).map fun n => (n, 1))) :: R) (fun hb1 => ?_) (fun hb1 => ?_) fun f Δ' => ?_
      · end_is "go"
        exact ⟨rfl, wd, _, fun n hn => by rw [getI_map hn, hwt n hn, if_pos hb1], fun m1 _ => m1, rfl⟩
      · end_is "go"
        exact ⟨rfl, od, _, fun n hn => by rw [getI_map (f := fun _ => 1) ((hoz n).mpr hn), hwt n hn, hb1]; rfl, fun _ m2 => m2, rfl⟩
      rintro ⟨rfl, dw, dwts, hdw1, hdw2, rfl⟩
      end_is "go"
      refine T.eqTupStr (items := #[.ref inc, .int W tW]) (by omega) (by end_is "mem") ?_
      end_is "go"
      rw [if_neg Bool.false_ne_true]
      end_is "go"
      refine T.eqTupStr (items := #[.ref inc, .int W tW]) (by omega) (by end_is "mem") ?_
      end_is "go"
      rw [if_neg Bool.false_ne_true]
      end_is "go"
      rw [if_neg Bool.false_ne_true]
      end_is "go"
      refine T.unpackT2 hh' (by end_is "mem") ?_
      end_is "go"
      refine (lawIsClique (A := A') (tl := fl) (nl := inc) (as := as) (ps := ps) (ns := items) (by omega) hh' (by omega) hlen (by end_is "mem") (fun p hp => by have := hRc p hp; end_is "mem") (by end_is "mem") (by omega)).mono (fun r Δ2 => ?_) fun _ _ e => e
      rintro ⟨rfl, hsb⟩
      refine T.sb hsb ?_
      clear hsb
      rw [hq1]
      end_is "go"
      rw [if_neg (show ¬ (!true) = true from Bool.false_ne_true)]
      end_is "go"
      refine T.setNd hh' (by end_is "mem") hk1.1 (by omega) fun sd => ?_
      end_is "go"
      refine T.lenSet (.head _) (by omega) fun t8 => ?_
      end_is "go"
      refine T.ilen (by end_is "mem") (by rw [sizeLine_eq]; omega) fun t9 => ?_
      end_is "go"
      rw [if_neg (by simp)]
      end_is "go"
      rw [if_neg Bool.false_ne_true]
      end_is "go"
      refine T.compI (fun _ => true) wt ?_ rfl (by decide) rfl (by decide) rfl
      end_is "go"
      refine T.iiter (by end_is "mem") fun it5 => ?_
      refine ⟨it5, PLIter inc, items, rfl, rfl, IW.list hh' (by end_is "mem"), by rw [sizeLine_eq]; omega, fun C D ys i n t hn => ⟨?_, fun _ => ?_⟩, fun D => ?_⟩
      · end_is "go"
        exact ⟨rfl, rfl⟩
      · end_is "go"
        refine T.subW (d := dw) (kvs := dwts) (hdw2 (by end_is "mem") (by end_is "mem")) (hdw1 n (hk2 n (List.mem_of_getElem? hn))) fun v9 => ?_
        end_is "go"
        exact ⟨⟨_, rfl⟩, rfl⟩
      rw [show items.filter (fun _ => true) = items from List.filter_eq_self.mpr fun _ _ => rfl]
      end_is "go"
      refine T.sumInts hh' (.head _) fun t10 => ?_
      end_is "go"
      rw [if_pos (by rw [← hq2]; exact beq_self_eq_true W)]
      end_is "go"
      refine (lawMost (A := A') (tl := fl) (wd := dw) (as := as) (ps := ps) (size := sz) (wts := dwts) (w := wt) (by omega) hh' (by omega) hlen (by end_is "mem") (fun p hp => by have := hRc p hp; end_is "mem") (hdw2 (by end_is "mem") (by end_is "mem")) (fun n hn => hdw1 n ((hoz n).mp hn)) h6).mono (fun r Δ2 => ?_) fun _ _ e => e
      rintro ⟨⟨v10, rfl⟩, hsb⟩
      refine T.sb hsb ?_
      clear hsb
      end_is "go"
      rw [hq3]
      exact ⟨_, List.Sublist.refl _, by rw [beq_self_eq_true]; rfl, PTab, fun o h => h, .dl (by end_is "del") (.dl (by end_is "del") (.tl (List.nil_sublist _)))⟩
    · obtain ⟨hnt, r, hr⟩ : nm = true ∧ ∃ r, metOf ns order = Str.ofString "key" :: r := by
        rcases hbw with ⟨q1, q2, _⟩ | ⟨_, q2, _⟩
        · refine ⟨q1, ?_⟩
          rcases hmet with ⟨q, _⟩ | ⟨q, q'⟩ | ⟨q, q'⟩
          · rw [hb, q] at q2; cases q2
          · exact q'
          · rw [hb, q] at q2; exact absurd (Option.some.inj q2) (by decide)
        · rw [hb] at q2; cases q2
      refine T.sb hsb ?_
      clear hsb
      rw [hr]
      end_is "go"
      refine TN.of ?_
      end_is "go"
      rw [if_pos hnt]
      end_is "go"
      refine T.sneNil (by omega) (by end_is "mem") (by end_is "mem") ?_
      end_is "go"
      rw [if_pos (show (!(Str.ofString "key" :: r).isEmpty) = true from rfl)]
      end_is "go"
      rw [if_pos rfl]
      end_is "go"
      refine T.ssub (by end_is "mem") fun v8 => ?_
      end_is "go"
      refine T.eqStr ?_
      exact ⟨_, List.Sublist.refl _, by decide +kernel, PIs (tabObj #[]), fun o h => ⟨#[], h, tripNil⟩, .dl (by end_is "del") (.dl (by end_is "del") (.tl (List.nil_sublist _)))⟩
    · obtain ⟨hnt, r, hr⟩ : nm = true ∧ ∃ r, metOf ns order = Str.ofString "value" :: r := by
        rcases hbw with ⟨q1, q2, _⟩ | ⟨_, q2, _⟩
        · refine ⟨q1, ?_⟩
          rcases hmet with ⟨q, _⟩ | ⟨q, q'⟩ | ⟨q, q'⟩
          · rw [hb, q] at q2; cases q2
          · rw [hb, q] at q2; exact absurd (Option.some.inj q2) (by decide)
          · exact q'
        · rw [hb] at q2; cases q2
      refine T.sb hsb ?_
      clear hsb
      rw [hr]
      end_is "go"
      refine TN.of ?_
      end_is "go"
      rw [if_pos hnt]
      end_is "go"
      refine T.sneNil (by omega) (by end_is "mem") (by end_is "mem") ?_
      end_is "go"
      rw [if_pos (show (!(Str.ofString "value" :: r).isEmpty) = true from rfl)]
      end_is "go"
      rw [if_pos rfl]
      end_is "go"
      refine T.ssub (by end_is "mem") fun v8 => ?_
      end_is "go"
      refine T.eqStr ?_
      exact ⟨_, List.Sublist.refl _, by decide +kernel, PIs (tabObj #[]), fun o h => ⟨#[], h, tripNil⟩, .dl (by end_is "del") (.dl (by end_is "del") (.tl (List.nil_sublist _)))⟩
end
/-! Op -/
section
theorem items_int {R : WRecords} : ∀ {xs : List WData}, WShape.hasItems R xs .int = true → ∃ ns : List Int, xs = ns.map .int
  | [], _ => ⟨[], rfl⟩
  | d :: r, h => by
    have h2 : WShape.has R d .int = true ∧ WShape.hasItems R r .int = true := by simpa [WShape.hasItems] using h
    obtain ⟨b, rfl⟩ := hasW_int h2.1
    obtain ⟨bs, rfl⟩ := items_int h2.2
    exact ⟨b :: bs, rfl⟩
theorem ints_of_well {P : Params} {h : Heap} : ∀ {ns : List Int} {vs : List Value}, WellAll P h vs (ns.map WData.int) → PyProof.Rows.IntsAre vs ns
  | [], _, .nil => .nil
  | n :: ns, _, .cons w r => by
    cases w
    exact .cons n _ (ints_of_well r)
theorem frok_caller : FrOk callerA [] := ⟨[], rfl, fun e he => absurd he List.not_mem_nil⟩
theorem opened (hlaw : ∀ {c : Cx} {A : Around} {E : Value → Hp → Prop} (hA : A.depth + 400 < recursionLimit) (hh : A.handled = none) (hu : A.units + 200 < cLine) (hF : FrOk A []) {sc : Addr} {ns : List Int} (hsc : ∃ o, c.h₀.get? sc = some o ∧ PInts ns o) (hz : ns.length ≤ 1000),
    TN c A [(57, PIs (tabObj #[])), (47, PTab)] (call (.ref 717) [.ref sc] []) (fun r Δ' => r = .bool true ∧ ∃ P : Pr, (∀ o, P o → PTab o) ∧ Sb [(57, P), (47, PTab)] Δ') E) : PySem.Challenge.rw_ez0180_01.Holds := by
  refine kopf ?_
  k_fill
  intro w s₀ s₁ mg mb G Y fa o pm cd doc dV kV ho hd hcd hD hmg hg args vals as hpre hlay hrd hwl hlo
  clear hd hD ho hcd
  have KX := km_in_of Y
  have hT8 := km_tabs_of Y
  refine Ground.open G ?_
  intro T B D TE TW
  clear G Y B D TE TW
  have hT9 : TabsAt [(59, 57), (49, 47)] s₁.heap := List.forall_mem_cons.mpr ⟨⟨codeHd_of_K (c := 59) (P := 57) KX (by kernel_rfl), hT8 57 (by k_mem)⟩, List.forall_mem_cons.mpr ⟨⟨codeHd_of_K (c := 49) (P := 47) KX (by kernel_rfl), hT8 47 (by k_mem)⟩, List.forall_mem_nil _⟩⟩
  clear hT8
  have hfa := mg_of (n := PySem.Str.ofString "law") (v := .ref 717) KX T.g (by kernel_rfl)
  have efa := hfa.symm.trans hmg
  cases efa
  clear hmg hfa
  have hsh := (pre_splitW hpre).1
  have hcond := (pre_splitW hpre).2
  obtain ⟨d, r, rfl, hx, hr⟩ := hasAllW_cons hsh
  have e := hasAllW_nil hr
  subst e
  obtain ⟨xs, rfl, hxs⟩ := hasW_list hx
  obtain ⟨ns, rfl⟩ := items_int hxs
  clear hsh hr hx hxs
  obtain ⟨v, vs', rfl, hw, hw'⟩ := wellAll_cons_inv hwl
  cases hw'
  cases hw
  rename_i a vs ha hvs
  have hi := ints_of_well hvs
  have hz : ns.length ≤ 1000 := by
    w_cond hcond
    rename_i h63 _
    rw [List.length_map] at h63
    omega
  have K : (kopf.heap_39 w.params).In (ghostOf s₁.heap [(59, 57), (49, 47)]) := ghost_K hT9 KX (by kernel_rfl)
  let C : Cx := ⟨w, ghostOf s₁.heap [(59, 57), (49, 47)], s₁.drawn, s₁.os, K, _, _, _, _, _, ghost_top hT9 T⟩
  have h57 := (hT9 _ (.head _)).2
  have h47 := (hT9 _ (.tail _ (.head _))).2
  have g57 : (ghostOf s₁.heap [(59, 57), (49, 47)]).get? 57 = none := hideAll_none _ (.head _)
  have g47 : (ghostOf s₁.heap [(59, 57), (49, 47)]).get? 47 = none := hideAll_none _ (.tail _ (.head _))
  have hS : St C [(57, PIs (tabObj #[])), (47, PTab)] s₁ := by
    refine ⟨fun b o e => of_hideAll _ e, fun p hp => ?_, by decide, rfl, rfl, .of_eq hg⟩
    rcases List.mem_cons.mp hp with rfl | hp
    · exact ⟨⟨_, h57, rfl⟩, g57, by decide⟩
    · rw [List.mem_singleton.mp hp]
      exact ⟨⟨_, h47, #[], rfl, trivial⟩, g47, by decide⟩
  have hsc : ∃ o, C.h₀.get? a = some o ∧ PInts ns o := ⟨_, ghost_get hT9 ha (fun q => by cases q), vs, _, rfl, hi⟩
  refine (hlaw (c := C) (A := callerA) (E := NoE) (by decide) rfl (by decide) frok_caller hsc hz s₁ hS).mono (fun v s' => ?_) fun e s' ⟨_, _, x⟩ => x.elim
  rintro ⟨Δ', hS', rfl, P, hP, hsb⟩
  have hS2 := hS'.sb hsb
  obtain ⟨o1, e1, q1⟩ := hS2.has (.head _)
  obtain ⟨p1, rfl, _⟩ := hP _ q1
  obtain ⟨p2, e2, _⟩ := hS2.tab (.tail _ (.head _))
  have tabs : ∀ b, b ∈ [(59, 57), (49, 47)].map (·.2) → ∀ o, s₁.heap.get? b = some o → isCodeTable s₁.heap b ∧ o = tabObj #[] ∧ ∃ ps, s'.heap.get? b = some (tabObj ps) := fun b hb o eo => by
    rcases List.mem_cons.mp hb with rfl | hb
    · rw [h57] at eo; cases eo
      exact ⟨((hT9 (59, 57) (.head _)).1.tab h57).isCodeTable, rfl, p1, e1⟩
    · obtain rfl := List.mem_singleton.mp hb
      rw [h47] at eo; cases eo
      exact ⟨((hT9 (49, 47) (.tail _ (.head _))).1.tab h47).isCodeTable, rfl, p2, e2⟩
  have keep : ∀ b o, b ∉ [(59, 57), (49, 47)].map (·.2) → s₁.heap.get? b = some o → s'.heap.get? b = some o := fun b o hb e => hS'.keep b o (ghost_ne e hb)
  refine ⟨.inl ⟨.bool true, .bool true, [], rfl, fun cls => raisesW_false allW_false_nil cls, .bool true, ?_, fun _ => ⟨.nil, fun _ h => absurd h List.not_mem_nil⟩⟩, ⟨fun b o e => ?_, fun b o e => ?_⟩, hS'.os, hS'.gens⟩
  · exact postW_of (by wrow_shape) (by wtm_val) (by w_fin)
  · by_cases hb : b ∈ [(59, 57), (49, 47)].map (·.2)
    · obtain ⟨ht, rfl, ps, q⟩ := tabs b hb o e
      exact .inr (.inl ⟨ht, rfl, #[], ps, rfl, by rw [Array.empty_append]; exact q⟩)
    · exact .inl (keep b o hb e)
  · by_cases hb : b ∈ [(59, 57), (49, 47)].map (·.2)
    · obtain ⟨_, _, ps, q⟩ := tabs b hb o e
      exact ⟨_, q⟩
    · exact ⟨o, keep b o hb e⟩
end
end Mine
theorem PySem.Challenge.cw_ez0180_01_holds : PySem.Challenge.rw_ez0180_01.Holds :=
  Mine.opened Mine.law
