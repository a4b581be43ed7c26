import PyProof.Rows.All
import Wide.All
import OpenK.AllK
import Wide.FinOn
import PySem.Challenge.RW_ny0159_01
set_option Elab.async false
section
-- part CLog
open PySem PySem.W PyProof.Rows PySem.Calls
open Sem (wp)
set_option maxRecDepth 100000
namespace Mine
/-! the library's logic, of those contexts alone that bear the claim's caller -/
def hasC (l : List (Code × Pos)) : Bool := l.any fun x => x.1.isCaller
def CtxC (Γ : PySem.Ctx) : Prop := Γ.code.isCaller = true ∨ hasC Γ.below = true
def wpC {α : Type} (M : Model) (A : Around) (t : Sem α) (Q : α → Shared → Prop) (E : Value → Shared → Prop) (s : Shared) : Prop :=
  ∀ Γ p, Γ.In A → CtxC Γ → wp M Γ t (fun a _ s' => Q a s') (fun e _ s' => E e s') p s
def codeC (M : Model) (A : Around) (c : Code) (R : Result → Shared → Prop) (s : Shared) : Prop :=
  ∀ Γ p, Γ.code = c → Γ.Below A → hasC Γ.below = true → wpCode M Γ R p s
section
variable {α β : Type} {M : Model} {A : Around} {E : Value → Shared → Prop} {s : Shared}
theorem wpC_of {t : Sem α} {Q : α → Shared → Prop} (h : wpAny M A t Q E s) : wpC M A t Q E s := fun Γ p hΓ _ => h Γ p hΓ
theorem codeC_of {c : Code} {R : Result → Shared → Prop} (h : codeAny M A c R s) : codeC M A c R s := fun Γ p hc hΓ _ => h Γ p hc hΓ
theorem wpC_mono {t : Sem α} {Q Q' : α → Shared → Prop} {E' : Value → Shared → Prop} (h : wpC M A t Q E s) (hQ : ∀ a s, Q a s → Q' a s) (hE : ∀ e s, E e s → E' e s) : wpC M A t Q' E' s :=
  fun Γ p hΓ hc => Sem.wp_mono M Γ t (fun a _ s => hQ a s) (fun e _ s => hE e s) p s (h Γ p hΓ hc)
theorem wpC_bind {m : Sem α} {f : α → Sem β} {Q : β → Shared → Prop} (h : wpC M A m (fun a s' => wpC M A (f a) Q E s') E s) : wpC M A (m >>= f) Q E s := fun Γ p hΓ hc => by
  rw [Sem.wp_bind']
  exact Sem.wp_mono M Γ m (fun a p' s' h' => h' Γ p' hΓ hc) (fun _ _ _ h' => h') p s (h Γ p hΓ hc)
/-- the first step needs no caller -/
theorem wpC_bindA {m : Sem α} {f : α → Sem β} {Q : β → Shared → Prop} (h : wpAny M A m (fun a s' => wpC M A (f a) Q E s') E s) : wpC M A (m >>= f) Q E s := wpC_bind (wpC_of h)
theorem wpC_pure {a : α} {Q : α → Shared → Prop} (h : Q a s) : wpC M A (pure a) Q E s := wpC_of (wpAny_pure h)
theorem wpC_holding {vs : List Value} {m : Sem α} {Q : α → Shared → Prop} (h : wpC M A m Q E s) : wpC M A (holding vs m) Q E s :=
  fun Γ p hΓ hc => by rw [Sem.wp_holding]; exact h Γ p hΓ hc
theorem wpC_onRaise {m : Sem α} {k : Value → Sem Unit} {Q : α → Shared → Prop}
    (h : wpC M A m Q (fun e s' => wpC M A (k e) (fun _ s'' => E e s'') E s') s) : wpC M A (m.onRaise k) Q E s := fun Γ p hΓ hc => by
  rw [Sem.wp_onRaise]
  exact Sem.wp_mono M Γ m (fun _ _ _ h' => h') (fun e p' s' h' => h' Γ p' hΓ hc) p s (h Γ p hΓ hc)
theorem wpC_attempt {m : Sem α} {Q : Except Value α → Shared → Prop} (h : wpC M A m (fun a => Q (.ok a)) (fun e => Q (.error e)) s) : wpC M A m.attempt Q E s :=
  fun Γ p hΓ hc => by rw [Sem.wp_attempt]; exact h Γ p hΓ hc
theorem wpC_tryCatch {m : Sem α} {k : Value → Sem α} {Q : α → Shared → Prop} (h : wpC M A m Q (fun e s' => wpC M A (k e) Q E s') s) : wpC M A (tryCatch m k) Q E s := fun Γ p hΓ hc => by
  rw [Sem.wp_tryCatch']
  exact Sem.wp_mono M Γ m (fun _ _ _ h' => h') (fun e p' s' h' => h' Γ p' hΓ hc) p s (h Γ p hΓ hc)
theorem enter_hasC {Γ : PySem.Ctx} (c : Code) (hd : Option Value) (p : Pos) (h : CtxC Γ) : hasC (Γ.enter c hd p).below = true := by
  show hasC ((Γ.code, p) :: Γ.below) = true
  unfold hasC
  rw [List.any_cons]
  rcases h with h | h
  · rw [show ((Γ.code, p) : Code × Pos).1.isCaller = true from h]; rfl
  · unfold hasC at h; rw [h, Bool.or_true]
theorem wpC_run {c : Code} {h : Option Value} {Q : Flow → Shared → Prop}
    (hc : codeC M (A.mark h) c (fun r s' => match r with | .ok f => Q f s' | .error e => E e s') s) (hnb : h ≠ some byPass := by intro x; cases x) : wpC M A (run c h) Q E s :=
  fun Γ p hΓ hC => by rw [Sem.wp_run]; exact hc _ p rfl (hΓ.enter c h p hnb) (enter_hasC c h p hC)
theorem wpC_runValue {c : Code} {Q : Value → Shared → Prop}
    (hc : codeC M A c (fun r s' => match r with | .ok (.ret v) => Q v s' | .ok _ => False | .error e => E e s') s) :
    wpC M A (runValue c) Q E s := fun Γ p hΓ hC => by rw [Sem.wp_runValue]; exact hc _ p rfl (hΓ.enter c none p (by intro x; cases x)) (enter_hasC c none p hC)
theorem wpC_call {f : Value} {pos : List Value} {kw : List (Str × Value)} {Q : Value → Shared → Prop}
    (hc : codeC M A (.call f ⟨pos, kw⟩) (fun r s' => match r with | .ok (.ret v) => Q v s' | .ok _ => False | .error e => E e s') s) :
    wpC M A (call f pos kw) Q E s := wpC_runValue hc
theorem codeC_mono {c : Code} {R R' : Result → Shared → Prop} (h : codeC M A c R s) (hR : ∀ r s, R r s → R' r s) : codeC M A c R' s :=
  fun Γ p hc hΓ hC => wpCode_mono hR (h Γ p hc hΓ hC)
theorem codeC_of_tree {c : Code} {R : Result → Shared → Prop}
    (h : wpC M (A.under c) (M.den c) (fun fin s' => match fin with | .done f => R (.ok f) s' | .again c' => c'.quiet = true ∧ codeC M A c' R s')
      (fun e s' => R (.error e) s') s) : codeC M A c R s := fun Γ p hc hΓ hC => by
  rw [wpCode_iff_wp, hc]
  refine Sem.wp_mono M Γ _ (fun fin p' s' h' => ?_) (fun _ _ _ h' => h') p s (h Γ p (hc ▸ hΓ.in) (.inr hC))
  cases fin with
  | done f => exact h'
  | again c' => exact ⟨h'.1, h'.2 (Γ.goto c') p' rfl (hΓ.goto c') hC⟩
theorem wpC_stack {Q : List (Code × Pos) → Shared → Prop} (h : ∀ st : List (Code × Pos), hasC st = true → Q st s) : wpC M A stack Q E s := fun Γ p hΓ hC => by
  show Q ((Γ.code, p) :: Γ.below) s
  exact h _ (enter_hasC Γ.code none p hC)
end
end Mine
end
section
-- part HeadC
open PySem PySem.W PyProof.Rows PySem.Calls
open Sem (wp)
set_option maxRecDepth 100000
namespace Mine
theorem thread_endsC {prog : Program} {w : World} {t : Sem Fin} {s : Shared} {R : Result → Shared → Prop} (hreg : s.asleep)
    (h : wpC (model prog w) callerA t (fun fin s' => ∃ f, fin = .done f ∧ (R (.ok f) s' ∧ leftWithCleanup s'.gens = false)) (fun e s' => R (.error e) s' ∧ leftWithCleanup s'.gens = false) s) :
    ∃ n r s' s'', runN (denote table) prog w n s ⟨t, .builtin "claim.caller" {}, default, []⟩ = .halted (outcomeOf r) s' ∧
      schedN (denote table) prog w n (.single s ⟨t, .builtin "claim.caller" {}, default, []⟩) = .halted (outcomeOf r) s' ∧ s'.forget = s''.forget ∧ R r s'' := by
  have hw : wp (model prog w) ⟨.builtin "claim.caller" {}, none, none, [], none⟩ t (Sem.finPost (model prog w) ⟨.builtin "claim.caller" {}, none, none, [], none⟩ (fun r s' => R r s' ∧ leftWithCleanup s'.gens = false))
      (fun e _ s' => (fun r s' => R r s' ∧ leftWithCleanup s'.gens = false) (.error e) s') default s := by
    refine Sem.wp_mono _ _ t (fun fin p' s' h' => ?_) (fun _ _ _ h' => h') default s (h _ default caller_in (.inl rfl))
    obtain ⟨f, rfl, hf⟩ := h'
    exact hf
  obtain ⟨n, r, s₁, s₂, hs, hn, hfo, hR⟩ := wp_halts_full (M := model prog w) (R := R) hreg hw
  exact ⟨n, r, s₂, s₁, hn, hs, hfo, hR⟩

theorem callFromC {c : ClaimW} {tree : List Value → Sem Fin} {w : World} {s : Shared} {free : Addr → Prop} {gens : Prop} {kept : Heap → Prop} (hz : s.asleep) (hgens : s.gens = #[])
    (hspec : ∀ args, c.pre args = true → WData.layableAll args = true →
      ∀ ord : List DictEntry → List DictEntry, (∀ l, (ord l).Perm l) →
      ∃ vs s₁, layAllW c.records (classAt s.heap) w.params ord args s = some (vs, s₁) ∧
        wpC (model c.prog w) callerA (tree vs) (fun fin s' => ∃ f, fin = .done f ∧ (c.Ends s args vs s₁ (.ok f) s' ∧ s'.os = s.os ∧ AllBare s'.gens ∧ kept s'.heap))
          (fun e s' => c.Ends s args vs s₁ (.error e) s' ∧ s'.os = s.os ∧ AllBare s'.gens ∧ kept s'.heap) s₁) :
    c.CallFrom (fun vs => ⟨tree vs, .builtin "claim.caller" {}, default, []⟩) w free gens kept s := by
  intro args hpre hlay ord hord
  obtain ⟨vs, s₁, hlaid, hcode⟩ := hspec args hpre hlay ord hord
  have hal := layAllW_rest _ _ _ hlaid
  obtain ⟨k, r, s', s'', hrun, hsched, hfo, hcase, hos, hkp⟩ := thread_endsC (prog := c.prog) (w := w) (t := tree vs) (s := s₁)
    (R := fun r s' => c.Ends s args vs s₁ r s' ∧ s'.os = s.os ∧ kept s'.heap)
    (Shared.asleep_of_life hal.2.2.2 hz)
    (wpC_mono hcode (by
      rintro fin s' ⟨f, e, h1, h2, h3, h4⟩
      exact ⟨f, e, ⟨h1, h2, h4⟩, leftWithCleanup_false_of_bare h3⟩) (by
      rintro e s' ⟨h1, h2, h3, h4⟩
      exact ⟨⟨h1, h2, h4⟩, leftWithCleanup_false_of_bare h3⟩))
  obtain ⟨eh, _, _, eo, _⟩ := Shared.forget_eq hfo
  have hcase := hcase.congr eh
  have hkp : kept s'.heap := by first | exact eh ▸ hkp | (rw [eh] at hkp; exact hkp) | (rw [← eh] at hkp; exact hkp)
  rw [← eo] at hos
  have hlife : s'.heap.life = s.heap.life := (runN_life _ _ _ hrun).trans hal.2.2.2
  refine ⟨vs, s₁, hlaid, k, _, s', hsched, ?_, (fun _ i x hx => by rw [hgens] at hx; simp at hx), hkp, by rw [hlife], Shared.rest_eq hos⟩
  rcases hcase with ⟨v, rfl, d1, d2, d3, d4, d5⟩ | ⟨e, ob, cls, rfl, d1, d2, d3, d4, d5⟩
  · exact .inl ⟨v, rfl, d1, d2, d3, fun b o y _ => d4 b o y, d5⟩
  · exact .inr ⟨e, ob, cls, rfl, d1, d2, d3, d4, fun b o y _ => d5 b o y⟩

theorem open_anyC {r : RowW} {run : Value → List Value → Sem Value} {tree : List Value → Sem Fin} {q : Program} {loose defs kps : List Str} {writes : Bool} {Xt : Shared → Bool} {XP : (Str → Option Value) → Heap → Prop} {α : Type} {Yf : Shared → α} {Ya : World → α} {YP : World → Heap → Prop} {N : Nat}
    (left : LeftO r.prog q loose Xt Yf Ya N) (hY : ∀ w s, Yf s = Ya w → YP w s.heap) (hYk : ∀ w h h', YP w h → (∀ b o, h.get? b = some o → h'.get? b = some o) → YP w h') (hX : ∀ s, Xt s = true → XP (s.heap.nsMap mainGlobals) s.heap) (hXk : ∀ mg h h', XP mg h → (∀ b o, h.get? b = some o → h'.get? b = some o) → XP mg h')
    (hRf : ∀ s, Xt s = true → RecFacts r.records s.heap) (hwr : (!writes || r.records.isEmpty) = true) (ok : (chainsOk q && opensWell r.prog && (frees r && r.within.isEmpty)) = true) (hb : r.prog.bare) (hw : r.promised)
    (ht : ∀ vs (w : World) (s : Shared) mg f (Q : Fin → Shared → Prop) (E : Value → Shared → Prop), s.heap.Ns mainGlobals mg → mg r.name = some f → wpC (model r.prog w) callerA (run f vs) (fun v s' => Q (.done (.ret v)) s') E s → wpC (model r.prog w) callerA (tree vs) Q E s)
    (pin : ∀ w s, s.heap.isNs mainGlobals = true → Ground q loose [] XP w s (s.heap.nsMap mainGlobals) (s.heap.nsMap builtinsNs) s.heap → ∀ n ∈ defs, isTheDefsW r.prog s.heap n)
    (call : ∀ (w : World) (s₀ s₁ : Shared) (mg mb : Str → Option Value), Ground q loose r.records XP w s₀ mg mb s₁.heap → YP w s₁.heap → ∀ (args : List WData) (vs : List Value) (as : List Addr),
      r.claim.pre args = true → WData.layableAll args = true → Laid r.records w s₀ s₁ args vs as → sysModules < s₀.heap.objs.size → ∃ f, mg r.name = some f ∧
        wpC (model r.prog w) callerA (run f vs) (fun v s' => GoodWG r.claim (classAt s₀.heap) (ExcName.means s₀.heap) args s₁ (.ok (.ret v)) s')
          (fun e s' => GoodWG r.claim (classAt s₀.heap) (ExcName.means s₀.heap) args s₁ (.error e) s') s₁) : r.claim.HoldsOpenBy (fun vs => ⟨tree vs, .builtin "claim.caller" {}, default, []⟩) defs kps writes := by
  obtain ⟨ok, k5⟩ := Bool.and_eq_true_iff.mp ok
  obtain ⟨hch, o1⟩ := Bool.and_eq_true_iff.mp ok
  obtain ⟨k5, k6⟩ := Bool.and_eq_true_iff.mp k5
  obtain ⟨hsame, hu, ha, hap, hm⟩ := frees_parts k5
  refine ⟨⟨hb, o1, by show r.makers.map _ = []; rw [hm]; rfl⟩, hw.witness, fun w => ⟨(left.behind hX hch w).1, fun s' hs' => ?_⟩⟩
  obtain ⟨s₀, hf, hg0, s, hT, hz, hgens, hg, G00, y⟩ := (left.behind (XP := fun mg h => XP mg h ∧ RecFacts r.records h) (fun s hs => ⟨hX s hs, hRf s hs⟩) hch w).2 s' hs'
  have G0 : Ground q loose [] XP w s (s.heap.nsMap mainGlobals) (s.heap.nsMap builtinsNs) s.heap := ⟨G00.T, G00.B, G00.D, G00.TE, G00.TD, G00.W, G00.X.1, G00.cls, G00.has, G00.apart, G00.once, G00.K⟩
  have RF := G00.X.2
  have hT' := hT
  refine ⟨s₀, hf, hg0, s, hT, pin w s hg G0, RF.1, RF.2.1, ?_⟩
  have hgens : s.gens = #[] := Array.eq_empty_of_size_eq_zero (beq_iff_eq.mp hgens)
  have G : Ground q loose r.records XP w s _ _ s.heap := RF.ground G0
  refine callFromC (c := r.claim) hz hgens fun args hpre hlay ord hord => ?_
  obtain ⟨⟨vs, s₁⟩, hlaid⟩ := Option.isSome_iff_exists.mp (layAllW_isSome (P := w.params) (ord := ord) G.has args r.args s (pre_splitW hpre).1)
  have keeps := layAllW_keeps _ _ _ hlaid
  have hal := layAllW_rest _ _ _ hlaid
  obtain ⟨as, hrd, hin, hold⟩ := reads_layAllW hord _ _ _ hlaid hlay s₁.heap (fun _ _ e => e)
  have L : Laid r.records w s s₁ args vs as := ⟨⟨ord, hord, hlaid⟩, hrd, hin, hold, keeps, hal.1.trans hgens, hal.2.2.1⟩
  have G₁ := G.keeps hXk keeps
  obtain ⟨f, hf, h⟩ := call w s s₁ _ _ G₁ (hYk _ _ _ (hY w s y) keeps) args vs as hpre hlay L G.low
  have hi := ident_freeW hu ha hap
  have hwi : r.claim.within = [] := List.isEmpty_iff.mp k6
  exact ⟨vs, s₁, hlaid, ht vs w s₁ _ f _ _ G₁.T.g hf (wpC_mono h (fun v s' g => ⟨_, rfl, have z := g.laid (c := r.claim) hsame hwi hi L; ⟨z.1, z.2.1, z.2.2, fun q => ⟨namesKept_of hT' hg kps keeps g.2.1.old, noTable hwr q⟩⟩⟩) fun e s' g => have z := g.laid (c := r.claim) hsame hwi hi L; ⟨z.1, z.2.1, z.2.2, fun q => ⟨namesKept_of hT' hg kps keeps g.2.1.old, noTable hwr q⟩⟩)⟩

abbrev WalkC (q : Program) (loose : List Str) (XP : (Str → Option Value) → Heap → Prop) (YP : World → Heap → Prop) (r : RowW) (d : DefRec) (kwd : List (Str × PySem.Expr)) (run : Value → List Value → Sem Value) : Prop :=
  ∀ (w : World) (s₀ s₁ : Shared) (mg mb : Str → Option Value), Ground q loose r.records XP w s₀ mg mb s₁.heap → YP w s₁.heap → ∀ (a : Addr) (o : Obj) (pm cd doc dV kV : Value), s₁.heap.get? a = some o →
    o.data = .func { docDef d.name d.params d.body d.scope pm cd doc with defaults := dV, kwdefaults := kV } → s₁.heap.CodeRec cd d.name → Dflts mg s₁.heap d.params kwd dV kV → mg d.name = some (.ref a) → s₁.gens = #[] →
    ∀ (args : List WData) (vals : List Value) (as : List Addr), r.claim.pre args = true → WData.layableAll args = true → ReadsAllW r.records (classAt s₀.heap) s₁.heap vals args as → WellAll w.params s₁.heap vals args → (∀ a ∈ as, (a == sysModules) = false) →
      wpC (model r.prog w) callerA (run (.ref a) vals) (fun v s' => GoodWG r.claim (classAt s₀.heap) (ExcName.means s₀.heap) args s₁ (.ok (.ret v)) s')
        (fun e s' => GoodWG r.claim (classAt s₀.heap) (ExcName.means s₀.heap) args s₁ (.error e) s') s₁

/-- the head of an open row, its walk asked of contexts that bear the caller (the library's tactic finds it by this name) -/
theorem PySem.W.holds_open {r : OpenRow} {q : Program} {loose : List Str} {Xt : Shared → Bool} {XP : (Str → Option Value) → Heap → Prop} {α : Type} {Yf : Shared → α} {Ya : World → α} {YP : World → Heap → Prop} {d : DefRec} {kwd : List (Str × PySem.Expr)} {N : Nat}
    (left : LeftO r.prog q loose Xt Yf Ya N) (hY : ∀ w s, Yf s = Ya w → YP w s.heap) (hYk : ∀ w h h', YP w h → (∀ b o, h.get? b = some o → h'.get? b = some o) → YP w h')
    (hX : ∀ s, Xt s = true → XP (s.heap.nsMap mainGlobals) s.heap) (hXk : ∀ mg h h', XP mg h → (∀ b o, h.get? b = some o → h'.get? b = some o) → XP mg h')
    (hdef : defOf q r.name = some (d, kwd)) (hp : r.prog.theDef r.name = some (d.params, d.body, d.scope)) (hk : kwWritten? d.params.kwonlyargs d.params.kw_defaults = some kwd) (hRf : ∀ s, Xt s = true → RecFacts r.records s.heap) (hwr : (!r.writes || r.records.isEmpty) = true)
    (k1 : r.wellSaid = true) (ok : (chainsOk q && opensWell r.prog && (frees r.toRowW && r.within.isEmpty)) = true) (hb : r.prog.bare) (hw : r.toRowW.promised)
    (call : WalkC q loose XP YP r.toRowW d kwd fun f vs => PySem.call f vs) : r.Holds := by
  refine ⟨k1, hw, open_anyC (r := r.toRowW) (run := fun f vs => PySem.call f vs) (tree := fun vs => do match ← nsGet mainNs r.name with
      | some f => do ret (← PySem.call f vs)
      | none => unsupported "claim.caller:no-such-global") left hY hYk hX hXk hRf hwr ok hb hw
    (fun vs w s mg f Q E hg hf h => wpC_bindA (wpAny_nsGet hg (by rw [hf]; exact wpC_bind (wpC_mono h (fun _ _ x => wpC_pure x) fun _ _ x => x))))
    (fun w s hg G n hn => ?_) fun w s₀ s₁ mg mb G Y args vs as hpre hlay L low => ?_⟩
  · obtain rfl : n = r.name := by split at hn <;> simp_all
    exact pinned_of_view hg G hdef hp hk
  · obtain ⟨a, o, pm, cd, doc, dV, kV, h1, h2, h3, h4, h5⟩ := G.fn hdef
    exact ⟨.ref a, h1, call w s₀ s₁ mg mb G Y a o pm cd doc dV kV h2 h3 h4 h5 (defOf_name hdef ▸ h1) L.gens args vs as hpre hlay L.reads L.well (L.low low)⟩
end Mine
end
section
-- part Hd
open PySem PySem.W PyProof.Rows
namespace Mine
set_option maxRecDepth 100000 in
set_option maxHeartbeats 8000000 in
open_top hd for PySem.Challenge.rw_ny0159_01
end Mine
end
section
-- part PS
open PySem
namespace Mine
/-- what the sign c is written as, at each place where it stands -/
def subst1 (c : Nat) (r : List Nat) (l : List Nat) : List Nat := l.flatMap fun d => if d = c then r else [d]
def mkS (l : List Nat) : Str := ⟨l.toArray⟩
theorem mkS_list (l : List Nat) : (mkS l).cps.toList = l := rfl
theorem mkS_self (x : Str) : mkS x.cps.toList = x := by cases x; rfl
theorem subst1_append (c : Nat) (r a b : List Nat) : subst1 c r (a ++ b) = subst1 c r a ++ subst1 c r b := by simp [subst1]
theorem subst1_free {c : Nat} {r : List Nat} : ∀ {l : List Nat}, c ∉ l → subst1 c r l = l
  | [], _ => rfl
  | d :: l, h => by
    have h1 : d ≠ c := fun e => h (e ▸ List.mem_cons_self)
    have h2 : c ∉ l := fun e => h (List.mem_cons_of_mem _ e)
    have := subst1_free (r := r) h2
    simp only [subst1, List.flatMap_cons, if_neg h1] at *
    rw [this]; rfl
theorem join_subst {c : Nat} {r : Str} : ∀ {ps : List Str}, (∀ p ∈ ps, c ∉ p.cps.toList) → (Str.join r ps).cps.toList = subst1 c r.cps.toList (Str.join ⟨#[c]⟩ ps).cps.toList
  | [], _ => rfl
  | [p], h => (subst1_free (h p List.mem_cons_self)).symm
  | p :: q :: ps, h => by
    have ih := join_subst (r := r) (ps := q :: ps) fun y hy => h y (List.mem_cons_of_mem _ hy)
    have e1 : (Str.join r (p :: q :: ps)).cps.toList = p.cps.toList ++ r.cps.toList ++ (Str.join r (q :: ps)).cps.toList := by
      show (p ++ r ++ Str.join r (q :: ps)).cps.toList = _
      simp [Str.cps_append]
    have e2 : (Str.join ⟨#[c]⟩ (p :: q :: ps)).cps.toList = p.cps.toList ++ [c] ++ (Str.join ⟨#[c]⟩ (q :: ps)).cps.toList := by
      show (p ++ ⟨#[c]⟩ ++ Str.join ⟨#[c]⟩ (q :: ps)).cps.toList = _
      simp [Str.cps_append]
    rw [e1, e2, ih, subst1_append, subst1_append, subst1_free (h p List.mem_cons_self)]
    simp [subst1]
theorem replace_subst (x r : Str) (c : Nat) : Txt.replace x ⟨#[c]⟩ r = mkS (subst1 c r.cps.toList x.cps.toList) := by
  rw [StrLaws.replace_one]
  have h := join_subst (r := r) (StrLaws.split_free x c)
  rw [StrLaws.join_split] at h
  rw [← h, mkS_self]
end Mine
end
section
-- part CRules
open PySem PySem.W PyProof.Rows PySem.Calls
open Sem (wp)
set_option maxRecDepth 100000
namespace Mine
section
variable {prog : Program} {w : World} {A : Around} {E : Value → Shared → Prop} {R : Result → Shared → Prop} {s : Shared}
theorem codeC_builtin {id : String} {args : Args} {b : Builtin} (hb : entryFor table id = some b)
    (h : wpC (model prog w) (A.under (.builtin id args)) (b args)
      (fun fin s' => match fin with | .done f => R (.ok f) s' | .again c' => c'.quiet = true ∧ codeC (model prog w) A c' R s') (fun e s' => R (.error e) s') s) :
    codeC (model prog w) A (.builtin id args) R s := by
  refine codeC_of_tree ?_
  show wpC _ _ (match entryFor table id with | some b => b args | none => unsupported ((withoutEnding? id "#data").getD id)) _ _ s
  rw [hb]; exact h
theorem codeC_call_builtin {id : String} {args : Args} {b : Builtin} (hq : plainId id = true) (hb : entryFor table id = some b)
    (h : wpAny (model prog w) A.in1 (checkBuiltinCall id args) (fun _ s₁ => wpC (model prog w) A.in1 (b args)
      (fun fin s' => match fin with | .done f => R (.ok f) s' | .again c' => c'.quiet = true ∧ codeC (model prog w) A c' R s') (fun e s' => R (.error e) s') s₁)
      (fun e s' => R (.error e) s') s) : codeC (model prog w) A (.call (.builtin id) args) R s := by
  refine codeC_of_tree ?_
  show wpC _ A.in1 (do checkBuiltinCall id args; again (.builtin id args)) _ _ s
  refine wpC_bindA (wpAny_mono h (fun _ s₁ h₁ => wpC_pure (And.intro (plainId_quiet hq args) (codeC_builtin hb ?_))) fun _ _ h' => h')
  rw [Around.under_plainId hq args]; exact h₁
theorem wpC_callSpecial {M : Model} {self : Value} {T : String} {name : Str} {id : String} {args : List Value} {kw : List (Str × Value)}
    {Q : Option Value → Shared → Prop} (hT : s.TypeIs self T) (h : Slot T name id)
    (hc : wpC M A (call (.builtin id) (self :: args) kw) (fun v => Q (some v)) E s) : wpC M A (callSpecial? self name args kw) Q E s := by
  simp only [callSpecial?]
  refine wpC_bindA (wpAny_specialOf hT h.lookup ?_)
  simp only [h.bind]
  exact wpC_holding (wpC_bindA (wpAny_pure (wpC_bind (wpC_mono hc (fun v s' h' => wpC_pure h') fun _ _ h' => h'))))
/-- a slot's builtin, called on a thing of its type -/
theorem wpC_call_slot {self : Value} {T : String} {name : Str} {id : String} {args : List Value} {b : Builtin} {Q : Value → Shared → Prop} (h : Slot T name id) (hT : s.TypeIs self T) (hb : entryFor table id = some b)
    (hok : argsOk id ⟨self :: args, []⟩)
    (hc : wpC (model prog w) A.in1 (b ⟨self :: args, []⟩) (fun fin s' => match fin with | .done f => (match f with | .ret v => Q v s' | _ => False) | .again c' => c'.quiet = true ∧ codeC (model prog w) A c' (fun r s' => match r with | .ok (.ret v) => Q v s' | .ok _ => False | .error e => E e s') s') E s) :
    wpC (model prog w) A (call (.builtin id) (self :: args)) Q E s := by
  refine wpC_call (codeC_call_builtin h.plain hb (h.check _ _ _ _ _ _ _ _ hT hok (wpC_mono hc (fun fin s' q => ?_) fun _ _ e => e)))
  cases fin with
  | done f => cases f <;> exact q
  | again c' => exact q

theorem wpC_pyNext {it : Value} {Q : Option Value → Shared → Prop} (h : wpC (model prog w) A (callSpecial? it "__next__") (fun r s' => match r with | some v => Q (some v) s' | none => False)
      (fun e s' => wpAny (model prog w) A (isInstance e (.type "StopIteration")) (fun b s'' => if b = true then Q none s'' else E e s'') E s') s) : wpC (model prog w) A (pyNext it) Q E s := by
  unfold pyNext
  refine wpC_bind (wpC_attempt (wpC_mono h (fun r s' q => ?_) fun e s' q => ?_))
  · cases r with
    | none => exact q.elim
    | some v => exact wpC_pure q
  · refine wpC_bindA (wpAny_mono q (fun b s'' q' => ?_) fun _ _ x => x)
    cases b with
    | true => exact wpC_pure q'
    | false => exact wpC_of (wpAny_throw q')

theorem wpC_nextOf {it : Value} {Q : Value → Shared → Prop} (h : wpC (model prog w) A (callSpecial? it "__next__") (fun r s' => match r with | some v => Q v s' | none => False) E s) :
    wpC (model prog w) A (Builtin.SmallTypes.nextOf it) Q E s := by
  unfold Builtin.SmallTypes.nextOf
  refine wpC_bind (wpC_mono h (fun r s' q => ?_) fun _ _ x => x)
  cases r with
  | none => exact q.elim
  | some v => exact wpC_pure q

theorem typeCall_tree {T newId initId : String} {args : List Value} (ft : TypeCalled T newId initId) (hct : checkTypeCall T ⟨args, []⟩ = pure ()) :
    Builtin.«type.__call__» ⟨.type T :: args, []⟩ = (holding [.builtin newId] (call (.builtin newId) (.type T :: args) []) >>= fun obj => isInstance obj (.type T) >>= fun b =>
      if (!b) = true then (do rule "type.call.new-gave-other-type"; ret obj) else holding [obj] (callSpecial? obj "__init__" args []) >>= fun r => match r with
        | none => ret obj
        | some r => if (r != .none) = true then (do rule "type.call.init-returned-value"; raiseError "TypeError" s!"__init__() should return None, not '{← typeNameOf r}'"; ret obj) else ret obj) := by
  obtain ⟨c, tl, hmro⟩ := ft.mro
  have hmade := ft.made
  have h1 := ft.notType
  have h2 := ft.canCreate
  unfold Builtin.«type.__call__»
  simp only [h1, h2, hct, hmro, hmade, pure_bind, Bool.false_eq_true, if_false, List.isEmpty_cons]
  rfl

theorem callTypeC {T newId initId : String} {Bi : Builtin} {args : List Value} {Q Q₁ : Value → Shared → Prop} (ft : TypeCalled T newId initId)
    (hct : checkTypeCall T ⟨args, []⟩ = pure ()) (entryI : entryFor table initId = some Bi)
    (hnew : codeC (model prog w) A.in1 (.call (.builtin newId) ⟨.type T :: args, []⟩) (fun r s' => match r with | .ok (.ret v) => Q₁ v s' | .ok _ => False | .error e => E e s') s)
    (hnext : ∀ obj s₁, Q₁ obj s₁ → s₁.TypeIs obj T ∧ argsOk initId ⟨obj :: args, []⟩ ∧
      wpC (model prog w) A.in1.in1 (Bi ⟨obj :: args, []⟩)
        (fun fin s' => match fin with | .done f => (match f with | .ret v => v = .none ∧ Q obj s' | _ => False) | .again c' => c'.quiet = true ∧ codeC (model prog w) A.in1 c' (fun r s' => match r with | .ok (.ret v) => v = .none ∧ Q obj s' | .ok _ => False | .error e => E e s') s') E s₁) :
    wpC (model prog w) A (call (.type T) args) Q E s := by
  refine wpC_call (codeC_of_tree ?_)
  show wpC _ _ (callAny (.type T) _) _ _ _
  refine wpC_pure ⟨Code.quiet_builtin _ (by decide +kernel), codeC_builtin F.entry_type_call ?_⟩
  rw [Around.under_plain (weight_type_call_type T args []) rfl, typeCall_tree ft hct]
  refine wpC_bind (wpC_holding (wpC_call (codeC_mono hnew fun r s₁ hr => ?_)))
  cases r with
  | error e => exact hr
  | ok fl =>
    cases fl with
    | ret obj =>
      obtain ⟨hT, hok, hi⟩ := hnext _ _ hr
      refine wpC_bindA (wpAny_isInstance (b := true) hT ft.sub ?_)
      rw [if_neg (by decide)]
      refine wpC_bind (wpC_holding (wpC_callSpecial hT ft.init (wpC_mono (wpC_call_slot ft.init hT entryI hok (Q := fun v s' => v = .none ∧ Q obj s') hi) (fun v s' q => ?_) fun _ _ e => e)))
      obtain ⟨rfl, hq⟩ := q
      exact wpC_pure hq
    | _ => exact hr.elim
end
end Mine
end
section
-- part CStmts
open PySem PySem.W PyProof.Rows PySem.Calls
open Sem (wp)
set_option maxRecDepth 100000
namespace Mine
section
variable {M : Model} {A : Around} {E : Value → Shared → Prop} {s : Shared} {env : Env}
theorem wpC_keep {α : Type} {vs : List Value} {m : Sem α} {Q : α → Shared → Prop} (h : wpC M A m Q E s) : wpC M A (m.keep vs) Q E s :=
  fun Γ p hΓ hc => by rw [Sem.wp_keep]; exact h Γ p hΓ hc
theorem wpC_operate {vs : List Value} {m : Sem Value} {Q : Value → Shared → Prop} (h : wpC M A m Q E s) : wpC M A (operate vs m) Q E s := fun Γ p hΓ hc => by
  rw [Sem.wp_operate]; exact h Γ p hΓ hc
theorem execsC_cons {st : Stmt} {rest : List Stmt} {Q : Flow → Shared → Prop}
    (h : wpC M A (exec st env) (fun f s' => match f with | .next => wpC M A (execs rest env) Q E s' | f => Q f s') E s) :
    wpC M A (execs (st :: rest) env) Q E s := fun Γ p hΓ hc => by
  rw [execs_cons, Sem.wp_bind']
  refine Sem.wp_mono M Γ _ (fun f p' s' h' => ?_) (fun _ _ _ h' => h') _ _ (h Γ p hΓ hc)
  cases f <;> first | exact h' Γ p' hΓ hc | exact h'
/-- a statement that needs no caller, then the rest -/
theorem execsC_consA {st : Stmt} {rest : List Stmt} {Q : Flow → Shared → Prop}
    (h : wpAny M A (exec st env) (fun f s' => match f with | .next => wpC M A (execs rest env) Q E s' | f => Q f s') E s) :
    wpC M A (execs (st :: rest) env) Q E s := execsC_cons (wpC_of h)
theorem IfC {test : Expr} {body orelse : List Stmt} {pos : Pos} {Q : Flow → Shared → Prop}
    (h : wpC M A (isTrue test env (eval test env)) (fun b s₂ => if b = true then wpC M A (execs body env) Q E s₂ else wpC M A (execs orelse env) Q E s₂) E s) :
    wpC M A (exec (.If test body orelse pos) env) Q E s := by
  rw [exec_If]
  refine wpC_bindA (wpAny_standAt (wpC_bind (wpC_mono h (fun b s₂ h₂ => ?_) fun _ _ x => x)))
  cases b
  · exact h₂
  · exact h₂
theorem AssignC {x : Str} {pos' : Pos} {value : Expr} {pos : Pos} {Q : Flow → Shared → Prop}
    (h : wpC M A (eval value env) (fun v s₁ => wpAny M A (storeName env x v) (fun _ => Q .next) E s₁) E s)
    (hs : swapsWith value (some (.Name x pos')) pos.line env = pure false := by rfl) :
    wpC M A (exec (.Assign [.Name x pos'] value pos) env) Q E s := fun Γ p hΓ hc => by
  simp only [exec_Assign_Name env x pos' value pos hs, Sem.wp_bind', Sem.wp_cmd_standAt, Sem.wp_bindName, Sem.wp_pure']
  exact Sem.wp_mono M Γ _ (fun v _ s₁ h₁ => h₁ Γ _ hΓ) (fun _ _ _ h' => h') _ _ (h Γ _ hΓ hc)
theorem isTrueC_not {x : Expr} {pos : Pos} {whole : Sem Value} {Q : Bool → Shared → Prop} (h : wpC M A (isTrue x env (eval x env)) (fun c s' => Q (!c) s') E s) :
    wpC M A (isTrue (.UnaryOp .Not x pos) env whole) Q E s := by
  show wpC M A (do return !(← isTrue x env (eval x env))) Q E s
  exact wpC_bind (wpC_mono h (fun c s' h' => wpC_pure h') fun _ _ x => x)
theorem isTrueC_or {x : Expr} {rest : List Expr} {pos : Pos} {whole : Sem Value} {Q : Bool → Shared → Prop}
    (h : wpC M A (isTrue x env (eval x env)) (fun c s' => if c = true then Q true s' else wpAny M A (isTrue (.BoolOp .Or rest pos) env whole) Q E s') E s) :
    wpC M A (isTrue (.BoolOp .Or (x :: rest) pos) env whole) Q E s := by
  show wpC M A (do
    match BoolOp.Or, ← isTrue x env (eval x env) with
    | .And, false => pure false
    | .Or, true => pure true
    | _, _ => allTrue .Or rest env) Q E s
  refine wpC_bind (wpC_mono h (fun c s' h' => ?_) fun _ _ x => x)
  cases c with
  | true => exact wpC_pure h'
  | false => exact wpC_of h'
theorem isTrueC_plain {e : Expr} {whole : Sem Value} {Q : Bool → Shared → Prop} (h : wpC M A whole (fun v s₁ => wpAny M A (truthy v) Q E s₁) E s)
    (he : isTrue e env whole = (do let v ← whole; standAt e.pos; holding [v] (truthy v)) := by rfl) : wpC M A (isTrue e env whole) Q E s := by
  rw [he]
  exact wpC_bind (wpC_mono h (fun v s₁ h₁ => wpC_bindA (wpAny_standAt (wpC_of (wpAny_holding h₁)))) fun _ _ x => x)
theorem isTrueC_Compare1 {l : Expr} {op : CmpOp} {r : Expr} {pos : Pos} {whole : Sem Value} {Q : Bool → Shared → Prop}
    (h : wpC M A (eval l env) (fun a s₁ => wpAny M A (eval r env) (fun b s₂ => wpAny M A (compareOp op a b) (fun c s₃ => wpAny M A (truthy c) Q E s₃) E s₂) E s₁) E s)
    (hm : behindInMarks op r = false := by with_unfolding_all rfl) : wpC M A (isTrue (.Compare l [op] [r] pos) env whole) Q E s := by
  rw [isTrue_Compare1, markedBehindIn_of_false hm]
  exact wpC_bind (wpC_mono h (fun a s₁ h₁ => wpC_of (wpAny_bind (wpAny_holding (wpAny_mono h₁ (fun b s₂ h₂ => wpAny_bind (wpAny_standAt (wpAny_bind (wpAny_operate' (wpAny_mono h₂ (fun c s₃ h₃ => wpAny_holding h₃) fun _ _ x => x))))) fun _ _ x => x)))) fun _ _ x => x)
theorem CallC {func : Expr} {args : List Expr} {pos : Pos} {Q : Value → Shared → Prop}
    (h : wpAny M A (eval func env) (fun f s₁ => wpC M A (callWith pos f [] (backTo pos (starEach args env)) []) Q E s₁) E s)
    (he : eval (.Call func args [] pos) env = (do callWith pos (← eval func env) [] (backTo pos (starEach args env)) (backToKw pos (keywordEach [] env))) := by rfl) :
    wpC M A (eval (.Call func args [] pos) env) Q E s := by
  rw [he]; exact wpC_bindA h
theorem callWithC_type {pos : Pos} {T : String} {e : Expr} {rest : List Expr} {Q : Value → Shared → Prop}
    (h : wpAny M A (spliced (backTo pos (starEach (e :: rest) env))) (fun vs s₁ => wpC M A (call (.type T) vs) Q E s₁) E s)
    (he : starEach (e :: rest) env = (false, eval e env) :: starEach rest env := by rfl)
    (hplain : (backTo pos (starEach rest env)).any (·.1) = false := by rfl) :
    wpC M A (callWith pos (.type T) [] (backTo pos (starEach (e :: rest) env)) []) Q E s := by
  rw [he] at h ⊢
  have hp : (backTo pos ((false, eval e env) :: starEach rest env)).any (·.1) = false := by show (false || (backTo pos (starEach rest env)).any (·.1)) = false; rw [hplain]; rfl
  have h' : wpAny M A (evalArgs (.type T) true (backTo pos ((false, eval e env) :: starEach rest env)) []) (fun a s₁ => wpC M A (call (.type T) ([] ++ a.pos) a.kw) Q E s₁) E s := Calls.evalArgs_plain h
  unfold callWith
  refine wpC_bindA (wpAny_holding (wpAny_mono h' (fun a s₁ h₁ => wpC_bindA (wpAny_standAt ?_)) fun _ _ x => x))
  simp only [hp, List.any_nil, Bool.or_false]
  refine wpC_bindA (wpAny_pure ?_)
  exact wpC_bind (wpC_mono h₁ (fun r s₂ hr => wpC_bindA (wpAny_holding (wpAny_point (wpC_pure hr)))) fun _ _ x => x)
theorem callWithC_K {K : Frag} {f : Value} {pos : Pos} {e : Expr} {rest : List Expr} {Q : Value → Shared → Prop} (hk : keepIn K f = true)
    (h : wpAny M A (spliced (backTo pos (starEach (e :: rest) env))) (fun vs s₁ => K.In s₁.heap ∧ wpC M A (call f vs) Q E s₁) E s)
    (he : starEach (e :: rest) env = (false, eval e env) :: starEach rest env := by rfl) (hplain : (backTo pos (starEach rest env)).any (·.1) = false := by rfl) :
    wpC M A (callWith pos f [] (backTo pos (starEach (e :: rest) env)) []) Q E s := by
  rw [he] at h ⊢
  have hp : ((backTo pos ((false, eval e env) :: starEach rest env)).any (·.1) || ([] : List (Option Str × Sem Value)).any (·.1.isNone)) = false := by show ((false || (backTo pos (starEach rest env)).any (·.1)) || false) = false; rw [hplain]; rfl
  have h' : wpAny M A (evalArgs f true (backTo pos ((false, eval e env) :: starEach rest env)) []) (fun a s₁ => K.In s₁.heap ∧ wpC M A (call f ([] ++ a.pos) a.kw) Q E s₁) E s := Calls.evalArgs_plain h
  unfold callWith
  refine wpC_bindA (wpAny_holding (wpAny_mono h' (fun a s₁ h₁ => wpC_bindA (wpAny_standAt ?_)) fun _ _ x => x))
  obtain ⟨k, hk', L⟩ := keeps_K (M := M) hk _ h₁.1
  simp only [hp]
  refine wpC_bindA (L.here ?_)
  have tail : ∀ {t : Sem Value}, wpC M A t Q E s₁ → wpC M A (t >>= fun r => holding [r] point >>= fun _ => pure r) Q E s₁ :=
    fun ht => wpC_bind (wpC_mono ht (fun r s₂ hr => wpC_of (wpAny_bind (wpAny_holding (wpAny_point (wpAny_pure hr))))) fun _ _ x => x)
  have marked (mk : Value) : wpC M A (callMarked mk f ([] ++ a.pos) a.kw) Q E s₁ := by unfold callMarked; exact wpC_keep h₁.2
  rcases hk' with rfl | rfl | rfl <;> dsimp only <;> first | exact tail h₁.2 | (split <;> first | exact tail h₁.2 | exact tail (marked _))
end
section
variable {prog : Program} {w : World} {A : Around} {E : Value → Shared → Prop} {s : Shared} {env : Env}
theorem TryC {body orelse : List Stmt} {h₀ : ExceptHandler} {hs : List ExceptHandler} {pos : Pos} {Q : Flow → Shared → Prop}
    (h : wpC (model prog w) A (execs body env) (fun f s₁ => match f with | .next => wpAny (model prog w) A (execs orelse env) Q E s₁ | f => Q f s₁)
      (fun e s₁ => wpAny (model prog w) A (noteFrame e env) (fun _ s₂ => wpAny (model prog w) A (setFlight e none) (fun _ s₃ => wpAny (model prog w) A (handleBy e env (h₀ :: hs)) Q E s₃) E s₂) E s₁) s) :
    wpC (model prog w) A (exec (.Try body (h₀ :: hs) orelse [] pos) env) Q E s := by
  rw [arm_exec_Try]
  refine wpC_bindA (wpAny_standAt ?_)
  unfold tryStmt
  simp only [List.isEmpty_nil, if_true, List.isEmpty_cons, Bool.false_and, Bool.false_eq_true, if_false]
  refine wpC_bind (wpC_attempt (wpC_mono h (fun f s₁ h₁ => ?_) fun e s₁ h₁ => ?_))
  · cases f <;> first | exact wpC_of h₁ | exact wpC_pure h₁
  · exact wpC_of (wpAny_bind (wpAny_mono h₁ (fun _ _ h₂ => wpAny_bind h₂) fun _ _ x => x))
end
end Mine
end
section
-- part CDef
open PySem PySem.W PyProof.Rows PySem.Calls
open Sem (wp)
set_option maxRecDepth 100000
namespace Mine
section
variable {prog : Program} {w : World} {A : Around} {E : Value → Shared → Prop} {R : Result → Shared → Prop} {s : Shared}
theorem codeC_func {body : List Stmt} {env : Env}
    (h : wpC (model prog w) (A.deeper env) (execs body env) (fun f s' => R (.ok (.ret (match f with | .ret v => v | _ => .none))) s')
      (fun e s' => wpAny (model prog w) (A.deeper env) (leaving env e) (fun _ s'' => R (.error e) s'') (fun e' s'' => R (.error e') s'') s') s) :
    codeC (model prog w) A (.func body env) R s := by
  refine codeC_of_tree ?_
  show wpC _ (A.deeper env) (do point; match ← (execs body env).onRaise (leaving env) with | .ret v => ret v | _ => ret .none) _ _ s
  refine wpC_bindA (wpAny_point (wpC_bind (wpC_onRaise (wpC_mono h (fun f s' h' => ?_) fun _ _ h' => wpC_of h'))))
  cases f <;> exact wpC_pure h'
theorem codeC_call_function {a : Addr} {args : Args} {o : Obj} {fd : FuncData} {body : List Stmt} (hroom : A.depth < recursionLimit)
    (ho : s.heap.get? a = some o)
    (hd' : o.data = .func fd) (hco : fd.scope.isCoroutine = false) (hgen : fd.scope.isGenerator = false) (hbody : fd.body = .stmts body) (hcd : s.heap.CodeRec fd.code fd.qualname)
    (h : wpAny (model prog w) A.in1 (bindArgs fd args) (fun binds s₁ =>
      wpAny (model prog w) A.in1 (newFunctionEnv fd.scope fd.globals fd.closure binds (fd.qualname ++ ".<locals>.") (some a) fd.code none fd.builtins)
        (fun env s₂ => s₂.heap.NoLimit ∧ codeC (model prog w) A (.func body env) R s₂) (fun e s' => R (.error e) s') s₁) (fun e s' => R (.error e) s') s) :
    codeC (model prog w) A (.call (.ref a) args) R s := by
  refine codeC_of_tree ?_
  show wpC _ A.in1 (callAny (.ref a) args) _ _ s
  simp only [callAny]
  refine wpC_bindA (wpAny_load ho ?_)
  obtain ⟨c, oc, vs, tq, hc, hoc, hdc, hq⟩ := hcd
  simp only [hd', callFunction, hco, hgen, hbody, hc]
  rw [hc] at h
  refine wpC_bindA (m := field (.ref c) 1) (wpAny_field hoc hdc hq (wpC_bindA (wpAny_pure ?_)))
  exact wpC_bindA (wpAny_mono h (fun binds s₁ h₁ => wpC_bindA (wpAny_mono h₁ (fun env s₂ h₂ => wpC_bindA (wpAny_enterFrame h₂.1 hroom
    (wpC_pure (And.intro rfl h₂.2)))) fun _ _ h' => h')) fun _ _ h' => h')
end
end Mine
end
section
-- part Enter
open PySem PySem.W PyProof.Rows PyProof.Rows.TI PySem.Calls
open Sem (wp)
set_option maxRecDepth 100000
namespace Mine
section
variable {prog : Program} {w : World} {A : Around} {s : Shared} {h₀ : Heap} {L : Addr} {m : Str → Option Value} {news : List (Addr × Obj)} {K : Frag}
  {R : Result → Shared → Prop} {name qual : Str} {params : Arguments} {body : List Stmt} {scope : Scope} {dV kV doc pm cdv ct oc : Value} {an od : Option Addr} {osl : Array (Option Value)} {f : Addr} {args : Args} {binds : List (Str × Value)}
  {p : Program} {loose : List Str} {mean : ExcName → Option Value} {mg mb : Str → Option Value}
/-- the ground of a call that leaves its caller's frame as it is -/
theorem groundA (F : Fr h₀ L s.heap m) (N : News h₀ L s.heap news) :
    h₀.StaysIn (hideAll s.heap (news.map (·.1))) ∧ ∀ v s', LeaveK h₀ L m (hideAll s.heap (news.map (·.1))) R v s' → R (.ok (.ret v)) s' := by
  have nm : ∀ b o, h₀.get? b = some o → b ∉ news.map (·.1) := fun b o e q => by
    obtain ⟨p, hp, rfl⟩ := List.mem_map.mp q
    rw [(N p hp).2.2] at e; cases e
  have st : h₀.StaysIn (hideAll s.heap (news.map (·.1))) := fun b o e => hideAll_get _ (F.keep b o e) (nm b o e)
  obtain ⟨oL, es, ep, hL, hLd, hLk, hLf⟩ := F.ns
  have nL : L ∉ news.map (·.1) := fun q => by
    obtain ⟨p, hp, e⟩ := List.mem_map.mp q
    exact (N p hp).2.1 e
  have hLg := hideAll_get (news.map (·.1)) hL nL
  refine ⟨st, fun v s' hl => ?_⟩
  obtain ⟨L', m', news', F', N', k⟩ := hl
  refine k ⟨⟨oL, es, ep, F'.keep L oL hLg, hLd, hLk, hLf⟩, fun b o e => F'.keep b o (st b o e), F.above⟩ fun p hp => ⟨(N' p hp).1, fun q => ?_, ?_⟩
  · have := (N' p hp).2.2; rw [q, hLg] at this; cases this
  · cases q : h₀.get? p.1 with
    | none => rfl
    | some o => have := (N' p hp).2.2; rw [st _ _ q] at this; cases this
/-- a plain def of the text, entered -/
theorem defA (F : Fr h₀ L s.heap m) (X₀ : K.In h₀) (N : News h₀ L s.heap news) (T : Top p loose mean mg mb h₀)
    (ho : K.lookup f = some ⟨oc, od, .func (fnOf name qual params body scope dV kV doc pm an cdv ct), osl⟩) (hcd : codeIn K cdv qual = true) (hroom : A.depth < recursionLimit)
    (hbind : BindsTo s (fnOf name qual params body scope dV kV doc pm an cdv ct) args binds) (hloc : ∀ y ∈ binds, scope.names.lookup y.1 = some .local)
    (h : ∀ g L' h₁, Fr g L' h₁ (fun y => binds.reverse.lookup y) → News g L' h₁ news → K.In g → Top p loose mean mg mb g → (∀ p ∈ news, p.1 < L') →
      wpAny (model prog w) (A.deeper (envOf qual scope L' f cdv)) (execs body (envOf qual scope L' f cdv))
        (fun fl s' => LeaveK h₀ L m g (fun r s'' => (∀ b o, s.heap.get? b = some o → b ∉ news.map (·.1) → s''.heap.get? b = some o) → R r s'') (match fl with | .ret v => v | _ => .none) s') (fun _ _ => False)
        { s with heap := h₁, toks := s.toks + binds.length })
    (hco : scope.isCoroutine = false) (hgen : scope.isGenerator = false) (hk : scope.kind = .function)
    (hcell : ∀ x ∈ scope.names, x.2 ≠ .cell) : codeAny (model prog w) A (.call (.ref f) args) R s := by
  obtain ⟨st, lv⟩ := groundA (R := fun r s'' => (∀ b o, s.heap.get? b = some o → b ∉ news.map (·.1) → s''.heap.get? b = some o) → R r s'') F N
  have XS := X₀.keeps F.keep
  have hcd' := codeRec_of XS hcd
  refine codeAny_call_function (body := body) hroom (XS _ _ ho) rfl hco hgen rfl hcd' (hbind _ _ _ _ ?_)
  refine wpAny_newFunctionEnv hcell hloc (fun h₁ hns₀ hsb₀ => ⟨(T.nolimit.keeps F.keep).fresh _ hsb₀, codeAny_func ?_⟩) hk
  have hk₁ : ∀ b o, s.heap.get? b = some o → h₁.get? b = some o := fun b o e => hsb₀.extBut b o (Nat.ne_of_lt (Heap.lt_size e)) (Heap.get?_push_of_some _ e)
  exact wpAny_mono (h _ s.heap.objs.size h₁ ⟨hns₀, fun b o e => hk₁ b o (of_hideAll _ e), Nat.le_of_eq (hideAll_size _ _)⟩
    (fun p hp => ⟨hk₁ _ _ (N p hp).1, Nat.ne_of_lt (Heap.lt_size (N p hp).1), hideAll_none _ (List.mem_map_of_mem hp)⟩) (X₀.keeps st) (T.keeps st) (fun p hp => Heap.lt_size (N p hp).1)) (fun fl s' hl => lv _ _ hl (by obtain ⟨_, _, _, F', _, _⟩ := hl; exact fun b o e hb => F'.keep b o (hideAll_get _ e hb))) fun _ _ y => y.elim
/-- how a call that may turn its callers' frames is left -/
def LeaveT (h₀ : Heap) (L : Addr) (m : Str → Option Value) (oL : Obj) (frs : List (Addr × Obj)) (g : Heap) (R : Result → Shared → Prop) (v : Value) (s' : Shared) : Prop :=
  ∃ L' m' news' sl frs', Fr g L' s'.heap m' ∧ News g L' s'.heap (news' ++ (L, { oL with slots := sl }) :: frs') ∧ SameUp frs frs' ∧ (∀ p ∈ news', p.1 ≠ L) ∧
    (Fr h₀ L s'.heap m → News h₀ L s'.heap (news' ++ frs') → R (.ok (.ret v)) s')
theorem groundT {frs : List (Addr × Obj)} (F : Fr h₀ L s.heap m) (N : News h₀ L s.heap (news ++ frs)) :
    ∃ oL, s.heap.get? L = some oL ∧ (∃ es ep, oL.data = .dict es ep) ∧
    h₀.StaysIn (hideAll s.heap (L :: (news ++ frs).map (·.1))) ∧ ∀ v s', LeaveT h₀ L m oL frs (hideAll s.heap (L :: (news ++ frs).map (·.1))) R v s' → R (.ok (.ret v)) s' := by
  obtain ⟨oL, es, ep, hL, hLd, hLk, hLf⟩ := F.ns
  have hL0 : h₀.get? L = none := by
    cases e : h₀.get? L with
    | none => rfl
    | some o => exact absurd (Nat.lt_of_lt_of_le (Heap.lt_size e) F.above) (Nat.lt_irrefl _)
  have nm : ∀ b o, h₀.get? b = some o → b ∉ L :: (news ++ frs).map (·.1) := fun b o e q => by
    rcases List.mem_cons.mp q with rfl | q
    · rw [hL0] at e; cases e
    · obtain ⟨p, hp, rfl⟩ := List.mem_map.mp q
      rw [(N p hp).2.2] at e; cases e
  have st : h₀.StaysIn (hideAll s.heap (L :: (news ++ frs).map (·.1))) := fun b o e => hideAll_get _ (F.keep b o e) (nm b o e)
  refine ⟨oL, hL, ⟨es, ep, hLd⟩, st, fun v s' hl => ?_⟩
  obtain ⟨L', m', news', sl, frs', F', N', SU, hne, k⟩ := hl
  have hLs := (N' (L, { oL with slots := sl }) (List.mem_append_right _ List.mem_cons_self)).1
  refine k ⟨⟨{ oL with slots := sl }, es, ep, hLs, hLd, hLk, hLf⟩, fun b o e => F'.keep b o (st b o e), F.above⟩ fun p hp => ?_
  have hp' : p ∈ news' ++ (L, { oL with slots := sl }) :: frs' := by
    rcases List.mem_append.mp hp with hp | hp
    · exact List.mem_append_left _ hp
    · exact List.mem_append_right _ (List.mem_cons_of_mem _ hp)
  refine ⟨(N' p hp').1, ?_, ?_⟩
  · rcases List.mem_append.mp hp with hp | hp
    · exact hne p hp
    · obtain ⟨x, hx, q⟩ := SU.fwd p hp
      rw [q]
      exact (N x (List.mem_append_right _ hx)).2.1
  · cases q : h₀.get? p.1 with
    | none => rfl
    | some o => have := (N' p hp').2.2; rw [st _ _ q] at this; cases this
theorem defT {frs : List (Addr × Obj)} {env : Env} {outer : List Env} (F : Fr h₀ L s.heap m) (X₀ : K.In h₀) (N : News h₀ L s.heap (news ++ frs)) (Fs : Frs outer frs) (T : Top p loose mean mg mb h₀)
    (hf : env.frame = some L) (hke : env.scope.kind = .function)
    (ho : K.lookup f = some ⟨oc, od, .func (fnOf name qual params body scope dV kV doc pm an cdv ct), osl⟩) (hcd : codeIn K cdv qual = true) (hroom : A.depth < recursionLimit)
    (hbind : BindsTo s (fnOf name qual params body scope dV kV doc pm an cdv ct) args binds) (hloc : ∀ y ∈ binds, scope.names.lookup y.1 = some .local)
    (h : ∀ g L' h₁ oL, Fr g L' h₁ (fun y => binds.reverse.lookup y) → News g L' h₁ (news ++ (L, oL) :: frs) → Frs (env :: outer) ((L, oL) :: frs) → K.In g → Top p loose mean mg mb g → (∀ p ∈ news ++ (L, oL) :: frs, p.1 < L') →
      wpC (model prog w) (A.deeper (envOf qual scope L' f cdv)) (execs body (envOf qual scope L' f cdv))
        (fun fl s' => LeaveT h₀ L m oL frs g R (match fl with | .ret v => v | _ => .none) s') (fun _ _ => False)
        { s with heap := h₁, toks := s.toks + binds.length })
    (hco : scope.isCoroutine = false) (hgen : scope.isGenerator = false) (hk : scope.kind = .function)
    (hcell : ∀ x ∈ scope.names, x.2 ≠ .cell) : codeC (model prog w) A (.call (.ref f) args) R s := by
  obtain ⟨oL, hoL, hdL, st, lv⟩ := groundT (R := R) F N
  have XS := X₀.keeps F.keep
  have hcd' := codeRec_of XS hcd
  refine codeC_call_function (body := body) hroom (XS _ _ ho) rfl hco hgen rfl hcd' (hbind _ _ _ _ ?_)
  refine wpAny_newFunctionEnv hcell hloc (fun h₁ hns₀ hsb₀ => ⟨(T.nolimit.keeps F.keep).fresh _ hsb₀, codeC_func ?_⟩) hk
  have hk₁ : ∀ b o, s.heap.get? b = some o → h₁.get? b = some o := fun b o e => hsb₀.extBut b o (Nat.ne_of_lt (Heap.lt_size e)) (Heap.get?_push_of_some _ e)
  have hin : ∀ p ∈ news ++ (L, oL) :: frs, s.heap.get? p.1 = some p.2 ∧ p.1 ∈ L :: (news ++ frs).map (·.1) := fun p hp => by
    rcases List.mem_append.mp hp with hp | hp
    · exact ⟨(N p (List.mem_append_left _ hp)).1, List.mem_cons_of_mem _ (List.mem_map_of_mem (List.mem_append_left _ hp))⟩
    · rcases List.mem_cons.mp hp with rfl | hp
      · exact ⟨hoL, List.mem_cons_self⟩
      · exact ⟨(N p (List.mem_append_right _ hp)).1, List.mem_cons_of_mem _ (List.mem_map_of_mem (List.mem_append_right _ hp))⟩
  exact wpC_mono (h _ s.heap.objs.size h₁ oL ⟨hns₀, fun b o e => hk₁ b o (of_hideAll _ e), Nat.le_of_eq (hideAll_size _ _)⟩
    (fun p hp => ⟨hk₁ _ _ (hin p hp).1, Nat.ne_of_lt (Heap.lt_size (hin p hp).1), hideAll_none _ (hin p hp).2⟩) ⟨by rw [hke]; decide, hf, hdL, Fs⟩ (X₀.keeps st) (T.keeps st) (fun p hp => Heap.lt_size (hin p hp).1)) (fun fl s' hl => lv _ _ hl) fun _ _ y => y.elim
end
end Mine
end
section
-- part Esc
open PySem PySem.W PyProof.Rows PySem.Calls PySem.Spec
set_option maxRecDepth 100000
namespace Mine
theorem filled : (PySem.Challenge.rw_ny0159_01, Mine.hd.heap_39) = (PySem.Challenge.rw_ny0159_01, Mine.hd.heap_39) := by
  k_fill
  rfl
section
variable {prog : Program} {w : World} {A : Around} {h₀ : Heap} {L a : Addr} {s : Shared} {m : Str → Option Value} {news : List (Addr × Obj)}
  {Q : Flow → Shared → Prop} {E : Value → Shared → Prop} {name : Str} {scope : Scope} {cd : Value}
set_option maxHeartbeats 8000000 in
theorem esc_if {x c r : Str} {c0 : Nat} {t : Tok} {k1 k2 k3 : Nat} {p1 p2 p3 p4 p5 p6 p7 p8 p9 p10 p11 : Pos}
    (F : Fr h₀ L s.heap m) (N : News h₀ L s.heap news)
    (hk : scope.kind = .function) (hl : (envOf name scope L a cd).kindOf (Str.ofString "text") = some .local)
    (hm : m (Str.ofString "text") = some (.str x t)) (hx : x.length ≤ 2000000) (hr : r.length ≤ 6) (hcr : (c == r) = false) (hc : c = ⟨#[c0]⟩) {pl : Sem Bool}
    (he : eval (.Call (.Attribute (.Name (Str.ofString "text") p5) (Str.ofString "replace") p6) [.Constant (.str c) k2 p7, .Constant (.str r) k3 p8] [] p9) (envOf name scope L a cd) = (do
      let ov ← eval (.Name (Str.ofString "text") p5) (envOf name scope L a cd)
      standAt p6.atName
      let (f, first) ← holding [ov] (getMethod ov (Str.ofString "replace") pl)
      callWith p9 f first (backTo p9 (starEach [.Constant (.str c) k2 p7, .Constant (.str r) k3 p8] (envOf name scope L a cd))) []))
    (h : ∀ h' t' tk', Fr h₀ L h' (fun y => if y = Str.ofString "text" then some (.str (mkS (subst1 c0 r.cps.toList x.cps.toList)) t') else m y) → News h₀ L h' news → Q .next { s with heap := h', toks := tk' }) :
    wpAny (model prog w) A (exec (.If (.Compare (.Constant (.str c) k1 p1) [.In] [.Name (Str.ofString "text") p2] p3)
      [.Assign [.Name (Str.ofString "text") p4] (.Call (.Attribute (.Name (Str.ofString "text") p5) (Str.ofString "replace") p6) [.Constant (.str c) k2 p7, .Constant (.str r) k3 p8] [] p9) p10] [] p11) (envOf name scope L a cd)) Q E s := by
  w_on
  refine wpAny_If (wpAny_isTrue_Compare1 (Calls.Constant_str ?_))
  refine ld F hm ?_ hk hl
  walk1
  refine wpAny_truthy_bool ?_
  split
  · rename_i hin
    refine wpAny_execs_cons (wpAny_Assign_Name ?_)
    refine MethodCall_ (pl := pl) ?_ he
    refine ld F hm ?_ hk hl
    walk1
    walk1
    walk1
    refine Calls.Constant_str ?_
    walk1
    refine Calls.Constant_str ?_
    walk1
    refine SC.replace (Nat.succ_ne_zero _) (Nat.succ_ne_zero _) (Nat.ne_of_lt (Nat.lt_succ_self _)) hcr (by have h1 : (x.length + 1) * r.length ≤ (x.length + 1) * 6 := Nat.mul_le_mul_left _ hr; omega) ?_
    intro t' k'
    refine stN F N ?_ hk hl
    intro h' F' N'
    dsimp only
    refine wpAny_execs_nil ?_
    subst hc
    rw [replace_subst] at F'
    exact h h' _ _ F' N'
  · rename_i hin
    refine wpAny_execs_nil ?_
    have e : mkS (subst1 c0 r.cps.toList x.cps.toList) = x := by
      subst hc
      rw [StrLaws.found_one] at hin
      rw [subst1_free (by simpa using hin), mkS_self]
    refine h s.heap t _ ?_ N
    rw [e]
    have e2 : (fun y => if y = Str.ofString "text" then some (Value.str x t) else m y) = m := by
      funext y; split
      · rename_i hy; rw [hy, hm]
      · rfl
    rw [e2]; exact F
end
theorem subst1_len {c : Nat} {r : List Nat} (hr : r.length ≤ 6) : ∀ l : List Nat, (subst1 c r l).length ≤ 6 * l.length
  | [] => Nat.le_refl _
  | d :: l => by
    have ih := subst1_len (c := c) hr l
    simp only [subst1, List.flatMap_cons, List.length_append, List.length_cons] at *
    split <;> (try simp only [List.length_cons, List.length_nil]) <;> omega
theorem mkS_len {c n : Nat} {r x : Str} (hr : r.length ≤ 6) (hx : x.length ≤ n) : (mkS (subst1 c r.cps.toList x.cps.toList)).length ≤ 6 * n := by
  have h := subst1_len (c := c) (r := r.cps.toList) hr x.cps.toList
  have e : x.cps.toList.length = x.length := rfl
  have e2 : (mkS (subst1 c r.cps.toList x.cps.toList)).length = (subst1 c r.cps.toList x.cps.toList).length := rfl
  omega
/-- a text written by a table of replacements, one after the other -/
def escT (tab : List (Nat × Str)) (x : Str) : Str := tab.foldl (fun x p => mkS (subst1 p.1 p.2.cps.toList x.cps.toList)) x
def tab0 : List (Nat × Str) := [(38, Str.ofString "&amp;"), (60, Str.ofString "&lt;"), (62, Str.ofString "&gt;")]
def tab1 : List (Nat × Str) := [(38, Str.ofString "&amp;"), (60, Str.ofString "&lt;"), (62, Str.ofString "&gt;"), (34, Str.ofString "&quot;"), (13, Str.ofString "&#13;"), (10, Str.ofString "&#10;"), (9, Str.ofString "&#09;")]
def tab2 : List (Nat × Str) := [(38, Str.ofString "&amp;"), (62, Str.ofString "&gt;"), (34, Str.ofString "&quot;")]
def tab3 : List (Nat × Str) := [(38, Str.ofString "&amp;"), (60, Str.ofString "&lt;"), (62, Str.ofString "&gt;"), (13, Str.ofString "&#xD;")]
def tab4 : List (Nat × Str) := [(38, Str.ofString "&amp;"), (60, Str.ofString "&lt;"), (34, Str.ofString "&quot;"), (9, Str.ofString "&#x9;"), (10, Str.ofString "&#xA;"), (13, Str.ofString "&#xD;")]
/-- a call's contract: from any ledger, what is handed back and what is new on the ledger -/
abbrev Con (prog : Program) (w : World) (mean : ExcName → Option Value) (mg mb : Str → Option Value) (dd uu : Nat) (f : Addr) (news : List (Addr × Obj)) (vs : List Value) (Ret : Value → List (Addr × Obj) → Prop) : Prop :=
  ∀ (A : Around) (h₀ : Heap) (L : Addr) (m : Str → Option Value) (s : Shared) (Q E : Value → Shared → Prop),
    A.handled = none → Fr h₀ L s.heap m → (Mine.hd.heap_39 w.params).In h₀ → News h₀ L s.heap news → Top Mine.hd.view_39 (looseW Mine.hd.view_39 [Str.ofString "_norm_version"]) mean mg mb h₀ →
    A.depth + dd < recursionLimit → A.units + uu < cLine →
    (∀ v ns h' tk', Ret v ns → Fr h₀ L h' m → News h₀ L h' (ns ++ news) → (∀ b o, s.heap.get? b = some o → b ∉ news.map (·.1) → h'.get? b = some o) → Q v { s with heap := h', toks := tk' }) →
    wpAny (model prog w) A (call (.ref f) vs) Q E s
section
variable {prog : Program} {w : World} {mean : ExcName → Option Value} {mg mb : Str → Option Value} {news : List (Addr × Obj)}
set_option maxHeartbeats 8000000 in
theorem con_esc0 {x : Str} {t : Tok} (hx : x.length ≤ 40) : Con prog w mean mg mb 1 8 50 news [.str x t] (fun v ns => ns = [] ∧ ∃ t', v = .str (escT tab0 x) t') := by
  w_on
  intro A h₀ L m s Q E hh hF hX hN hT hdp hun hret
  refine wpAny_call ?_
  k_dflt (refine' defA ?k2 ?k3 ?k4 ?k5 ?k6 ?k7 ?k8 ?k9 ?kB ?_ ?c2 ?c3 ?c4 ?c5; (case k2 => exact hF); (case k3 => exact hX); (case k4 => exact hN); (case k5 => exact hT); (case k6 => k_is); (case k7 => k_is); (case k8 => omega); (case k9 => exact BindsTo.of_eq rfl); (case c5 => decide); (case kB => exact locs rfl); (case c2 => exact rfl); (case c3 => exact rfl); (case c4 => exact rfl); k_whole)
  intro g L' h1 F1 N1 X T hlt
  dsimp only
  have hm1 : (fun y => List.lookup y [(Str.ofString "text", Value.str x t)]) (Str.ofString "text") = some (Value.str x t) := rfl
  replace F1 : Fr g L' h1 (fun y => List.lookup y [(Str.ofString "text", Value.str x t)]) := F1
  generalize (fun y => List.lookup y [(Str.ofString "text", Value.str x t)]) = m1 at F1 hm1
  refine wpAny_execs_cons ?_
  walk1
  have hx1 : x.length ≤ 40 := hx
  refine wpAny_execs_cons (esc_if (c0 := 38) F1 N1 rfl rfl hm1 (Nat.le_trans hx1 (by decide)) (by decide) (by decide) rfl rfl ?_)
  intro h2 t2 tk2 F2 N2
  dsimp only
  have hx2 := mkS_len (c := 38) (r := (tab0[0]'(by decide)).2) (by decide) hx1
  refine wpAny_execs_cons (esc_if (c0 := 60) F2 N2 rfl rfl (if_pos rfl) (Nat.le_trans hx2 (by decide)) (by decide) (by decide) rfl rfl ?_)
  intro h3 t3 tk3 F3 N3
  dsimp only
  have hx3 := mkS_len (c := 60) (r := (tab0[1]'(by decide)).2) (by decide) hx2
  refine wpAny_execs_cons (esc_if (c0 := 62) F3 N3 rfl rfl (if_pos rfl) (Nat.le_trans hx3 (by decide)) (by decide) (by decide) rfl rfl ?_)
  intro h4 t4 tk4 F4 N4
  dsimp only
  refine wpAny_execs_cons (wpAny_Return_some (ld F4 (if_pos rfl) ?_ rfl rfl))
  dsimp only
  refine leaveK_ F4 N4 ?_
  intro kF kN kK
  exact hret _ [] _ _ ⟨rfl, _, rfl⟩ kF kN kK
set_option maxHeartbeats 8000000 in
theorem con_esc1 {x : Str} {t : Tok} (hx : x.length ≤ 40) : Con prog w mean mg mb 1 8 57 news [.str x t] (fun v ns => ns = [] ∧ ∃ t', v = .str (escT tab1 x) t') := by
  w_on
  intro A h₀ L m s Q E hh hF hX hN hT hdp hun hret
  refine wpAny_call ?_
  k_dflt (refine' defA ?k2 ?k3 ?k4 ?k5 ?k6 ?k7 ?k8 ?k9 ?kB ?_ ?c2 ?c3 ?c4 ?c5; (case k2 => exact hF); (case k3 => exact hX); (case k4 => exact hN); (case k5 => exact hT); (case k6 => k_is); (case k7 => k_is); (case k8 => omega); (case k9 => exact BindsTo.of_eq rfl); (case c5 => decide); (case kB => exact locs rfl); (case c2 => exact rfl); (case c3 => exact rfl); (case c4 => exact rfl); k_whole)
  intro g L' h1 F1 N1 X T hlt
  dsimp only
  have hm1 : (fun y => List.lookup y [(Str.ofString "text", Value.str x t)]) (Str.ofString "text") = some (Value.str x t) := rfl
  replace F1 : Fr g L' h1 (fun y => List.lookup y [(Str.ofString "text", Value.str x t)]) := F1
  generalize (fun y => List.lookup y [(Str.ofString "text", Value.str x t)]) = m1 at F1 hm1
  refine wpAny_execs_cons ?_
  walk1
  have hx1 : x.length ≤ 40 := hx
  refine wpAny_execs_cons (esc_if (c0 := 38) F1 N1 rfl rfl hm1 (Nat.le_trans hx1 (by decide)) (by decide) (by decide) rfl rfl ?_)
  intro h2 t2 tk2 F2 N2
  dsimp only
  have hx2 := mkS_len (c := 38) (r := (tab1[0]'(by decide)).2) (by decide) hx1
  refine wpAny_execs_cons (esc_if (c0 := 60) F2 N2 rfl rfl (if_pos rfl) (Nat.le_trans hx2 (by decide)) (by decide) (by decide) rfl rfl ?_)
  intro h3 t3 tk3 F3 N3
  dsimp only
  have hx3 := mkS_len (c := 60) (r := (tab1[1]'(by decide)).2) (by decide) hx2
  refine wpAny_execs_cons (esc_if (c0 := 62) F3 N3 rfl rfl (if_pos rfl) (Nat.le_trans hx3 (by decide)) (by decide) (by decide) rfl rfl ?_)
  intro h4 t4 tk4 F4 N4
  dsimp only
  have hx4 := mkS_len (c := 62) (r := (tab1[2]'(by decide)).2) (by decide) hx3
  refine wpAny_execs_cons (esc_if (c0 := 34) F4 N4 rfl rfl (if_pos rfl) (Nat.le_trans hx4 (by decide)) (by decide) (by decide) rfl rfl ?_)
  intro h5 t5 tk5 F5 N5
  dsimp only
  have hx5 := mkS_len (c := 34) (r := (tab1[3]'(by decide)).2) (by decide) hx4
  refine wpAny_execs_cons (esc_if (c0 := 13) F5 N5 rfl rfl (if_pos rfl) (Nat.le_trans hx5 (by decide)) (by decide) (by decide) rfl rfl ?_)
  intro h6 t6 tk6 F6 N6
  dsimp only
  have hx6 := mkS_len (c := 13) (r := (tab1[4]'(by decide)).2) (by decide) hx5
  refine wpAny_execs_cons (esc_if (c0 := 10) F6 N6 rfl rfl (if_pos rfl) (Nat.le_trans hx6 (by decide)) (by decide) (by decide) rfl rfl ?_)
  intro h7 t7 tk7 F7 N7
  dsimp only
  have hx7 := mkS_len (c := 10) (r := (tab1[5]'(by decide)).2) (by decide) hx6
  refine wpAny_execs_cons (esc_if (c0 := 9) F7 N7 rfl rfl (if_pos rfl) (Nat.le_trans hx7 (by decide)) (by decide) (by decide) rfl rfl ?_)
  intro h8 t8 tk8 F8 N8
  dsimp only
  refine wpAny_execs_cons (wpAny_Return_some (ld F8 (if_pos rfl) ?_ rfl rfl))
  dsimp only
  refine leaveK_ F8 N8 ?_
  intro kF kN kK
  exact hret _ [] _ _ ⟨rfl, _, rfl⟩ kF kN kK
set_option maxHeartbeats 8000000 in
theorem con_esc2 {x : Str} {t : Tok} (hx : x.length ≤ 40) : Con prog w mean mg mb 1 8 64 news [.str x t] (fun v ns => ns = [] ∧ ∃ t', v = .str (escT tab2 x) t') := by
  w_on
  intro A h₀ L m s Q E hh hF hX hN hT hdp hun hret
  refine wpAny_call ?_
  k_dflt (refine' defA ?k2 ?k3 ?k4 ?k5 ?k6 ?k7 ?k8 ?k9 ?kB ?_ ?c2 ?c3 ?c4 ?c5; (case k2 => exact hF); (case k3 => exact hX); (case k4 => exact hN); (case k5 => exact hT); (case k6 => k_is); (case k7 => k_is); (case k8 => omega); (case k9 => exact BindsTo.of_eq rfl); (case c5 => decide); (case kB => exact locs rfl); (case c2 => exact rfl); (case c3 => exact rfl); (case c4 => exact rfl); k_whole)
  intro g L' h1 F1 N1 X T hlt
  dsimp only
  have hm1 : (fun y => List.lookup y [(Str.ofString "text", Value.str x t)]) (Str.ofString "text") = some (Value.str x t) := rfl
  replace F1 : Fr g L' h1 (fun y => List.lookup y [(Str.ofString "text", Value.str x t)]) := F1
  generalize (fun y => List.lookup y [(Str.ofString "text", Value.str x t)]) = m1 at F1 hm1
  refine wpAny_execs_cons ?_
  walk1
  have hx1 : x.length ≤ 40 := hx
  refine wpAny_execs_cons (esc_if (c0 := 38) F1 N1 rfl rfl hm1 (Nat.le_trans hx1 (by decide)) (by decide) (by decide) rfl rfl ?_)
  intro h2 t2 tk2 F2 N2
  dsimp only
  have hx2 := mkS_len (c := 38) (r := (tab2[0]'(by decide)).2) (by decide) hx1
  refine wpAny_execs_cons (esc_if (c0 := 62) F2 N2 rfl rfl (if_pos rfl) (Nat.le_trans hx2 (by decide)) (by decide) (by decide) rfl rfl ?_)
  intro h3 t3 tk3 F3 N3
  dsimp only
  have hx3 := mkS_len (c := 62) (r := (tab2[1]'(by decide)).2) (by decide) hx2
  refine wpAny_execs_cons (esc_if (c0 := 34) F3 N3 rfl rfl (if_pos rfl) (Nat.le_trans hx3 (by decide)) (by decide) (by decide) rfl rfl ?_)
  intro h4 t4 tk4 F4 N4
  dsimp only
  refine wpAny_execs_cons (wpAny_Return_some (ld F4 (if_pos rfl) ?_ rfl rfl))
  dsimp only
  refine leaveK_ F4 N4 ?_
  intro kF kN kK
  exact hret _ [] _ _ ⟨rfl, _, rfl⟩ kF kN kK
set_option maxHeartbeats 8000000 in
theorem con_esc3 {x : Str} {t : Tok} (hx : x.length ≤ 40) : Con prog w mean mg mb 1 8 71 news [.str x t] (fun v ns => ns = [] ∧ ∃ t', v = .str (escT tab3 x) t') := by
  w_on
  intro A h₀ L m s Q E hh hF hX hN hT hdp hun hret
  refine wpAny_call ?_
  k_dflt (refine' defA ?k2 ?k3 ?k4 ?k5 ?k6 ?k7 ?k8 ?k9 ?kB ?_ ?c2 ?c3 ?c4 ?c5; (case k2 => exact hF); (case k3 => exact hX); (case k4 => exact hN); (case k5 => exact hT); (case k6 => k_is); (case k7 => k_is); (case k8 => omega); (case k9 => exact BindsTo.of_eq rfl); (case c5 => decide); (case kB => exact locs rfl); (case c2 => exact rfl); (case c3 => exact rfl); (case c4 => exact rfl); k_whole)
  intro g L' h1 F1 N1 X T hlt
  dsimp only
  have hm1 : (fun y => List.lookup y [(Str.ofString "text", Value.str x t)]) (Str.ofString "text") = some (Value.str x t) := rfl
  replace F1 : Fr g L' h1 (fun y => List.lookup y [(Str.ofString "text", Value.str x t)]) := F1
  generalize (fun y => List.lookup y [(Str.ofString "text", Value.str x t)]) = m1 at F1 hm1
  refine wpAny_execs_cons ?_
  walk1
  have hx1 : x.length ≤ 40 := hx
  refine wpAny_execs_cons (esc_if (c0 := 38) F1 N1 rfl rfl hm1 (Nat.le_trans hx1 (by decide)) (by decide) (by decide) rfl rfl ?_)
  intro h2 t2 tk2 F2 N2
  dsimp only
  have hx2 := mkS_len (c := 38) (r := (tab3[0]'(by decide)).2) (by decide) hx1
  refine wpAny_execs_cons (esc_if (c0 := 60) F2 N2 rfl rfl (if_pos rfl) (Nat.le_trans hx2 (by decide)) (by decide) (by decide) rfl rfl ?_)
  intro h3 t3 tk3 F3 N3
  dsimp only
  have hx3 := mkS_len (c := 60) (r := (tab3[1]'(by decide)).2) (by decide) hx2
  refine wpAny_execs_cons (esc_if (c0 := 62) F3 N3 rfl rfl (if_pos rfl) (Nat.le_trans hx3 (by decide)) (by decide) (by decide) rfl rfl ?_)
  intro h4 t4 tk4 F4 N4
  dsimp only
  have hx4 := mkS_len (c := 62) (r := (tab3[2]'(by decide)).2) (by decide) hx3
  refine wpAny_execs_cons (esc_if (c0 := 13) F4 N4 rfl rfl (if_pos rfl) (Nat.le_trans hx4 (by decide)) (by decide) (by decide) rfl rfl ?_)
  intro h5 t5 tk5 F5 N5
  dsimp only
  refine wpAny_execs_cons (wpAny_Return_some (ld F5 (if_pos rfl) ?_ rfl rfl))
  dsimp only
  refine leaveK_ F5 N5 ?_
  intro kF kN kK
  exact hret _ [] _ _ ⟨rfl, _, rfl⟩ kF kN kK
set_option maxHeartbeats 8000000 in
theorem con_esc4 {x : Str} {t : Tok} (hx : x.length ≤ 40) : Con prog w mean mg mb 1 8 78 news [.str x t] (fun v ns => ns = [] ∧ ∃ t', v = .str (escT tab4 x) t') := by
  w_on
  intro A h₀ L m s Q E hh hF hX hN hT hdp hun hret
  refine wpAny_call ?_
  k_dflt (refine' defA ?k2 ?k3 ?k4 ?k5 ?k6 ?k7 ?k8 ?k9 ?kB ?_ ?c2 ?c3 ?c4 ?c5; (case k2 => exact hF); (case k3 => exact hX); (case k4 => exact hN); (case k5 => exact hT); (case k6 => k_is); (case k7 => k_is); (case k8 => omega); (case k9 => exact BindsTo.of_eq rfl); (case c5 => decide); (case kB => exact locs rfl); (case c2 => exact rfl); (case c3 => exact rfl); (case c4 => exact rfl); k_whole)
  intro g L' h1 F1 N1 X T hlt
  dsimp only
  have hm1 : (fun y => List.lookup y [(Str.ofString "text", Value.str x t)]) (Str.ofString "text") = some (Value.str x t) := rfl
  replace F1 : Fr g L' h1 (fun y => List.lookup y [(Str.ofString "text", Value.str x t)]) := F1
  generalize (fun y => List.lookup y [(Str.ofString "text", Value.str x t)]) = m1 at F1 hm1
  refine wpAny_execs_cons ?_
  walk1
  have hx1 : x.length ≤ 40 := hx
  refine wpAny_execs_cons (esc_if (c0 := 38) F1 N1 rfl rfl hm1 (Nat.le_trans hx1 (by decide)) (by decide) (by decide) rfl rfl ?_)
  intro h2 t2 tk2 F2 N2
  dsimp only
  have hx2 := mkS_len (c := 38) (r := (tab4[0]'(by decide)).2) (by decide) hx1
  refine wpAny_execs_cons (esc_if (c0 := 60) F2 N2 rfl rfl (if_pos rfl) (Nat.le_trans hx2 (by decide)) (by decide) (by decide) rfl rfl ?_)
  intro h3 t3 tk3 F3 N3
  dsimp only
  have hx3 := mkS_len (c := 60) (r := (tab4[1]'(by decide)).2) (by decide) hx2
  refine wpAny_execs_cons (esc_if (c0 := 34) F3 N3 rfl rfl (if_pos rfl) (Nat.le_trans hx3 (by decide)) (by decide) (by decide) rfl rfl ?_)
  intro h4 t4 tk4 F4 N4
  dsimp only
  have hx4 := mkS_len (c := 34) (r := (tab4[2]'(by decide)).2) (by decide) hx3
  refine wpAny_execs_cons (esc_if (c0 := 9) F4 N4 rfl rfl (if_pos rfl) (Nat.le_trans hx4 (by decide)) (by decide) (by decide) rfl rfl ?_)
  intro h5 t5 tk5 F5 N5
  dsimp only
  have hx5 := mkS_len (c := 9) (r := (tab4[3]'(by decide)).2) (by decide) hx4
  refine wpAny_execs_cons (esc_if (c0 := 10) F5 N5 rfl rfl (if_pos rfl) (Nat.le_trans hx5 (by decide)) (by decide) (by decide) rfl rfl ?_)
  intro h6 t6 tk6 F6 N6
  dsimp only
  have hx6 := mkS_len (c := 10) (r := (tab4[4]'(by decide)).2) (by decide) hx5
  refine wpAny_execs_cons (esc_if (c0 := 13) F6 N6 rfl rfl (if_pos rfl) (Nat.le_trans hx6 (by decide)) (by decide) (by decide) rfl rfl ?_)
  intro h7 t7 tk7 F7 N7
  dsimp only
  refine wpAny_execs_cons (wpAny_Return_some (ld F7 (if_pos rfl) ?_ rfl rfl))
  dsimp only
  refine leaveK_ F7 N7 ?_
  intro kF kN kK
  exact hret _ [] _ _ ⟨rfl, _, rfl⟩ kF kN kK
end
end Mine
end
section
-- part ForStr
open PySem PySem.W PyProof.Rows PySem.Calls PySem.Spec
set_option maxRecDepth 100000
namespace Mine
section
variable {prog : Program} {w : World} {A : Around} {h₀ : Heap} {s : Shared} {m : Str → Option Value} {news : List (Addr × Obj)} {env : Env}
  {Q : Flow → Shared → Prop} {E : Value → Shared → Prop}

/-- how a turn of a loop over a text ends -/
def TurnEnd (s : Shared) (h₀ : Heap) (L : Addr) (led : List (Addr × Obj)) (J : (Str → Option Value) → Prop) (Q : Flow → Shared → Prop) (f : Flow) (s₂ : Shared) : Prop :=
  (f = .next ∧ ∃ h' tk m₂, s₂ = { s with heap := h', toks := tk } ∧ Fr h₀ L h' m₂ ∧ News h₀ L h' led ∧ J m₂) ∨ (∃ r, f = .ret r ∧ Q (.ret r) s₂)

theorem for_str_loop {R : Result → Shared → Prop} {v : Str} {px : Pos} {body : List Stmt} {I : Addr} {x : Str} {t : Tok} {ty : String}
    (W : Walks prog w A I [I] [I] x.cps.size (SignAt x) (fun i h => h.IsStrIter I ty x t i)) (hv : env.kindOf v = some .local)
    (hp : (env.scope.kind == .class || (env.scope.kind == .module && env.locals != env.globals)) = false)
    (hIL : I ≠ env.locals) (hI0 : h₀.get? I = none) (hIn : ∀ p ∈ news, p.1 ≠ I)
    (hit : s.heap.IsStrIter I ty x t 0) (F : Fr h₀ env.locals s.heap m) (N : News h₀ env.locals s.heap news)
    (J : Nat → (Str → Option Value) → Prop) (h0 : J 0 m)
    (step : ∀ i c tk m₁ s₁ o E', x.cps[i]? = some c → J i m₁ → (∃ h' tk', s₁ = { s with heap := h', toks := tk' }) → Fr h₀ env.locals s₁.heap (fun y => if y = v then some (.str ⟨#[c]⟩ tk) else m₁ y) → News h₀ env.locals s₁.heap ((I, o) :: news) →
      wpAny (model prog w) A (execs body env) (TurnEnd s h₀ env.locals ((I, o) :: news) (J (i + 1)) (fun f s' => R (.ok f) s')) E' s₁)
    (hR : ∀ h' tk m', Fr h₀ env.locals h' m' → News h₀ env.locals h' news → J x.cps.size m' → R (.ok .next) { s with heap := h', toks := tk }) :
    codeAny (model prog w) A (.forLoop (.Name v px) (.ref I) body [] env) R s := by
  have hmem : ∀ b, b ∉ [I] → b ≠ I := fun b hb e => hb (e ▸ List.mem_cons_self)
  have hnm : ∀ b, b ≠ I → b ∉ [I] := fun b hb e => hb (List.mem_singleton.mp e)
  refine codeAny_forLoop
    (fun n s' => ∃ h' tk m' i, s' = { s with heap := h', toks := tk } ∧ h'.IsStrIter I ty x t i ∧ Fr h₀ env.locals h' m' ∧ News h₀ env.locals h' news ∧ J i m' ∧ i ≤ x.cps.size ∧ n = x.cps.size + 1 - i) ?_ (x.cps.size + 1)
    ⟨s.heap, s.toks, m, 0, rfl, hit, F, N, h0, Nat.zero_le _, rfl⟩
  rintro n s' ⟨h', tk, m', i, rfl, hit', F', N', hJ, hi, rfl⟩
  have next : ∀ h₁ : Heap, (∀ b o, b ∉ [I] → h'.get? b = some o → h₁.get? b = some o) → Fr h₀ env.locals h₁ m' ∧ News h₀ env.locals h₁ news := fun h₁ hk₁ =>
    ⟨⟨F'.ns.at' fun o e => hk₁ _ o (hnm _ (Ne.symm hIL)) e, fun b o e => hk₁ b o (hnm _ (by rintro rfl; rw [hI0] at e; cases e)) (F'.keep b o e), F'.above⟩, fun p hp => ⟨hk₁ _ _ (hnm _ (hIn p hp)) (N' p hp).1, (N' p hp).2⟩⟩
  by_cases hlt : i < x.cps.size
  · refine W.item i _ _ _ hlt hit' fun u h₁ tk₁ hP hst₁ hk₁ => ?_
    obtain ⟨c, tu, hc, rfl⟩ := hP
    obtain ⟨F₁, N₁⟩ := next h₁ hk₁
    refine wpAny_assign_Name (wpAny_storeName_local hv F₁.ns (fun h₂ hn₂ hs₂ => ?_) hp)
    have F₂ := F₁.set hn₂ hs₂
    have N₂ := N₁.set hs₂
    have hit₂ := hst₁.extBut hs₂.extBut hIL
    obtain ⟨o, ho, hoc, hod⟩ := id hit₂
    have N₃ : News h₀ env.locals h₂ ((I, o) :: news) := fun p hp => by
      rcases List.mem_cons.mp hp with rfl | hp
      · exact ⟨ho, hIL, hI0⟩
      · exact N₂ p hp
    refine wpAny_mono (step i c tu m' { s with heap := h₂, toks := tk₁ + 1 } o _ hc hJ ⟨h₂, _, rfl⟩ F₂ N₃) (fun f s₃ h₃ => ?_) fun _ _ e => e
    rcases h₃ with ⟨rfl, h₃', tk₃, m₂, rfl, F₃, N₃', hJ₃⟩ | ⟨r, rfl, hq⟩
    · refine ⟨x.cps.size + 1 - (i + 1), by omega, h₃', tk₃, m₂, i + 1, rfl, ⟨o, (N₃' _ List.mem_cons_self).1, hoc, hod⟩, F₃, fun p hp => N₃' p (List.mem_cons_of_mem _ hp), hJ₃, hlt, rfl⟩
    · exact hq
  · have hsz : i = x.cps.size := Nat.le_antisymm hi (Nat.le_of_not_lt hlt)
    subst hsz
    refine W.done _ _ _ hit' fun h₁ tk₁ hk₁ => wpAny_execs_nil ?_
    obtain ⟨F₁, N₁⟩ := next h₁ hk₁
    exact hR h₁ tk₁ m' F₁ N₁ hJ

theorem for_str {v : Str} {px pos : Pos} {iter : Expr} {body : List Stmt} {x : Str} {t : Tok}
    (hh : A.handled = none) (hv : env.kindOf v = some .local)
    (hp : (env.scope.kind == .class || (env.scope.kind == .module && env.locals != env.globals)) = false)
    (F : Fr h₀ env.locals s.heap m) (N : News h₀ env.locals s.heap news)
    (hiter : ∀ Q', Q' (.str x t) s → wpAny (model prog w) A (eval iter env) Q' E s)
    (J : Nat → (Str → Option Value) → Prop) (h0 : J 0 m)
    (step : ∀ i c tk m₁ s₁ I o E', x.cps[i]? = some c → J i m₁ → (∃ h' tk', s₁ = { s with heap := h', toks := tk' }) → Fr h₀ env.locals s₁.heap (fun y => if y = v then some (.str ⟨#[c]⟩ tk) else m₁ y) → News h₀ env.locals s₁.heap ((I, o) :: news) → (∀ p ∈ news, p.1 < I) →
      wpAny (model prog w) A (execs body env) (TurnEnd s h₀ env.locals ((I, o) :: news) (J (i + 1)) Q) E' s₁)
    (hQ : ∀ h' tk m', Fr h₀ env.locals h' m' → News h₀ env.locals h' news → J x.cps.size m' → Q .next { s with heap := h', toks := tk })
    (hs : ∀ y, foldedSetIterable iter env y = pure y := by intro _; rfl) :
    wpAny (model prog w) A (exec (.For (.Name v px) iter body [] pos) env) Q E s := by
  have hlt : ∀ b o, s.heap.get? b = some o → b < s.heap.objs.size := fun b o e => Heap.lt_size e
  have hI0 : h₀.get? s.heap.objs.size = none := by
    cases e : h₀.get? s.heap.objs.size with
    | none => rfl
    | some o => exact absurd (hlt _ _ (F.keep _ _ e)) (Nat.lt_irrefl _)
  obtain ⟨oL, _, _, hoL, _⟩ := id F.ns
  have hIL : s.heap.objs.size ≠ env.locals := (Nat.ne_of_lt (hlt _ _ hoL)).symm
  have hIn : ∀ p ∈ news, p.1 < s.heap.objs.size := fun p hp => hlt _ _ (N p hp).1
  have go : ∀ (ty : String) (o : Obj), Walks prog w A s.heap.objs.size [s.heap.objs.size] [s.heap.objs.size] x.cps.size (SignAt x) (fun i h => h.IsStrIter s.heap.objs.size ty x t i) →
      (s.heap.push o).IsStrIter s.heap.objs.size ty x t 0 → codeAny (model prog w) A (.forLoop (.Name v px) (.ref s.heap.objs.size) body [] env) (fun r s' => match r with | .ok f => Q f s' | .error e => cameBackBy (model prog w) A env E e s') { s with heap := s.heap.push o } := by
    intro ty o W hit
    refine for_str_loop (s := { s with heap := s.heap.push o }) (R := fun r s' => match r with | .ok f => Q f s' | .error e => cameBackBy (model prog w) A env E e s') W hv hp hIL hI0 (fun p hp => Nat.ne_of_lt (hIn p hp)) hit (F.push o) (fun p hp => ⟨Heap.get?_push_of_some _ (N p hp).1, (N p hp).2⟩) J h0 ?_ ?_
    · intro i c tk m₁ s₁ o₁ E' hc hJ hs1 F₁ N₁
      obtain ⟨h', tk', e⟩ := hs1
      exact step i c tk m₁ s₁ _ o₁ E' hc hJ ⟨h', tk', e⟩ F₁ N₁ hIn
    · intro h' tk m' F' N' hJ
      exact hQ h' tk m' F' N' hJ
  cases ha : x.cps.all (· < 128)
  · exact wpAny_For (hiter _ (wpAny_pyIter_wide ha (go _ _ (Walks.strWide hh _ x t) ⟨_, Heap.get?_push_size _ rfl, rfl, rfl⟩))) hs
  · exact wpAny_For (hiter _ (wpAny_pyIter_ascii ha (go _ _ (Walks.strAscii hh _ x t) ⟨_, Heap.get?_push_size _ rfl, rfl, rfl⟩))) hs
end
end Mine
end
section
-- part Num
open PySem PySem.W PyProof.Rows PySem.Calls PySem.Spec
set_option maxRecDepth 100000
namespace Mine
section
variable {prog : Program} {w : World} {mean : ExcName → Option Value} {mg mb : Str → Option Value} {news : List (Addr × Obj)}
def isDig (c : Nat) : Bool := decide (48 ≤ c ∧ c ≤ 57)
def dval (l : List Nat) : Nat := l.foldl (fun acc c => acc * 10 + (c - 48)) 0
def whites : Str := Str.ofString " \t\n\r"
def bareOf (x : Str) : List Nat := (Txt.stripChars x whites).cps.toList
def lawNum (x : Str) : Int := if bareOf x = [] then -1 else if (bareOf x).all isDig then (dval (bareOf x) : Int) else -1
theorem digs_list : (Str.ofString "0123456789").cps.toList = [48, 49, 50, 51, 52, 53, 54, 55, 56, 57] := by decide
theorem dig_mem (c : Nat) : decide (c ∈ (Str.ofString "0123456789").cps.toList) = isDig c := by
  rw [digs_list]
  unfold isDig
  apply decide_eq_decide.mpr
  simp only [List.mem_cons, List.not_mem_nil, or_false]
  omega
theorem dig_found (c : Nat) : (Builtin.Str.occurrences (Str.ofString "0123456789") ⟨#[c]⟩ 0 (Str.ofString "0123456789").length 1).isEmpty = !isDig c := by
  have h := StrLaws.found_one (Str.ofString "0123456789") c
  rw [dig_mem] at h
  cases hc : (Builtin.Str.occurrences (Str.ofString "0123456789") ⟨#[c]⟩ 0 (Str.ofString "0123456789").length 1).isEmpty <;> rw [hc] at h <;> rw [← h] <;> rfl
theorem dig_find {c : Nat} (h : isDig c = true) : Txt.find (Str.ofString "0123456789") ⟨#[c]⟩ = ((c - 48 : Nat) : Int) := by
  unfold isDig at h
  have h := of_decide_eq_true h
  have : c = 48 ∨ c = 49 ∨ c = 50 ∨ c = 51 ∨ c = 52 ∨ c = 53 ∨ c = 54 ∨ c = 55 ∨ c = 56 ∨ c = 57 := by omega
  rcases this with rfl | rfl | rfl | rfl | rfl | rfl | rfl | rfl | rfl | rfl <;> decide +kernel
theorem dval_snoc (l : List Nat) (c : Nat) : dval (l ++ [c]) = dval l * 10 + (c - 48) := by simp [dval, List.foldl_append]
def JNum (b : Str) (tb : Tok) (i : Nat) (m : Str → Option Value) : Prop :=
  m (Str.ofString "bare") = some (.str b tb) ∧ (b.cps.toList.take i).all isDig = true ∧ ∃ tk, m (Str.ofString "number") = some (.int (dval (b.cps.toList.take i) : Int) tk)
set_option maxHeartbeats 8000000 in
theorem con_num {x : Str} {t : Tok} (hx : x.length ≤ 1000) : Con prog w mean mg mb 1 8 92 news [.str x t] (fun v ns => ns = [] ∧ ∃ t', v = .int (lawNum x) t') := by
  w_on
  intro A h₀ L m s Q E hh hF hX hN hT hdp hun hret
  refine wpAny_call ?_
  k_dflt (refine' defA ?k2 ?k3 ?k4 ?k5 ?k6 ?k7 ?k8 ?k9 ?kB ?_ ?c2 ?c3 ?c4 ?c5; (case k2 => exact hF); (case k3 => exact hX); (case k4 => exact hN); (case k5 => exact hT); (case k6 => k_is); (case k7 => k_is); (case k8 => omega); (case k9 => exact BindsTo.of_eq rfl); (case c5 => decide); (case kB => exact locs rfl); (case c2 => exact rfl); (case c3 => exact rfl); (case c4 => exact rfl); k_whole)
  intro g L' h1 F1 N1 X T hlt0
  dsimp only
  have hm1 : (fun y => List.lookup y [(Str.ofString "part", Value.str x t)]) (Str.ofString "part") = some (Value.str x t) := rfl
  replace F1 : Fr g L' h1 (fun y => List.lookup y [(Str.ofString "part", Value.str x t)]) := F1
  generalize (fun y => List.lookup y [(Str.ofString "part", Value.str x t)]) = m1 at F1 hm1
  refine wpAny_execs_cons (wpAny_Assign_Name ?_)
  refine MethodCall_ ?_
  refine ld F1 hm1 ?_ rfl rfl
  walk1
  walk1
  walk1
  refine Calls.Constant_str ?_
  walk1
  dsimp only
  refine SC.stripChars ?_ (by rw [sizeLine_eq]; omega)
  intro t2 k2
  refine stN F1 N1 ?_ rfl rfl
  intro h2 F2 N2
  dsimp only
  refine wpAny_execs_cons (wpAny_Assign_Name (wpAny_Constant_int ?_))
  refine stN F2 N2 ?_ rfl rfl
  intro h3 F3 N3
  dsimp only
  refine wpAny_execs_cons ?_
  refine for_str (x := Txt.stripChars x whites) (t := t2) hh rfl rfl F3 N3 (fun Q' hq => ld F3 rfl hq rfl rfl) (JNum (Txt.stripChars x whites) t2) ⟨rfl, rfl, _, rfl⟩ ?_ ?_
  · intro i c tk m₁ s₁ I o E' hc hJ hs1 F4 N4 hlt
    obtain ⟨h4, tk4, rfl⟩ := hs1
    obtain ⟨hb, hall, tk5, hn⟩ := hJ
    refine wpAny_execs_cons (wpAny_If (wpAny_isTrue_Compare1 ?_))
    refine ld F4 rfl ?_ rfl rfl
    refine Calls.Constant_str ?_
    dsimp only
    refine notIn_str ?_
    refine wpAny_truthy_bool ?_
    try dsimp only
    rw [dig_found, Bool.not_not]
    have hcm : (Txt.stripChars x whites).cps.toList[i]? = some c := by simpa using hc
    have hmem : c ∈ bareOf x := List.mem_of_getElem? hcm
    cases hd : isDig c
    · refine ite_pos (by decide) ?_
      refine wpAny_execs_cons (wpAny_Return_some ?_)
      walk1
      refine wpAny_Constant_int ?_
      walk1
      dsimp only
      refine Or.inr ⟨_, rfl, ?_⟩
      dsimp only
      refine leaveK_ F4 (fun p hp => N4 p (List.mem_cons_of_mem _ hp)) ?_
      intro kF kN kK
      have e : lawNum x = -1 := by
        unfold lawNum
        split
        · rfl
        · rw [if_neg]
          intro h
          rw [List.all_eq_true] at h
          rw [h c hmem] at hd
          cases hd
      exact hret _ [] _ _ ⟨rfl, _, congrArg (fun z => Value.int z _) e.symm⟩ kF kN kK
    · refine ite_neg (by decide) ?_
      refine wpAny_execs_nil ?_
      dsimp only
      refine wpAny_execs_cons (wpAny_Assign_Name (wpAny_BinOp (wpAny_BinOp ?_)))
      refine ld F4 hn ?_ rfl rfl
      refine wpAny_Constant_int ?_
      dsimp only
      walk1
      refine MethodCall_ (Calls.Constant_str ?_)
      walk1
      walk1
      walk1
      refine ld F4 rfl ?_ rfl rfl
      walk1
      dsimp only
      refine index_or hh ?_ ?_
      · intro _ he
        rw [dig_found, hd] at he
        cases he
      intro _ _
      dsimp only
      refine add_int ?_
      dsimp only
      refine stN F4 N4 ?_ rfl rfl
      intro h5 F5 N5
      dsimp only
      refine wpAny_execs_nil ?_
      have e1 : (List.take (i + 1) (Txt.stripChars x whites).cps.toList) = List.take i (Txt.stripChars x whites).cps.toList ++ [c] := by
        rw [List.take_add_one, hcm]; rfl
      have e2 : ((dval (List.take i (Txt.stripChars x whites).cps.toList) : Int) * 10 + Txt.find (Str.ofString "0123456789") ⟨#[c]⟩) = ((dval (List.take (i + 1) (Txt.stripChars x whites).cps.toList) : Nat) : Int) := by
        rw [e1, dval_snoc, dig_find hd]
        push_cast
        rfl
      rw [e2] at F5
      refine Or.inl ⟨rfl, h5, _, _, rfl, F5, N5, hb, ?_, _, rfl⟩
      rw [e1, List.all_append, hall]
      simp [hd]
  · intro h' tk m' F4 N4 hJ
    obtain ⟨hb, hall, tk5, hn⟩ := hJ
    have hfull : List.take (Txt.stripChars x whites).cps.size (Txt.stripChars x whites).cps.toList = bareOf x := List.take_of_length_le (by simp)
    rw [hfull] at hall hn
    try dsimp only
    refine wpAny_execs_cons (wpAny_Return_some ?_)
    walk1
    refine wpAny_isTrue_Compare1 ?_
    refine ld F4 hb ?_ rfl rfl
    refine Calls.Constant_str ?_
    walk1
    walk1
    have hne : (Txt.stripChars x whites != Str.ofString "") = !decide (bareOf x = []) := by
      have e0 : Str.ofString "" = ⟨#[]⟩ := by decide
      rw [e0]
      unfold bareOf
      cases hz : Txt.stripChars x whites with
      | mk arr =>
        cases arr with
        | mk l =>
          cases l with
          | nil => rfl
          | cons z l => 
            simp
    rw [hne]
    by_cases hbe : bareOf x = []
    · refine ite_neg (by rw [decide_eq_true hbe]; decide) ?_
      walk1
      refine wpAny_Constant_int ?_
      walk1
      dsimp only
      refine leaveK_ F4 N4 ?_
      intro kF kN kK
      have e : lawNum x = -1 := by unfold lawNum; rw [if_pos hbe]
      exact hret _ [] _ _ ⟨rfl, _, congrArg (fun z => Value.int z _) e.symm⟩ kF kN kK
    · refine ite_pos (by rw [decide_eq_false hbe]; rfl) ?_
      refine ld F4 hn ?_ rfl rfl
      dsimp only
      refine leaveK_ F4 N4 ?_
      intro kF kN kK
      have e : lawNum x = (dval (bareOf x) : Int) := by unfold lawNum; rw [if_neg hbe, if_pos hall]
      exact hret _ [] _ _ ⟨rfl, _, congrArg (fun z => Value.int z _) e.symm⟩ kF kN kK
end
end Mine
end
section
-- part IntBad
open PySem PySem.W PyProof.Rows PySem.Calls
open Sem (wp)
set_option maxRecDepth 100000
namespace Mine
section
variable {prog : Program} {w : World} {A : Around} {E : Value → Shared → Prop} {s : Shared}
theorem markC {M : Model} {own : List String} {e : Value} {Q : Unit → Shared → Prop} (h : Q () s) : wpC M A (markTheRefusal own e) Q E s := by
  unfold markTheRefusal
  refine wpC_bind (wpC_stack fun st hst => ?_)
  have e1 : pythonCodeMadeTheCall own (st.map (·.1)) = false := by
    cases hp : pythonCodeMadeTheCall own (st.map (·.1)) with
    | false => rfl
    | true =>
      exfalso
      have h3 := (Bool.and_eq_true_iff.mp (Bool.and_eq_true_iff.mp hp).1).1
      have h4 : (st.map (·.1)).any Code.isCaller = true := by
        unfold hasC at hst
        rw [List.any_map]
        exact hst
      rw [Bool.not_eq_true'] at h3
      exact Bool.noConfusion (h3.symm.trans h4)
  rw [e1]
  exact wpC_pure h
section
variable {x : Str} {u : Tok}
theorem sp_str (name : Str) : specialOf (.str x u) name = typeLookup (.type "str") name := rfl
theorem ifo_str : (int_private% "intFromObject") (.str x u) = (int_private% "intFromText") (.str x u) (numTextOf x) 10 := by
  have e1 : callSpecial? (.str x u) "__int__" [] [] = pure none := by
    unfold callSpecial?
    rw [sp_str, KIN.str_int, pure_bind]
  have e2 : specialOf (.str x u) "__index__" = pure none := by rw [sp_str, KIN.str_idx]
  have e3 : specialOf (.str x u) "__trunc__" = pure none := by rw [sp_str, KIN.str_trunc]
  show (callSpecial? (.str x u) "__int__" [] [] >>= _) = _
  rw [e1, pure_bind]
  show (specialOf (.str x u) "__index__" >>= _) = _
  rw [e2, pure_bind]
  show (specialOf (.str x u) "__trunc__" >>= _) = _
  rw [e3, pure_bind]
  rfl
theorem int_tree : Builtin.«int.__new__» ⟨[.type "int", .str x u], []⟩ = ((int_private% "intFromText") (.str x u) (numTextOf x) 10 >>= fun v => ret v) := by
  show (isType (.type "int") >>= _) = _
  rw [show isType (.type "int") = pure true from rfl, pure_bind]
  show (isSubtype (.type "int") (.type "int") >>= _) = _
  rw [F.conv_sub_int, pure_bind]
  show (Bind.madeHere "int.__new__" (.type "int") >>= _) = _
  rw [F.madeHere_int, pure_bind]
  show ((int_private% "intFromObject") (.str x u) >>= _) = _
  rw [ifo_str]
  rfl
end

theorem text_bad {x : Str} {u : Tok} {Q : Value → Shared → Prop} (hh : A.handled = none) (hl : x.length ≤ 600) (hr : (reprText x).length ≤ sizeLine) (hn : PySem.intText? x = none)
    (h : ∀ h' tk e, Heap.NewExc s.heap h' e "ValueError" → E (.ref e) { s with heap := h', toks := tk }) :
    wpC (model prog w) A ((int_private% "intFromText") (.str x u) (numTextOf x) 10) Q E s := by
  have hs : (numSeenOf x).length ≤ 640 := Nat.le_trans (seen_length x) (Nat.le_trans hl (by decide))
  have hb : (int_private% "bytesOf?") (.str x u) = pure none := rfl
  have hshort : ∀ a : Array Nat, (Str.ofString (toString "invalid literal for int() with base " ++ toString 10 ++ toString ": ") ++ (⟨a.extract 0 200⟩ : Str)).length ≤ sizeLine := by
    intro a
    rw [Str.length_append, sizeLine_eq]
    have e1 : (Str.ofString (toString "invalid literal for int() with base " ++ toString 10 ++ toString ": ")).length = 40 := by decide +kernel
    have e2 : (⟨a.extract 0 200⟩ : Str).length ≤ 200 := by
      show (a.extract 0 200).size ≤ 200
      rw [Array.size_extract]
      omega
    omega
  rcases read0 x hs with ⟨n, h1, _⟩ | ⟨_, h2 | ⟨i, h2, h3⟩⟩
  · rw [hn] at h1; cases h1
  · show wpC _ A (if (numSeenOf x).length ≤ 640 then _ else _) Q E s
    rw [if_pos hs]
    show wpC _ A ((pure 0 : Sem Nat) >>= _) Q E s
    refine wpC_bindA (wpAny_pure ?_)
    dsimp only
    rw [h2]
    dsimp only
    refine wpC_bindA (wpAny_of_eq hb ?_)
    rw [if_neg (by simp)]
    refine wpC_bindA (wpAny_rule ?_)
    refine wpC_bindA (wpAny_of_eq hb ?_)
    dsimp only
    refine wpC_bindA (wpAny_pyRepr_str ?_ hr)
    refine wpC_bindA (wpAny_mkStr ?_ ?_)
    · refine wpC_bindA (wpAny_newExc_plain plainExc_ValueError fun h' e hx => ?_)
      refine wpC_bind (markC ?_)
      exact wpC_of (wpAny_raiseNew_none hh (h _ _ e hx.newExc))
    · exact hshort _
  · show wpC _ A (if (numSeenOf x).length ≤ 640 then _ else _) Q E s
    rw [if_pos hs]
    show wpC _ A ((pure 0 : Sem Nat) >>= _) Q E s
    refine wpC_bindA (wpAny_pure ?_)
    dsimp only
    rw [h2]
    dsimp only
    rw [if_neg h3]
    refine wpC_bindA (wpAny_rule ?_)
    refine wpC_bindA (wpAny_of_eq hb ?_)
    dsimp only
    refine wpC_bindA (wpAny_pyRepr_str ?_ hr)
    refine wpC_bindA (wpAny_mkStr ?_ ?_)
    · refine wpC_bindA (wpAny_newExc_plain plainExc_ValueError fun h' e hx => ?_)
      refine wpC_bind (markC ?_)
      exact wpC_of (wpAny_raiseNew_none hh (h _ _ e hx.newExc))
    · exact hshort _

theorem call_int_bad {x : Str} {u : Tok} {Q : Value → Shared → Prop} (hh : A.handled = none) (hl : x.length ≤ 600) (hr : (reprText x).length ≤ sizeLine) (hn : PySem.intText? x = none)
    (h : ∀ h' tk e, Heap.NewExc s.heap h' e "ValueError" → E (.ref e) { s with heap := h', toks := tk }) :
    wpC (model prog w) A (call (.type "int") [.str x u]) Q E s := by
  refine callTypeC (Q₁ := fun _ _ => False) F.called_int (F.typeCall_int_1 _) F.entry_object_init ?_ fun _ _ f => f.elim
  refine codeC_call_builtin F.called_int.plain F.entry_int_new ?_
  rw [F.newCall_int_1, int_tree]
  exact wpAny_pure (wpC_bind (text_bad (A := A.in1.in1) hh hl hr hn h))
end
end Mine
end
section
-- part MapFacts
open PySem PySem.W PyProof.Rows PySem.Calls
set_option maxRecDepth 100000
namespace Mine
theorem owner_map : Manifest.owners.lookup (String.ofList ['p', 'a', 'm'].reverse) = some Manifest.sig_map := by kernel_rfl
theorem slot_map_init : Slot "map" "__init__" "object.__init__" :=
  .of (owner := "object") (n := "__init__") (by rw [typeLookup_type, builtinLookup_eq_fast]; kernel_rfl) (by decide +kernel) (by decide +kernel) (by decide +kernel)
    (by first | exact .inl (by decide +kernel) | exact .inr (by decide +kernel)) (by rw [isSubtype_type]; kernel_rfl)
theorem slot_map_iter : Slot "map" "__iter__" "map.__iter__" :=
  .of (owner := "map") (n := "__iter__") (by rw [typeLookup_type, builtinLookup_eq_fast]; kernel_rfl) (by decide +kernel) (by decide +kernel) (by decide +kernel)
    (by first | exact .inl (by decide +kernel) | exact .inr (by decide +kernel)) (by rw [isSubtype_type]; kernel_rfl)
theorem args_map_iter_1 (a : Value) : argsOk "map.__iter__" ⟨[a], []⟩ := by
  unfold argsOk; rw [signature?_of (id := "map.__iter__") (n := ['_', '_', 'r', 'e', 't', 'i', '_', '_']) (o := ['p', 'a', 'm']) (by kernel_rfl) owner_map]; kernel_rfl
theorem slot_map_next : Slot "map" "__next__" "map.__next__" :=
  .of (owner := "map") (n := "__next__") (by rw [typeLookup_type, builtinLookup_eq_fast]; kernel_rfl) (by decide +kernel) (by decide +kernel) (by decide +kernel)
    (by first | exact .inl (by decide +kernel) | exact .inr (by decide +kernel)) (by rw [isSubtype_type]; kernel_rfl)
theorem entry_map_next : entryFor table "map.__next__" = some Builtin.«map.__next__» := entryFor_of_tree (by kernel_rfl)
theorem args_map_next_1 (a : Value) : argsOk "map.__next__" ⟨[a], []⟩ := by
  unfold argsOk; rw [signature?_of (id := "map.__next__") (n := ['_', '_', 't', 'x', 'e', 'n', '_', '_']) (o := ['p', 'a', 'm']) (by kernel_rfl) owner_map]; kernel_rfl
theorem entry_map_iter : entryFor table "map.__iter__" = some Builtin.«dict_keyiterator.__iter__» :=
  entryFor_alias (id' := "dict_keyiterator.__iter__") (by kernel_rfl) (by first | rfl | decide +kernel | (unfold String.splitOn; simp +decide [String.splitOnAux])) (by decide +kernel) (by kernel_rfl)
theorem mro_map : mroOf (.type "map") = pure [.type "map", .type "object"] := by rw [mroOf_type]; kernel_rfl
theorem lookup_map_new : typeLookup (.type "map") "__new__" = pure (some (.builtin "map.__new__")) := by rw [typeLookup_type, builtinLookup_eq_fast]; kernel_rfl
theorem called_map : TypeCalled "map" "map.__new__" "object.__init__" :=
  ⟨by decide +kernel, by decide +kernel, ⟨_, _, mro_map⟩, madeBy_type mro_map lookup_map_new (by decide +kernel), by decide +kernel, by rw [isSubtype_type]; kernel_rfl, slot_map_init⟩
theorem typeCall_map_2 (a b : Value) : checkTypeCall "map" ⟨[a, b], []⟩ = pure () := by kernel_rfl
theorem newCall_map_2 (a b : Value) : checkBuiltinCall "map.__new__" ⟨[.type "map", a, b], []⟩ = pure () := by kernel_rfl
theorem entry_map_new : entryFor table "map.__new__" = some Builtin.«map.__new__» := entryFor_of_tree (by kernel_rfl)
theorem nolen_map : typeLookup (.type "map") "__len__" = pure none := by rw [typeLookup_type, builtinLookup_eq_fast]; kernel_rfl
theorem nohint_map : typeLookup (.type "map") "__length_hint__" = pure none := by rw [typeLookup_type, builtinLookup_eq_fast]; kernel_rfl
theorem sub_map : isSubtype (.type "map") (.type "map") = pure true := by rw [isSubtype_type]; kernel_rfl
end Mine
end
section
-- part MapNext
open PySem PySem.W PyProof.Rows PySem.Calls
open Sem (wp)
set_option maxRecDepth 100000
namespace Mine
abbrev IsMap (h : Heap) (z T : Addr) (f : Value) : Prop := h.get? z = some { cls := .type "map", dict := none, data := .fields #[.ref T, f], slots := #[] }
abbrev IsOne (h : Heap) (T : Addr) (a : Value) : Prop := h.get? T = some { cls := .type "tuple", data := .seq #[a] }
section
variable {prog : Program} {w : World} {A : Around} {E : Value → Shared → Prop} {s : Shared}

theorem map_nextC {z T : Addr} {f it : Value} {Q : Value → Shared → Prop} (hz : IsMap s.heap z T f) (hT : IsOne s.heap T it)
    (h : wpC (model prog w) A (Builtin.SmallTypes.nextOf it) (fun x s₁ => IsMap s₁.heap z T f ∧ wpC (model prog w) A (call f [x]) Q E s₁) E s) :
    wpC (model prog w) A (Builtin.«map.__next__» ⟨[.ref z], []⟩) (fun fin s' => ∃ v, fin = .done (.ret v) ∧ Q v s') E s := by
  show wpC _ _ (field (.ref z) 0 >>= _) _ _ _
  refine wpC_bindA (wpAny_field hz rfl (x := .ref T) rfl ?_)
  refine wpC_bindA (wpAny_seqItems hT rfl ?_)
  dsimp only
  simp only [List.forIn_cons, List.forIn_nil, List.forIn_toArray, bind_assoc, pure_bind]
  refine wpC_bind (wpC_holding (wpC_mono h (fun x s₁ hx => ?_) fun _ _ e => e))
  obtain ⟨hz₁, hc⟩ := hx
  refine wpC_bindA (wpAny_field hz₁ rfl (x := f) rfl ?_)
  refine wpC_bind (wpC_holding (wpC_mono hc (fun v s₂ hq => ?_) fun _ _ e => e))
  exact wpC_bindA (wpAny_letGo (wpC_pure ⟨v, rfl, hq⟩))

theorem map_specialC {z T : Addr} {f it : Value} {Q : Option Value → Shared → Prop} (hz : IsMap s.heap z T f) (hT : IsOne s.heap T it)
    (h : wpC (model prog w) A.in1 (Builtin.SmallTypes.nextOf it) (fun x s₁ => IsMap s₁.heap z T f ∧ wpC (model prog w) A.in1 (call f [x]) (fun v => Q (some v)) E s₁) E s) :
    wpC (model prog w) A (callSpecial? (.ref z) "__next__") Q E s := by
  have ht : s.TypeIs (.ref z) "map" := ⟨_, hz, rfl⟩
  refine wpC_callSpecial ht slot_map_next (wpC_call_slot slot_map_next ht entry_map_next (args_map_next_1 _) (wpC_mono (map_nextC hz hT h) (fun fin s' q => ?_) fun _ _ e => e))
  obtain ⟨v, rfl, hq⟩ := q
  exact hq

/-- the two maps, over a list -/
structure MapSt (h : Heap) (l I T1 z1 T2 z2 : Addr) (xs : Array Value) (i : Nat) : Prop where
  lst : h.IsList l xs
  it : h.IsListIter I l i
  t1 : IsOne h T1 (.ref I)
  m1 : IsMap h z1 T1 (.type "int")
  t2 : IsOne h T2 (.ref z1)
  m2 : IsMap h z2 T2 (.type "str")

theorem MapSt.but {h h' : Heap} {l I T1 z1 T2 z2 : Addr} {xs : Array Value} {i j : Nat} (S : MapSt h l I T1 z1 T2 z2 xs i) (hI : h'.IsListIter I l j) (k : ∀ b o, b ≠ I → h.get? b = some o → h'.get? b = some o)
    (d : l ≠ I ∧ T1 ≠ I ∧ z1 ≠ I ∧ T2 ≠ I ∧ z2 ≠ I) : MapSt h' l I T1 z1 T2 z2 xs j :=
  ⟨S.lst.at fun o e => k _ o d.1 e, hI, k _ _ d.2.1 S.t1, k _ _ d.2.2.1 S.m1, k _ _ d.2.2.2.1 S.t2, k _ _ d.2.2.2.2 S.m2⟩

theorem next2C {l I T1 z1 T2 z2 : Addr} {xs : Array Value} {i : Nat} {Q : Option Value → Shared → Prop} (hh : A.handled = none) (S : MapSt s.heap l I T1 z1 T2 z2 xs i)
    (d : l ≠ I ∧ T1 ≠ I ∧ z1 ≠ I ∧ T2 ≠ I ∧ z2 ≠ I)
    (hstr : ∀ v, xs[i]? = some v → ∃ x t, v = .str x t ∧ x.length ≤ 600 ∧ (reprText x).length ≤ sizeLine ∧ ∀ n, PySem.intText? x = some n → n.natAbs.log2 < 1920)
    (hgood : ∀ x t n h' tk, xs[i]? = some (.str x t) → PySem.intText? x = some n → MapSt h' l I T1 z1 T2 z2 xs (i + 1) → Heap.SameBut I s.heap h' → Q (some (.str (toString n) tk)) { s with heap := h', toks := tk + 1 })
    (hbad : ∀ x t h₁ h' tk e, xs[i]? = some (.str x t) → PySem.intText? x = none → Heap.SameBut I s.heap h₁ → Heap.NewExc h₁ h' e "ValueError" → E (.ref e) { s with heap := h', toks := tk })
    (hend : ∀ h' e, xs[i]? = none → Heap.ExtBut I s.heap h' → (∃ o, h'.get? e = some o ∧ o.cls = .type "StopIteration") → E (.ref e) { s with heap := h' }) :
    wpC (model prog w) A (callSpecial? (.ref z2) "__next__") Q E s := by
  refine map_specialC S.m2 S.t2 (wpC_nextOf (map_specialC S.m1 S.t1 ?_))
  cases hv : xs[i]? with
  | none =>
    exact wpC_of (wpAny_nextOf_list_end (A := A.in1.in1) hh S.it S.lst hv fun h' e he hs => hend h' e hv he hs)
  | some v =>
    obtain ⟨x, t, rfl, hl, hr, hlog⟩ := hstr v hv
    refine wpC_of (wpAny_nextOf_list_item S.it S.lst hv fun h₁ hit₁ hs₁ => ?_)
    have S₁ := S.but hit₁ (fun b o hb e => hs₁.extBut b o hb e) d
    refine ⟨S₁.m1, ?_⟩
    cases hn : PySem.intText? x with
    | none => exact call_int_bad (A := A.in1.in1) hh hl hr hn fun h' tk e hx => hbad x t h₁ h' tk e hv hn hs₁ hx
    | some n =>
      refine wpC_of (KIN.call_text hn (Nat.le_trans hl (by decide)) ?_)
      refine ⟨S₁.m2, wpC_of (P.str_of_int (hlog n hn) ?_)⟩
      exact hgood x t n h₁ _ hv hn S₁ hs₁
end
end Mine
end
section
-- part MapList
open PySem PySem.W PyProof.Rows PySem.Calls
open Sem (wp)
set_option maxRecDepth 100000
namespace Mine
def IsStrV (v : Value) (x : Str) : Prop := ∃ t, v = .str x t
/-- str(int(x)), where int(x) is told -/
def intStr (x : Str) : Str := match PySem.intText? x with | some n => Str.ofString (toString n) | none => x
theorem paired_get {α β : Type} {F : α → β → Prop} : ∀ {l₁ : List α} {l₂ : List β} {i : Nat} {a : α}, Paired F l₁ l₂ → l₁[i]? = some a → ∃ b, l₂[i]? = some b ∧ F a b
  | _, _, i, _, .nil, h => by simp at h
  | _, _, 0, a, .cons h _, e => by
    rw [List.getElem?_cons_zero] at e
    cases e
    exact ⟨_, rfl, h⟩
  | _, _, i + 1, a, .cons _ t, e => by
    rw [List.getElem?_cons_succ] at e ⊢
    exact paired_get t e
theorem MapSt.butS {h h' : Heap} {l I T1 z1 T2 z2 S : Addr} {xs : Array Value} {i : Nat} (M : MapSt h l I T1 z1 T2 z2 xs i) (d : l ≠ S ∧ T1 ≠ S ∧ z1 ≠ S ∧ T2 ≠ S ∧ z2 ≠ S ∧ I ≠ S)
    (k : ∀ b o, b ≠ S → h.get? b = some o → h'.get? b = some o) : MapSt h' l I T1 z1 T2 z2 xs i :=
  ⟨M.lst.at fun o e => k _ o d.1 e, M.it.at fun o e => k _ o d.2.2.2.2.2 e, k _ _ d.2.1 M.t1, k _ _ d.2.2.1 M.m1, k _ _ d.2.2.2.1 M.t2, k _ _ d.2.2.2.2.1 M.m2⟩
section
variable {prog : Program} {w : World} {A : Around} {E : Value → Shared → Prop} {s : Shared} {R : Result → Shared → Prop}

theorem extendC {l I T1 z1 T2 z2 S : Addr} {vs : Array Value} {xs : List Str} (res : Value) (hh : A.handled = none) (hp : Paired IsStrV vs.toList xs)
    (d : l ≠ I ∧ T1 ≠ I ∧ z1 ≠ I ∧ T2 ≠ I ∧ z2 ≠ I) (dS : l ≠ S ∧ T1 ≠ S ∧ z1 ≠ S ∧ T2 ≠ S ∧ z2 ≠ S ∧ I ≠ S) (hsz : vs.size ≤ 1000)
    (hok : ∀ x ∈ xs, x.length ≤ 600 ∧ (reprText x).length ≤ sizeLine ∧ ∀ n, PySem.intText? x = some n → n.natAbs.log2 < 1920) :
    ∀ (k i : Nat) (s : Shared) (acc : Array Value) (c : Nat), vs.size - i = k → i ≤ vs.size → MapSt s.heap l I T1 z1 T2 z2 vs i → s.heap.get? S = some { cls := .type "list", dict := none, data := .seq acc c, slots := #[] } →
    Paired IsStrV acc.toList ((xs.take i).map intStr) →
    (∀ h' tk acc' c', (∀ b o, b ≠ I → b ≠ S → s.heap.get? b = some o → h'.get? b = some o) → h'.get? S = some { cls := .type "list", dict := none, data := .seq acc' c', slots := #[] } →
      Paired IsStrV acc'.toList (xs.map intStr) → (∀ x ∈ xs.drop i, (PySem.intText? x).isSome = true) → R (.ok (.ret res)) { s with heap := h', toks := tk }) →
    (∀ h₁ h' tk e x, x ∈ xs → PySem.intText? x = none → (∀ b o, b ≠ I → b ≠ S → s.heap.get? b = some o → h₁.get? b = some o) → Heap.NewExc h₁ h' e "ValueError" → R (.error (.ref e)) { s with heap := h', toks := tk }) →
    codeC (model prog w) A (.builtin "list.extend.loop" ⟨[.ref S, .ref z2, res], []⟩) R s := by
  have hlen : xs.length = vs.size := by have := hp.length; simpa using this.symm
  intro k
  induction k with
  | zero =>
    intro i s acc c hk hi hst hS hacc hR hE
    have hin : i = vs.size := by omega
    subst hin
    have hnone : vs[vs.size]? = none := by simp
    refine codeC_builtin F.entry_extend_loop ?_
    rw [Around.under_plainId F.plain_extend_loop _]
    show wpC _ A.in1 (pyNext (.ref z2) >>= _) _ _ s
    refine wpC_bind (wpC_pyNext (next2C (A := A.in1) hh hst d (fun v e => by rw [hnone] at e; cases e) (fun x t n h' tk e => by rw [hnone] at e; cases e) (fun x t h₁ h' tk e e1 => by rw [hnone] at e1; cases e1) ?_))
    intro h' e _ he hs
    obtain ⟨o, ho, hc⟩ := hs
    refine wpAny_isInstance (T := "StopIteration") (b := true) ⟨o, ho, hc⟩ isSubtype_stop ?_
    refine ite_pos rfl ?_
    refine wpC_pure (hR h' _ acc c (fun b o hb _ e => he b o hb e) (he _ _ (Ne.symm dS.2.2.2.2.2) hS) ?_ ?_)
    · rw [List.take_of_length_le (by omega)] at hacc; exact hacc
    · rw [List.drop_of_length_le (by omega)]; intro x hx; cases hx
  | succ k ih =>
    intro i s acc c hk hi hst hS hacc hR hE
    have hlt : i < vs.size := by omega
    have hvi : vs[i]? = some vs[i] := by simp [hlt]
    refine codeC_builtin F.entry_extend_loop ?_
    rw [Around.under_plainId F.plain_extend_loop _]
    show wpC _ A.in1 (pyNext (.ref z2) >>= _) _ _ s
    obtain ⟨x, hx, t, hv⟩ := paired_get (i := i) hp (by rw [Array.getElem?_toList]; exact hvi)
    have hmem : x ∈ xs := List.mem_of_getElem? hx
    rw [hv] at hvi
    refine wpC_bind (wpC_pyNext (next2C (A := A.in1) hh hst d ?_ ?_ ?_ ?_))
    · intro v e
      rw [hvi] at e
      cases e
      exact ⟨x, t, rfl, hok x hmem⟩
    · intro x' t' n h' tk e hn hst' hs
      rw [hvi] at e
      cases e
      have hS' : h'.get? S = _ := hs.extBut _ _ (Ne.symm dS.2.2.2.2.2) hS
      have hasz : acc.size = i := by
        have e1 := hacc.length
        rw [List.length_map, List.length_take] at e1
        have e2 : acc.toList.length = acc.size := by simp
        omega
      show wpC _ A.in1 (updateSeq S (·.push (Value.str (toString n) tk)) >>= _) _ _ _
      refine wpC_bindA (wpAny_updateSeq hS' rfl (wpC_pure ⟨plainId_quiet F.plain_extend_loop _, ih (i + 1) _ (acc.push (Value.str (toString n) tk)) _ (by omega) hlt ?_ (Heap.get?_update_self _ hS' rfl) ?_ ?_ ?_⟩)
        (by rw [hasz, sizeLine_eq]; omega) (by show (acc.push _).size ≤ sizeLine + 1; rw [Array.size_push, hasz, sizeLine_eq]; omega))
      · exact hst'.butS dS fun b o hb e => (Heap.get?_update_other _ _ (Ne.symm hb)).trans e
      · rw [List.take_add_one, hx, List.map_append, Array.toList_push]
        refine Paired.snoc hacc ?_
        exact ⟨tk, by unfold intStr; rw [hn]⟩
      · intro h'' tk'' acc' c' hk' hS'' hacc' hdrop
        refine hR h'' tk'' acc' c' (fun b o hbI hbS e => hk' b o hbI hbS ((Heap.get?_update_other _ _ (Ne.symm hbS)).trans (hs.extBut b o hbI e))) hS'' hacc' ?_
        intro y hy
        have hlt' : i < xs.length := by omega
        rw [List.drop_eq_getElem_cons hlt'] at hy
        have e3 : xs[i] = x := by
          have := List.getElem?_eq_getElem hlt'
          rw [hx] at this
          exact (Option.some.inj this).symm
        rcases List.mem_cons.mp hy with rfl | hy
        · rw [e3, hn]; rfl
        · exact hdrop y hy
      · intro h₁ h'' tk'' e x'' hx'' hn'' hk' hnew
        exact hE h₁ h'' tk'' e x'' hx'' hn'' (fun b o hbI hbS e => hk' b o hbI hbS ((Heap.get?_update_other _ _ (Ne.symm hbS)).trans (hs.extBut b o hbI e))) hnew
    · intro x' t' h₁ h' tk e ev hn hs hx'
      rw [hvi] at ev
      cases ev
      obtain ⟨ob, tt, ho, hc, _⟩ := hx'.there
      refine wpAny_isInstance (T := "ValueError") (b := false) ⟨ob, ho, hc⟩ (by rw [isSubtype_type]; kernel_rfl) ?_
      refine ite_neg (by decide) ?_
      exact hE h₁ h' tk e x hmem hn (fun b o hbI _ e => hs.extBut b o hbI e) hx'
    · intro h' e hnone
      rw [hvi] at hnone
      cases hnone

theorem pyIter_map {z T : Addr} {f : Value} {Q : Value → Shared → Prop} (hz : IsMap s.heap z T f) (h : Q (.ref z) s) : wpAny (model prog w) A (pyIter (.ref z)) Q E s := by
  have hT : s.TypeIs (.ref z) "map" := ⟨_, hz, rfl⟩
  refine wpAny_pyIter_slot hT slot_map_iter (wpAny_call_entry slot_map_iter hT entry_map_iter ?_ (args_map_iter_1 _))
  show wpAny _ _ (ret (.ref z)) _ _ s
  exact wpAny_pure ⟨_, rfl, "map", _, hT, slot_map_next.lookup, h⟩

theorem list_mapC {l I T1 z1 T2 z2 : Addr} {vs : Array Value} {xs : List Str} {Q : Value → Shared → Prop} (hh : A.handled = none) (hp : Paired IsStrV vs.toList xs)
    (hst : MapSt s.heap l I T1 z1 T2 z2 vs 0) (d : l ≠ I ∧ T1 ≠ I ∧ z1 ≠ I ∧ T2 ≠ I ∧ z2 ≠ I) (hsz : vs.size ≤ 1000)
    (hok : ∀ x ∈ xs, x.length ≤ 600 ∧ (reprText x).length ≤ sizeLine ∧ ∀ n, PySem.intText? x = some n → n.natAbs.log2 < 1920)
    (hQ : ∀ h' tk acc' c', (∀ b o, b ≠ I → s.heap.get? b = some o → h'.get? b = some o) → h'.get? s.heap.objs.size = some { cls := .type "list", dict := none, data := .seq acc' c', slots := #[] } →
      Paired IsStrV acc'.toList (xs.map intStr) → (∀ x ∈ xs, (PySem.intText? x).isSome = true) → Q (.ref s.heap.objs.size) { s with heap := h', toks := tk })
    (hE : ∀ h₁ h' tk e x, x ∈ xs → PySem.intText? x = none → (∀ b o, b ≠ I → s.heap.get? b = some o → h₁.get? b = some o) → Heap.NewExc h₁ h' e "ValueError" → E (.ref e) { s with heap := h', toks := tk }) :
    wpC (model prog w) A (call (.type "list") [.ref z2]) Q E s := by
  have lt : ∀ {b o}, s.heap.get? b = some o → b < s.heap.objs.size := fun e => Heap.lt_size e
  obtain ⟨ol, hol, _⟩ := id hst.lst
  obtain ⟨oi, hoi, _⟩ := id hst.it
  have dS : l ≠ s.heap.objs.size ∧ T1 ≠ s.heap.objs.size ∧ z1 ≠ s.heap.objs.size ∧ T2 ≠ s.heap.objs.size ∧ z2 ≠ s.heap.objs.size ∧ I ≠ s.heap.objs.size :=
    ⟨Nat.ne_of_lt (lt hol), Nat.ne_of_lt (lt hst.t1), Nat.ne_of_lt (lt hst.m1), Nat.ne_of_lt (lt hst.t2), Nat.ne_of_lt (lt hst.m2), Nat.ne_of_lt (lt hoi)⟩
  refine callTypeC (Q₁ := fun obj s₁ => obj = .ref s.heap.objs.size ∧ s₁ = { s with heap := s.heap.push { cls := .type "list", data := .seq #[] } }) F.called_list (F.typeCall_list_1 _) F.entry_list_init
    (codeC_of (code_list_new _ ⟨rfl, rfl⟩)) fun obj s₁ h₁ => ?_
  obtain ⟨rfl, rfl⟩ := h₁
  have hS : (s.heap.push { cls := .type "list", data := .seq #[] }).get? s.heap.objs.size = some { cls := .type "list", data := .seq #[] } := Heap.get?_push_size _ rfl
  refine ⟨⟨_, hS, rfl⟩, F.args_list_init_2 _ _, ?_⟩
  show wpC _ A.in1.in1 (do let old ← Builtin.List.listItems (.ref s.heap.objs.size); Builtin.List.listUpdate (.ref s.heap.objs.size) (fun _ => #[]); letGo old.toList.reverse; Builtin.List.listExtendWith (.ref s.heap.objs.size) (.ref z2) .none) _ _ _
  refine wpC_bindA ?_
  unfold Builtin.List.listItems
  refine wpAny_bind (wpAny_seqItems hS rfl (wpAny_pure ?_))
  show wpC _ A.in1.in1 (updateSeq s.heap.objs.size (fun _ => #[]) >>= fun _ => letGo (#[] : Array Value).toList.reverse >>= fun _ => Builtin.List.listExtendWith (.ref s.heap.objs.size) (.ref z2) .none) _ _ _
  refine wpC_bindA (wpAny_updateSeq hS rfl ?_)
  have hS₂ := Heap.get?_update_self (Obj.mapSeq (fun _ => (#[] : Array Value))) hS rfl
  refine wpC_bindA (wpAny_letGo ?_)
  generalize hH : (s.heap.push { cls := .type "list", data := .seq #[] }).update s.heap.objs.size (Obj.mapSeq (fun _ => (#[] : Array Value))) = H at hS₂ ⊢
  have old : ∀ b o, s.heap.get? b = some o → H.get? b = some o := fun b o e => by
    rw [← hH]
    exact (Heap.get?_update_other _ _ (fun x : s.heap.objs.size = b => Nat.lt_irrefl _ (x ▸ lt e))).trans (Heap.get?_push_of_some _ e)
  have hst₂ : MapSt H l I T1 z1 T2 z2 vs 0 := hst.butS dS fun b o _ e => old b o e
  unfold Builtin.List.listExtendWith
  refine wpC_bindA (wpAny_typeOf (T := "map") ⟨_, hst₂.m2, rfl⟩ ?_)
  have h1 : Builtin.List.listSameRef (.ref s.heap.objs.size) (.ref z2) = false := by simp [Builtin.List.listSameRef, Ne.symm dS.2.2.2.2.1]
  have h2 : (Value.type "map" == Value.type "list") = false := by decide
  have h3 : (Value.type "map" == Value.type "tuple") = false := by decide
  simp only [h1, h2, h3, Bool.or_false, Bool.false_eq_true, if_false]
  refine wpC_bindA (pyIter_map hst₂.m2 ?_)
  refine wpC_bindA (wpAny_holding ?_)
  unfold Builtin.List.listLengthHint
  refine wpAny_bind (wpAny_specialOf (T := "map") ⟨_, hst₂.m2, rfl⟩ nolen_map ?_)
  show wpAny _ A.in1.in1 (specialOf (Value.ref z2) (Str.ofString "__length_hint__") >>= _) _ _ _
  refine wpAny_bind (wpAny_specialOf (T := "map") ⟨_, hst₂.m2, rfl⟩ nohint_map ?_)
  refine wpAny_pure ?_
  show wpC _ A.in1.in1 (rule "list.extend.makes-room" >>= fun _ => Builtin.List.listTouch (.ref s.heap.objs.size) >>= fun _ =>
    again (.builtin "list.extend.loop" ⟨[.ref s.heap.objs.size, .ref z2, .none], []⟩)) _ _ _
  refine wpC_bindA (wpAny_rule ?_)
  refine wpC_bindA ?_
  show wpAny _ A.in1.in1 (updateSeq s.heap.objs.size (·.push .none) >>= fun _ => updateSeq s.heap.objs.size (·.pop)) _ _ _
  refine wpAny_bind (wpAny_updateSeq hS₂ rfl ?_)
  have hS₃ := Heap.get?_update_self (Obj.mapSeq (·.push Value.none)) hS₂ rfl
  refine wpAny_updateSeq (hz := by seq_fits) hS₃ rfl ?_
  have hS₄ := Heap.get?_update_self (Obj.mapSeq (·.pop)) hS₃ rfl
  have oth : ∀ b o, b ≠ s.heap.objs.size → H.get? b = some o → ((H.update s.heap.objs.size (Obj.mapSeq (·.push Value.none))).update s.heap.objs.size (Obj.mapSeq (·.pop))).get? b = some o :=
    fun b o hb e => (Heap.get?_update_other _ _ (Ne.symm hb)).trans ((Heap.get?_update_other _ _ (Ne.symm hb)).trans e)
  refine wpC_pure ⟨plainId_quiet F.plain_extend_loop _, ?_⟩
  refine extendC (A := A.in1) .none hh hp d dS hsz hok vs.size 0 _ _ _ rfl (Nat.zero_le _) (hst₂.butS dS oth) hS₄ .nil ?_ ?_
  · intro h' tk acc' c' hk hS' hacc hall
    exact ⟨rfl, hQ h' tk acc' c' (fun b o hbI e => hk b o hbI (Nat.ne_of_lt (lt e)) (oth b o (Nat.ne_of_lt (lt e)) (old b o e))) hS' hacc hall⟩
  · intro h₁ h' tk e x hx hn hk hnew
    exact hE h₁ h' tk e x hx hn (fun b o hbI e => hk b o hbI (Nat.ne_of_lt (lt e)) (oth b o (Nat.ne_of_lt (lt e)) (old b o e))) hnew
end
end Mine
end
section
-- part MapNew
open PySem PySem.W PyProof.Rows PySem.Calls
open Sem (wp)
set_option maxRecDepth 100000
namespace Mine
abbrev oIter (l : Addr) : Obj := { cls := .type "list_iterator", data := .fields #[.ref l, .int 0 0] }
abbrev oOne (a : Addr) : Obj := { cls := .type "tuple", data := .seq #[.ref a] }
abbrev oMap (T : Addr) (f : Value) : Obj := { cls := .type "map", data := .fields #[.ref T, f] }
theorem meets_map_list (l : Addr) (f : Value) (xs : Array Value) :
    Meets (Builtin.«map.__new__» ⟨[.type "map", f, .ref l], []⟩) (fun _ R s => s.heap.IsList l xs ∧
      R (.ok (.ret (.ref ((s.heap.push (oIter l)).push (oOne s.heap.objs.size)).objs.size))) { s with heap := ((s.heap.push (oIter l)).push (oOne s.heap.objs.size)).push (oMap (s.heap.push (oIter l)).objs.size f) }) :=
  .of_wp fun prog w A R s h => by
    obtain ⟨hp, g, d, tk, os⟩ := s; obtain ⟨hl, h⟩ := h
    have hsub := sub_map
    have hL : Heap.IsList (Shared.heap ⟨hp, g, d, tk, os⟩) l xs := hl
    wp_walk using wpAny_pyIter_list hL
    exact ⟨_, rfl, h⟩
theorem meets_map_map (z T : Addr) (f f' : Value) :
    Meets (Builtin.«map.__new__» ⟨[.type "map", f, .ref z], []⟩) (fun _ R s => IsMap s.heap z T f' ∧
      R (.ok (.ret (.ref (s.heap.push (oOne z)).objs.size))) { s with heap := (s.heap.push (oOne z)).push (oMap s.heap.objs.size f) }) :=
  .of_wp fun prog w A R s h => by
    obtain ⟨hp, g, d, tk, os⟩ := s; obtain ⟨hl, h⟩ := h
    have hsub := sub_map
    have hL : IsMap (Shared.heap ⟨hp, g, d, tk, os⟩) z T f' := hl
    wp_walk using pyIter_map hL
    exact ⟨_, rfl, h⟩
end Mine
end
section
-- part CFor
open PySem PySem.W PyProof.Rows PySem.Calls
open Sem (wp)
set_option maxRecDepth 100000
namespace Mine
section
variable {M : Model} {A : Around} {E : Value → Shared → Prop} {s : Shared} {env : Env}
theorem codeC_loop' {c : Code} {R : Result → Shared → Prop} (hq : c.quiet = true) (I : Nat → Shared → Prop)
    (turn : ∀ n s, I n s → wpC M (A.under c) (M.den c)
      (fun fin s' => match fin with
        | .done f => R (.ok f) s'
        | .again c' => (c' = c ∧ ∃ m, m < n ∧ I m s') ∨ (c'.quiet = true ∧ codeC M A c' R s')) (fun e s' => R (.error e) s') s)
    (n : Nat) (h : I n s) : codeC M A c R s := by
  induction n using Nat.strongRecOn generalizing s with
  | ind n ih =>
    refine codeC_of_tree (wpC_mono (turn n s h) (fun fin s' hf => ?_) fun _ _ h' => h')
    cases fin with
    | done f => exact hf
    | again c' =>
      rcases hf with ⟨rfl, m, hm, hI⟩ | hf
      · exact ⟨hq, ih m hm hI⟩
      · exact hf
end
section
variable {prog : Program} {w : World} {A : Around} {E : Value → Shared → Prop} {s : Shared} {env : Env} {R : Result → Shared → Prop}
/-- a for whose turns do not raise -/
theorem codeC_for {target : PySem.Expr} {it : Value} {body : List Stmt} (I : Nat → Shared → Prop)
    (turn : ∀ n s, I n s → wpAny (model prog w) A (pyNext it) (fun r s₁ => match r with
      | none => R (.ok .next) s₁
      | some v => wpAny (model prog w) A (letOwnedTupleGo target it v) (fun _ s₁' => wpC (model prog w) A (assign target env v) (fun _ s₂ => wpC (model prog w) A (execs body env) (fun f s₃ => match f with
            | .next | .cont => ∃ m, m < n ∧ I m s₃
            | .brk => R (.ok .next) s₃
            | .ret v => R (.ok (.ret v)) s₃) (fun _ _ => False) s₂) (fun _ _ => False) s₁') (fun _ _ => False) s₁) (fun _ _ => False) s)
    (n : Nat) (h : I n s) : codeC (model prog w) A (.forLoop target it body [] env) R s := by
  refine codeC_loop' rfl I (fun n s hI => ?_) n h
  show wpC _ A ((forTurn target it body [] env).onRaise (fun x => do noteFrame x env; theTreesLotGoes x)) _ _ s
  refine wpC_onRaise (wpC_mono (E := fun _ _ => False) ?_ (fun _ _ q => q) fun _ _ f => f.elim)
  simp only [forTurn]
  refine wpC_bindA (wpAny_standAt (wpC_bindA (wpAny_onRaise (wpAny_mono (turn n s hI) (fun r s₁ h₁ => ?_) fun _ _ f => f.elim))))
  cases r with
  | none => exact wpC_pure (.inr ⟨rfl, codeC_of (codeAny_block (wpAny_execs_nil h₁))⟩)
  | some v =>
    refine wpC_bindA (wpAny_mono h₁ (fun _ s₁' h₁' => ?_) fun _ _ h' => h')
    refine wpC_bind (wpC_mono h₁' (fun _ s₂ h₂ => wpC_bind (wpC_mono h₂ (fun f s₃ h₃ => ?_) fun _ _ h' => h')) fun _ _ h' => h')
    cases f with
    | next => exact wpC_pure (.inl ⟨rfl, h₃⟩)
    | cont => exact wpC_pure (.inl ⟨rfl, h₃⟩)
    | brk => exact wpC_pure h₃
    | ret v => exact wpC_pure h₃
theorem ForC {target iter : PySem.Expr} {body : List Stmt} {pos : Pos} {Q : Flow → Shared → Prop}
    (h : wpAny (model prog w) A (eval iter env) (fun x s₁ => wpAny (model prog w) A (pyIter x) (fun it s₂ =>
      codeC (model prog w) A (.forLoop target it body [] env) (fun r s' => match r with | .ok f => Q f s' | .error _ => False) s₂) E s₁) E s)
    (hs : ∀ x, foldedSetIterable iter env x = pure x := by intro _; rfl) :
    wpC (model prog w) A (exec (.For target iter body [] pos) env) Q E s := by
  rw [exec_For]
  refine wpC_bindA (wpAny_standAt (wpC_bindA (wpAny_mono h (fun x s₁ h₁ => wpC_bindA (wpAny_of_eq (hs x) (wpC_bindA (wpAny_standAt (wpC_bindA (wpAny_holding
    (wpAny_mono h₁ (fun it s₂ h₂ => ?_) fun _ _ h' => h'))))))) fun _ _ h' => h')))
  unfold runOwn
  refine wpC_onRaise (wpC_run ?_)
  rw [Around.mark_none]
  refine codeC_mono h₂ fun r s' hr => ?_
  cases r with
  | ok f => exact hr
  | error e => exact hr.elim
end
end Mine
end
section
-- part Caught
open PySem PySem.W PyProof.Rows PyProof.Rows.TI PySem.Calls
set_option maxRecDepth 100000
namespace Mine
section
variable {prog : Program} {w : World} {A₀ : Around} {E : Value → Shared → Prop} {s' : Shared} {hb h : Heap} {L a e : Addr} {m : Str → Option Value} {name : Str} {scope : Scope} {cd : Value} {Q : Flow → Shared → Prop} {l : List Env} {frs new : List (Addr × Obj)}
  {mean : ExcName → Option Value} {mg mb : Str → Option Value}
theorem caughtT {b₀ : Stmt} {suite : List Stmt} {pos np : Pos} {rest : List ExceptHandler} (hfr : A₀.frames = some l) (Fs : Frs l frs) (hx : Heap.NewExc h s'.heap e "ValueError") (F : Fr hb L h m) (N : News hb L h (new ++ frs)) (hap : ∀ p ∈ new, p.1 ∉ L :: frs.map (·.1))
    (T : Top Mine.hd.view_39 (looseW Mine.hd.view_39 [Str.ofString "_norm_version"]) mean mg mb hb)
    (hk : scope.kind = .function) (hxk : (envOf name scope L a cd).kindOf (Str.ofString "ValueError") = some .globalImplicit)
    (k : ∀ h' frs', SameUp frs frs' → Frs l frs' → Fr hb L h' m → News hb L h' (new ++ frs') →
      wpAny (model prog w) ((A₀.deeper (envOf name scope L a cd)).mark (some (.ref e))) (execs (b₀ :: suite) (envOf name scope L a cd)) Q (fun _ _ => False) { s' with heap := h' }) :
    wpAny (model prog w) (A₀.deeper (envOf name scope L a cd)) (noteFrame (.ref e) (envOf name scope L a cd)) (fun _ s₂ => wpAny (model prog w) (A₀.deeper (envOf name scope L a cd)) (setFlight (.ref e) none) (fun _ s₃ =>
      wpAny (model prog w) (A₀.deeper (envOf name scope L a cd)) (handleBy (.ref e) (envOf name scope L a cd) (.ExceptHandler (some (.Name (Str.ofString "ValueError") np)) none (b₀ :: suite) pos :: rest)) Q (fun _ _ => False) s₃) (fun _ _ => False) s₂) (fun _ _ => False) s' := by
  refine TLg.noted_newA hfr Fs hx F N hap (fun h' frs' SU Fs' H => ?_) hk
  refine TT.HeldNA.land H ?_
  intro h₂ H₂
  refine TT.clause_hitTN H₂ T (k := fun h₃ F₃ N₃ => k h₃ frs' SU Fs' F₃ N₃) (hk := hk) (hxk := hxk)
end
end Mine
end
section
-- part IntLaw
open PySem PySem.W PyProof.Rows PySem.NumText
set_option maxRecDepth 100000
namespace Mine
def ws (c : Nat) : Bool := c == 32 || c == 9 || c == 10 || c == 13
theorem whites_has (c : Nat) : whites.cps.contains c = ws c := by
  have e : whites.cps = #[32, 9, 10, 13] := by decide
  rw [e]
  unfold ws
  simp only [Array.contains_eq_mem, List.mem_toArray, List.mem_cons, List.not_mem_nil, or_false, Bool.decide_or, Bool.or_assoc]
  rfl
def cut (l : List Nat) : List Nat := ((l.dropWhile ws).reverse.dropWhile ws).reverse
theorem drop_takeWhile (p : Nat → Bool) : ∀ l : List Nat, l.drop (l.takeWhile p).length = l.dropWhile p
  | [] => rfl
  | a :: l => by
    rw [List.takeWhile_cons, List.dropWhile_cons]
    split
    · rw [List.length_cons, List.drop_succ_cons, drop_takeWhile p l]
    · rfl
theorem take_rev (p : Nat → Bool) (l : List Nat) : l.take (l.length - (l.reverse.takeWhile p).length) = (l.reverse.dropWhile p).reverse := by
  rw [← drop_takeWhile p l.reverse, List.drop_reverse, List.reverse_reverse]
theorem bare_eq (x : Str) : bareOf x = cut x.cps.toList := by
  unfold bareOf Txt.stripChars
  have eg : (fun c => whites.cps.contains c) = ws := funext whites_has
  show (Txt.stripBy (fun c => whites.cps.contains c) true true x).cps.toList = _
  rw [eg, PyProof.Rows.stripBy_eq, StrLaws.strSub_toList]
  have e1 : PySem.stripLo ws true x = (x.cps.toList.takeWhile ws).length := rfl
  have e2 : PySem.stripHi ws true x (PySem.stripLo ws true x) = x.length - ((x.cps.toList.drop (PySem.stripLo ws true x)).reverse.takeWhile ws).length := rfl
  rw [e2, e1, drop_takeWhile]
  unfold cut
  rw [← take_rev]
  congr 1
  have hl : x.cps.toList.length = x.length := rfl
  have e3 : (x.cps.toList.dropWhile ws).length = x.length - (x.cps.toList.takeWhile ws).length := by rw [← drop_takeWhile, List.length_drop, hl]
  have e4 : ((x.cps.toList.dropWhile ws).reverse.takeWhile ws).length ≤ (x.cps.toList.dropWhile ws).length := by
    have := len_takeWhile ws (x.cps.toList.dropWhile ws).reverse
    rwa [List.length_reverse] at this
  have e5 := len_takeWhile ws x.cps.toList
  omega
/-- the signs that the law's texts, written or not, are made of -/
def okC (c : Nat) : Prop := c < 128 ∧ c ≠ 0 ∧ c ≠ 11 ∧ c ≠ 12 ∧ c ≠ 43 ∧ c ≠ 45 ∧ c ≠ 95
def Okay (x : Str) : Prop := ∀ c ∈ x.cps.toList, okC c
theorem blank_ws {c : Nat} (h : okC c) : blank c = ws c := by
  obtain ⟨_, _, h11, h12, _⟩ := h
  unfold blank ws
  by_cases h1 : c = 32
  · subst h1; rfl
  by_cases h2 : c = 9
  · subst h2; rfl
  by_cases h3 : c = 10
  · subst h3; rfl
  by_cases h4 : c = 13
  · subst h4; rfl
  have e1 : (c == 32) = false := by simpa using h1
  have e2 : (c == 9) = false := by simpa using h2
  have e3 : (c == 10) = false := by simpa using h3
  have e4 : (c == 13) = false := by simpa using h4
  have e5 : (decide (9 ≤ c) && decide (c ≤ 13)) = false := by
    rw [Bool.and_eq_false_iff]
    by_cases h9 : 9 ≤ c
    · right; exact decide_eq_false (by omega)
    · left; exact decide_eq_false h9
  rw [e1, e2, e3, e4, e5]; rfl
theorem dropWhile_blank : ∀ {l : List Nat}, (∀ c ∈ l, okC c) → l.dropWhile blank = l.dropWhile ws
  | [], _ => rfl
  | a :: l, h => by
    rw [List.dropWhile_cons, List.dropWhile_cons, blank_ws (h a List.mem_cons_self), dropWhile_blank fun c hc => h c (List.mem_cons_of_mem _ hc)]
theorem mem_dropWhile {p : Nat → Bool} {l : List Nat} {c : Nat} (h : c ∈ l.dropWhile p) : c ∈ l := (List.dropWhile_sublist p).subset h
theorem sign_okay {l : List Nat} (h : ∀ c ∈ l, okC c) : sign l = (false, l) := by
  cases l with
  | nil => rfl
  | cons a r =>
    have ha := h a List.mem_cons_self
    exact sign_of ha.2.2.2.2.2.1 ha.2.2.2.2.1
theorem core_okay {l : List Nat} (h : ∀ c ∈ l, okC c) : core l = cut l := by
  unfold core cut
  rw [dropWhile_blank h, sign_okay fun c hc => h c (mem_dropWhile hc)]
  dsimp only
  rw [dropWhile_blank fun c hc => h c (mem_dropWhile (List.mem_reverse.mp hc))]
theorem cut_mem {l : List Nat} {c : Nat} (h : c ∈ cut l) : c ∈ l := by
  unfold cut at h
  exact mem_dropWhile (List.mem_reverse.mp (mem_dropWhile (List.mem_reverse.mp h)))
theorem step_bad {p : Array Nat × Bool} {c : Nat} (h95 : c ≠ 95) (hd : isDig c = false) : NumText.step 10 p c = none := by
  unfold NumText.step
  rw [if_neg (by simpa using h95)]
  unfold isDig at hd
  have hd := of_decide_eq_false hd
  unfold digit?
  rw [if_neg (by simp; omega)]
  by_cases h1 : (decide (97 ≤ c) && decide (c ≤ 122)) = true
  · rw [if_pos h1]
    simp only [Bool.and_eq_true, decide_eq_true_eq] at h1
    dsimp only
    rw [if_neg (by omega)]
  · rw [if_neg h1]
    by_cases h2 : (decide (65 ≤ c) && decide (c ≤ 90)) = true
    · rw [if_pos h2]
      simp only [Bool.and_eq_true, decide_eq_true_eq] at h2
      dsimp only
      rw [if_neg (by omega)]
    · rw [if_neg h2]
theorem fold_bad : ∀ {cs : List Nat} {p : Array Nat × Bool}, (∀ c ∈ cs, c ≠ 95) → cs.all isDig = false → cs.foldlM (NumText.step 10) p = none
  | [], _, _, h => by cases h
  | c :: cs, p, h95, h => by
    rw [List.foldlM_cons]
    cases hd : isDig c with
    | false => rw [step_bad (h95 c List.mem_cons_self) hd]; rfl
    | true =>
      have hd' := of_decide_eq_true (show decide (48 ≤ c ∧ c ≤ 57) = true from hd)
      rw [show NumText.step 10 p c = some (p.1.push (c - 48), true) from step_digit (ds := p.1) (b := p.2) hd']
      rw [List.all_cons, hd, Bool.true_and] at h
      exact fold_bad (fun c hc => h95 c (List.mem_cons_of_mem _ hc)) h
theorem allDigits_of {cs : List Nat} (h : cs.all isDig = true) : AllDigits cs := fun c hc => of_decide_eq_true (show decide (48 ≤ c ∧ c ≤ 57) = true from List.all_eq_true.mp h c hc)
theorem numText_okay {x : Str} (h : Okay x) : numTextOf x = x.cps.toList ∧ numSeenOf x = x.cps.toList := by
  have e1 : x.cps.all (· < 128) = true := by
    rw [← Array.all_toList]
    exact List.all_eq_true.mpr fun c hc => decide_eq_true (h c hc).1
  have e2 : numTextOf x = x.cps.toList := if_pos e1
  refine ⟨e2, ?_⟩
  show (numTextOf x).takeWhile (· != 0) = _
  rw [e2]
  exact NumText.takeWhile_all fun c hc => by simpa using (h c hc).2.1
theorem int_law {x : Str} (h : Okay x) (hl : x.length ≤ 4300) : PySem.intText? x = if lawNum x < 0 then none else some (lawNum x) := by
  obtain ⟨e1, e2⟩ := numText_okay h
  unfold PySem.intText? lawNum
  rw [bare_eq, e1, e2, if_pos (by simp), core_okay h, sign_okay fun c hc => h c (mem_dropWhile hc)]
  have hcm : ∀ c ∈ cut x.cps.toList, c ≠ 95 := fun c hc => (h c (cut_mem hc)).2.2.2.2.2.2
  have hcl : (cut x.cps.toList).length ≤ 4300 := by
    have e3 : (cut x.cps.toList).length ≤ x.cps.toList.length := by
      rw [← core_okay h]; exact core_length _
    have e4 : x.cps.toList.length = x.length := rfl
    omega
  by_cases hnil : cut x.cps.toList = []
  · rw [hnil, if_pos rfl]
    rfl
  · rw [if_neg hnil]
    cases hall : (cut x.cps.toList).all isDig with
    | false =>
      have e5 : digits? 10 (cut x.cps.toList) = none := by
        unfold digits?
        rw [fold_bad hcm hall]
        rfl
      rw [e5]
      rfl
    | true =>
      have hA := allDigits_of hall
      rw [digits_of hA hnil]
      dsimp only
      have e6 : ((cut x.cps.toList).foldl (fun acc c => acc.push (c - 48)) (#[] : Array Nat)).size = (cut x.cps.toList).length := by
        rw [push_size]; simp
      rw [if_pos (by rw [e6]; exact hcl)]
      have e7 : worth false ((cut x.cps.toList).foldl (fun acc c => acc.push (c - 48)) (#[] : Array Nat)) = (dval (cut x.cps.toList) : Int) := by
        unfold worth
        rw [if_neg (by decide), push_foldl]
        rfl
      rw [e7, if_pos rfl, if_neg (by omega)]
theorem dval_lt : ∀ (l : List Nat) (a : Nat), l.all isDig = true → l.foldl (fun acc c => acc * 10 + (c - 48)) a < (a + 1) * 10 ^ l.length
  | [], a, _ => by simp
  | c :: l, a, h => by
    rw [List.all_cons, Bool.and_eq_true] at h
    have hd := of_decide_eq_true (show decide (48 ≤ c ∧ c ≤ 57) = true from h.1)
    rw [List.foldl_cons, List.length_cons]
    refine Nat.lt_of_lt_of_le (dval_lt l _ h.2) ?_
    rw [Nat.pow_succ, Nat.mul_comm (10 ^ l.length) 10, ← Nat.mul_assoc]
    exact Nat.mul_le_mul_right _ (by omega)
theorem lawNum_lt {x : Str} {k : Nat} (hx : x.length ≤ k) : lawNum x < 10 ^ k := by
  unfold lawNum
  have hp : (0 : Int) < 10 ^ k := Int.pow_pos (by decide)
  split
  · omega
  · split
    · rename_i hall
      have h1 := dval_lt (bareOf x) 0 hall
      have h2 : (bareOf x).length ≤ k := by
        rw [bare_eq]
        have e3 : (cut x.cps.toList).length ≤ x.cps.toList.length := by
          unfold cut
          rw [List.length_reverse]
          refine Nat.le_trans (List.dropWhile_sublist ws).length_le ?_
          rw [List.length_reverse]
          exact (List.dropWhile_sublist ws).length_le
        have e4 : x.cps.toList.length = x.length := rfl
        omega
      have h3 : dval (bareOf x) < 10 ^ k := by
        refine Nat.lt_of_lt_of_le h1 ?_
        rw [Nat.zero_add, Nat.one_mul]
        exact Nat.pow_le_pow_right (by decide) h2
      have h4 : ((dval (bareOf x) : Nat) : Int) < ((10 ^ k : Nat) : Int) := by exact_mod_cast h3
      rw [Int.natCast_pow] at h4
      exact h4
    · omega
end Mine
end
section
-- part IntSmall
open PySem PySem.W PyProof.Rows
namespace Mine
theorem log_small {n : Int} (h : n.natAbs < 10 ^ 101) : n.natAbs.log2 < 1920 := by
  by_cases h0 : n.natAbs = 0
  · rw [h0]; decide
  · have e1 : n.natAbs.log2 < 337 := (Nat.log2_lt h0).mpr (Nat.lt_of_lt_of_le h (by decide))
    omega
theorem int_small {x : Str} {n : Int} (ho : Okay x) (hx : x.length ≤ 100) (hn : PySem.intText? x = some n) : 0 ≤ n ∧ n < 10 ^ 100 ∧ n = lawNum x := by
  rw [int_law ho (Nat.le_trans hx (by decide))] at hn
  have := lawNum_lt hx
  split at hn
  · cases hn
  · cases hn
    exact ⟨by omega, this, rfl⟩
theorem intText_log3 {x : Str} {n : Int} (ho : Okay x) (hx : x.length ≤ 100) (hn : PySem.intText? x = some n) : (n - 3).natAbs.log2 < 1920 := by
  obtain ⟨h1, h2, _⟩ := int_small ho hx hn
  exact log_small (by omega)
theorem intText_log {x : Str} {n : Int} (ho : Okay x) (hx : x.length ≤ 100) (hn : PySem.intText? x = some n) : n.natAbs.log2 < 1920 := by
  obtain ⟨h1, h2, _⟩ := int_small ho hx hn
  exact log_small (by omega)
theorem intText_len3 {x : Str} {n : Int} (ho : Okay x) (hx : x.length ≤ 100) (hn : PySem.intText? x = some n) : (Str.ofString (toString (n - 3))).length ≤ 1000 := by
  obtain ⟨h1, h2, _⟩ := int_small ho hx hn
  rw [PySem.ofString_length]
  have := int_text_length_le10 (a := n - 3) (k := 101) (by decide) (by omega)
  omega
theorem repr_small {x : Str} (ho : Okay x) (hx : x.length ≤ 100) : (reprText x).length ≤ sizeLine := by
  have := StrLaws.reprText_len x fun c hc => Nat.lt_of_lt_of_le (ho c hc).1 (by decide)
  rw [sizeLine_eq]
  omega
theorem join_mem {sep : Str} {c : Nat} : ∀ {ps : List Str} {p : Str}, p ∈ ps → c ∈ p.cps.toList → c ∈ (Str.join sep ps).cps.toList
  | [q], p, hp, hc => by rw [List.mem_singleton.mp hp] at hc; exact hc
  | q :: r :: ps, p, hp, hc => by
    have e : (Str.join sep (q :: r :: ps)).cps.toList = q.cps.toList ++ sep.cps.toList ++ (Str.join sep (r :: ps)).cps.toList := by
      show (q ++ sep ++ Str.join sep (r :: ps)).cps.toList = _
      simp [Str.cps_append]
    rw [e]
    rcases List.mem_cons.mp hp with rfl | hp
    · exact List.mem_append_left _ (List.mem_append_left _ hc)
    · exact List.mem_append_right _ (join_mem hp hc)
theorem split_mem {x y p : Str} {c : Nat} (hp : p ∈ Txt.split x y) (hc : c ∈ p.cps.toList) : c ∈ x.cps.toList := by
  have := join_mem (sep := y) hp hc
  rwa [StrLaws.join_split] at this
theorem split_okay {x y p : Str} (ho : Okay x) (hp : p ∈ Txt.split x y) : Okay p := fun c hc => ho c (split_mem hp hc)
end Mine
end
section
-- part Alias
open PySem PySem.W PyProof.Rows PyProof.Rows.TI PySem.Calls PySem.Spec
set_option maxRecDepth 100000
namespace Mine
/-- a call's contract under the caller; the callers' frames may be noted -/
abbrev ConT (prog : Program) (w : World) (mean : ExcName → Option Value) (mg mb : Str → Option Value) (dd uu : Nat) (f : Addr) (news : List (Addr × Obj)) (vs : List Value) (Ret : Value → List (Addr × Obj) → Prop) : Prop :=
  ∀ (A : Around) (env : Env) (outer : List Env) (frs : List (Addr × Obj)) (h₀ : Heap) (L : Addr) (m : Str → Option Value) (s : Shared) (Q E : Value → Shared → Prop),
    A.handled = none → A.frames = some (env :: outer) → env.frame = some L → env.scope.kind = .function → Frs outer frs →
    Fr h₀ L s.heap m → (Mine.hd.heap_39 w.params).In h₀ → News h₀ L s.heap (news ++ frs) → (∀ p ∈ news, p.1 ∉ L :: frs.map (·.1)) → Top Mine.hd.view_39 (looseW Mine.hd.view_39 [Str.ofString "_norm_version"]) mean mg mb h₀ →
    A.depth + dd < recursionLimit → A.units + uu < cLine →
    (∀ v ns frs' h' tk', Ret v ns → SameUp frs frs' → Frs outer frs' → Fr h₀ L h' m → News h₀ L h' (ns ++ (news ++ frs')) → (∀ p ∈ ns, p.1 ∉ L :: frs.map (·.1)) → Q v { s with heap := h', toks := tk' }) →
    wpC (model prog w) A (call (.ref f) vs) Q E s
/-- a tuple of three texts -/
abbrev tup3 (a b c : Str) (ta tb tc : Tok) : Obj := { cls := .type "tuple", data := .seq #[.str a ta, .str b tb, .str c tc] }
def dotS : Str := Str.ofString "."
def sun : Str := Str.ofString "SunOS"
def sLt (x y : Str) : Bool := decide (x.cps.toList < y.cps.toList)
def aliasRel (y : Str) : Str := match Txt.split y dotS with
  | [] => y
  | p :: ps => match PySem.intText? p with
    | none => y
    | some n => Txt.join dotS (Str.ofString (toString (n - 3)) :: ps)
def aliasOf (x y z : Str) : Str × Str × Str :=
  if (x == Str.ofString "SunOS") = true then (if sLt y (Str.ofString "5") = true then (x, y, z) else (Str.ofString "Solaris", aliasRel y, z))
  else if ([Str.ofString "win32", Str.ofString "win16"].any fun a => a == x) = true then (Str.ofString "Windows", y, z) else (x, y, z)
theorem news_drop2 {h₀ h : Heap} {L : Addr} {a b : Addr × Obj} {l : List (Addr × Obj)} (N : News h₀ L h (a :: b :: l)) : News h₀ L h (a :: l) := fun p hp => by
  rcases List.mem_cons.mp hp with rfl | hp
  · exact N _ List.mem_cons_self
  · exact N _ (List.mem_cons_of_mem _ (List.mem_cons_of_mem _ hp))
theorem allLt_mem {d : Nat} {l : List (Addr × Obj)} (h : AllLt d l) : ∀ p ∈ l, p.1 < d := by
  induction l with
  | nil => intro p hp; cases hp
  | cons q r ih =>
    intro p hp
    rcases List.mem_cons.mp hp with rfl | hp
    · exact h.1
    · exact ih h.2 p hp
theorem sameUp_map {a : List (Addr × Obj)} : ∀ {b : List (Addr × Obj)}, SameUp a b → b.map (·.1) = a.map (·.1) := by
  induction a with
  | nil =>
    intro b h
    cases b with
    | nil => rfl
    | cons q qs => exact h.elim
  | cons p ps ih =>
    intro b h
    cases b with
    | nil => exact h.elim
    | cons q qs => rw [List.map_cons, List.map_cons, ih h.2.2, h.1]
theorem alias_fin {g h₀ h' : Heap} {L L' D : Addr} {m m' : Str → Option Value} {news frs frs' : List (Addr × Obj)} {oL : Obj} {sl : Array (Option Value)} {outer : List Env} {s : Shared} {Q E : Value → Shared → Prop} {x y z a b c : Str} {t1 t2 t3 : Tok} {tk' : Nat} {hs : Heap}
    (hret : ∀ v ns frs' h' tk', (∃ D t1 t2 t3, v = .ref D ∧ ns = [(D, tup3 (aliasOf x y z).1 (aliasOf x y z).2.1 (aliasOf x y z).2.2 t1 t2 t3)]) → SameUp frs frs' → Frs outer frs' → Fr h₀ L h' m → News h₀ L h' (ns ++ (news ++ frs')) → (∀ p ∈ ns, p.1 ∉ L :: frs.map (·.1)) → Q v { s with heap := h', toks := tk' })
    (hN : News h₀ L hs (news ++ frs)) (e : aliasOf x y z = (a, b, c)) (SU : SameUp frs frs') (Fs : Frs outer frs') (F : Fr g L' h' m')
    (N : News g L' h' ((D, tup3 a b c t1 t2 t3) :: (news ++ (L, { oL with slots := sl }) :: frs'))) (hlt : ∀ p ∈ news ++ (L, { oL with slots := sl }) :: frs', p.1 < D) :
    LeaveT h₀ L m oL frs g (fun r s' => match r with | .ok (.ret v) => Q v s' | .ok _ => False | .error e => E e s') (.ref D) { s with heap := h', toks := tk' } := by
  have hDL : D ≠ L := Nat.ne_of_gt (hlt (L, { oL with slots := sl }) (List.mem_append_right _ List.mem_cons_self))
  refine ⟨L', m', (D, tup3 a b c t1 t2 t3) :: news, sl, frs', F, N, SU, fun p hp => ?_, fun F₀ N₀ => ?_⟩
  · rcases List.mem_cons.mp hp with rfl | hp
    · exact hDL
    · exact (hN p (List.mem_append_left _ hp)).2.1
  · refine hret _ [(D, tup3 a b c t1 t2 t3)] frs' _ _ ⟨D, t1, t2, t3, rfl, by rw [e]⟩ SU Fs F₀ N₀ fun p hp => ?_
    rw [List.mem_singleton.mp hp]
    intro hm
    rcases List.mem_cons.mp hm with q | hm
    · exact hDL q
    · rw [← sameUp_map SU] at hm
      obtain ⟨p', hp', q⟩ := List.mem_map.mp hm
      have := hlt p' (List.mem_append_right _ (List.mem_cons_of_mem _ hp'))
      rw [q] at this
      exact Nat.lt_irrefl _ this
theorem split_count (x y : Str) : 1 ≤ (Txt.split x y).length ∧ (Txt.split x y).length ≤ x.length + 2 := by
  have h1 := StrLaws.occ_length_le x y 0 x.length (x.length + 1)
  unfold Txt.split
  split
  · exact ⟨Nat.le_refl _, Nat.succ_le_succ (Nat.zero_le _)⟩
  · split
    · exact ⟨Nat.le_refl _, Nat.succ_le_succ (Nat.zero_le _)⟩
    · rw [length_partsBetween]
      exact ⟨Nat.succ_le_succ (Nat.zero_le _), Nat.succ_le_succ h1⟩
theorem split_ne_nil (x y : Str) : Txt.split x y ≠ [] := fun e => by
  have := (split_count x y).1
  rw [e] at this
  exact absurd this (by decide)
theorem split_len (x y : Str) : (Txt.split x y).length ≤ x.length + 2 := (split_count x y).2
theorem strs_set0 {p0 : Str × Tok} {lr : List (Str × Tok)} {a : Str} {t : Tok} : StrsAre ((strValues (p0 :: lr)).toArray.setIfInBounds (Int.toNat 0) (Value.str a t)).toList (a :: lr.map (·.1)) := by
  have e1 : ((strValues (p0 :: lr)).toArray.setIfInBounds (Int.toNat 0) (Value.str a t)).toList = Value.str a t :: strValues lr := by simp [strValues]
  rw [e1]
  exact .cons _ _ (strsAre_of_values lr)
theorem sum_le_of {l : List Str} {k : Nat} (h : ∀ a ∈ l, a.length ≤ k) : (l.map (·.length)).sum ≤ k * l.length := by
  induction l with
  | nil => simp
  | cons a r ih =>
    have h1 := h a List.mem_cons_self
    have h2 := ih fun b hb => h b (List.mem_cons_of_mem _ hb)
    rw [List.map_cons, List.sum_cons, List.length_cons, Nat.mul_add]
    omega
variable {prog : Program} {w : World} {mean : ExcName → Option Value} {mg mb : Str → Option Value} {news : List (Addr × Obj)}
set_option maxHeartbeats 8000000 in
theorem con_alias {x y z : Str} {t u v : Tok} (hy : y.length ≤ 100) (ho : Okay y) : ConT prog w mean mg mb 1 20 29 news [.str x t, .str y u, .str z v]
    (fun r ns => ∃ D t1 t2 t3, r = .ref D ∧ ns = [(D, tup3 (aliasOf x y z).1 (aliasOf x y z).2.1 (aliasOf x y z).2.2 t1 t2 t3)]) := by
  w_on
  intro A env outer frs h₀ L m s Q E hh hA hfr hke hFs hF hX hN hap hT hdp hun hret
  refine wpC_call ?_
  k_dflt (refine' defT ?k2 ?k3 ?k4 ?kS ?k5 ?kF ?kK ?k6 ?k7 ?k8 ?k9 ?kB ?_ ?c2 ?c3 ?c4 ?c5; (case k2 => exact hF); (case k3 => exact hX); (case k4 => exact hN); (case kS => exact hFs); (case k5 => exact hT); (case kF => exact hfr); (case kK => exact hke); (case k6 => k_is); (case k7 => k_is); (case k8 => omega); (case k9 => exact BindsTo.of_eq rfl); (case c5 => decide); (case kB => exact locs rfl); (case c2 => exact rfl); (case c3 => exact rfl); (case c4 => exact rfl); k_whole)
  intro g L' h1 oL F1 N1 hFs1 X T hlt
  dsimp only
  have hsys : (fun y_1 => List.lookup y_1 [(Str.ofString "version", Value.str z v), (Str.ofString "release", Value.str y u), (Str.ofString "system", Value.str x t)]) (Str.ofString "system") = some (Value.str x t) := rfl
  replace F1 : Fr g L' h1 (fun y_1 => List.lookup y_1 [(Str.ofString "version", Value.str z v), (Str.ofString "release", Value.str y u), (Str.ofString "system", Value.str x t)]) := F1
  generalize hs1 : ({ s with heap := h1, toks := _ } : Shared) = s1
  have e1 : s1.heap = h1 := by rw [← hs1]
  have e2 : ∃ tk, s1 = { s with heap := h1, toks := tk } := ⟨_, hs1.symm⟩
  clear hs1
  obtain ⟨tk1, rfl⟩ := e2
  clear e1
  refine execsC_cons (IfC (wpC_of (wpAny_isTrue_Compare1 (ld F1 rfl ?_ rfl rfl))))
  refine Calls.Constant_str ?_
  dsimp only
  refine eq_str ?_
  refine wpAny_truthy_bool ?_
  cases hb : (x == Str.ofString "SunOS")
  · refine ite_neg (by decide) ?_
    refine wpC_of ?_
    k_steps
    · dsimp only
      refine wpC_of ?_
      (rename (List.any _ _ = true) => hin)
      have e : aliasOf x y z = (Str.ofString "Windows", y, z) := by unfold aliasOf; rw [if_neg (by rw [hb]; decide), if_pos hin]
      k_steps
      rename_i F9 N9 l9
      exact alias_fin hret hN e (SameUp.refl _) hFs F9 (news_drop2 N9) (allLt_mem l9.2)
    · dsimp only
      refine wpC_of ?_
      (rename (List.any _ _ = false) => hin)
      have e : aliasOf x y z = (x, y, z) := by unfold aliasOf; rw [if_neg (by rw [hb]; decide), if_neg (by rw [hin]; decide)]
      k_steps
      rename_i F9 N9 l9
      exact alias_fin hret hN e (SameUp.refl _) hFs F9 (news_drop2 N9) (allLt_mem l9.2)
  · refine ite_pos rfl ?_
    refine execsC_consA ?_
    walk1
    walk1
    refine ld F1 rfl ?_ rfl rfl
    walk1
    walk1
    walk1
    cases h5 : sLt y (Str.ofString "5")
    · refine ite_neg (by show ¬ sLt y (Str.ofString "5") = true; rw [h5]; decide) ?_
      refine wpAny_execs_nil ?_
      dsimp only
      refine execsC_consA (wpAny_Assign_Name (MethodCall_ (ld F1 rfl ?_ rfl rfl)))
      walk1
      walk1
      walk1
      refine Calls.Constant_str ?_
      walk1
      dsimp only
      refine splitN1A F1 N1 rfl ?_ (by rw [sizeLine_eq]; omega)
      intro l h2 k2 hl hstrs hshort hisl F2 N2
      have hDlt : ∀ p ∈ news ++ (L, oL) :: frs, p.1 < h1.objs.size := fun p hp => Heap.lt_size (N1 p hp).1
      generalize (h1.objs.size) = D at hisl N2 hDlt ⊢
      refine stN F2 N2 ?_ rfl rfl
      intro h3 F3 N3
      dsimp only
      have hl3 : h3.IsList D (strValues l).toArray := News.isList N3 (.head _)
      obtain ⟨p0, lr, rfl⟩ : ∃ p0 lr, l = p0 :: lr := by
        cases l with
        | nil => exact absurd hl.symm (split_ne_nil _ _)
        | cons p0 lr => exact ⟨p0, lr, rfl⟩
      have hsz : (strValues (p0 :: lr)).toArray.size ≤ 200 := by
        have e1 := split_len y (Str.ofString ".")
        rw [← hl] at e1
        simp only [strValues, List.size_toArray, List.length_map, List.length_cons] at e1 ⊢
        omega
      refine execsC_cons (wpC_mono (Q := fun fl s' => fl = .next ∧ ∃ trel h' tk' m' p0 sl frs', s' = { s with heap := h', toks := tk' } ∧ m' (Str.ofString "release") = some (.str (aliasRel y) trel) ∧ m' (Str.ofString "version") = some (.str z v) ∧
        SameUp frs frs' ∧ Frs outer frs' ∧ Fr g L' h' m' ∧ News g L' h' (p0 :: (news ++ (L, { oL with slots := sl }) :: frs'))) (IfC (wpC_of (isTrue_plain (ld F3 rfl ?_ rfl rfl)))) ?_ (fun _ _ h => h))
      rotate_left
      · intro fl s' hmid
        obtain ⟨rfl, trel, h', tk', m', q0, sl, frs', rfl, hrel, hver, SU, Fs', F', N'⟩ := hmid
        dsimp only
        have e : aliasOf x y z = (Str.ofString "Solaris", aliasRel y, z) := by unfold aliasOf; rw [if_pos hb, if_neg (by rw [h5]; decide)]
        refine wpC_of ?_
        refine wpAny_execs_cons (wpAny_If (wpAny_isTrue_Compare1 (ld F' hrel ?_ rfl rfl)))
        refine Calls.Constant_str ?_
        dsimp only
        refine lt_str ?_
        refine wpAny_truthy_bool ?_
        split
        · refine wpAny_execs_cons (wpAny_Assign_Name (Calls.Constant_str ?_))
          refine stN F' N' ?_ rfl rfl
          intro h7 F7 N7
          dsimp only
          refine wpAny_execs_nil ?_
          dsimp only
          refine wpAny_execs_nil ?_
          dsimp only
          refine wpC_of (wpAny_execs_cons (wpAny_Return_some (Tuple_ ?_)))
          refine args_cons (ld F7 (if_pos rfl) ?_ rfl rfl)
          refine args_cons (ld F7 ((if_neg (by decide)).trans hrel) ?_ rfl rfl)
          refine args_cons (ld F7 ((if_neg (by decide)).trans hver) ?_ rfl rfl)
          refine args_nil ?_
          refine newTuple_N F7 N7 ?_ (by show 3 ≤ sizeLine; rw [sizeLine_eq]; decide)
          intro h8 F8 N8
          dsimp only
          exact alias_fin hret hN e SU Fs' F8 (news_drop2 N8) (fun p hp => Heap.lt_size (N7 p (List.mem_cons_of_mem _ hp)).1)
        · refine wpAny_execs_cons (wpAny_Assign_Name (Calls.Constant_str ?_))
          refine stN F' N' ?_ rfl rfl
          intro h7 F7 N7
          dsimp only
          refine wpAny_execs_nil ?_
          dsimp only
          refine wpAny_execs_nil ?_
          dsimp only
          refine wpC_of (wpAny_execs_cons (wpAny_Return_some (Tuple_ ?_)))
          refine args_cons (ld F7 (if_pos rfl) ?_ rfl rfl)
          refine args_cons (ld F7 ((if_neg (by decide)).trans hrel) ?_ rfl rfl)
          refine args_cons (ld F7 ((if_neg (by decide)).trans hver) ?_ rfl rfl)
          refine args_nil ?_
          refine newTuple_N F7 N7 ?_ (by show 3 ≤ sizeLine; rw [sizeLine_eq]; decide)
          intro h8 F8 N8
          dsimp only
          exact alias_fin hret hN e SU Fs' F8 (news_drop2 N8) (fun p hp => Heap.lt_size (N7 p (List.mem_cons_of_mem _ hp)).1)
      refine wpAny_truthy_list hl3 (by omega) ?_
      refine ite_pos (by rfl) ?_
      refine execsC_cons (TryC (execsC_cons (AssignC (CallC ?_))))
      walk1
      refine callWithC_type ?_
      walk1
      walk1
      refine ld F3 rfl ?_ rfl rfl
      walk1
      dsimp only
      refine tail_any hl3.typeIs slot_list_getitem.lookup (wpAny_getItem_list hl3 (by decide) (by decide) (x := .str p0.1 p0.2) rfl ?_) (by with_unfolding_all rfl)
      walk1
      try dsimp only
      have hp0 : p0.1.length ≤ 100 := Nat.le_trans (hshort p0.1 (by simp)) hy
      have ho0 : Okay p0.1 := split_okay ho (by rw [← hl]; simp)
      have hr0 : (reprText p0.1).length ≤ sizeLine := repr_small ho0 hp0
      cases hn : PySem.intText? p0.1 with
      | none =>
        refine call_int_bad hh (Nat.le_trans hp0 (by decide)) hr0 hn ?_
        intro h4 tk4 e hx
        refine caughtT (new := (D, _) :: news) (frs := (L, oL) :: frs) (l := env :: outer) hA hFs1 hx F3 N3 ?_ T rfl rfl ?_
        · intro p hp hm
          have hne : p.1 ≠ L' := by
            rcases List.mem_cons.mp hp with rfl | hp
            · exact (N3 _ List.mem_cons_self).2.1
            · exact (N3 _ (List.mem_cons_of_mem _ (List.mem_append_left _ hp))).2.1
          rcases List.mem_cons.mp hm with q | hm
          · exact hne q
          · rcases List.mem_cons.mp hp with rfl | hp
            · rcases List.mem_cons.mp hm with q | hm
              · exact absurd (hDlt (L, oL) (List.mem_append_right _ List.mem_cons_self)) (by show ¬ L < D; rw [show D = L from q]; exact Nat.lt_irrefl _)
              · obtain ⟨p', hp', q⟩ := List.mem_map.mp hm
                exact absurd (hDlt p' (List.mem_append_right _ (List.mem_cons_of_mem _ hp'))) (by rw [show p'.1 = D from q]; exact Nat.lt_irrefl _)
            · exact hap p hp hm
        intro h5 frs2 SU Fs2 F5 N5
        refine wpAny_execs_cons (wpAny_Pass ?_)
        dsimp only
        refine wpAny_execs_nil ?_
        dsimp only
        refine wpC_of (wpAny_execs_nil ?_)
        have erel : aliasRel y = y := by
          unfold aliasRel dotS
          rw [← hl, List.map_cons]
          dsimp only
          rw [hn]
        cases frs2 with
        | nil => exact SU.elim
        | cons q frs' =>
          obtain ⟨q1, q2⟩ := q
          obtain ⟨sl, e2⟩ := SU.2.1
          have e1 : L = q1 := SU.1.symm
          have e3 : ({ oL with slots := sl } : Obj) = q2 := e2.symm
          have SU' := SU.2.2
          subst e1 e3
          exact ⟨rfl, _, _, _, _, _, sl, frs', rfl, by rw [erel]; rfl, rfl, SU', Fs2.2.2.2, F5, N5⟩
      | some n =>
        refine wpC_of (KIN.call_text hn (Nat.le_trans hp0 (by decide)) ?_)
        refine stN F3 N3 ?_ rfl rfl
        intro h4 F4 N4
        dsimp only
        refine wpC_of (wpAny_execs_nil ?_)
        dsimp only
        refine wpAny_execs_cons (wpAny_Assign_Name (wpAny_BinOp (ld F4 rfl ?_ rfl rfl)))
        refine wpAny_Constant_int ?_
        dsimp only
        refine sub_int ?_
        refine stN F4 N4 ?_ rfl rfl
        intro h5 F5 N5
        dsimp only
        have hl5 : h5.IsList D (strValues (p0 :: lr)).toArray := News.isList N5 (.head _)
        refine wpAny_execs_cons (wpAny_Assign_Subscript ?_)
        walk1
        walk1
        walk1
        refine args_cons (ld F5 rfl ?_ rfl rfl)
        refine args_nil ?_
        dsimp only
        refine P.str_of_int (intText_log3 ho0 hp0 hn) ?_
        dsimp only
        refine ld F5 rfl ?_ rfl rfl
        refine wpAny_Constant_int ?_
        dsimp only
        refine wpAny_setItem_list hl5 (by decide) (by decide) (by show (0 : Int) < ((strValues (p0 :: lr)).toArray.size : Int); simp [strValues]) ?_
        intro h6 hl6 hs6
        have hD0 : g.get? D = none := (N5 _ List.mem_cons_self).2.2
        have hDL' : D ≠ L' := (N5 _ List.mem_cons_self).2.1
        have F6 : Fr g L' h6 _ := ⟨F5.ns.sameBut hs6 (Ne.symm hDL'), fun b o e => hs6.extBut b o (by rintro rfl; rw [hD0] at e; cases e) (F5.keep b o e), F5.above⟩
        obtain ⟨o6, ho6, _⟩ := id hl6
        have N6 : News g L' h6 ((D, o6) :: (news ++ (L, oL) :: frs)) := fun p hp => by
          rcases List.mem_cons.mp hp with rfl | hp
          · exact ⟨ho6, hDL', hD0⟩
          · have q := N5 p (List.mem_cons_of_mem _ hp)
            exact ⟨hs6.extBut _ _ (Nat.ne_of_lt (hDlt p hp)) q.1, q.2⟩
        dsimp only
        refine wpAny_execs_cons (wpAny_Assign_Name (MethodCall_ (Calls.Constant_str ?_)))
        walk1
        walk1
        refine args_cons (ld F6 rfl ?_ rfl rfl)
        refine args_nil ?_
        dsimp only
        have hsum : ((Str.ofString (toString (n - 3)) :: lr.map (·.1)).map (·.length)).sum + (Str.ofString (toString (n - 3)) :: lr.map (·.1)).length * (Str.ofString ".").length ≤ 16777216 := by
          have e1 := intText_len3 ho0 hp0 hn
          have e2 : ((lr.map (·.1)).map (·.length)).sum ≤ 100 * lr.length := by
            have hall : ∀ a ∈ lr.map (·.1), a.length ≤ 100 := fun a ha => Nat.le_trans (hshort a (by simp only [List.map_cons]; exact List.mem_cons_of_mem _ ha)) hy
            have := sum_le_of (l := lr.map (·.1)) hall
            rw [List.length_map] at this
            exact this
          have e3 : lr.length ≤ 200 := by
            simp only [strValues, List.size_toArray, List.length_map, List.length_cons] at hsz
            omega
          have e4 : (Str.ofString ".").length = 1 := by decide
          rw [List.map_cons, List.sum_cons, List.length_cons, List.length_map, e4]
          omega
        refine join_list hl6 strs_set0 hsum ?_
        intro t7 k7
        refine stN F6 N6 ?_ rfl rfl
        intro h7 F7 N7
        dsimp only
        refine wpAny_execs_nil ?_
        dsimp only
        refine wpC_of (wpAny_execs_nil ?_)
        have erel : aliasRel y = Txt.join (Str.ofString ".") (Str.ofString (toString (n - 3)) :: lr.map (·.1)) := by
          unfold aliasRel dotS
          rw [← hl, List.map_cons]
          dsimp only
          rw [hn]
        exact ⟨rfl, _, _, _, _, _, oL.slots, frs, rfl, by rw [erel]; rfl, rfl, SameUp.refl _, hFs, F7, N7⟩
    · refine ite_pos h5 ?_
      have e : aliasOf x y z = (x, y, z) := by unfold aliasOf; rw [if_pos hb, if_pos h5]
      k_steps
      rename_i F9 N9 l9
      exact alias_fin hret hN e (SameUp.refl _) hFs F9 N9 l9
end Mine
end
section
-- part MapCall
open PySem PySem.W PyProof.Rows PySem.Calls
set_option maxRecDepth 100000
namespace Mine
section
variable {prog : Program} {w : World} {A : Around} {E : Value → Shared → Prop} {s : Shared}
theorem call_map_list {f : Value} {l : Addr} {xs : Array Value} {Q : Value → Shared → Prop} (hl : s.heap.IsList l xs)
    (h : Q (.ref (s.heap.objs.size + 2)) { s with heap := ((s.heap.push (oIter l)).push (oOne s.heap.objs.size)).push (oMap (s.heap.objs.size + 1) f) }) : wpAny (model prog w) A (call (.type "map") [f, .ref l]) Q E s := by
  have z1 : (s.heap.push (oIter l)).objs.size = s.heap.objs.size + 1 := Heap.size_push ..
  have z2 : ((s.heap.push (oIter l)).push (oOne s.heap.objs.size)).objs.size = s.heap.objs.size + 2 := by rw [Heap.size_push, z1]
  refine callType_new called_map (by decide) (typeCall_map_2 _ _) (newCall_map_2 _ _) (fun obj => F.args_object_init_3 obj _ _) entry_map_new (meets_map_list l f xs) ⟨hl, ?_⟩
  show _ ∧ _
  rw [z1, z2]
  refine ⟨⟨oMap (s.heap.objs.size + 1) f, ?_, rfl⟩, h⟩
  rw [← z2]
  exact Heap.get?_push_size _ rfl
theorem call_map_map {f f' : Value} {z T : Addr} {Q : Value → Shared → Prop} (hz : IsMap s.heap z T f')
    (h : Q (.ref (s.heap.objs.size + 1)) { s with heap := (s.heap.push (oOne z)).push (oMap s.heap.objs.size f) }) : wpAny (model prog w) A (call (.type "map") [f, .ref z]) Q E s := by
  have z1 : (s.heap.push (oOne z)).objs.size = s.heap.objs.size + 1 := Heap.size_push ..
  refine callType_new called_map (by decide) (typeCall_map_2 _ _) (newCall_map_2 _ _) (fun obj => F.args_object_init_3 obj _ _) entry_map_new (meets_map_map z T f f') ⟨hz, ?_⟩
  show _ ∧ _
  rw [z1]
  refine ⟨⟨oMap s.heap.objs.size f, ?_, rfl⟩, h⟩
  rw [← z1]
  exact Heap.get?_push_size _ rfl
/-- the three calls of list(map(str, map(int, l))), behind the first -/
theorem maps_list {l : Addr} {vs : Array Value} {xs : List Str} {Q : Value → Shared → Prop} (hh : A.handled = none) (hl : s.heap.IsList l vs) (hp : Paired IsStrV vs.toList xs) (hsz : vs.size ≤ 1000)
    (hok : ∀ x ∈ xs, x.length ≤ 600 ∧ (reprText x).length ≤ sizeLine ∧ ∀ n, PySem.intText? x = some n → n.natAbs.log2 < 1920)
    (hQ : ∀ h' tk S acc' c', (∀ b o, s.heap.get? b = some o → h'.get? b = some o) → s.heap.objs.size ≤ S → h'.get? S = some { cls := .type "list", dict := none, data := .seq acc' c', slots := #[] } →
      Paired IsStrV acc'.toList (xs.map intStr) → (∀ x ∈ xs, (PySem.intText? x).isSome = true) → Q (.ref S) { s with heap := h', toks := tk })
    (hE : ∀ h' tk e x, x ∈ xs → PySem.intText? x = none → Heap.NewExc s.heap h' e "ValueError" → E (.ref e) { s with heap := h', toks := tk }) :
    wpAny (model prog w) A (call (.type "map") [.type "int", .ref l]) (fun z1 s₁ => wpAny (model prog w) A (call (.type "map") [.type "str", z1]) (fun z2 s₂ => wpC (model prog w) A (call (.type "list") [z2]) Q E s₂) E s₁) E s := by
  refine call_map_list hl ?_
  have z1 : (s.heap.push (oIter l)).objs.size = s.heap.objs.size + 1 := Heap.size_push ..
  have z2 : ((s.heap.push (oIter l)).push (oOne s.heap.objs.size)).objs.size = s.heap.objs.size + 2 := by rw [Heap.size_push, z1]
  have z3 : (((s.heap.push (oIter l)).push (oOne s.heap.objs.size)).push (oMap (s.heap.objs.size + 1) (.type "int"))).objs.size = s.heap.objs.size + 3 := by rw [Heap.size_push, z2]
  have g1 : (((s.heap.push (oIter l)).push (oOne s.heap.objs.size)).push (oMap (s.heap.objs.size + 1) (.type "int"))).get? s.heap.objs.size = some (oIter l) := Heap.get?_push_of_some _ (Heap.get?_push_of_some _ (Heap.get?_push_size _ rfl))
  have g2 : (((s.heap.push (oIter l)).push (oOne s.heap.objs.size)).push (oMap (s.heap.objs.size + 1) (.type "int"))).get? (s.heap.objs.size + 1) = some (oOne s.heap.objs.size) := by rw [← z1]; exact Heap.get?_push_of_some _ (Heap.get?_push_size _ rfl)
  have g3 : (((s.heap.push (oIter l)).push (oOne s.heap.objs.size)).push (oMap (s.heap.objs.size + 1) (.type "int"))).get? (s.heap.objs.size + 2) = some (oMap (s.heap.objs.size + 1) (.type "int")) := by rw [← z2]; exact Heap.get?_push_size _ rfl
  have g0 : ∀ b o, s.heap.get? b = some o → (((s.heap.push (oIter l)).push (oOne s.heap.objs.size)).push (oMap (s.heap.objs.size + 1) (.type "int"))).get? b = some o := fun b o e => Heap.get?_push_of_some _ (Heap.get?_push_of_some _ (Heap.get?_push_of_some _ e))
  generalize (((s.heap.push (oIter l)).push (oOne s.heap.objs.size)).push (oMap (s.heap.objs.size + 1) (.type "int"))) = H at z3 g1 g2 g3 g0 ⊢
  refine call_map_map (s := { s with heap := H }) g3 ?_
  show wpC (model prog w) A (call (.type "list") [.ref (H.objs.size + 1)]) Q E { s with heap := (H.push (oOne (s.heap.objs.size + 2))).push (oMap H.objs.size (.type "str")) }
  have y1 : (H.push (oOne (s.heap.objs.size + 2))).objs.size = H.objs.size + 1 := Heap.size_push ..
  have k0 : ∀ b o, H.get? b = some o → ((H.push (oOne (s.heap.objs.size + 2))).push (oMap H.objs.size (.type "str"))).get? b = some o := fun b o e => Heap.get?_push_of_some _ (Heap.get?_push_of_some _ e)
  have k1 : ((H.push (oOne (s.heap.objs.size + 2))).push (oMap H.objs.size (.type "str"))).get? H.objs.size = some (oOne (s.heap.objs.size + 2)) := Heap.get?_push_of_some _ (Heap.get?_push_size _ rfl)
  have k2 : ((H.push (oOne (s.heap.objs.size + 2))).push (oMap H.objs.size (.type "str"))).get? (H.objs.size + 1) = some (oMap H.objs.size (.type "str")) := by rw [← y1]; exact Heap.get?_push_size _ rfl
  have y2 : ((H.push (oOne (s.heap.objs.size + 2))).push (oMap H.objs.size (.type "str"))).objs.size = H.objs.size + 2 := by rw [Heap.size_push, y1]
  generalize ((H.push (oOne (s.heap.objs.size + 2))).push (oMap H.objs.size (.type "str"))) = H' at k0 k1 k2 y2 ⊢
  obtain ⟨ol, hol, _⟩ := id hl
  have hlt : l < s.heap.objs.size := Heap.lt_size hol
  have hst : MapSt H' l s.heap.objs.size (s.heap.objs.size + 1) (s.heap.objs.size + 2) H.objs.size (H.objs.size + 1) vs 0 :=
    ⟨hl.at fun o e => k0 _ o (g0 _ o e), ⟨_, k0 _ _ g1, rfl, rfl⟩, k0 _ _ g2, k0 _ _ g3, k1, k2⟩
  refine list_mapC (s := { s with heap := H' }) hh hp hst ⟨Nat.ne_of_lt hlt, by show @Ne Nat _ _; omega, by show @Ne Nat _ _; omega, by show @Ne Nat _ _; omega, by show @Ne Nat _ _; omega⟩ hsz hok ?_ ?_
  · intro h' tk acc' c' hk hS hacc hall
    exact hQ h' tk _ acc' c' (fun b o e => hk b o (Nat.ne_of_lt (Heap.lt_size e)) (k0 b o (g0 b o e))) (by show s.heap.objs.size ≤ H'.objs.size; omega) hS hacc hall
  · intro h₁ h' tk e x hx hn hk hnew
    have kk : ∀ b o, s.heap.get? b = some o → h₁.get? b = some o := fun b o e => hk b o (Nat.ne_of_lt (Heap.lt_size e)) (k0 b o (g0 b o e))
    refine hE h' tk e x hx hn ⟨fun b o e => hnew.keeps b o (kk b o e), ?_, hnew.there⟩
    cases q : s.heap.get? e with
    | none => rfl
    | some o => have := hnew.new; rw [kk _ _ q] at this; cases this
end
end Mine
end
section
-- part Norm
open PySem PySem.W PyProof.Rows PyProof.Rows.TI PySem.Calls PySem.Spec
set_option maxRecDepth 100000
namespace Mine
def partsOf (x b : Str) : List Str := Txt.split x dotS ++ (if b.length = 0 then [] else [b])
def normOf (x b : Str) : Str := Txt.join dotS ((if (partsOf x b).all (fun p => (PySem.intText? p).isSome) = true then (partsOf x b).map intStr else partsOf x b).take 3)
theorem paired_strs {vs : List Value} {xs : List Str} (h : Paired IsStrV vs xs) : StrsAre vs xs := by
  induction h with
  | nil => exact .nil
  | cons h1 _ ih =>
    obtain ⟨t, rfl⟩ := h1
    exact .cons _ t ih
theorem paired_take {α β : Type} {F : α → β → Prop} {l₁ : List α} {l₂ : List β} (h : Paired F l₁ l₂) : ∀ n : Nat, Paired F (l₁.take n) (l₂.take n) := by
  induction h with
  | nil => intro n; simp; exact .nil
  | cons h1 _ ih =>
    intro n
    cases n with
    | zero => exact .nil
    | succ n => exact .cons h1 (ih n)
theorem intStr_len {p : Str} (ho : Okay p) (hp : p.length ≤ 100) : (intStr p).length ≤ 1000 := by
  unfold intStr
  split
  · rename_i n hn
    obtain ⟨h1, h2, _⟩ := int_small ho hp hn
    rw [PySem.ofString_length]
    have := int_text_length_le10 (a := n) (k := 101) (by decide) (by omega)
    omega
  · omega
theorem paired_values (l : List (Str × Tok)) : Paired IsStrV (strValues l) (l.map (·.1)) := by
  induction l with
  | nil => exact .nil
  | cons p r ih => exact .cons ⟨p.2, rfl⟩ ih
theorem parts_len {x b : Str} (hx : x.length ≤ 100) : (partsOf x b).length ≤ 103 := by
  unfold partsOf
  rw [List.length_append]
  have := split_len x dotS
  split <;> simp <;> omega
theorem parts_okay {x b : Str} (hx : x.length ≤ 100) (hb : b.length ≤ 100) (ho : Okay x) (hob : Okay b) : ∀ p ∈ partsOf x b, p.length ≤ 100 ∧ Okay p := by
  intro p hp
  unfold partsOf at hp
  rcases List.mem_append.mp hp with hp | hp
  · exact ⟨Nat.le_trans (part_short hp) hx, split_okay ho hp⟩
  · split at hp
    · cases hp
    · rw [List.mem_singleton.mp hp]; exact ⟨hb, hob⟩
theorem apart_of {g h : Heap} {L L' D : Addr} {o : Obj} {oL : Obj} {news frs : List (Addr × Obj)} (hap : ∀ p ∈ news, p.1 ∉ L :: frs.map (·.1)) (hDlt : ∀ p ∈ news ++ (L, oL) :: frs, p.1 < D)
    (N : News g L' h ((D, o) :: (news ++ (L, oL) :: frs))) : ∀ p ∈ (D, o) :: news, p.1 ∉ L' :: ((L, oL) :: frs).map (·.1) := by
  intro p hp hm
  have hne : p.1 ≠ L' := by
    rcases List.mem_cons.mp hp with rfl | hp
    · exact (N _ List.mem_cons_self).2.1
    · exact (N _ (List.mem_cons_of_mem _ (List.mem_append_left _ hp))).2.1
  rcases List.mem_cons.mp hm with q | hm
  · exact hne q
  · rcases List.mem_cons.mp hp with rfl | hp
    · rcases List.mem_cons.mp hm with q | hm
      · exact absurd (hDlt (L, oL) (List.mem_append_right _ List.mem_cons_self)) (by show ¬ L < D; rw [show D = L from q]; exact Nat.lt_irrefl _)
      · obtain ⟨p', hp', q⟩ := List.mem_map.mp hm
        exact absurd (hDlt p' (List.mem_append_right _ (List.mem_cons_of_mem _ hp'))) (by rw [show p'.1 = D from q]; exact Nat.lt_irrefl _)
    · exact hap p hp hm
variable {prog : Program} {w : World} {mean : ExcName → Option Value} {mg mb : Str → Option Value} {news : List (Addr × Obj)}
set_option maxHeartbeats 8000000 in
theorem con_norm {x b : Str} {t u : Tok} (hx : x.length ≤ 100) (hb : b.length ≤ 100) (ho : Okay x) (hob : Okay b) : ConT prog w mean mg mb 1 20 22 news [.str x t, .str b u]
    (fun r ns => ns = [] ∧ ∃ t', r = .str (normOf x b) t') := by
  w_on
  intro A env outer frs h₀ L m s Q E hh hA hfr hke hFs hF hX hN hap hT hdp hun hret
  refine wpC_call ?_
  k_dflt (refine' defT ?k2 ?k3 ?k4 ?kS ?k5 ?kF ?kK ?k6 ?k7 ?k8 ?k9 ?kB ?_ ?c2 ?c3 ?c4 ?c5; (case k2 => exact hF); (case k3 => exact hX); (case k4 => exact hN); (case kS => exact hFs); (case k5 => exact hT); (case kF => exact hfr); (case kK => exact hke); (case k6 => k_is); (case k7 => k_is); (case k8 => omega); (case k9 => first | exact BindsTo.of_eq rfl | exact binds_K (Frag.In.keeps hX (Fr.keep hF)) rfl (by k_is) rfl rfl rfl); (case c5 => decide); (case kB => exact locs rfl); (case c2 => exact rfl); (case c3 => exact rfl); (case c4 => exact rfl); k_whole)
  intro g L' h1 oL F1 N1 hFs1 X T hlt
  dsimp only
  replace F1 : Fr g L' h1 (fun y_1 => List.lookup y_1 [(Str.ofString "build", Value.str b u), (Str.ofString "version", Value.str x t)]) := F1
  generalize hs1 : ({ s with heap := h1, toks := _ } : Shared) = s1
  have e2 : ∃ tk, s1 = { s with heap := h1, toks := tk } := ⟨_, hs1.symm⟩
  clear hs1
  obtain ⟨tk1, rfl⟩ := e2
  refine execsC_consA (wpAny_Assign_Name (MethodCall_ (ld F1 rfl ?_ rfl rfl)))
  walk1
  walk1
  walk1
  refine Calls.Constant_str ?_
  walk1
  dsimp only
  refine splitN1A F1 N1 rfl ?_ (by rw [sizeLine_eq]; omega)
  intro l h2 k2 hl hstrs hshort hisl F2 N2
  have hDlt : ∀ p ∈ news ++ (L, oL) :: frs, p.1 < h1.objs.size := fun p hp => Heap.lt_size (N1 p hp).1
  generalize (h1.objs.size) = D at hisl N2 hDlt ⊢
  refine stN F2 N2 ?_ rfl rfl
  intro h3 F3 N3
  dsimp only
  refine execsC_consA (wpAny_mono (Q := fun fl s' => fl = .next ∧ ∃ h' tk' o vs, s' = { s with heap := h', toks := tk' } ∧ Paired IsStrV vs (partsOf x b) ∧ h'.IsList D vs.toArray ∧
    Fr g L' h' (fun y_1 => if y_1 = Str.ofString "l" then some (Value.ref D) else List.lookup y_1 [(Str.ofString "build", Value.str b u), (Str.ofString "version", Value.str x t)]) ∧
    News g L' h' ((D, o) :: (news ++ (L, oL) :: frs))) (wpAny_If (isTrue_plain (ld F3 rfl ?_ rfl rfl))) ?_ (fun _ _ h => h))
  · refine P.truthy_str ?_ ?_
    · omega
    have hl3 : h3.IsList D (strValues l).toArray := News.isList N3 (.head _)
    have hpl : Paired IsStrV (strValues l) (Txt.split x dotS) := by
      have := paired_values l
      rw [hl] at this
      exact this
    by_cases hb0 : b.length = 0
    · refine ite_neg (by rw [hb0]; decide) ?_
      refine wpAny_execs_nil ?_
      refine ⟨rfl, _, _, _, strValues l, rfl, ?_, hl3, F3, N3⟩
      unfold partsOf
      rw [if_pos hb0, List.append_nil]
      exact hpl
    · refine ite_pos (by simp; omega) ?_
      refine wpAny_execs_cons (wpAny_Expr (MethodCall_ (ld F3 rfl ?_ rfl rfl)))
      walk1
      walk1
      refine args_cons (ld F3 rfl ?_ rfl rfl)
      refine args_nil ?_
      dsimp only
      refine wpAny_list_append hl3 ?_ ?_
      · intro h4 hl4 hs4
        have hD0 : g.get? D = none := (N3 _ List.mem_cons_self).2.2
        have hDL' : D ≠ L' := (N3 _ List.mem_cons_self).2.1
        have F4 : Fr g L' h4 _ := ⟨F3.ns.sameBut hs4 (Ne.symm hDL'), fun b o e => hs4.extBut b o (by rintro rfl; rw [hD0] at e; cases e) (F3.keep b o e), F3.above⟩
        obtain ⟨o4, ho4, _⟩ := id hl4
        have N4 : News g L' h4 ((D, o4) :: (news ++ (L, oL) :: frs)) := fun p hp => by
          rcases List.mem_cons.mp hp with rfl | hp
          · exact ⟨ho4, hDL', hD0⟩
          · have q := N3 p (List.mem_cons_of_mem _ hp)
            exact ⟨hs4.extBut _ _ (Nat.ne_of_lt (hDlt p hp)) q.1, q.2⟩
        dsimp only
        refine wpAny_execs_nil ?_
        refine ⟨rfl, _, _, o4, strValues l ++ [.str b u], rfl, ?_, by simpa using hl4, F4, N4⟩
        unfold partsOf
        rw [if_neg hb0]
        exact Paired.snoc hpl ⟨u, rfl⟩
      · have e1 := split_len x (Str.ofString ".")
        rw [← hl] at e1
        simp only [strValues, List.size_toArray, List.length_map] at e1 ⊢
        rw [sizeLine_eq]
        omega
  intro fl s' hmid
  obtain ⟨rfl, h4, tk4, o4, vs, rfl, hp4, hl4, F4, N4⟩ := hmid
  dsimp only
  have hokp : ∀ p ∈ partsOf x b, p.length ≤ 600 ∧ (reprText p).length ≤ sizeLine ∧ ∀ n, PySem.intText? p = some n → n.natAbs.log2 < 1920 := fun p hp => by
    obtain ⟨q1, q2⟩ := parts_okay hx hb ho hob p hp
    exact ⟨Nat.le_trans q1 (by decide), repr_small q2 q1, fun n hn => intText_log q2 q1 hn⟩
  have hvsz : vs.toArray.size ≤ 103 := by
    have e1 := hp4.length
    have e2 := parts_len (b := b) hx
    simp only [List.size_toArray]
    omega
  refine execsC_cons (wpC_mono (Q := fun fl s' => fl = .next ∧ ∃ h' tk' m' S oS ws sl frs', s' = { s with heap := h', toks := tk' } ∧ m' (Str.ofString "strings") = some (.ref S) ∧ h'.IsList S ws.toArray ∧
    Paired IsStrV ws (if (partsOf x b).all (fun p => (PySem.intText? p).isSome) = true then (partsOf x b).map intStr else partsOf x b) ∧
    SameUp frs frs' ∧ Frs outer frs' ∧ Fr g L' h' m' ∧ News g L' h' ((S, oS) :: (news ++ (L, { oL with slots := sl }) :: frs'))) (TryC (execsC_cons (AssignC (CallC ?_)))) ?_ (fun _ _ h => h))
  · walk1
    refine callWithC_type (args_cons (Call_ ?_))
    walk1
    walk1
    refine args_cons ?_
    walk1
    refine args_cons (Call_ ?_)
    walk1
    walk1
    refine args_cons ?_
    walk1
    refine args_cons (ld F4 rfl ?_ rfl rfl)
    refine args_nil ?_
    refine wpAny_mono (maps_list (xs := partsOf x b) hh hl4 (by simpa using hp4) (Nat.le_trans hvsz (by decide)) hokp ?_ ?_) (fun z1 s₁ hz => args_nil (wpAny_mono hz (fun z2 s₂ hz2 => args_nil hz2) fun _ _ x => x)) fun _ _ x => x
    · intro h5 tk5 S acc c5 hk5 hS5 hgS hacc hall
      have hS0 : g.get? S = none := by
        cases q : g.get? S with
        | none => rfl
        | some o => exact absurd (Heap.lt_size (F4.keep _ _ q)) (Nat.not_lt.mpr hS5)
      have hSL : S ≠ L' := fun q => by
        obtain ⟨o, _, _, ho, _⟩ := F4.ns
        rw [← q] at ho
        exact absurd (Heap.lt_size ho) (Nat.not_lt.mpr hS5)
      have F5 : Fr g L' h5 _ := ⟨F4.ns.keeps hk5, fun b o e => hk5 b o (F4.keep b o e), F4.above⟩
      have N5 : News g L' h5 ((S, { cls := .type "list", dict := none, data := .seq acc c5, slots := #[] }) :: (news ++ (L, oL) :: frs)) := fun p hp => by
        rcases List.mem_cons.mp hp with rfl | hp
        · exact ⟨hgS, hSL, hS0⟩
        · have q := N4 p (List.mem_cons_of_mem _ hp)
          exact ⟨hk5 _ _ q.1, q.2⟩
      refine stN F5 N5 ?_ rfl rfl
      intro h6 F6 N6
      dsimp only
      refine wpC_of (wpAny_execs_nil ?_)
      dsimp only
      refine wpAny_execs_nil ?_
      have eall : (partsOf x b).all (fun p => (PySem.intText? p).isSome) = true := List.all_eq_true.mpr hall
      refine ⟨rfl, _, _, _, S, _, acc.toList, oL.slots, frs, rfl, if_pos rfl, ?_, by rw [if_pos eall]; exact hacc, SameUp.refl _, hFs, F6, N6⟩
      exact ⟨_, (N6 _ List.mem_cons_self).1, rfl, c5, by simp⟩
    · intro h5 tk5 e p hp hn hnew
      refine caughtT (new := (D, o4) :: news) (frs := (L, oL) :: frs) (l := env :: outer) hA hFs1 hnew F4 N4 ?_ T rfl rfl ?_
      · exact apart_of hap hDlt N4
      intro h6 frs2 SU Fs2 F6 N6
      refine wpAny_execs_cons (wpAny_Assign_Name (ld F6 rfl ?_ rfl rfl))
      refine stN F6 N6 ?_ rfl rfl
      intro h7 F7 N7
      try dsimp only
      refine wpAny_execs_nil ?_
      try dsimp only
      have eall : ¬ (partsOf x b).all (fun p => (PySem.intText? p).isSome) = true := fun h => by
        have := List.all_eq_true.mp h p hp
        rw [hn] at this
        cases this
      have hl7 : h7.IsList D vs.toArray := by
        obtain ⟨o, ho, hc, n, hd⟩ := hl4
        have e1 := (N4 _ List.mem_cons_self).1
        rw [ho] at e1
        cases e1
        exact ⟨o4, (N7 _ List.mem_cons_self).1, hc, n, hd⟩
      cases frs2 with
      | nil => exact SU.elim
      | cons q frs' =>
        obtain ⟨q1, q2⟩ := q
        obtain ⟨sl, e2⟩ := SU.2.1
        have e1 : L = q1 := SU.1.symm
        have e3 : ({ oL with slots := sl } : Obj) = q2 := e2.symm
        have SU' := SU.2.2
        subst e1 e3
        exact ⟨rfl, _, _, _, D, o4, vs, sl, frs', rfl, if_pos rfl, hl7, by rw [if_neg eall]; exact hp4, SU', Fs2.2.2.2, F7, N7⟩
  intro fl s' hmid
  obtain ⟨rfl, h5, tk5, m5, S, oS, ws, sl, frs', rfl, hms, hlS, hpS, SU, Fs', F5, N5⟩ := hmid
  dsimp only
  refine wpC_of ?_
  refine wpAny_execs_cons (wpAny_Assign_Name (MethodCall_ (Calls.Constant_str ?_)))
  walk1
  walk1
  refine args_cons ?_
  walk1
  refine ld F5 hms ?_ rfl rfl
  walk1
  walk1
  walk1
  refine wpAny_Constant_int ?_
  walk1
  dsimp only
  have hws : ws.length ≤ 103 := by
    have e1 := hpS.length
    have e2 := parts_len (b := b) hx
    split at e1 <;> (try simp only [List.length_map] at e1) <;> omega
  refine slice_list (s := { s with heap := h5, toks := _ }) (value := _) (slice := _) F5 N5 hlS .none (.int _ _) ?_ (by with_unfolding_all rfl) (by intro _; with_unfolding_all rfl) (by simp only [List.size_toArray]; rw [sizeLine_eq]; omega)
  intro h6 F6 N6
  refine args_nil ?_
  have e3 : slicePick ws.toArray none (some 3) none = (ws.take 3).toArray := slicePick_upto' ws.toArray 3
  rw [e3] at N6
  have hl6 := News.isList N6 (.head _)
  have hpt := (paired_strs (paired_take hpS 3))
  have hsum : (((if (partsOf x b).all (fun p => (PySem.intText? p).isSome) = true then (partsOf x b).map intStr else partsOf x b).take 3).map (·.length)).sum
      + ((if (partsOf x b).all (fun p => (PySem.intText? p).isSome) = true then (partsOf x b).map intStr else partsOf x b).take 3).length * (Str.ofString ".").length ≤ 16777216 := by
    have hall : ∀ a ∈ (if (partsOf x b).all (fun p => (PySem.intText? p).isSome) = true then (partsOf x b).map intStr else partsOf x b).take 3, a.length ≤ 1000 := fun a ha => by
      have ha := List.mem_of_mem_take ha
      split at ha
      · obtain ⟨p, hp, rfl⟩ := List.mem_map.mp ha
        obtain ⟨q1, q2⟩ := parts_okay hx hb ho hob p hp
        exact intStr_len q2 q1
      · exact Nat.le_trans (parts_okay hx hb ho hob a ha).1 (by decide)
    have h1 := sum_le_of hall
    have h2 : ((if (partsOf x b).all (fun p => (PySem.intText? p).isSome) = true then (partsOf x b).map intStr else partsOf x b).take 3).length ≤ 3 := by rw [List.length_take]; omega
    have e4 : (Str.ofString ".").length = 1 := by decide
    rw [e4]
    omega
  refine join_list hl6 hpt hsum ?_
  intro t7 k7
  refine stN F6 N6 ?_ rfl rfl
  intro h7 F7 N7
  dsimp only
  refine wpAny_execs_cons (wpAny_Return_some (ld F7 (if_pos rfl) ?_ rfl rfl))
  dsimp only
  have hNt : News g L' h7 (news ++ (L, { oL with slots := sl }) :: frs') := fun p hp => N7 p (List.mem_cons_of_mem _ (List.mem_cons_of_mem _ hp))
  exact ⟨L', _, news, sl, frs', F7, hNt, SU, fun p hp => (hN p (List.mem_append_left _ hp)).2.1, fun F₀ N₀ => hret _ [] frs' _ _ ⟨rfl, t7, rfl⟩ SU Fs' F₀ N₀ fun p hp => by cases hp⟩
end Mine
end
section
-- part Small
open PySem PySem.W PyProof.Rows PyProof.Rows.TI PySem.Calls PySem.Spec
set_option maxRecDepth 100000
namespace Mine
def unkOf (x : Str) : Str := if (x == Str.ofString "unknown") = true then Str.ofString "" else x
variable {prog : Program} {w : World} {mean : ExcName → Option Value} {mg mb : Str → Option Value} {news : List (Addr × Obj)}
set_option maxHeartbeats 8000000 in
theorem con_unk {x : Str} {t : Tok} : Con prog w mean mg mb 1 8 36 news [.str x t] (fun v ns => ns = [] ∧ ∃ t', v = .str (unkOf x) t') := by
  w_on
  intro A h₀ L m s Q E hh hF hX hN hT hdp hun hret
  refine wpAny_call ?_
  k_dflt (refine' defA ?k2 ?k3 ?k4 ?k5 ?k6 ?k7 ?k8 ?k9 ?kB ?_ ?c2 ?c3 ?c4 ?c5; (case k2 => exact hF); (case k3 => exact hX); (case k4 => exact hN); (case k5 => exact hT); (case k6 => k_is); (case k7 => k_is); (case k8 => omega); (case k9 => exact BindsTo.of_eq rfl); (case c5 => decide); (case kB => exact locs rfl); (case c2 => exact rfl); (case c3 => exact rfl); (case c4 => exact rfl); k_whole)
  intro g L' h1 F1 N1 X T hlt
  dsimp only
  replace F1 : Fr g L' h1 (fun y => List.lookup y [(Str.ofString "val", Value.str x t)]) := F1
  refine wpAny_execs_cons (wpAny_Return_some ?_)
  walk1
  refine wpAny_isTrue_Compare1 (ld F1 rfl ?_ rfl rfl)
  refine Calls.Constant_str ?_
  dsimp only
  refine PyProof.Rows.eq_str ?_
  refine wpAny_truthy_bool ?_
  split
  · rename_i hq
    refine Calls.Constant_str ?_
    dsimp only
    refine leaveK_ F1 N1 ?_
    intro kF kN kK
    exact hret _ [] _ _ ⟨rfl, _, by unfold unkOf; rw [if_pos hq]⟩ kF kN kK
  · rename_i hq
    refine ld F1 rfl ?_ rfl rfl
    refine leaveK_ F1 N1 ?_
    intro kF kN kK
    exact hret _ [] _ _ ⟨rfl, _, by unfold unkOf; rw [if_neg hq]⟩ kF kN kK
end Mine
end
section
-- part EnterC
open PySem PySem.W PyProof.Rows PyProof.Rows.TI PySem.Calls
open Sem (wp)
set_option maxRecDepth 100000
namespace Mine
section
variable {prog : Program} {w : World} {A : Around} {s : Shared} {h₀ : Heap} {L : Addr} {m : Str → Option Value} {news : List (Addr × Obj)} {K : Frag}
  {R : Result → Shared → Prop} {name qual : Str} {params : Arguments} {body : List Stmt} {scope : Scope} {dV kV doc pm cdv ct oc : Value} {an od : Option Addr} {osl : Array (Option Value)} {f : Addr} {args : Args} {binds : List (Str × Value)}
  {p : Program} {loose : List Str} {mean : ExcName → Option Value} {mg mb : Str → Option Value}
theorem defAC (F : Fr h₀ L s.heap m) (X₀ : K.In h₀) (N : News h₀ L s.heap news) (T : Top p loose mean mg mb h₀)
    (ho : K.lookup f = some ⟨oc, od, .func (fnOf name qual params body scope dV kV doc pm an cdv ct), osl⟩) (hcd : codeIn K cdv qual = true) (hroom : A.depth < recursionLimit)
    (hbind : BindsTo s (fnOf name qual params body scope dV kV doc pm an cdv ct) args binds) (hkind : (binds.all fun y => scope.names.lookup y.1 == some .local || scope.names.lookup y.1 == some .cell) = true)
    (hnd : ((cellsFrom 0 scope.names []).map (·.1)).Nodup)
    (h : ∀ g L' h₁ tk cells, Fr g L' h₁ (bindL (envOfC qual scope L' f cdv).kindOf binds fun _ => none) → News g L' h₁ (cells ++ news) →
      CellsAre (bindC (envOfC qual scope L' f cdv).kindOf binds fun _ => none) (cellsFrom (L' + 1) scope.names []) cells → K.In g → Top p loose mean mg mb g → (∀ p ∈ news, p.1 < L') →
      wpAny (model prog w) (A.deeper (envOfC qual scope L' f cdv)) (execs body (envOfC qual scope L' f cdv))
        (fun fl s' => LeaveK h₀ L m g (fun r s'' => (∀ b o, s.heap.get? b = some o → b ∉ news.map (·.1) → s''.heap.get? b = some o) → R r s'') (match fl with | .ret v => v | _ => .none) s') (fun _ _ => False)
        { s with heap := h₁, toks := tk })
    (hco : scope.isCoroutine = false) (hgen : scope.isGenerator = false) (hk : scope.kind = .function) : codeAny (model prog w) A (.call (.ref f) args) R s := by
  obtain ⟨st, lv⟩ := groundA (R := fun r s'' => (∀ b o, s.heap.get? b = some o → b ∉ news.map (·.1) → s''.heap.get? b = some o) → R r s'') F N
  have XS := X₀.keeps F.keep
  have hcd' := codeRec_of XS hcd
  refine codeAny_call_function (body := body) hroom (XS _ _ ho) rfl hco hgen rfl hcd' (hbind _ _ _ _ ?_)
  refine wpAny_newFunctionEnv_cells hk (kindsX hkind _) fun env' he s' x => ?_
  subst he
  refine ⟨(T.nolimit.keeps F.keep).keeps x.toInCall.keep, codeAny_func ?_⟩
  obtain ⟨h₁, tk, rfl, _⟩ := x.done
  have hk₁ := x.toInCall.keep
  obtain ⟨cells, NC, Y⟩ := Cl.news (h₀ := s.heap) (Nat.le_refl _) fun n c hm => ⟨x.cell n c (lookup_of_mem_nodup (cellsFrom_names scope.names 0 (s.heap.objs.size + 1) [] [] rfl ▸ hnd) hm), x.above n c hm⟩
  refine wpAny_mono (h _ s.heap.objs.size h₁ tk cells ⟨x.toInCall.ns, fun b o e => hk₁ b o (of_hideAll _ e), Nat.le_of_eq (hideAll_size _ _)⟩ (fun p hp => ?_) Y (X₀.keeps st) (T.keeps st) (fun p hp => Heap.lt_size (N p hp).1)) (fun fl s' hl => lv _ _ hl (by obtain ⟨_, _, _, F', _, _⟩ := hl; exact fun b o e hb => F'.keep b o (hideAll_get _ e hb))) fun _ _ y => y.elim
  rcases List.mem_append.mp hp with hp | hp
  · refine ⟨(NC p hp).1, (NC p hp).2.1, ?_⟩
    cases q : (hideAll s.heap (news.map (·.1))).get? p.1 with
    | none => rfl
    | some o => have := of_hideAll _ q; rw [(NC p hp).2.2] at this; cases this
  · exact ⟨hk₁ _ _ (N p hp).1, Nat.ne_of_lt (Heap.lt_size (N p hp).1), hideAll_none _ (List.mem_map_of_mem hp)⟩
theorem defTC {frs : List (Addr × Obj)} {env : Env} {outer : List Env} (F : Fr h₀ L s.heap m) (X₀ : K.In h₀) (N : News h₀ L s.heap (news ++ frs)) (Fs : Frs outer frs) (T : Top p loose mean mg mb h₀)
    (hf : env.frame = some L) (hke : env.scope.kind = .function)
    (ho : K.lookup f = some ⟨oc, od, .func (fnOf name qual params body scope dV kV doc pm an cdv ct), osl⟩) (hcd : codeIn K cdv qual = true) (hroom : A.depth < recursionLimit)
    (hbind : BindsTo s (fnOf name qual params body scope dV kV doc pm an cdv ct) args binds) (hkind : (binds.all fun y => scope.names.lookup y.1 == some .local || scope.names.lookup y.1 == some .cell) = true)
    (hnd : ((cellsFrom 0 scope.names []).map (·.1)).Nodup)
    (h : ∀ g L' h₁ tk cells oL, Fr g L' h₁ (bindL (envOfC qual scope L' f cdv).kindOf binds fun _ => none) → News g L' h₁ (cells ++ (news ++ (L, oL) :: frs)) →
      CellsAre (bindC (envOfC qual scope L' f cdv).kindOf binds fun _ => none) (cellsFrom (L' + 1) scope.names []) cells → Frs (env :: outer) ((L, oL) :: frs) → K.In g → Top p loose mean mg mb g → (∀ p ∈ news ++ (L, oL) :: frs, p.1 < L') →
      wpC (model prog w) (A.deeper (envOfC qual scope L' f cdv)) (execs body (envOfC qual scope L' f cdv))
        (fun fl s' => LeaveT h₀ L m oL frs g R (match fl with | .ret v => v | _ => .none) s') (fun _ _ => False)
        { s with heap := h₁, toks := tk })
    (hco : scope.isCoroutine = false) (hgen : scope.isGenerator = false) (hk : scope.kind = .function) : codeC (model prog w) A (.call (.ref f) args) R s := by
  obtain ⟨oL, hoL, hdL, st, lv⟩ := groundT (R := R) F N
  have XS := X₀.keeps F.keep
  have hcd' := codeRec_of XS hcd
  refine codeC_call_function (body := body) hroom (XS _ _ ho) rfl hco hgen rfl hcd' (hbind _ _ _ _ ?_)
  refine wpAny_newFunctionEnv_cells hk (kindsX hkind _) fun env' he s' x => ?_
  subst he
  refine ⟨(T.nolimit.keeps F.keep).keeps x.toInCall.keep, codeC_func ?_⟩
  obtain ⟨h₁, tk, rfl, _⟩ := x.done
  have hk₁ := x.toInCall.keep
  obtain ⟨cells, NC, Y⟩ := Cl.news (h₀ := s.heap) (Nat.le_refl _) fun n c hm => ⟨x.cell n c (lookup_of_mem_nodup (cellsFrom_names scope.names 0 (s.heap.objs.size + 1) [] [] rfl ▸ hnd) hm), x.above n c hm⟩
  have hin : ∀ p ∈ news ++ (L, oL) :: frs, s.heap.get? p.1 = some p.2 ∧ p.1 ∈ L :: (news ++ frs).map (·.1) := fun p hp => by
    rcases List.mem_append.mp hp with hp | hp
    · exact ⟨(N p (List.mem_append_left _ hp)).1, List.mem_cons_of_mem _ (List.mem_map_of_mem (List.mem_append_left _ hp))⟩
    · rcases List.mem_cons.mp hp with rfl | hp
      · exact ⟨hoL, List.mem_cons_self⟩
      · exact ⟨(N p (List.mem_append_right _ hp)).1, List.mem_cons_of_mem _ (List.mem_map_of_mem (List.mem_append_right _ hp))⟩
  refine wpC_mono (h _ s.heap.objs.size h₁ tk cells oL ⟨x.toInCall.ns, fun b o e => hk₁ b o (of_hideAll _ e), Nat.le_of_eq (hideAll_size _ _)⟩ (fun p hp => ?_) Y ⟨by rw [hke]; decide, hf, hdL, Fs⟩ (X₀.keeps st) (T.keeps st) (fun p hp => Heap.lt_size (hin p hp).1)) (fun fl s' hl => lv _ _ hl) fun _ _ y => y.elim
  rcases List.mem_append.mp hp with hp | hp
  · refine ⟨(NC p hp).1, (NC p hp).2.1, ?_⟩
    cases q : (hideAll s.heap (L :: (news ++ frs).map (·.1))).get? p.1 with
    | none => rfl
    | some o => have := of_hideAll _ q; rw [(NC p hp).2.2] at this; cases this
  · exact ⟨hk₁ _ _ (hin p hp).1, Nat.ne_of_lt (Heap.lt_size (hin p hp).1), hideAll_none _ (hin p hp).2⟩
end
end Mine
end
section
-- part Comp
open PySem PySem.W PyProof.Rows PyProof.Rows.TI PySem.Calls PySem.Spec
set_option maxRecDepth 100000
namespace Mine
section
variable {prog : Program} {w : World} {A : Around} {E : Value → Shared → Prop} {s : Shared} {env : Env}
/-- a value that can be walked -/
def Src (prog : Program) (w : World) (A : Around) (s₁ : Shared) (xv : Value) (n : Nat) (P : Nat → Value → Prop) : Prop :=
  ∀ (Q : Value → Shared → Prop) (E : Value → Shared → Prop),
    (∀ fp St h', Walks prog w A s₁.heap.objs.size fp [s₁.heap.objs.size] n P St → St 0 h' → (∀ b o, s₁.heap.get? b = some o → h'.get? b = some o) → (∀ b ∈ fp, b < h'.objs.size) → s₁.heap.objs.size < h'.objs.size →
      Q (.ref s₁.heap.objs.size) { s₁ with heap := h' }) → wpAny (model prog w) A (pyIter xv) Q E s₁
theorem src_list (hh : A.handled = none) {l : Addr} {items : Array Value} (hl : s.heap.IsList l items) : Src prog w A s (.ref l) items.size (fun i v => items[i]? = some v) := by
  intro Q E h
  have hlt : l < s.heap.objs.size := by obtain ⟨o, ho, _⟩ := hl; exact Heap.lt_size ho
  refine wpAny_pyIter_list hl (h [s.heap.objs.size, l] _ _ (Walks.list hh _ l (Nat.ne_of_lt hlt) items) ⟨⟨_, Heap.get?_push_size _ rfl, rfl, rfl⟩, hl.at fun o e => Heap.get?_push_of_some _ e⟩ (fun b o e => Heap.get?_push_of_some _ e) ?_ ?_)
  · intro b hb; rw [Heap.size_push]; simp only [List.mem_cons, List.not_mem_nil, or_false] at hb; rcases hb with rfl | rfl
    · exact Nat.lt_succ_self _
    · exact Nat.lt_succ_of_lt hlt
  · rw [Heap.size_push]; exact Nat.lt_succ_self _
theorem src_tuple (hh : A.handled = none) {l : Addr} {items : Array Value} (hl : s.heap.IsTuple l items) : Src prog w A s (.ref l) items.size (fun i v => items[i]? = some v) := by
  intro Q E h
  have hlt : l < s.heap.objs.size := by obtain ⟨o, ho, _⟩ := hl; exact Heap.lt_size ho
  refine wpAny_pyIter_tuple hl (h [s.heap.objs.size, l] _ _ (Walks.tuple hh _ l (Nat.ne_of_lt hlt) items) ⟨⟨_, Heap.get?_push_size _ rfl, rfl, rfl⟩, by obtain ⟨o, ho, r⟩ := hl; exact ⟨o, Heap.get?_push_of_some _ ho, r⟩⟩ (fun b o e => Heap.get?_push_of_some _ e) ?_ ?_)
  · intro b hb; rw [Heap.size_push]; simp only [List.mem_cons, List.not_mem_nil, or_false] at hb; rcases hb with rfl | rfl
    · exact Nat.lt_succ_self _
    · exact Nat.lt_succ_of_lt hlt
  · rw [Heap.size_push]; exact Nat.lt_succ_self _
theorem src_str (hh : A.handled = none) {x : Str} {t : Tok} : Src prog w A s (.str x t) x.cps.size (SignAt x) := by
  intro Q E h
  refine wpAny_pyIter_str fun o St W hst => h [s.heap.objs.size] St _ (W A hh) hst (fun b o e => Heap.get?_push_of_some _ e) ?_ ?_
  · intro b hb; rw [Heap.size_push, List.mem_singleton.mp hb]; exact Nat.lt_succ_self _
  · rw [Heap.size_push]; exact Nat.lt_succ_self _
abbrev listObj (ys : Array Value) (k : Nat) : Obj := { cls := .type "list", dict := none, data := .seq ys k, slots := #[] }
/-- a list comprehension over a walked value, its turns quiet -/
theorem comp_src {elt iter : Expr} {x : Str} {px : Pos} {ifs : List Expr} {scope : Scope} {cl : List (Str × Addr)} {pos : Pos} {Q : Value → Shared → Prop} (p : Value → Bool) (F : Value → Value → Prop)
    (hclos : closureFor scope env = pure cl) (hcell : ∀ y ∈ scope.names, y.2 ≠ .cell) (hkind : scope.kind = .function)
    (hnames : ∀ y ∈ scope.names, y.2 = .local → scope.names.lookup y.1 = some .local) (hx : scope.names.lookup x = some .local)
    (h : wpAny (model prog w) A (eval iter env) (fun xv s₁ => ∃ n P, Src prog w A s₁ xv n P ∧ n ≤ sizeLine ∧
      (∀ C i v s₃ m₃ E', s₁.heap.objs.size ≤ C → P i v → s₃.heap.Ns C m₃ → m₃ x = some v → (∀ b o, s₁.heap.get? b = some o → s₃.heap.get? b = some o) →
        wpAny (model prog w) A (forIn ifs true fun c r => if r = true then do let ok ← isTrue c (compEnvC scope cl C env) (eval c (compEnvC scope cl C env)); pure (ForInStep.yield ok) else pure (ForInStep.yield r))
          (fun ok s₄ => ok = p v ∧ Keeps s₃ s₄) E' s₃) ∧
      (∀ C i v s₃ m₃ E', s₁.heap.objs.size ≤ C → P i v → p v = true → s₃.heap.Ns C m₃ → m₃ x = some v → (∀ b o, s₁.heap.get? b = some o → s₃.heap.get? b = some o) →
        wpAny (model prog w) A (eval elt (compEnvC scope cl C env)) (fun y s₄ => F v y ∧ Keeps s₃ s₄) E' s₃) ∧
      (∀ D h' tk ys k (vs : List Value), s₁.heap.get? D = none → h'.get? D = some (listObj ys k) → vs.length = n → (∀ j v, vs[j]? = some v → P j v) → Paired F (vs.filter p) ys.toList →
        (∀ b o, s₁.heap.get? b = some o → h'.get? b = some o) → Q (.ref D) { s₁ with heap := h', toks := tk })) E s)
    (hs : ∀ x, foldedSetIterable iter env x = pure x := by intro _; rfl) :
    wpAny (model prog w) A (eval (.ListComp elt [⟨.Name x px, iter, ifs, 0⟩] scope pos) env) Q E s := by
  refine wpAny_ListComp_free p F hclos hcell hkind hnames hx (wpAny_mono h (fun xv s₁ h₁ => ?_) fun _ _ e => e) hs
  obtain ⟨n, P, hsrc, hsz, htests, helt, hQ⟩ := h₁
  refine hsrc _ _ fun fp St h' W hst hk hfp hI => ?_
  have hne : ∀ b o, s₁.heap.get? b = some o → b ∉ [s₁.heap.objs.size] := fun b o e q => by
    rw [List.mem_singleton] at q
    exact absurd (Heap.lt_size e) (by rw [q]; exact Nat.lt_irrefl _)
  have hle : s₁.heap.objs.size ≤ h'.objs.size := Nat.le_of_lt hI
  refine ⟨_, fp, _, n, P, St, rfl, W, hsz, hst, hfp, ⟨fun C i v s₃ m₃ E' hC hP hn hm hkk _ => htests C i v s₃ m₃ E' (Nat.le_trans hle hC) hP hn hm fun b o e => hkk b o (hne b o e) (hk b o e),
    fun C i v s₃ m₃ E' hC hP hp hn hm hkk _ => helt C i v s₃ m₃ E' (Nat.le_trans hle hC) hP hp hn hm fun b o e => hkk b o (hne b o e) (hk b o e)⟩, fun D h₂ tk ys vs hD _ hpl hlen hPv hF hkk => ?_⟩
  obtain ⟨k, hg⟩ := hpl
  refine hQ D h₂ tk ys k vs ?_ hg hlen hPv hF fun b o e => hkk b o (hne b o e) (hk b o e)
  cases e : s₁.heap.get? D with
  | none => rfl
  | some o => rw [hk D o e] at hD; cases hD
/-- the ledger after a comprehension -/
theorem comp_led {g h h' : Heap} {L D : Addr} {m : Str → Option Value} {news : List (Addr × Obj)} {o : Obj} (F : Fr g L h m) (N : News g L h news) (hD : h.get? D = none) (hg : h'.get? D = some o)
    (hk : ∀ b o, h.get? b = some o → h'.get? b = some o) : Fr g L h' m ∧ News g L h' ((D, o) :: news) := by
  refine ⟨⟨F.ns.keeps hk, fun b o e => hk b o (F.keep b o e), F.above⟩, fun p hp => ?_⟩
  rcases List.mem_cons.mp hp with rfl | hp
  · refine ⟨hg, fun q => ?_, ?_⟩
    · obtain ⟨oL, _, _, ho, _⟩ := F.ns
      rw [← q] at ho
      rw [hD] at ho; cases ho
    · cases e : g.get? D with
      | none => rfl
      | some o => rw [F.keep _ _ e] at hD; cases hD
  · exact ⟨hk _ _ (N p hp).1, (N p hp).2⟩
theorem paired_mono {α β : Type} {F G : α → β → Prop} (hFG : ∀ a b, F a b → G a b) {l : List α} {r : List β} (h : Paired F l r) : Paired G l r := by
  induction h with
  | nil => exact .nil
  | cons h1 _ ih => exact .cons (hFG _ _ h1) ih
/-- a global function's name, in any environment -/
theorem nameG_fn {M : Model} {K : Frag} {h₀ : Heap} {L : Addr} {m mg mb : Str → Option Value} {mean : ExcName → Option Value} {p : Program} {loose : List Str} {x : Str} {pos : Pos} {v : Value} {Q : Value → Shared → Prop} (F : Fr h₀ L s.heap m) (X : K.In h₀) (T : Top p loose mean mg mb h₀)
    (e : nsIn K mainGlobals x = some (some v)) (h : Q v s) (hg : env.globals = mainGlobals := by rfl) (hk : env.scope.kind = .function := by rfl) (hx : env.kindOf x = some .globalImplicit := by rfl) (hd : (x == ("__debug__" : Str)) = false := by decide) :
    wpAny M A (eval (.Name x pos) env) Q E s := Name_function_global hk hx (loadGlobal_global (env := env) (by rw [hg]; exact T.g.keeps F.keep) (mg_of X T.g e) h) hd
end
end Mine
end
section
-- part Mark
open PySem PySem.W PyProof.Rows PyProof.Rows.TI PySem.Calls PySem.Spec
set_option maxRecDepth 100000
namespace Mine
def markOf (x y : Str) : Bool := x.cps.toList.any fun c => y.cps.toList.contains c
def isIn (y : Str) (v : Value) : Bool := match v with | .str z _ => y.cps.toList.contains z.cps.toList.head! | _ => false
theorem signs_strs {x : Str} : ∀ {l : List Value}, (∀ v ∈ l, ∃ c t, v = .str ⟨#[c]⟩ t ∧ c ∈ x.cps.toList) → ∃ zs, StrsAre l zs ∧ (∀ z ∈ zs, ∃ c, z = ⟨#[c]⟩ ∧ c ∈ x.cps.toList) ∧ zs.isEmpty = l.isEmpty
  | [], _ => ⟨[], .nil, by simp, rfl⟩
  | v :: l, h => by
    obtain ⟨c, t, rfl, hc⟩ := h v List.mem_cons_self
    obtain ⟨zs, h1, h2, _⟩ := signs_strs fun v hv => h v (List.mem_cons_of_mem _ hv)
    refine ⟨_ :: zs, .cons _ t h1, fun z hz => ?_, rfl⟩
    rcases List.mem_cons.mp hz with rfl | hz
    · exact ⟨c, rfl, hc⟩
    · exact h2 z hz
theorem signs_mem {x : Str} {vs : List Value} (hP : ∀ j v, vs[j]? = some v → SignAt x j v) : ∀ v ∈ vs, ∃ c t, v = .str ⟨#[c]⟩ t ∧ c ∈ x.cps.toList := fun v hv => by
  obtain ⟨j, hj⟩ := List.getElem?_of_mem hv
  obtain ⟨c, t, hc, rfl⟩ := hP j v hj
  refine ⟨c, t, rfl, ?_⟩
  have : x.cps.toList[j]? = some c := by simpa using hc
  exact List.mem_of_getElem? this
theorem mark_empty {x y : Str} {vs : List Value} (hlen : vs.length = x.cps.size) (hP : ∀ j v, vs[j]? = some v → SignAt x j v) : (vs.filter (isIn y)).isEmpty = !markOf x y := by
  cases hm : markOf x y with
  | false =>
    show _ = true
    rw [List.isEmpty_iff, List.filter_eq_nil_iff]
    intro v hv hq
    obtain ⟨c, t, rfl, hc⟩ := signs_mem hP v hv
    have : markOf x y = true := List.any_eq_true.mpr ⟨c, hc, hq⟩
    rw [hm] at this
    cases this
  | true =>
    show _ = false
    obtain ⟨c, hc, hy⟩ := List.any_eq_true.mp hm
    obtain ⟨j, hj⟩ := List.getElem?_of_mem hc
    have hjl : j < vs.length := by
      have := (List.getElem?_eq_some_iff.mp hj).1
      rw [hlen]; simpa using this
    have hv := List.getElem?_eq_getElem hjl
    obtain ⟨c', t, hc', e⟩ := hP j _ hv
    have hcc : c' = c := by
      have h2 : x.cps[j]? = some c := by simpa using hj
      rw [hc'] at h2; exact Option.some.inj h2
    rw [← Bool.not_eq_true, List.isEmpty_iff, List.filter_eq_nil_iff]
    intro hall
    refine hall vs[j] (List.getElem_mem hjl) ?_
    rw [e, hcc]
    exact hy
theorem eqv_nil (zs : List Str) : PyData.eqv (.list (zs.map PyData.str)) (.list []) = zs.isEmpty := by
  cases zs with
  | nil => rfl
  | cons a r => rfl
theorem canLay_strs : ∀ {zs : List Str}, (∀ z ∈ zs, PyData.strOk z = true) → PyData.canLayAll0 (zs.map PyData.str) = true
  | [], _ => rfl
  | z :: zs, h => by
    show (PyData.canLay0 (.str z) && PyData.canLayAll0 (zs.map PyData.str)) = true
    rw [canLay_strs fun z hz => h z (List.mem_cons_of_mem _ hz), Bool.and_true]
    exact h z List.mem_cons_self
theorem depth_strs : ∀ zs : List Str, PyData.depthAll (zs.map PyData.str) = 0
  | [] => rfl
  | z :: zs => by
    show max 0 (PyData.depthAll (zs.map PyData.str)) = 0
    rw [depth_strs zs]; rfl
theorem shaped_list {zs : List Str} (h : ∀ z ∈ zs, PyData.strOk z = true) : SeqAt.shaped (.list (zs.map PyData.str)) = true := by
  unfold SeqAt.shaped
  have h1 : PyData.canLay0 (.list (zs.map PyData.str)) = true := canLay_strs h
  have h2 : PyData.depth (.list (zs.map PyData.str)) = 1 := by show PyData.depthAll (zs.map PyData.str) + 1 = 1; rw [depth_strs]
  rw [h1, h2]; rfl
theorem shaped_tuple {zs : List Str} (h : ∀ z ∈ zs, PyData.strOk z = true) : SeqAt.shaped (.tuple (zs.map PyData.str)) = true := by
  unfold SeqAt.shaped
  have h1 : PyData.canLay0 (.tuple (zs.map PyData.str)) = true := canLay_strs h
  have h2 : PyData.depth (.tuple (zs.map PyData.str)) = 1 := by show PyData.depthAll (zs.map PyData.str) + 1 = 1; rw [depth_strs]
  rw [h1, h2]; rfl
theorem strOk_of {z : Str} (h : ∀ c ∈ z.cps.toList, c < 1114112) : PyData.strOk z = true := by
  unfold PyData.strOk
  rw [Array.all_eq_true']
  intro c hc
  exact decide_eq_true (h c (Array.mem_toList_iff.mpr hc))
variable {prog : Program} {w : World} {mean : ExcName → Option Value} {mg mb : Str → Option Value} {news : List (Addr × Obj)}
set_option maxHeartbeats 8000000 in
theorem con_mark {x y : Str} {t u : Tok} (hx : x.length ≤ 1000) (ho : Okay x) : Con prog w mean mg mb 1 100 109 news [.str x t, .str y u] (fun v ns => ns = [] ∧ v = .bool (markOf x y)) := by
  w_on
  intro A h₀ L m s Q E hh hF hX hN hT hdp hun hret
  refine wpAny_call ?_
  k_dflt (refine' defAC ?k2 ?k3 ?k4 ?k5 ?k6 ?k7 ?k8 ?k9 ?kB ?kC ?_ ?c2 ?c3 ?c4; (case k2 => exact hF); (case k3 => exact hX); (case k4 => exact hN); (case k5 => exact hT); (case k6 => k_is); (case k7 => k_is); (case k8 => omega); (case k9 => exact BindsTo.of_eq rfl); (case kB => rfl); (case kC => decide); (case c2 => exact rfl); (case c3 => exact rfl); (case c4 => exact rfl); k_whole)
  intro g L' h1 tk1 cells F1 N1 hC X T hlt
  obtain ⟨oc, rfl, hoc⟩ := CellsAre.one (n := Str.ofString "signs") (c := L' + 1) hC
  replace hoc : oc.data = .cell (some (.str y u)) := hoc
  replace F1 : Fr g L' h1 (fun z => if z = Str.ofString "text" then some (.str x t) else none) := F1
  refine wpAny_execs_cons (wpAny_Return_some ?_)
  walk1
  refine comp_src (p := isIn y) (F := fun v z => v = z) rfl (by decide) rfl (by decide) rfl ?_
  refine ldLoc F1 rfl ?_
  refine ⟨_, _, src_str (show (A.deeper _).handled = none from hh), ?_, ?_, ?_, ?_⟩
  · rw [sizeLine_eq]; exact Nat.le_trans hx (by decide)
  · rintro C i v s₃ m₃ E' hC ⟨c, tc, hc, rfl⟩ hn hm hk
    refine wpAny_tests_one (wpAny_isTrue_Compare1 ?_)
    refine wpAny_Name (wpAny_loadName_local rfl rfl hn hm ?_) (by decide)
    refine wpAny_Name (wpAny_loadName_cell rfl rfl rfl ⟨oc, hk _ _ (N1 _ List.mem_cons_self).1, hoc⟩ ?_) (by decide)
    refine in_str ?_
    refine wpAny_truthy_bool ?_
    refine ⟨?_, s₃.heap, s₃.toks, rfl, fun b o e => e⟩
    rw [StrLaws.found_one]
    show decide _ = y.cps.toList.contains c
    rw [List.contains_eq_mem]
  · rintro C i v s₃ m₃ E' hC ⟨c, tc, hc, rfl⟩ hp hn hm hk
    refine wpAny_Name (wpAny_loadName_local rfl rfl hn hm ?_) (by decide)
    exact ⟨rfl, s₃.heap, s₃.toks, rfl, fun b o e => e⟩
  · intro D h2 tk2 ys k vs hD hg hlen hP hpair hk
    obtain ⟨F2, N2⟩ := comp_led F1 N1 hD hg hk
    walk1
    refine args_nil ?_
    refine newList_N F2 N2 ?_
    intro h3 F3 N3
    have hya : ys.toList = vs.filter (isIn y) := by
      generalize vs.filter (isIn y) = l at hpair
      generalize ys.toList = r at hpair
      induction hpair with
      | nil => rfl
      | cons h1 _ ih => rw [h1, ih]
    obtain ⟨zs, h1, h2, h3⟩ := signs_strs (x := x) (l := ys.toList) (fun v hv => signs_mem hP v (by rw [hya] at hv; exact (List.mem_filter.mp hv).1))
    refine ne_dataH (da := .list (zs.map PyData.str)) (db := .list []) (reads_list_at (N3 (D, listObj ys k) (List.mem_cons_of_mem _ List.mem_cons_self)).1 rfl rfl (strs_readAll _ h1)) (reads_list_at (N3 _ List.mem_cons_self).1 rfl rfl .nil) ?_ rfl (by show A.units + 3 + 64 < cLine; omega) ?_
    · refine shaped_list fun z hz => ?_
      obtain ⟨c, rfl, hc⟩ := h2 z hz
      refine strOk_of fun c' hc' => ?_
      rw [List.mem_singleton.mp hc']
      exact Nat.lt_trans (ho c hc).1 (by decide)
    rw [eqv_nil, h3, hya, mark_empty hlen hP, Bool.not_not]
    refine leaveK_ F3 (fun p hp => N3 p (List.mem_cons_of_mem _ (List.mem_cons_of_mem _ (List.mem_cons_of_mem _ hp)))) ?_
    intro kF kN kK
    exact hret _ [] _ _ ⟨rfl, rfl⟩ kF kN kK
end Mine
end
section
-- part Writers
open PySem PySem.W PyProof.Rows PyProof.Rows.TI PySem.Calls PySem.Spec
set_option maxRecDepth 100000
namespace Mine
/-- a pair of a writer and its signs -/
abbrev pairObj (f : Addr) (x : Str) (t : Tok) : Obj := { cls := .type "tuple", data := .seq #[.ref f, .str x t] }
abbrev sg0 : Str := Str.ofString "&<>"
abbrev sg1 : Str := Str.ofString "&<>\"\r\n\t"
abbrev sg2 : Str := Str.ofString "&>\""
abbrev sg3 : Str := Str.ofString "&<>\r"
abbrev sg4 : Str := Str.ofString "&<\"\t\n\r"
variable {prog : Program} {w : World} {mean : ExcName → Option Value} {mg mb : Str → Option Value} {news : List (Addr × Obj)}
set_option maxHeartbeats 8000000 in
theorem con_writers : Con prog w mean mg mb 1 20 85 news [] (fun v ns => ∃ D a0 a1 a2 a3 a4 t0 t1 t2 t3 t4, v = .ref D ∧
    ns = [(D, listObj #[.ref a0, .ref a1, .ref a2, .ref a3, .ref a4] 0), (a4, pairObj 78 sg4 t4), (a3, pairObj 71 sg3 t3), (a2, pairObj 64 sg2 t2), (a1, pairObj 57 sg1 t1), (a0, pairObj 50 sg0 t0)]) := by
  w_on
  intro A h₀ L m s Q E hh hF hX hN hT hdp hun hret
  refine wpAny_call ?_
  k_dflt (refine' defA ?k2 ?k3 ?k4 ?k5 ?k6 ?k7 ?k8 ?k9 ?kB ?_ ?c2 ?c3 ?c4 ?c5; (case k2 => exact hF); (case k3 => exact hX); (case k4 => exact hN); (case k5 => exact hT); (case k6 => k_is); (case k7 => k_is); (case k8 => omega); (case k9 => exact BindsTo.of_eq rfl); (case c5 => decide); (case kB => exact locs rfl); (case c2 => exact rfl); (case c3 => exact rfl); (case c4 => exact rfl); k_whole)
  intro g L' h1 F1 N1 X T hlt
  replace F1 : Fr g L' h1 (fun y => none) := F1
  refine wpAny_execs_cons (wpAny_Return_some ?_)
  k_steps
  exact hret _ _ _ _ ⟨_, _, _, _, _, _, _, _, _, _, _, rfl, rfl⟩ (by assumption) (by assumption) (by assumption)
end Mine
end
section
-- part Renamed
open PySem PySem.W PyProof.Rows PyProof.Rows.TI PySem.Calls PySem.Spec
set_option maxRecDepth 100000
namespace Mine
def renRel (y : Str) : Str := if lawNum (Txt.partition y dotS).1 < 0 then y else Str.ofString (toString (lawNum (Txt.partition y dotS).1 - 3)) ++ (Txt.partition y dotS).2.1 ++ (Txt.partition y dotS).2.2
def renOf (x y z : Str) : Str × Str × Str :=
  if ([Str.ofString "win32", Str.ofString "win16"].any fun a => a == x) = true then (Str.ofString "Windows", y, z)
  else if (x != Str.ofString "SunOS" || sLt (Txt.item y 0) (Str.ofString "5")) = true then (x, y, z)
  else (Str.ofString "Solaris", renRel y, z)
theorem ren_drop {p a b c d : Addr × Obj} {l : List (Addr × Obj)} (hp : p ∈ [a, b, c] ++ l) : p ∈ a :: b :: c :: d :: l := by
  simp only [List.cons_append, List.nil_append, List.mem_cons] at hp ⊢
  rcases hp with h | h | h | h
  · exact .inl h
  · exact .inr (.inl h)
  · exact .inr (.inr (.inl h))
  · exact .inr (.inr (.inr (.inr h)))
variable {prog : Program} {w : World} {mean : ExcName → Option Value} {mg mb : Str → Option Value} {news : List (Addr × Obj)}
set_option maxHeartbeats 8000000 in
theorem con_renamed {a : Addr} {x y z : Str} {t u v : Tok} (ha : (a, tup3 x y z t u v) ∈ news) (hy : y.length ≤ 40) (hy0 : 0 < y.length) (ho : Okay y) : Con prog w mean mg mb 2 20 99 news [.ref a]
    (fun r ns => ∃ D t1 t2 t3, r = .ref D ∧ (D, tup3 (renOf x y z).1 (renOf x y z).2.1 (renOf x y z).2.2 t1 t2 t3) ∈ ns ++ news) := by
  w_on
  intro A h₀ L m s Q E hh hF hX hN hT hdp hun hret
  obtain ⟨B, rfl⟩ : ∃ B : Around, A = { B with handled := none } := ⟨A, by cases A; cases hh; rfl⟩
  dsimp only at hdp hun
  refine wpAny_call ?_
  k_dflt (refine' defA ?k2 ?k3 ?k4 ?k5 ?k6 ?k7 ?k8 ?k9 ?kB ?_ ?c2 ?c3 ?c4 ?c5; (case k2 => exact hF); (case k3 => exact hX); (case k4 => exact hN); (case k5 => exact hT); (case k6 => k_is); (case k7 => k_is); (case k8 => (dsimp only; omega)); (case k9 => exact BindsTo.of_eq rfl); (case c5 => decide); (case kB => exact locs rfl); (case c2 => exact rfl); (case c3 => exact rfl); (case c4 => exact rfl); k_whole)
  intro g L' h1 F1 N1 X T hlt
  replace F1 : Fr g L' h1 (fun y => List.lookup y [(Str.ofString "record", Value.ref a)]) := F1
  have N2 : News g L' h1 ((a, tup3 x y z t u v) :: news) := fun p hp => by
    rcases List.mem_cons.mp hp with rfl | hp
    · exact N1 _ ha
    · exact N1 p hp
  clear N1
  k_steps
  · have e : renOf x y z = (Str.ofString "Windows", y, z) := by unfold renOf; rw [if_pos (by assumption)]
    refine hret _ [_, _, _, _] _ _ ?_ (by assumption) (by (rename News h₀ L _ _ => kN); exact kN) (by assumption)
    exact ⟨_, _, _, _, rfl, by rw [e]; exact .head _⟩
  · have e : renOf x y z = (x, y, z) := by unfold renOf; rw [if_neg (by simp_all), if_pos (by simp_all)]
    refine hret _ [] _ _ ⟨_, _, _, _, rfl, by rw [e]; exact ha⟩ (by assumption) (fun p hp => ?_) (by assumption)
    (rename News h₀ L _ _ => kN)
    exact kN p (.tail _ (.tail _ (.tail _ hp)))
  · have e : renOf x y z = (x, y, z) := by unfold renOf sLt; rw [if_neg (by simp_all), if_pos (by simp_all)]
    refine hret _ [] _ _ ⟨_, _, _, _, rfl, by rw [e]; exact ha⟩ (by assumption) (fun p hp => ?_) (by assumption)
    (rename News h₀ L _ _ => kN)
    exact kN p (.tail _ (.tail _ (.tail _ hp)))
  · (rename News g L' _ _ => N9)
    (rename Fr g L' _ _ => F9)
    refine con_num (Nat.le_trans (fact_partition y _).1 (Nat.le_trans hy (by decide))) _ _ _ _ _ _ _ rfl F9 X N9 T ?_ ?_ ?_
    · show B.depth + 1 + 1 < _; omega
    · show B.units + 3 + 8 < _; omega
    rintro v ns h8 tk8 ⟨rfl, t8, rfl⟩ F8 N8 _
    refine stN F8 N8 ?_ rfl rfl
    intro h7 F7 N7
    k_steps
    · have e : renOf x y z = (Str.ofString "Solaris", y, z) := by
        unfold renOf sLt renRel dotS
        rw [if_neg (by simp_all), if_neg (by simp_all), if_pos (by assumption)]
      refine hret _ [_, _, _] _ _ ?_ (by assumption) (by (rename News h₀ L _ _ => kN); exact fun p hp => kN p (ren_drop hp)) (by assumption)
      exact ⟨_, _, _, _, rfl, by rw [e]; exact .head _⟩
    · have hp1 := fact_partition y (Str.ofString ".")
      have hlow : ¬ lawNum (Txt.partition y (Str.ofString ".")).1 < 0 := by assumption
      have hup := lawNum_lt (Nat.le_trans hp1.1 hy)
      have e : renOf x y z = (Str.ofString "Solaris", renRel y, z) := by
        unfold renOf sLt
        rw [if_neg (by simp_all), if_neg (by simp_all)]
      have e2 : renRel y = Str.ofString (toString (lawNum (Txt.partition y (Str.ofString ".")).1 - 3)) ++ (Txt.partition y (Str.ofString ".")).2.1 ++ (Txt.partition y (Str.ofString ".")).2.2 := by
        unfold renRel dotS
        rw [if_neg hlow]
      have hl3 : (Str.ofString (toString (lawNum (Txt.partition y (Str.ofString ".")).1 - 3))).length ≤ 1000 := by
        rw [PySem.ofString_length]
        have := int_text_length_le10 (a := lawNum (Txt.partition y (Str.ofString ".")).1 - 3) (k := 101) (by decide) (by omega)
        omega
      refine P.str_of_int (log_small (by omega)) ?_
      dsimp only
      refine ld F7 rfl ?_ rfl rfl
      refine add_str ?_ (by rw [sizeLine_eq]; show (Str.ofString (toString _)).length + _ ≤ _; omega)
      intro t9 tk9
      dsimp only
      refine ld F7 rfl ?_ rfl rfl
      refine add_str ?_ (by rw [sizeLine_eq, PySem.Str.length_append]; show (Str.ofString (toString _)).length + _ + _ ≤ _; omega)
      intro t10 tk10
      dsimp only
      k_steps
      refine hret _ [_, _, _] _ _ ?_ (by assumption) (by (rename News h₀ L _ _ => kN); exact fun p hp => kN p (ren_drop hp)) (by assumption)
      exact ⟨_, _, _, _, rfl, by rw [e, e2]; exact .head _⟩
end Mine
end
section
-- part CompA
open PySem PySem.W PyProof.Rows PyProof.Rows.TI PySem.Calls PySem.Spec
set_option maxRecDepth 100000
namespace Mine
section
variable {prog : Program} {w : World} {A : Around} {E : Value → Shared → Prop} {s : Shared} {env : Env}
/-- a list comprehension over a walked value, its turns quiet, stored under a local name -/
theorem comp_assign {elt iter : Expr} {x y : Str} {px py : Pos} {ifs : List Expr} {scope : Scope} {cl : List (Str × Addr)} {pos spos : Pos} {Q : Flow → Shared → Prop} (p : Value → Bool) (F : Value → Value → Prop)
    (hsw : swapsWith (.ListComp elt [⟨.Name x px, iter, ifs, 0⟩] scope pos) (some (.Name y py)) spos.line env = pure true)
    (hclos : closureFor scope env = pure cl) (hcell : ∀ y ∈ scope.names, y.2 ≠ .cell) (hkind : scope.kind = .function)
    (hnames : ∀ y ∈ scope.names, y.2 = .local → scope.names.lookup y.1 = some .local) (hx : scope.names.lookup x = some .local)
    (hy : env.kindOf y = some .local) (hp : (env.scope.kind == .class || (env.scope.kind == .module && env.locals != env.globals)) = false)
    (h : wpAny (model prog w) A (eval iter env) (fun xv s₁ => ∃ n P g m news, Src prog w A s₁ xv n P ∧ n ≤ sizeLine ∧ Fr g env.locals s₁.heap m ∧ News g env.locals s₁.heap news ∧
      (∀ C i v s₃ m₃ E', s₁.heap.objs.size ≤ C → P i v → s₃.heap.Ns C m₃ → m₃ x = some v → (∀ b o, s₁.heap.get? b = some o → s₃.heap.get? b = some o) →
        wpAny (model prog w) A (forIn ifs true fun c r => if r = true then do let ok ← isTrue c (compEnvC scope cl C env) (eval c (compEnvC scope cl C env)); pure (ForInStep.yield ok) else pure (ForInStep.yield r))
          (fun ok s₄ => ok = p v ∧ Keeps s₃ s₄) E' s₃) ∧
      (∀ C i v s₃ m₃ E', s₁.heap.objs.size ≤ C → P i v → p v = true → s₃.heap.Ns C m₃ → m₃ x = some v → (∀ b o, s₁.heap.get? b = some o → s₃.heap.get? b = some o) →
        wpAny (model prog w) A (eval elt (compEnvC scope cl C env)) (fun y s₄ => F v y ∧ Keeps s₃ s₄) E' s₃) ∧
      (∀ D h' tk ys k (vs : List Value), Fr g env.locals h' (fun z => if z = y then some (.ref D) else m z) → News g env.locals h' ((D, listObj ys k) :: news) → vs.length = n → (∀ j v, vs[j]? = some v → P j v) → Paired F (vs.filter p) ys.toList →
        (∀ b o, s₁.heap.get? b = some o → b ≠ D) → Q .next { s₁ with heap := h', toks := tk })) E s)
    (hs : ∀ x, foldedSetIterable iter env x = pure x := by intro _; rfl) :
    wpAny (model prog w) A (exec (.Assign [.Name y py] (.ListComp elt [⟨.Name x px, iter, ifs, 0⟩] scope pos) spos) env) Q E s := by
  refine wpAny_Assign_ListComp_free p F hsw hclos hcell hkind hnames hx hy hp (wpAny_mono h (fun xv s₁ h₁ => ?_) fun _ _ e => e) hs
  obtain ⟨n, P, g, m, news, hsrc, hsz, Fr1, N1, htests, helt, hQ⟩ := h₁
  refine hsrc _ _ fun fp St h' W hst hk hfp hI => ?_
  have hne : ∀ b o, s₁.heap.get? b = some o → b ∉ [s₁.heap.objs.size] := fun b o e q => by
    rw [List.mem_singleton] at q
    exact absurd (Heap.lt_size e) (by rw [q]; exact Nat.lt_irrefl _)
  have hle : s₁.heap.objs.size ≤ h'.objs.size := Nat.le_of_lt hI
  have hLl : env.locals < s₁.heap.objs.size := by
    obtain ⟨o, _, _, ho, _⟩ := Fr1.ns
    exact Heap.lt_size ho
  refine ⟨_, fp, _, n, P, St, m, rfl, W, hsz, hst, hfp, fun q => absurd hLl (by rw [List.mem_singleton.mp q]; exact Nat.lt_irrefl _), Fr1.ns.keeps hk, ⟨fun C i v s₃ m₃ E' hC hP hn hm hkk _ => htests C i v s₃ m₃ E' (Nat.le_trans hle hC) hP hn hm fun b o e => hkk b o (hne b o e) (hk b o e),
    fun C i v s₃ m₃ E' hC hP hp hn hm hkk _ => helt C i v s₃ m₃ E' (Nat.le_trans hle hC) hP hp hn hm fun b o e => hkk b o (hne b o e) (hk b o e)⟩, fun D h₂ tk ys vs hD _ hpl hlen hPv hF hns hkk => ?_⟩
  obtain ⟨k, hg⟩ := hpl
  have hD1 : s₁.heap.get? D = none := by
    cases e : s₁.heap.get? D with
    | none => rfl
    | some o => rw [hk D o e] at hD; cases hD
  have hnl : ∀ b o, g.get? b = some o → b ≠ env.locals := fun b o e q => absurd (Nat.lt_of_lt_of_le (Heap.lt_size e) Fr1.above) (by rw [q]; exact Nat.lt_irrefl _)
  have hkeep : ∀ b o, b ≠ env.locals → s₁.heap.get? b = some o → h₂.get? b = some o := fun b o hb e => hkk b o hb (hne b o e) (hk b o e)
  refine hQ D h₂ tk ys k vs ⟨hns, fun b o e => hkeep b o (hnl b o e) (Fr1.keep b o e), Fr1.above⟩ (fun q hq => ?_) hlen hPv hF (fun b o e q => by rw [q, hD1] at e; cases e)
  · rcases List.mem_cons.mp hq with rfl | hq
    · refine ⟨hg, fun e => ?_, ?_⟩
      · obtain ⟨o, _, _, ho, _⟩ := Fr1.ns
        rw [← show D = env.locals from e, hD1] at ho; cases ho
      · cases e : g.get? D with
        | none => rfl
        | some o => rw [Fr1.keep _ _ e] at hD1; cases hD1
    · exact ⟨hkeep _ _ (N1 q hq).2.1 (N1 q hq).1, (N1 q hq).2⟩
/-- a call with one argument, the turn's own name, in a turn of a comprehension -/
theorem elt_con {g : Heap} {L C : Addr} {m m₃ mg mb : Str → Option Value} {mean : ExcName → Option Value} {dd uu : Nat} {f : Addr} {v : Value} {s₁ s₃ : Shared} {F : Value → Prop}
    (con : ∀ news, Con prog w mean mg mb dd uu f news [v] (fun r ns => ns = [] ∧ F r)) (hh : A.handled = none) (F1 : Fr g L s₁.heap m) (X : (Mine.hd.heap_39 w.params).In g) (T : Top Mine.hd.view_39 (looseW Mine.hd.view_39 [Str.ofString "_norm_version"]) mean mg mb g)
    (hd : A.depth + dd < recursionLimit) (hu : A.units + uu < cLine) (hC : s₁.heap.objs.size ≤ C) (hn : s₃.heap.Ns C m₃) (hk : ∀ b o, s₁.heap.get? b = some o → s₃.heap.get? b = some o) :
    wpAny (model prog w) A (call (.ref f) [v]) (fun y s₄ => F y ∧ Keeps s₃ s₄) E s₃ := by
  refine con [] A s₁.heap C m₃ s₃ _ _ hh ⟨hn, hk, hC⟩ (X.keeps F1.keep) News.nil (T.keeps F1.keep) hd hu ?_
  rintro v ns h' tk' ⟨rfl, hF⟩ _ _ hst
  exact ⟨hF, h', tk', rfl, fun b o e => hst b o e (by simp)⟩
/-- a built-in's name, in any environment -/
theorem nameB {M : Model} {K : Frag} {h₀ : Heap} {L : Addr} {m mg mb : Str → Option Value} {mean : ExcName → Option Value} {p : Program} {loose : List Str} {x : Str} {pos : Pos} {v : Value} {Q : Value → Shared → Prop} (F : Fr h₀ L s.heap m) (X : K.In h₀) (T : Top p loose mean mg mb h₀)
    (e : nsIn K mainGlobals x = some none) (hv : bootBuiltins x = some v) (h : Q v s) (hn : x ≠ "__name__" := by decide) (hg : env.globals = mainGlobals := by rfl) (hb : env.builtins = builtinsNs := by rfl) (hk : env.scope.kind = .function := by rfl) (hx : env.kindOf x = some .globalImplicit := by rfl) (hd : (x == ("__debug__" : Str)) = false := by decide) :
    wpAny M A (eval (.Name x pos) env) Q E s := Name_function_global hk hx (loadGlobal_builtin (env := env) (by rw [hg]; exact T.g.keeps F.keep) (mg_none_of X T.g e) (by rw [hb]; exact T.b.keeps F.keep) ((T.builtins x hn).trans hv) h) hd
end
end Mine
end
section
-- part Normed
open PySem PySem.W PyProof.Rows PyProof.Rows.TI PySem.Calls PySem.Spec
set_option maxRecDepth 100000
namespace Mine
def numStr (n : Int) : Str := Str.ofString (toString n)
def lnOf (ps : List Str) : Str := Txt.join dotS (if (ps.map lawNum).any (· == -1) = true then ps.take 3 else ((ps.map lawNum).take 3).map numStr)
/-- a part's number, as a value -/
def NumV (v y : Value) : Prop := ∃ x u t, v = .str x u ∧ y = .int (lawNum x) t
def IntV (v : Value) (n : Int) : Prop := ∃ t, v = .int n t
theorem numV_pair : ∀ {vs : List Value} {ps : List Str}, Paired IsStrV vs ps → ∀ {ys : List Value}, Paired NumV vs ys → IntsAre ys (ps.map lawNum) := by
  intro vs ps h
  induction h with
  | nil => intro ys hy; cases hy; exact .nil
  | cons h1 _ ih =>
    intro ys hy
    cases hy with
    | cons h2 h3 =>
      obtain ⟨x, u, t, e1, rfl⟩ := h2
      obtain ⟨t', e2⟩ := h1
      rw [e1] at e2
      cases e2
      exact .cons _ _ (ih h3)
theorem ints_take {vs : List Value} {ns : List Int} (h : IntsAre vs ns) : ∀ k, IntsAre (vs.take k) (ns.take k) := by
  induction h with
  | nil => intro k; simp; exact .nil
  | cons n t _ ih =>
    intro k
    cases k with
    | zero => exact .nil
    | succ k => exact .cons _ _ (ih k)
theorem ints_get {vs : List Value} {ns : List Int} (h : IntsAre vs ns) : ∀ {v : Value}, v ∈ vs → ∃ n t, v = .int n t ∧ n ∈ ns := by
  induction h with
  | nil => intro v hv; cases hv
  | cons n t _ ih =>
    intro v hv
    rcases List.mem_cons.mp hv with rfl | hv
    · exact ⟨n, t, rfl, List.mem_cons_self⟩
    · obtain ⟨n', t', e, hm⟩ := ih hv
      exact ⟨n', t', e, List.mem_cons_of_mem _ hm⟩
def NumT (v y : Value) : Prop := ∃ n u t, v = .int n u ∧ y = .str (numStr n) t
theorem numT_pair {vs : List Value} {ns : List Int} (h : IntsAre vs ns) : ∀ {ys : List Value}, Paired NumT vs ys → StrsAre ys (ns.map numStr) := by
  induction h with
  | nil => intro ys hy; cases hy; exact .nil
  | cons n t _ ih =>
    intro ys hy
    cases hy with
    | cons h2 h3 =>
      obtain ⟨n', u, t', e1, rfl⟩ := h2
      cases e1
      exact .cons _ _ (ih h3)
theorem vals_of {items : Array Value} {vs : List Value} (hlen : vs.length = items.size) (hP : ∀ (j : Nat) v, vs[j]? = some v → items[j]? = some v) : vs = items.toList := by
  apply List.ext_getElem?
  intro j
  cases e : vs[j]? with
  | some v => have := hP j v e; simpa using this.symm
  | none =>
    have h1 : vs.length ≤ j := List.getElem?_eq_none_iff.mp e
    symm
    apply List.getElem?_eq_none_iff.mpr
    simp; omega
theorem filter_true {l : List Value} : l.filter (fun _ => true) = l := by simp
theorem str_at : ∀ {vs : List Value} {ps : List Str} {b : Nat}, Paired IsStrV vs ps → (∀ p ∈ ps, p.length ≤ b) → ∀ {i : Nat} {v : Value}, vs[i]? = some v → ∃ x u, v = .str x u ∧ x.length ≤ b := by
  intro vs ps b h
  induction h with
  | nil => intro _ i v e; simp at e
  | cons h1 _ ih =>
    intro hb i v e
    cases i with
    | zero =>
      obtain ⟨t, rfl⟩ := h1
      cases e
      exact ⟨_, _, rfl, hb _ List.mem_cons_self⟩
    | succ i => exact ih (fun p hp => hb p (List.mem_cons_of_mem _ hp)) (by simpa using e)
theorem con_mono {prog : Program} {w : World} {mean : ExcName → Option Value} {mg mb : Str → Option Value} {dd uu : Nat} {f : Addr} {news : List (Addr × Obj)} {vs : List Value} {R R' : Value → List (Addr × Obj) → Prop}
    (h : Con prog w mean mg mb dd uu f news vs R) (hR : ∀ v ns, R v ns → R' v ns) : Con prog w mean mg mb dd uu f news vs R' :=
  fun A h₀ L m s Q E hh hF hX hN hT hd hu hret => h A h₀ L m s Q E hh hF hX hN hT hd hu fun v ns h' tk' hr => hret v ns h' tk' (hR v ns hr)
theorem lawNum_low (x : Str) : -1 ≤ lawNum x := by
  unfold lawNum
  split
  · omega
  · split
    · omega
    · omega
variable {prog : Program} {w : World} {mean : ExcName → Option Value} {mg mb : Str → Option Value} {news : List (Addr × Obj)}
set_option maxHeartbeats 8000000 in
theorem con_normed {a : Addr} {vs : List Value} {k0 : Nat} {ps : List Str} (ha : (a, listObj vs.toArray k0) ∈ news) (hps : Paired IsStrV vs ps) (hlen : ps.length ≤ 103) (hpl : ∀ p ∈ ps, p.length ≤ 100) : Con prog w mean mg mb 2 100 104 news [.ref a]
    (fun r ns => ns = [] ∧ ∃ t', r = .str (lnOf ps) t') := by
  w_on
  intro A h₀ L m s Q E hh hF hX hN hT hdp hun hret
  refine wpAny_call ?_
  k_dflt (refine' defA ?k2 ?k3 ?k4 ?k5 ?k6 ?k7 ?k8 ?k9 ?kB ?_ ?c2 ?c3 ?c4 ?c5; (case k2 => exact hF); (case k3 => exact hX); (case k4 => exact hN); (case k5 => exact hT); (case k6 => k_is); (case k7 => k_is); (case k8 => omega); (case k9 => exact BindsTo.of_eq rfl); (case c5 => decide); (case kB => exact locs rfl); (case c2 => exact rfl); (case c3 => exact rfl); (case c4 => exact rfl); k_whole)
  intro g L' h1 F1 N1 X T hlt
  replace F1 : Fr g L' h1 (fun y => List.lookup y [(Str.ofString "parts", Value.ref a)]) := F1
  have hl1 : h1.IsList a vs.toArray := ⟨_, (N1 _ ha).1, rfl, _, rfl⟩
  have hvl : vs.length = ps.length := hps.length
  refine wpAny_execs_cons ?_
  refine comp_assign (p := fun _ => true) (F := NumV) (by with_unfolding_all rfl) rfl (by decide) rfl (by decide) rfl rfl rfl ?_
  refine ld F1 rfl ?_ rfl rfl
  refine ⟨_, _, g, _, _, src_list (show (A.deeper _).handled = none from hh) hl1, ?_, F1, N1, ?_, ?_, ?_⟩
  · rw [sizeLine_eq, List.size_toArray]; omega
  · intro C i v s₃ m₃ E' hC hP hn hm hk
    exact wpAny_tests_nil ⟨rfl, s₃.heap, s₃.toks, rfl, fun b o e => e⟩
  · intro C i v s₃ m₃ E' hC hP hp hn hm hk
    refine Call_ ?_
    have F3 : Fr h1 C s₃.heap m₃ := ⟨hn, hk, hC⟩
    refine nameG_fn F3 (X.keeps F1.keep) (T.keeps F1.keep) (by k_is) ?_
    refine callWith_K (X.keeps F1.keep) (by k_is) ?_
    refine args_cons (wpAny_Name (wpAny_loadName_local rfl rfl hn hm ?_) (by decide))
    refine args_nil ?_
    refine ⟨(X.keeps F1.keep).keeps hk, ?_⟩
    obtain ⟨x, u, rfl, hx⟩ := str_at hps hpl (show vs[i]? = some v by simpa using hP)
    refine elt_con (F := NumV (.str x u)) (fun news => con_mono (con_num (Nat.le_trans hx (by decide))) fun r ns hr => ⟨hr.1, ?_⟩) hh F1 X T (by show A.depth + 1 + 1 < _; omega) (by show A.units + 3 + 8 < _; omega) hC hn hk
    obtain ⟨t', rfl⟩ := hr.2
    exact ⟨x, u, t', rfl, rfl⟩
  · intro D h2 tk2 ys k2 vs2 F2 N2 hlen2 hP2 hpair hDn
    rw [filter_true] at hpair
    rw [vals_of hlen2 hP2] at hpair
    have hints := numV_pair hps hpair
    have hyl : ys.toList.length ≤ 103 := by have := hpair.length; simp only [List.toList_toArray] at this; omega
    have hl2 : h2.IsList a vs.toArray := ⟨_, (N2 _ (List.mem_cons_of_mem _ ha)).1, rfl, _, rfl⟩
    have hD2 : h2.IsList D ys.toList.toArray := ⟨_, (N2 _ List.mem_cons_self).1, rfl, k2, by simp⟩
    dsimp only
    refine wpAny_execs_cons (wpAny_Return_some (MethodCall_ (Calls.Constant_str ?_)))
    walk1
    walk1
    refine args_cons ?_
    walk1
    refine wpAny_isTrue_Compare1 ?_
    walk1
    refine wpAny_Constant_int ?_
    walk1
    refine ld F2 rfl ?_ rfl rfl
    refine in_list_ints hD2 hints ?_
    refine wpAny_truthy_bool ?_
    split
    · rename_i hany
      walk1
      refine ld F2 rfl ?_ rfl rfl
      walk1
      walk1
      walk1
      refine wpAny_Constant_int ?_
      walk1
      dsimp only
      refine slice_list (s := { s with heap := h2, toks := _ }) (value := _) (slice := _) F2 N2 hl2 .none (.int _ _) ?_ (by with_unfolding_all rfl) (by intro _; with_unfolding_all rfl) (by simp only [List.size_toArray]; rw [sizeLine_eq]; omega)
      intro h6 F6 N6
      refine args_nil ?_
      have e3 : slicePick vs.toArray none (some 3) none = (vs.take 3).toArray := slicePick_upto' vs.toArray 3
      rw [e3] at N6
      have hl6 := News.isList N6 (.head _)
      have hpt := (paired_strs (paired_take hps 3))
      refine join_list hl6 hpt ?_ ?_
      · have h1 := sum_le_of (l := ps.take 3) (k := 100) fun a ha => hpl a (List.mem_of_mem_take ha)
        have h2 : (ps.take 3).length ≤ 3 := by rw [List.length_take]; omega
        have e4 : (Str.ofString ".").length = 1 := by decide
        rw [e4]
        omega
      intro t7 k7
      refine leaveK_ F6 (fun p hp => N6 p (List.mem_cons_of_mem _ (List.mem_cons_of_mem _ hp))) ?_
      intro kF kN kK
      exact hret _ [] _ _ ⟨rfl, _, by unfold lnOf; rw [if_pos hany]; rfl⟩ kF kN kK
    · rename_i hany
      refine comp_src (p := fun _ => true) (F := NumT) rfl (by decide) rfl (by decide) rfl ?_
      walk1
      refine ld F2 rfl ?_ rfl rfl
      walk1
      walk1
      walk1
      refine wpAny_Constant_int ?_
      walk1
      dsimp only
      refine slice_list (s := { s with heap := h2, toks := _ }) (value := _) (slice := _) F2 N2 hD2 .none (.int _ _) ?_ (by with_unfolding_all rfl) (by intro _; with_unfolding_all rfl) (by simp only [List.size_toArray]; rw [sizeLine_eq]; omega)
      intro h6 F6 N6
      have e3 : slicePick ys.toList.toArray none (some 3) none = (ys.toList.take 3).toArray := slicePick_upto' ys.toList.toArray 3
      rw [e3] at N6
      have hl6 := News.isList N6 (.head _)
      have hint3 := ints_take hints 3
      refine ⟨_, _, src_list (show (A.deeper _).handled = none from hh) hl6, ?_, ?_, ?_, ?_⟩
      · rw [sizeLine_eq, List.size_toArray, List.length_take]; omega
      · intro C i v s₃ m₃ E' hC hP hn hm hk
        exact wpAny_tests_nil ⟨rfl, s₃.heap, s₃.toks, rfl, fun b o e => e⟩
      · intro C i v s₃ m₃ E' hC hP hp hn hm hk
        have hmem : v ∈ ys.toList.take 3 := List.mem_of_getElem? (i := i) (by simpa using hP)
        obtain ⟨n, u, rfl, hn3⟩ := ints_get hint3 hmem
        obtain ⟨p, hp, rfl⟩ := List.mem_map.mp (List.mem_of_mem_take hn3)
        have hlow := lawNum_low p
        have hup := lawNum_lt (hpl p hp)
        refine Call_ ?_
        have F3 : Fr h6 C s₃.heap m₃ := ⟨hn, hk, hC⟩
        refine nameB F3 (X.keeps F6.keep) (T.keeps F6.keep) (by k_is) boot_str ?_
        walk1
        refine args_cons (wpAny_Name (wpAny_loadName_local rfl rfl hn hm ?_) (by decide))
        refine args_nil ?_
        refine P.str_of_int (log_small (by omega)) ?_
        exact ⟨⟨_, _, _, rfl, rfl⟩, s₃.heap, _, rfl, fun b o e => e⟩
      · intro D2 h7 tk7 zs k7 vs7 hD7 hg7 hlen7 hP7 hpair7 hk7
        rw [filter_true, vals_of hlen7 hP7] at hpair7
        obtain ⟨F7, N7⟩ := comp_led F6 N6 hD7 hg7 hk7
        have hz := numT_pair hint3 (by simpa using hpair7)
        have hl7 : h7.IsList D2 zs := ⟨_, hg7, rfl, _, rfl⟩
        dsimp only
        refine args_nil ?_
        refine join_list hl7 hz ?_ ?_
        · have h1 := sum_le_of (l := ((ps.map lawNum).take 3).map numStr) (k := 1000) fun a ha => by
            obtain ⟨n, hn, rfl⟩ := List.mem_map.mp ha
            obtain ⟨p, hp, rfl⟩ := List.mem_map.mp (List.mem_of_mem_take hn)
            have hlow := lawNum_low p
            have hup := lawNum_lt (hpl p hp)
            unfold numStr
            rw [PySem.ofString_length]
            have := int_text_length_le10 (a := lawNum p) (k := 101) (by decide) (by omega)
            omega
          have h2 : (((ps.map lawNum).take 3).map numStr).length ≤ 3 := by rw [List.length_map, List.length_take]; omega
          have e4 : (Str.ofString ".").length = 1 := by decide
          rw [e4]
          omega
        intro t8 k8
        refine leaveK_ F7 (fun p hp => N7 p (List.mem_cons_of_mem _ (List.mem_cons_of_mem _ (List.mem_cons_of_mem _ hp)))) ?_
        intro kF kN kK
        exact hret _ [] _ _ ⟨rfl, _, by unfold lnOf; rw [if_neg hany]; rfl⟩ kF kN kK
end Mine
end
section
-- part CForV
open PySem PySem.W PyProof.Rows PySem.Calls
open Sem (wp)
set_option maxRecDepth 100000
namespace Mine
section
variable {prog : Program} {w : World} {A : Around} {E : Value → Shared → Prop} {s : Shared} {env : Env} {R : Result → Shared → Prop}
variable {h₀ : Heap} {m : Str → Option Value} {news : List (Addr × Obj)}
/-- how a turn ends: the locals and the ledger as the invariant says, or by a return -/
def TurnV (s : Shared) (h₀ : Heap) (L : Addr) (p : Addr × Obj) (J : (Str → Option Value) → List (Addr × Obj) → Prop) (Q : Flow → Shared → Prop) (f : Flow) (s₂ : Shared) : Prop :=
  (f = .next ∧ ∃ h' tk m₂ ns, s₂ = { s with heap := h', toks := tk } ∧ Fr h₀ L h' m₂ ∧ News h₀ L h' (p :: ns) ∧ J m₂ ns) ∨ (∃ r, f = .ret r ∧ Q (.ret r) s₂)
/-- a for under the caller, its ledger turning -/
theorem for_walkV {target : PySem.Expr} {body : List Stmt} {I : Addr} {fp : List Addr} {n : Nat} {P : Nat → Value → Prop} {St : Nat → Heap → Prop} (as : List Addr)
    (J : Nat → (Str → Option Value) → List (Addr × Obj) → Prop) (hJa : ∀ i m ns, J i m ns → ns.map (·.1) = as)
    (W : Walks prog w A I fp [I] n P St) (hal : ∀ i h, St i h → ∃ o, h.get? I = some o) (hfp : ∀ b ∈ fp, b = I ∨ ∃ ob, ∀ i m ns, J i m ns → (b, ob) ∈ ns)
    (hlet : ∀ i v (s₁ : Shared) (Q : Unit → Shared → Prop) E, P i v → St (i + 1) s₁.heap → Q () s₁ → wpAny (model prog w) A (letOwnedTupleGo target (.ref I) v) Q E s₁)
    (hIL : I ≠ env.locals) (hI0 : h₀.get? I = none) (hIn : I ∉ as)
    (hst : St 0 s.heap) (F : Fr h₀ env.locals s.heap m) (N : News h₀ env.locals s.heap news) (h0 : J 0 m news)
    (step : ∀ i v m₁ ns s₁ o, i < n → P i v → J i m₁ ns → (∃ h' tk', s₁ = { s with heap := h', toks := tk' }) → Fr h₀ env.locals s₁.heap m₁ → News h₀ env.locals s₁.heap ((I, o) :: ns) →
      wpC (model prog w) A (assign target env v) (fun _ s₂ => wpC (model prog w) A (execs body env) (TurnV s h₀ env.locals (I, o) (J (i + 1)) (fun f s' => R (.ok f) s')) (fun _ _ => False) s₂) (fun _ _ => False) s₁)
    (hR : ∀ h' tk m' ns, Fr h₀ env.locals h' m' → News h₀ env.locals h' ns → J n m' ns → R (.ok .next) { s with heap := h', toks := tk }) :
    codeC (model prog w) A (.forLoop target (.ref I) body [] env) R s := by
  have hnm : ∀ b, b ≠ I → b ∉ [I] := fun b hb e => hb (List.mem_singleton.mp e)
  have hne : ∀ i m ns, J i m ns → ∀ p ∈ ns, p.1 ≠ I := fun i m ns hJ p hp q => hIn (by rw [← hJa i m ns hJ, ← q]; exact List.mem_map_of_mem hp)
  refine codeC_for
    (fun k s' => ∃ h' tk m' i ns, s' = { s with heap := h', toks := tk } ∧ St i h' ∧ Fr h₀ env.locals h' m' ∧ News h₀ env.locals h' ns ∧ J i m' ns ∧ i ≤ n ∧ k = n + 1 - i) ?_ (n + 1)
    ⟨s.heap, s.toks, m, 0, news, rfl, hst, F, N, h0, Nat.zero_le _, rfl⟩
  rintro k s' ⟨h', tk, m', i, ns, rfl, hst', F', N', hJ, hi, rfl⟩
  have next : ∀ h₁ : Heap, (∀ b o, b ∉ [I] → h'.get? b = some o → h₁.get? b = some o) → Fr h₀ env.locals h₁ m' ∧ News h₀ env.locals h₁ ns := fun h₁ hk₁ =>
    ⟨⟨F'.ns.at' fun o e => hk₁ _ o (hnm _ (Ne.symm hIL)) e, fun b o e => hk₁ b o (hnm _ (by rintro rfl; rw [hI0] at e; cases e)) (F'.keep b o e), F'.above⟩, fun p hp => ⟨hk₁ _ _ (hnm _ (hne i m' ns hJ p hp)) (N' p hp).1, (N' p hp).2⟩⟩
  by_cases hlt : i < n
  · refine W.item i _ _ _ hlt hst' fun u h₁ tk₁ hP hst₁ hk₁ => ?_
    obtain ⟨F₁, N₁⟩ := next h₁ hk₁
    obtain ⟨o, ho⟩ := hal _ _ hst₁
    refine hlet i u _ _ _ hP hst₁ ?_
    have N₃ : News h₀ env.locals h₁ ((I, o) :: ns) := fun p hp => by
      rcases List.mem_cons.mp hp with rfl | hp
      · exact ⟨ho, hIL, hI0⟩
      · exact N₁ p hp
    refine wpC_mono (step i u m' ns { s with heap := h₁, toks := tk₁ } o hlt hP hJ ⟨h₁, _, rfl⟩ F₁ N₃) (fun _ s₂ h₂ => wpC_mono h₂ (fun f s₃ h₃ => ?_) fun _ _ e => e) fun _ _ e => e
    rcases h₃ with ⟨rfl, h₃', tk₃, m₂, ns₃, rfl, F₃, N₃', hJ₃⟩ | ⟨r, rfl, hq⟩
    · refine ⟨n + 1 - (i + 1), by omega, h₃', tk₃, m₂, i + 1, ns₃, rfl, W.frame _ h₁ _ hst₁ fun b hb ob e => ?_, F₃, fun p hp => N₃' p (List.mem_cons_of_mem _ hp), hJ₃, hlt, rfl⟩
      rcases hfp b hb with rfl | ⟨ob', hm⟩
      · rw [ho] at e; cases e; exact (N₃' _ List.mem_cons_self).1
      · have e1 := (N₁ _ (hm _ _ _ hJ)).1
        rw [e] at e1
        cases e1
        exact (N₃' _ (List.mem_cons_of_mem _ (hm _ _ _ hJ₃))).1
    · exact hq
  · have hsz : i = n := Nat.le_antisymm hi (Nat.le_of_not_lt hlt)
    subst hsz
    refine W.done _ _ _ hst' fun h₁ tk₁ hk₁ => ?_
    obtain ⟨F₁, N₁⟩ := next h₁ hk₁
    exact hR h₁ tk₁ m' ns F₁ N₁ hJ
end
end Mine
end
section
-- part HDefs
open PySem PySem.W PyProof.Rows PyProof.Rows.TI PySem.Calls PySem.Spec
set_option maxRecDepth 100000
namespace Mine
def isDict (o : Obj) : Bool := match o.data with | .dict _ _ => true | _ => false
theorem frs_dict : ∀ {l : List Env} {frs : List (Addr × Obj)}, Frs l frs → ∀ q ∈ frs, ∃ es ep, q.2.data = .dict es ep
  | [], [], _, q, hq => by cases hq
  | [], _ :: _, h, _, _ => h.elim
  | _ :: _, [], h, _, _ => h.elim
  | _ :: _, p :: frs, h, q, hq => by
    rcases List.mem_cons.mp hq with rfl | hq
    · exact h.2.2.1
    · exact frs_dict h.2.2.2 q hq
theorem hap_cons {g h : Heap} {L : Addr} {l : List Env} {frs objs : List (Addr × Obj)} {p : Addr × Obj} (Fs : Frs l frs) (N : News g L h ((p :: objs) ++ frs)) (hd : isDict p.2 = false) (hap : ∀ p ∈ objs, p.1 ∉ L :: frs.map (·.1)) :
    ∀ q ∈ p :: objs, q.1 ∉ L :: frs.map (·.1) := fun q hq hm => by
  rcases List.mem_cons.mp hq with rfl | hq
  · rcases List.mem_cons.mp hm with e | hm
    · exact (N q List.mem_cons_self).2.1 e
    · obtain ⟨q', hq', e⟩ := List.mem_map.mp hm
      obtain ⟨es, ep, e2⟩ := frs_dict Fs q' hq'
      have h1 := (N q List.mem_cons_self).1
      have h2 := (N q' (List.mem_append_right _ hq')).1
      rw [e, h1] at h2
      rw [Option.some.inj h2] at hd
      unfold isDict at hd
      rw [e2] at hd
      cases hd
  · exact hap q hq hm
theorem hap_base {L L' : Addr} {oL : Obj} {news frs : List (Addr × Obj)} (hap : ∀ p ∈ news, p.1 ∉ L :: frs.map (·.1)) (hlt : ∀ p ∈ news ++ (L, oL) :: frs, p.1 < L') : ∀ p ∈ news, p.1 ∉ L' :: ((L, oL) :: frs).map (·.1) := fun p hp hm => by
  rcases List.mem_cons.mp hm with e | hm
  · exact absurd (hlt p (List.mem_append_left _ hp)) (by rw [e]; exact Nat.lt_irrefl _)
  · exact hap p hp hm
theorem news_tl {g h : Heap} {L : Addr} {p : Addr × Obj} {l : List (Addr × Obj)} (N : News g L h (p :: l)) : News g L h l := fun q hq => N q (List.mem_cons_of_mem _ hq)
def holdsM (x y z b : Str) (r : Value) (bt : Tok) (d : Value) (t4 t6 tf : Tok) (p : Value) : Str → Option Value := fun a =>
  if a = Str.ofString "parts" then some p else if a = Str.ofString "first" then some (.str (Txt.partition y (Str.ofString ".")).1 tf) else if a = Str.ofString "named" then some (.str (unkOf x) t6)
  else if a = Str.ofString "normed" then some (.str (normOf z b) t4) else if a = Str.ofString "renamed" then some d else if a = Str.ofString "build" then some (.str b bt) else if a = Str.ofString "record" then some r else none
structure Kept (P : Prop) : Prop where
  of ::
  out : P
theorem str_ne {b : Str} : (b != Str.ofString "") = decide (b.length ≠ 0) := by
  have e0 : Str.ofString "" = ⟨#[]⟩ := by decide
  rw [e0]
  cases b with
  | mk arr =>
    cases arr with
    | mk l =>
      cases l with
      | nil => rfl
      | cons z l =>
        have h1 : ((⟨⟨z :: l⟩⟩ : Str) != ⟨#[]⟩) = true := by simp
        rw [h1]
        symm
        apply decide_eq_true
        show (z :: l).length ≠ 0
        simp
theorem parts_pair {z b : Str} {bt : Tok} {l : List (Str × Tok)} (hl : List.map (fun x => x.fst) l = Txt.split z (Str.ofString ".")) (hb : (b != Str.ofString "") = true) : Paired IsStrV (strValues l ++ [Value.str b bt]) (partsOf z b) := by
  unfold partsOf dotS
  rw [str_ne] at hb
  rw [if_neg (of_decide_eq_true hb), ← hl]
  exact Paired.snoc (paired_values l) ⟨bt, rfl⟩
theorem parts_pair0 {z b : Str} {l : List (Str × Tok)} (hl : List.map (fun x => x.fst) l = Txt.split z (Str.ofString ".")) (hb : (b != Str.ofString "") = false) : Paired IsStrV (strValues l) (partsOf z b) := by
  unfold partsOf dotS
  rw [str_ne] at hb
  have hb := of_decide_eq_false hb
  rw [if_pos (by omega), ← hl, List.append_nil]
  exact paired_values l
theorem news_app {g h : Heap} {L : Addr} {a l : List (Addr × Obj)} (N : News g L h (a ++ l)) : News g L h l := fun q hq => N q (List.mem_append_right _ hq)
theorem shaped3 {a b c : Str} (ha : PyData.strOk a = true) (hb : PyData.strOk b = true) (hc : PyData.strOk c = true) : SeqAt.shaped (.tuple (([a, b, c] : List Str).map PyData.str)) = true := shaped_tuple fun z hz => by
  simp only [List.mem_cons, List.not_mem_nil, or_false] at hz
  rcases hz with rfl | rfl | rfl <;> assumption
theorem unk_no1 {x : Str} (h : (x == Str.ofString "unknown") = true) : ¬ (unkOf x != Str.ofString "") = true := by
  unfold unkOf
  rw [if_pos h, bne_self_eq_false]
  decide
theorem unk_no2 {x : Str} (h : (x == Str.ofString "unknown") = false) : ¬ (unkOf x != x) = true := by
  unfold unkOf
  rw [if_neg (by rw [h]; decide), bne_self_eq_false]
  decide
def SOk (s : Str) : Prop := PyData.strOk s = true
def firstOf (y : Str) : Str := (Txt.partition y (Str.ofString ".")).1
def fstIn (y sg : Str) : Bool := !(Builtin.Str.occurrences sg (Txt.item y 0) 0 sg.length 1).isEmpty
/-- what the law says is due of a written record -/
def dueOf (W : Str → Str) (sg x y z : Str) : Str × Str × Str :=
  if ((aliasOf x y z).1 == Str.ofString "Solaris") = true then
    (if fstIn y sg = true then (W x, W y, W z)
    else if 0 ≤ lawNum (firstOf y) ∧ markOf (firstOf y) sg = true then (Str.ofString "Solaris", W y, W z)
    else (W (aliasOf x y z).1, W (aliasOf x y z).2.1, W (aliasOf x y z).2.2))
  else (W (aliasOf x y z).1, W (aliasOf x y z).2.1, W (aliasOf x y z).2.2)
def plainOf (z b : Str) : Bool := !((partsOf z b).map lawNum).any (· == -1)
def toldOf (W : Str → Str) (sg z b : Str) : Str :=
  if plainOf z b = true then (if markOf (z ++ b) sg = true then Txt.join dotS (((partsOf z b).take 3).map W) else W (normOf z b)) else W (normOf z b)
structure TurnOk (W : Str → Str) (sg x y z b : Str) : Prop where
  ly : (W y).length ≤ 100
  oy : Okay (W y)
  lz : (W z).length ≤ 100
  oz : Okay (W z)
  lb : (W b).length ≤ 100
  ob : Okay (W b)
  lp : ∀ p ∈ partsOf z b, (W p).length ≤ 1000
  s1 : SOk (dueOf W sg x y z).1
  s2 : SOk (dueOf W sg x y z).2.1
  s3 : SOk (dueOf W sg x y z).2.2
  ali : aliasOf (W x) (W y) (W z) = dueOf W sg x y z
  norm : normOf (W z) (W b) = toldOf W sg z b
  unk : unkOf (W x) = W (unkOf x)
def writers : List (Addr × (Str → Str) × Str) := [(50, escT tab0, sg0), (57, escT tab1, sg1), (64, escT tab2, sg2), (71, escT tab3, sg3), (78, escT tab4, sg4)]
structure RecOk (x y z b : Str) : Prop where
  lx : x.length ≤ 40
  ly : y.length ≤ 10
  lz : z.length ≤ 10
  lb : b.length ≤ 10
  y0 : 0 < y.length
  oy : Okay y
  oz : Okay z
  ob : Okay b
  l1 : (aliasOf x y z).1.length ≤ 40
  l2 : (aliasOf x y z).2.1.length ≤ 40
  l3 : (aliasOf x y z).2.2.length ≤ 40
  ln : (normOf z b).length ≤ 40
  s1 : SOk (aliasOf x y z).1
  s2 : SOk (aliasOf x y z).2.1
  s3 : SOk (aliasOf x y z).2.2
  ali : aliasOf x y z = renOf x y z
  norm : normOf z b = lnOf (partsOf z b)
  turns : ∀ q ∈ writers, TurnOk q.2.1 q.2.2 x y z b
theorem eqv_strs : ∀ zs : List Str, PyData.eqvAll (zs.map PyData.str) (zs.map PyData.str) = true
  | [] => rfl
  | z :: zs => by
    have ih := eqv_strs zs
    simp [PyData.eqvAll, PyData.eqv, ih]
theorem eqv_tup (zs : List Str) : PyData.eqv (.tuple (zs.map PyData.str)) (.tuple (zs.map PyData.str)) = true := eqv_strs zs
section
variable {α : Type} {p a i w a4 a3 a2 a1 a0 b d r c : α} {n f : List α}
theorem led1 (h : p ∈ b :: d :: r :: c :: ((i :: w :: a4 :: a3 :: a2 :: a1 :: a0 :: n) ++ f)) : p ∈ [a, i, w, a4, a3, a2, a1, a0, b, d, r] ++ c :: (n ++ f) := by
  simp only [List.cons_append, List.mem_cons, List.nil_append] at h ⊢
  grind
theorem led2 (h : p ∈ w :: a4 :: a3 :: a2 :: a1 :: a0 :: (n ++ f)) : p ∈ [a, i, w, a4, a3, a2, a1, a0, b, d, r] ++ c :: (n ++ f) := by
  simp only [List.cons_append, List.mem_cons, List.nil_append] at h ⊢
  grind
theorem led3 (h : p ∈ i :: w :: a4 :: a3 :: a2 :: a1 :: a0 :: b :: d :: r :: c :: (n ++ f)) : p ∈ b :: d :: r :: c :: ((i :: w :: a4 :: a3 :: a2 :: a1 :: a0 :: n) ++ f) := by
  simp only [List.cons_append, List.mem_cons] at h ⊢
  grind
theorem led4 (h : p ∈ b :: d :: i :: n) : p ∈ i :: b :: d :: n := by
  simp only [List.mem_cons] at h ⊢
  grind
theorem led5 (h : p ∈ i :: b :: d :: n) : p ∈ a :: b :: d :: i :: n := by
  simp only [List.mem_cons] at h ⊢
  grind
theorem led6 (h : p ∈ [a, b, d, r, c]) : p ∈ [a, i, w, b, d] ++ [r, c] := by
  simp only [List.cons_append, List.mem_cons, List.nil_append, List.not_mem_nil, or_false] at h ⊢
  grind
end
end Mine
end
section
-- part HEnd
open PySem PySem.W PyProof.Rows PyProof.Rows.TI PySem.Calls PySem.Spec
set_option maxRecDepth 100000
namespace Mine
theorem known {α : Type} {C : Prop} {x : Option α} {a a' : α} (h1 : x = some a) (h2 : x = some a') (k : a = a' → C) : C := k (Option.some.inj (h1.symm.trans h2))
theorem news_lt {g h : Heap} {L : Addr} {l : List (Addr × Obj)} (N : News g L h l) : ∀ p ∈ l, p.1 < h.objs.size := fun p hp => Heap.lt_size (N p hp).1
theorem ref5 {a0 a1 a2 a3 a4 : Addr} {i : Nat} {v : Value} (h : #[Value.ref a0, .ref a1, .ref a2, .ref a3, .ref a4][i]? = some v) : ∃ a, v = .ref a := by
  have hm : v ∈ [Value.ref a0, .ref a1, .ref a2, .ref a3, .ref a4] := List.mem_of_getElem? (i := i) (by simpa using h)
  simp only [List.mem_cons, List.not_mem_nil, or_false] at hm
  rcases hm with rfl | rfl | rfl | rfl | rfl <;> exact ⟨_, rfl⟩
theorem pair5 {a0 a1 a2 a3 a4 : Addr} {u0 u1 u2 u3 u4 : Tok} {i : Nat} {v : Value} (h : #[Value.ref a0, .ref a1, .ref a2, .ref a3, .ref a4][i]? = some v) :
    ∃ q ∈ writers, ∃ a u, v = .ref a ∧ (a, pairObj q.1 q.2.2 u) ∈ [(a4, pairObj 78 sg4 u4), (a3, pairObj 71 sg3 u3), (a2, pairObj 64 sg2 u2), (a1, pairObj 57 sg1 u1), (a0, pairObj 50 sg0 u0)] := by
  have hm : v ∈ [Value.ref a0, .ref a1, .ref a2, .ref a3, .ref a4] := List.mem_of_getElem? (i := i) (by simpa using h)
  simp only [List.mem_cons, List.not_mem_nil, or_false] at hm
  rcases hm with rfl | rfl | rfl | rfl | rfl
  · exact ⟨(50, escT tab0, sg0), .head _, a0, u0, rfl, .tail _ (.tail _ (.tail _ (.tail _ (.head _))))⟩
  · exact ⟨(57, escT tab1, sg1), .tail _ (.head _), a1, u1, rfl, .tail _ (.tail _ (.tail _ (.head _)))⟩
  · exact ⟨(64, escT tab2, sg2), .tail _ (.tail _ (.head _)), a2, u2, rfl, .tail _ (.tail _ (.head _))⟩
  · exact ⟨(71, escT tab3, sg3), .tail _ (.tail _ (.tail _ (.head _))), a3, u3, rfl, .tail _ (.head _)⟩
  · exact ⟨(78, escT tab4, sg4), .tail _ (.tail _ (.tail _ (.tail _ (.head _)))), a4, u4, rfl, .head _⟩
theorem writer_con {prog : Program} {w : World} {mean : ExcName → Option Value} {mg mb : Str → Option Value} {q : Addr × (Str → Str) × Str} (hq : q ∈ writers) : ∀ (x : Str) (t : Tok), x.length ≤ 40 → ∀ news, Con prog w mean mg mb 1 8 q.1 news [.str x t] (fun v ns => ns = [] ∧ ∃ t', v = .str (q.2.1 x) t') := by
  unfold writers at hq
  simp only [List.mem_cons, List.not_mem_nil, or_false] at hq
  rcases hq with rfl | rfl | rfl | rfl | rfl
  · exact fun x t hx news => con_esc0 hx
  · exact fun x t hx news => con_esc1 hx
  · exact fun x t hx news => con_esc2 hx
  · exact fun x t hx news => con_esc3 hx
  · exact fun x t hx news => con_esc4 hx
theorem writer_keep {w : World} {q : Addr × (Str → Str) × Str} (hq : q ∈ writers) : keepIn (Mine.hd.heap_39 w.params) (.ref q.1) = true := by
  w_on
  unfold writers at hq
  simp only [List.mem_cons, List.not_mem_nil, or_false] at hq
  rcases hq with rfl | rfl | rfl | rfl | rfl <;> (dsimp only; k_is)
variable {prog : Program} {w : World} {mean : ExcName → Option Value} {mg mb : Str → Option Value} {news : List (Addr × Obj)}
/-- the locals in the loop over the writers -/
def loopM (q1 q2 q3 q4 : Option Value) (pl : Bool) (base : Str → Option Value) : Str → Option Value := fun a =>
  if a = Str.ofString "told" then q1 else if a = Str.ofString "due" then q2 else if a = Str.ofString "written" then q3 else if a = Str.ofString "signs" then q4 else if a = Str.ofString "plain" then some (.bool pl) else base a
theorem loopM_signs {q1 q2 q3 q4 : Option Value} {pl : Bool} {base : Str → Option Value} {v : Value} : (fun a => if a = Str.ofString "signs" then some v else loopM q1 q2 q3 q4 pl base a) = loopM q1 q2 q3 (some v) pl base := by
  funext a
  unfold loopM
  by_cases h : a = Str.ofString "signs"
  · subst h; rfl
  · simp only [if_neg h]
theorem loopM_written {q1 q2 q3 q4 : Option Value} {pl : Bool} {base : Str → Option Value} {v : Value} : (fun a => if a = Str.ofString "written" then some v else loopM q1 q2 q3 q4 pl base a) = loopM q1 q2 (some v) q4 pl base := by
  funext a
  unfold loopM
  by_cases h : a = Str.ofString "written"
  · subst h; rfl
  · simp only [if_neg h]
theorem loopM_due {q1 q2 q3 q4 : Option Value} {pl : Bool} {base : Str → Option Value} {v : Value} : (fun a => if a = Str.ofString "due" then some v else loopM q1 q2 q3 q4 pl base a) = loopM q1 (some v) q3 q4 pl base := by
  funext a
  unfold loopM
  by_cases h : a = Str.ofString "due"
  · subst h; rfl
  · simp only [if_neg h]
theorem loopM_told {q1 q2 q3 q4 : Option Value} {pl : Bool} {base : Str → Option Value} {v : Value} : (fun a => if a = Str.ofString "told" then some v else loopM q1 q2 q3 q4 pl base a) = loopM (some v) q2 q3 q4 pl base := by
  funext a
  unfold loopM
  by_cases h : a = Str.ofString "told"
  · subst h; rfl
  · simp only [if_neg h]
def isCell (o : Obj) : Bool := match o.data with | .cell _ => true | _ => false
theorem cell_apart {g h : Heap} {L c : Addr} {l : List (Addr × Obj)} {oc : Obj} {ov : Option Value} (N : News g L h l) (hov : oc.data = .cell ov) (hc : (c, oc) ∈ l) (p : Addr × Obj) (hp : p ∈ l) (hd : isCell p.2 = false) : p.1 ≠ c := fun e => by
  have h1 := (N _ hc).1
  have h2 := (N _ hp).1
  rw [e, h1] at h2
  rw [← Option.some.inj h2] at hd
  unfold isCell at hd
  rw [hov] at hd
  cases hd
/-- a text as a writer writes it -/
def WrV (W : Str → Str) (v y : Value) : Prop := ∃ x t t', v = .str x t ∧ y = .str (W x) t'
theorem wr3 {W : Str → Str} {a b c : Str} {t u v : Tok} {vs : List Value} {ys : Array Value} (hvs : vs = [Value.str a t, .str b u, .str c v]) (h : Paired (WrV W) vs ys.toList) : ∃ ta tb tc, ys = #[.str (W a) ta, .str (W b) tb, .str (W c) tc] := by
  subst hvs
  obtain ⟨l⟩ := ys
  cases h with
  | cons h1 h =>
    cases h with
    | cons h2 h =>
      cases h with
      | cons h3 h =>
        cases h
        obtain ⟨_, _, ta, e1, rfl⟩ := h1
        obtain ⟨_, _, tb, e2, rfl⟩ := h2
        obtain ⟨_, _, tc, e3, rfl⟩ := h3
        cases e1; cases e2; cases e3
        exact ⟨ta, tb, tc, rfl⟩
theorem str3 {a b c : Str} {t u v : Tok} {i : Nat} {y : Value} (h : #[Value.str a t, .str b u, .str c v][i]? = some y) (ha : a.length ≤ 40) (hb : b.length ≤ 40) (hc : c.length ≤ 40) : ∃ x t, y = .str x t ∧ x.length ≤ 40 := by
  have hm : y ∈ [Value.str a t, .str b u, .str c v] := List.mem_of_getElem? (i := i) (by simpa using h)
  simp only [List.mem_cons, List.not_mem_nil, or_false] at hm
  rcases hm with rfl | rfl | rfl
  · exact ⟨_, _, rfl, ha⟩
  · exact ⟨_, _, rfl, hb⟩
  · exact ⟨_, _, rfl, hc⟩
theorem app_okay {a b : Str} (ha : Okay a) (hb : Okay b) : Okay (a ++ b) := fun c hc => by
  simp only [Str.cps_append, Array.toList_append, List.mem_append] at hc
  rcases hc with h | h
  · exact ha c h
  · exact hb c h
theorem parts_short {z b : Str} (hz : z.length ≤ 10) (hb : b.length ≤ 10) : ∀ p ∈ partsOf z b, p.length ≤ 10 := fun p hp => by
  unfold partsOf at hp
  rcases List.mem_append.mp hp with hp | hp
  · exact Nat.le_trans (part_short hp) hz
  · split at hp
    · cases hp
    · rw [List.mem_singleton.mp hp]; exact hb
theorem wr_strs {W : Str → Str} : ∀ {vs : List Value} {ps : List Str}, Paired IsStrV vs ps → ∀ {ys : List Value}, Paired (WrV W) vs ys → StrsAre ys (ps.map W) := by
  intro vs ps h
  induction h with
  | nil => intro ys hy; cases hy; exact .nil
  | cons h1 _ ih =>
    intro ys hy
    cases hy with
    | cons h2 h3 =>
      obtain ⟨x, u, t, e1, rfl⟩ := h2
      obtain ⟨t', e2⟩ := h1
      rw [e1] at e2
      cases e2
      exact .cons _ _ (ih h3)
theorem unk_len {x : Str} (h : x.length ≤ 40) : (unkOf x).length ≤ 40 := by
  unfold unkOf
  split
  · decide
  · exact h
theorem part_mem {y : Str} {c : Nat} (h : c ∈ (Txt.partition y (Str.ofString ".")).1.cps.toList) : c ∈ y.cps.toList := by
  rw [← StrLaws.partition_sum y (Str.ofString ".")]
  simp only [Str.cps_append, Array.toList_append, List.mem_append]
  exact .inl (.inl h)
theorem part_okay {y : Str} (ho : Okay y) : Okay (Txt.partition y (Str.ofString ".")).1 := fun c hc => ho c (part_mem hc)
set_option maxHeartbeats 8000000 in
theorem holds_end {name qual : Str} {params : Arguments} {s1 s2 s3 s4 s5 s6 s7 s8 s10 b1 b2 b3 b4 b5 b6 b7 : Stmt} {target iter : Expr} {posF : Pos} {scope : Scope} {dV kV doc pm cdv ct oc' : Value} {an od : Option Addr} {osl : Array (Option Value)}
    (hK : (Mine.hd.heap_39 w.params).lookup 114 = some ⟨oc', od, .func (fnOf name qual params [s1, s2, s3, s4, s5, s6, s7, s8, .For target iter [b1, b2, b3, b4, b5, b6, b7] [] posF, s10] scope dV kV doc pm an cdv ct), osl⟩)
    {B : Around} {g : Heap} {L' : Addr} {s : Shared} {env0 : Env} {outer : List Env} {frs' : List (Addr × Obj)} {Q : Flow → Shared → Prop} {r P D f Du Wn : Addr} {W : Str → Str} {sg x y z b : Str} {t u v bt t1 t2 t3 t4 t6 tf ut e1 e2 e3 w1 w2 w3 tt : Tok} {vs : List Value} {k k2 k4 : Nat} {oc2 : Obj}
    (ok : RecOk x y z b) (tok : TurnOk W sg x y z b) (hdp : B.depth + 3 < recursionLimit) (hun : B.units + 200 < cLine) (hA : B.frames = some (env0 :: outer)) (Fs : Frs (env0 :: outer) frs')
    (hap : ∀ p ∈ news, p.1 ∉ L' :: frs'.map (·.1))
    (X : (Mine.hd.heap_39 w.params).In g) (T : Top Mine.hd.view_39 (looseW Mine.hd.view_39 [Str.ofString "_norm_version"]) mean mg mb g)
    (hW : ∀ (x : Str) (t : Tok), x.length ≤ 40 → ∀ news, Con prog w mean mg mb 1 8 f news [.str x t] (fun v ns => ns = [] ∧ ∃ t', v = .str (W x) t')) (hkf : keepIn (Mine.hd.heap_39 w.params) (.ref f) = true)
    (F : Fr g L' s.heap (loopM (some (.str (toldOf W sg z b) tt)) (some (.ref Du)) (some (.ref Wn)) (some (.str sg ut)) (plainOf z b) (holdsM x y z b (.ref r) bt (.ref D) t4 t6 tf (.ref P))))
    (N : News g L' s.heap ((Du, listObj #[.str (dueOf W sg x y z).1 e1, .str (dueOf W sg x y z).2.1 e2, .str (dueOf W sg x y z).2.2 e3] k4) :: (Wn, listObj #[.str (W x) w1, .str (W y) w2, .str (W z) w3] k2) :: (P, listObj vs.toArray k) ::
      (D, tup3 (aliasOf x y z).1 (aliasOf x y z).2.1 (aliasOf x y z).2.2 t1 t2 t3) :: (r, tup3 x y z t u v) :: (L' + 1, oc2) :: (news ++ frs')))
    (hoc : oc2.data = .cell (some (.ref f)))
    (hend : ∀ h' tk' frsZ q1 q2 q3 q4, SameUp frs' frsZ → Frs (env0 :: outer) frsZ → Fr g L' h' (loopM q1 q2 q3 q4 (plainOf z b) (holdsM x y z b (.ref r) bt (.ref D) t4 t6 tf (.ref P))) →
      News g L' h' ((P, listObj vs.toArray k) :: (D, tup3 (aliasOf x y z).1 (aliasOf x y z).2.1 (aliasOf x y z).2.2 t1 t2 t3) :: (r, tup3 x y z t u v) :: (L' + 1, oc2) :: (news ++ frsZ)) → Q .next { s with heap := h', toks := tk' }) :
    wpC (model prog w) (({ B with handled := none } : Around).deeper (envOfC qual scope L' 114 cdv)) (execs [b6, b7] (envOfC qual scope L' 114 cdv)) Q (fun _ _ => False) s := by
  w_on
  refine known (by k_is) hK ?_
  intro e
  injection e with e1 e2 e3 e4
  injection e3 with e3
  injection e3 with f1 f2 f3 f4 f5 f6 f7 f8 f9 f10 f11 f12 f13 f14 f15
  injection f4 with f4
  injection f4 with g1 f4
  injection f4 with g2 f4
  injection f4 with g3 f4
  injection f4 with g4 f4
  injection f4 with g5 f4
  injection f4 with g6 f4
  injection f4 with g7 f4
  injection f4 with g8 f4
  injection f4 with g9 f4
  injection f4 with g10 f4
  injection g9 with i1 i2 i3 i4 i5
  injection i3 with j1 i3
  injection i3 with j2 i3
  injection i3 with j3 i3
  injection i3 with j4 i3
  injection i3 with j5 i3
  injection i3 with j6 i3
  injection i3 with j7 i3
  subst f2 f5 f13 j6 j7
  clear e1 e2 e4 f1 f3 f4 f6 f7 f8 f9 f10 f11 f12 f14 f15 g1 g2 g3 g4 g5 g6 g7 g8 g10 i1 i2 i3 i4 i5 j1 j2 j3 j4 j5 hK
  refine execsC_cons (IfC (isTrueC_Compare1 (CallC ?_)))
  refine nameG_fn F X T (by k_is) ?_
  refine callWithC_K (K := Mine.hd.heap_39 w.params) (by k_is) ?_
  k_steps
  refine con_alias (news := _ :: _ :: _ :: _ :: _ :: _ :: news) tok.ly tok.oy _ _ _ frs' g L' _ _ _ _ rfl (Around.frames_deeper hA) rfl rfl Fs F X N ?_ T (by show B.depth + 1 + 1 < _; omega) (by show B.units + 3 + 20 < _; omega) ?_
  · exact hap_cons Fs N rfl (hap_cons Fs (news_tl N) rfl (hap_cons Fs (news_tl (news_tl N)) rfl (hap_cons Fs (news_tl (news_tl (news_tl N))) rfl (hap_cons Fs (news_tl (news_tl (news_tl (news_tl N)))) rfl (hap_cons Fs (news_tl (news_tl (news_tl (news_tl (news_tl N))))) (by show isDict oc2 = false; unfold isDict; rw [hoc]) hap)))))
  rintro _ ns frs1 h2 tk2 ⟨D2, u1, u2, u3, rfl, rfl⟩ SU1 Fs1 F2 N2 _
  rw [tok.ali] at N2
  replace N2 : News g L' h2 ((D2, tup3 (dueOf W sg x y z).1 (dueOf W sg x y z).2.1 (dueOf W sg x y z).2.2 u1 u2 u3) :: (Du, listObj #[.str (dueOf W sg x y z).1 e1, .str (dueOf W sg x y z).2.1 e2, .str (dueOf W sg x y z).2.2 e3] k4) :: (Wn, listObj #[.str (W x) w1, .str (W y) w2, .str (W z) w3] k2) :: (P, listObj vs.toArray k) ::
      (D, tup3 (aliasOf x y z).1 (aliasOf x y z).2.1 (aliasOf x y z).2.2 t1 t2 t3) :: (r, tup3 x y z t u v) :: (L' + 1, oc2) :: (news ++ frs1)) := N2
  clear F N
  k_steps
  (rename Fr g L' _ _ => F3)
  (rename News g L' _ _ => N3)
  refine ne_dataH (da := .tuple (([(dueOf W sg x y z).1, (dueOf W sg x y z).2.1, (dueOf W sg x y z).2.2] : List Str).map PyData.str)) (db := .tuple (([(dueOf W sg x y z).1, (dueOf W sg x y z).2.1, (dueOf W sg x y z).2.2] : List Str).map PyData.str))
    (reads_tuple_at (N3 _ (.tail _ (.head _))).1 rfl rfl (strs_readAll _ (.cons _ _ (.cons _ _ (.cons _ _ .nil))))) (reads_tuple_at (N3 _ (.head _)).1 rfl rfl (strs_readAll _ (.cons _ _ (.cons _ _ (.cons _ _ .nil))))) (shaped3 tok.s1 tok.s2 tok.s3) (shaped3 tok.s1 tok.s2 tok.s3) (by show B.units + 3 + 64 < _; omega) ?_
  rw [eqv_tup]
  refine wpAny_truthy_bool ?_
  refine ite_neg (by decide) ?_
  refine wpC_of (wpAny_execs_nil ?_)
  dsimp only
  replace N3 := news_tl (news_tl N3)
  have hap1 : ∀ p ∈ news, p.1 ∉ L' :: frs1.map (·.1) := by rw [sameUp_map SU1]; exact hap
  refine execsC_cons (IfC (isTrueC_or (isTrueC_Compare1 (CallC ?_))))
  refine nameG_fn F3 X T (by k_is) ?_
  refine callWithC_K (K := Mine.hd.heap_39 w.params) (by k_is) ?_
  k_steps
  refine callWith_K (X.keeps F3.keep) hkf ?_
  refine args_cons (ldLoc F3 rfl ?_)
  refine args_nil ?_
  refine ⟨X.keeps F3.keep, ?_⟩
  refine hW _ _ (Nat.le_trans ok.lb (by decide)) _ _ _ _ _ _ _ _ rfl F3 X N3 T (by show B.depth + 1 + 1 < _; omega) (by show B.units + 3 + 8 < _; omega) ?_
  rintro _ ns h5 tk5 ⟨rfl, t5, rfl⟩ F5 N5 _
  replace N5 := news_app N5
  clear F3 N3
  k_steps
  refine con_norm (news := _ :: _ :: _ :: _ :: _ :: _ :: news) tok.lz tok.lb tok.oz tok.ob _ _ _ frs1 g L' _ _ _ _ rfl (Around.frames_deeper hA) rfl rfl Fs1 F5 X N5 ?_ T (by show B.depth + 1 + 1 < _; omega) (by show B.units + 3 + 20 < _; omega) ?_
  · exact hap_cons Fs1 N5 rfl (hap_cons Fs1 (news_tl N5) rfl (hap_cons Fs1 (news_tl (news_tl N5)) rfl (hap_cons Fs1 (news_tl (news_tl (news_tl N5))) rfl (hap_cons Fs1 (news_tl (news_tl (news_tl (news_tl N5)))) rfl (hap_cons Fs1 (news_tl (news_tl (news_tl (news_tl (news_tl N5))))) (by show isDict oc2 = false; unfold isDict; rw [hoc]) hap1)))))
  rintro _ ns frs2 h6 tk6 ⟨rfl, t7, rfl⟩ SU2 Fs2 F6 N6 _
  replace N6 : News g L' h6 ((Du, listObj #[.str (dueOf W sg x y z).1 e1, .str (dueOf W sg x y z).2.1 e2, .str (dueOf W sg x y z).2.2 e3] k4) :: (Wn, listObj #[.str (W x) w1, .str (W y) w2, .str (W z) w3] k2) :: (P, listObj vs.toArray k) ::
      (D, tup3 (aliasOf x y z).1 (aliasOf x y z).2.1 (aliasOf x y z).2.2 t1 t2 t3) :: (r, tup3 x y z t u v) :: (L' + 1, oc2) :: (news ++ frs2)) := N6
  clear F5 N5
  refine ldLoc F6 rfl ?_
  refine ne_str ?_
  rw [tok.norm, bne_self_eq_false]
  refine wpAny_truthy_bool ?_
  refine ite_neg (by decide) ?_
  k_steps
  refine con_unk _ _ _ _ _ _ _ rfl F6 X N6 T (by show B.depth + 1 + 1 < _; omega) (by show B.units + 3 + 8 < _; omega) ?_
  rintro _ ns h7 tk7 ⟨rfl, t8, rfl⟩ F7 N7 _
  replace N7 := news_app N7
  clear F6 N6
  k_steps
  refine callWith_K (X.keeps F7.keep) hkf ?_
  refine args_cons (ldLoc F7 rfl ?_)
  refine args_nil ?_
  refine ⟨X.keeps F7.keep, ?_⟩
  refine hW _ _ (unk_len ok.lx) _ _ _ _ _ _ _ _ rfl F7 X N7 T (by show B.depth + 1 + 1 < _; omega) (by show B.units + 3 + 8 < _; omega) ?_
  rintro _ ns h8 tk8 ⟨rfl, t9, rfl⟩ F8 N8 _
  replace N8 := news_app N8
  refine ne_str ?_
  rw [tok.unk, bne_self_eq_false]
  refine wpAny_truthy_bool ?_
  refine ite_neg (by decide) ?_
  walk1
  refine ite_neg (by decide) ?_
  refine wpC_of (wpAny_execs_nil ?_)
  dsimp only
  refine wpC_of (wpAny_execs_nil ?_)
  exact hend _ _ _ _ _ _ _ (SameUp.trans SU1 SU2) Fs2 F8 (news_tl (news_tl N8))
end Mine
end
section
-- part HTurn
open PySem PySem.W PyProof.Rows PyProof.Rows.TI PySem.Calls PySem.Spec
set_option maxRecDepth 100000
namespace Mine
variable {prog : Program} {w : World} {mean : ExcName → Option Value} {mg mb : Str → Option Value} {news : List (Addr × Obj)}
set_option maxHeartbeats 8000000 in
theorem holds_turn {name qual : Str} {params : Arguments} {s1 s2 s3 s4 s5 s6 s7 s8 s10 : Stmt} {target iter : Expr} {body : List Stmt} {posF : Pos} {scope : Scope} {dV kV doc pm cdv ct oc' : Value} {an od : Option Addr} {osl : Array (Option Value)}
    (hK : (Mine.hd.heap_39 w.params).lookup 114 = some ⟨oc', od, .func (fnOf name qual params [s1, s2, s3, s4, s5, s6, s7, s8, .For target iter body [] posF, s10] scope dV kV doc pm an cdv ct), osl⟩)
    {B : Around} {g : Heap} {L' : Addr} {s : Shared} {env0 : Env} {outer : List Env} {frs' : List (Addr × Obj)} {Q : Flow → Shared → Prop} {r P D f : Addr} {W : Str → Str} {sg x y z b : Str} {t u v bt t1 t2 t3 t4 t6 tf ut : Tok} {vs : List Value} {k : Nat} {oc2 : Obj} {q1 q2 q3 : Option Value}
    (ok : RecOk x y z b) (tok : TurnOk W sg x y z b) (hdp : B.depth + 3 < recursionLimit) (hun : B.units + 200 < cLine) (hA : B.frames = some (env0 :: outer)) (Fs : Frs (env0 :: outer) frs')
    (hap : ∀ p ∈ news, p.1 ∉ L' :: frs'.map (·.1))
    (X : (Mine.hd.heap_39 w.params).In g) (T : Top Mine.hd.view_39 (looseW Mine.hd.view_39 [Str.ofString "_norm_version"]) mean mg mb g)
    (hW : ∀ (x : Str) (t : Tok), x.length ≤ 40 → ∀ news, Con prog w mean mg mb 1 8 f news [.str x t] (fun v ns => ns = [] ∧ ∃ t', v = .str (W x) t')) (hkf : keepIn (Mine.hd.heap_39 w.params) (.ref f) = true)
    (F : Fr g L' s.heap (loopM q1 q2 q3 (some (.str sg ut)) (plainOf z b) (holdsM x y z b (.ref r) bt (.ref D) t4 t6 tf (.ref P))))
    (N : News g L' s.heap ((P, listObj vs.toArray k) :: (D, tup3 (aliasOf x y z).1 (aliasOf x y z).2.1 (aliasOf x y z).2.2 t1 t2 t3) :: (r, tup3 x y z t u v) :: (L' + 1, oc2) :: (news ++ frs')))
    (hvs : Paired IsStrV vs (partsOf z b)) (hoc : oc2.data = .cell (some (.ref f)))
    (hend : ∀ h' tk' frsZ q1 q2 q3 q4, SameUp frs' frsZ → Frs (env0 :: outer) frsZ → Fr g L' h' (loopM q1 q2 q3 q4 (plainOf z b) (holdsM x y z b (.ref r) bt (.ref D) t4 t6 tf (.ref P))) →
      News g L' h' ((P, listObj vs.toArray k) :: (D, tup3 (aliasOf x y z).1 (aliasOf x y z).2.1 (aliasOf x y z).2.2 t1 t2 t3) :: (r, tup3 x y z t u v) :: (L' + 1, oc2) :: (news ++ frsZ)) → Q .next { s with heap := h', toks := tk' }) :
    wpC (model prog w) (({ B with handled := none } : Around).deeper (envOfC qual scope L' 114 cdv)) (execs body (envOfC qual scope L' 114 cdv)) Q (fun _ _ => False) s := by
  w_on
  refine known (by k_is) hK ?_
  intro e
  injection e with e1 e2 e3 e4
  injection e3 with e3
  injection e3 with f1 f2 f3 f4 f5 f6 f7 f8 f9 f10 f11 f12 f13 f14 f15
  injection f4 with f4
  injection f4 with g1 f4
  injection f4 with g2 f4
  injection f4 with g3 f4
  injection f4 with g4 f4
  injection f4 with g5 f4
  injection f4 with g6 f4
  injection f4 with g7 f4
  injection f4 with g8 f4
  injection f4 with g9 f4
  injection f4 with g10 f4
  injection g9 with i1 i2 i3 i4 i5
  subst f2 f5 f13 i3
  clear e1 e2 e4 f1 f3 f4 f6 f7 f8 f9 f10 f11 f12 f14 f15 g1 g2 g3 g4 g5 g6 g7 g8 g10 i1 i2 i4 i5 hK
  refine execsC_consA ?_
  refine comp_assign (p := fun _ => true) (F := WrV W) (by with_unfolding_all rfl) rfl (by decide) rfl (by decide) rfl rfl rfl ?_
  refine ldLoc F rfl ?_
  refine ⟨_, _, g, _, _, src_tuple rfl ⟨_, (N _ (.tail _ (.tail _ (.head _)))).1, rfl, _, rfl⟩, ?_, F, N, ?_, ?_, ?_⟩
  · rw [sizeLine_eq]; show 3 ≤ _; decide
  · intro C i v s₃ m₃ E' hC hP hn hm hk
    exact wpAny_tests_nil ⟨rfl, s₃.heap, s₃.toks, rfl, fun b o e => e⟩
  · intro C i v s₃ m₃ E' hC hP hp hn hm hk
    refine Call_ ?_
    refine wpAny_Name (wpAny_loadName_cell rfl rfl rfl ⟨oc2, hk _ _ (N _ (.tail _ (.tail _ (.tail _ (.head _))))).1, hoc⟩ ?_) (by decide)
    refine callWith_K (X.keeps F.keep) hkf ?_
    refine args_cons (wpAny_Name (wpAny_loadName_local rfl rfl hn hm ?_) (by decide))
    refine args_nil ?_
    refine ⟨(X.keeps F.keep).keeps hk, ?_⟩
    obtain ⟨x', u', rfl, hx'⟩ := str3 hP ok.lx (Nat.le_trans ok.ly (by decide)) (Nat.le_trans ok.lz (by decide))
    refine elt_con (F := WrV W (.str x' u')) (fun news => con_mono (hW x' u' hx' news) fun r ns hr => ⟨hr.1, ?_⟩) rfl F X T (by show B.depth + 1 + 1 < _; omega) (by show B.units + 3 + 8 < _; omega) hC hn hk
    obtain ⟨t', rfl⟩ := hr.2
    exact ⟨_, _, t', rfl, rfl⟩
  intro Wn h2 tk2 ys k2 vs2 F2 N2 hlen2 hP2 hpair2 hWn
  rw [filter_true] at hpair2
  obtain ⟨w1, w2, w3, rfl⟩ := wr3 (vals_of hlen2 hP2) hpair2
  replace F2 : Fr g L' h2 (loopM q1 q2 (some (.ref Wn)) (some (.str sg ut)) (plainOf z b) (holdsM x y z b (.ref r) bt (.ref D) t4 t6 tf (.ref P))) := by rw [← loopM_written]; exact F2
  replace N2 : News g L' h2 ((Wn, listObj #[.str (W x) w1, .str (W y) w2, .str (W z) w3] k2) :: (P, listObj vs.toArray k) :: (D, tup3 (aliasOf x y z).1 (aliasOf x y z).2.1 (aliasOf x y z).2.2 t1 t2 t3) :: (r, tup3 x y z t u v) :: (L' + 1, oc2) :: (news ++ frs')) := N2
  clear F N hlen2 hP2 hpair2
  dsimp only
  refine execsC_consA ?_
  refine comp_assign (p := fun _ => true) (F := WrV W) (by with_unfolding_all rfl) rfl (by decide) rfl (by decide) rfl rfl rfl ?_
  refine ldLoc F2 rfl ?_
  refine ⟨_, _, g, _, _, src_tuple rfl ⟨_, (N2 _ (.tail _ (.tail _ (.head _)))).1, rfl, _, rfl⟩, ?_, F2, N2, ?_, ?_, ?_⟩
  · rw [sizeLine_eq]; show 3 ≤ _; decide
  · intro C i v s₃ m₃ E' hC hP hn hm hk
    exact wpAny_tests_nil ⟨rfl, s₃.heap, s₃.toks, rfl, fun b o e => e⟩
  · intro C i v s₃ m₃ E' hC hP hp hn hm hk
    refine Call_ ?_
    refine wpAny_Name (wpAny_loadName_cell rfl rfl rfl ⟨oc2, hk _ _ (N2 _ (.tail _ (.tail _ (.tail _ (.tail _ (.head _)))))).1, hoc⟩ ?_) (by decide)
    refine callWith_K (X.keeps F2.keep) hkf ?_
    refine args_cons (wpAny_Name (wpAny_loadName_local rfl rfl hn hm ?_) (by decide))
    refine args_nil ?_
    refine ⟨(X.keeps F2.keep).keeps hk, ?_⟩
    obtain ⟨x', u', rfl, hx'⟩ := str3 hP ok.l1 ok.l2 ok.l3
    refine elt_con (F := WrV W (.str x' u')) (fun news => con_mono (hW x' u' hx' news) fun r ns hr => ⟨hr.1, ?_⟩) rfl F2 X T (by show B.depth + 1 + 1 < _; omega) (by show B.units + 3 + 8 < _; omega) hC hn hk
    obtain ⟨t', rfl⟩ := hr.2
    exact ⟨_, _, t', rfl, rfl⟩
  intro Du h3 tk3 ys k3 vs3 F3 N3 hlen3 hP3 hpair3 hDu
  rw [filter_true] at hpair3
  obtain ⟨d1, d2, d3, rfl⟩ := wr3 (vals_of hlen3 hP3) hpair3
  replace F3 : Fr g L' h3 (loopM q1 (some (.ref Du)) (some (.ref Wn)) (some (.str sg ut)) (plainOf z b) (holdsM x y z b (.ref r) bt (.ref D) t4 t6 tf (.ref P))) := by rw [← loopM_due]; exact F3
  replace N3 : News g L' h3 ((Du, listObj #[.str (W (aliasOf x y z).1) d1, .str (W (aliasOf x y z).2.1) d2, .str (W (aliasOf x y z).2.2) d3] k3) :: (Wn, listObj #[.str (W x) w1, .str (W y) w2, .str (W z) w3] k2) :: (P, listObj vs.toArray k) :: (D, tup3 (aliasOf x y z).1 (aliasOf x y z).2.1 (aliasOf x y z).2.2 t1 t2 t3) :: (r, tup3 x y z t u v) :: (L' + 1, oc2) :: (news ++ frs')) := N3
  clear F2 N2 hlen3 hP3 hpair3
  dsimp only
  refine execsC_consA (wpAny_mono (Q := fun fl s' => Kept (fl = .next ∧ ∃ h' tk' Du e1 e2 e3 k', s' = { s with heap := h', toks := tk' } ∧
    Fr g L' h' (loopM q1 (some (.ref Du)) (some (.ref Wn)) (some (.str sg ut)) (plainOf z b) (holdsM x y z b (.ref r) bt (.ref D) t4 t6 tf (.ref P))) ∧
    News g L' h' ((Du, listObj #[.str (dueOf W sg x y z).1 e1, .str (dueOf W sg x y z).2.1 e2, .str (dueOf W sg x y z).2.2 e3] k') :: (Wn, listObj #[.str (W x) w1, .str (W y) w2, .str (W z) w3] k2) :: (P, listObj vs.toArray k) ::
      (D, tup3 (aliasOf x y z).1 (aliasOf x y z).2.1 (aliasOf x y z).2.2 t1 t2 t3) :: (r, tup3 x y z t u v) :: (L' + 1, oc2) :: (news ++ frs')))) ?_ ?_ (fun _ _ h => h))
  · have hy0 := ok.y0
    have hfl := fact_partition y (Str.ofString ".")
    have hly := ok.ly
    k_steps
    · have hsol : ((aliasOf x y z).fst == Str.ofString "Solaris") = true := by assumption
      have hocc : (Builtin.Str.occurrences sg (Txt.item y 0) 0 sg.length 1).isEmpty = true := by assumption
      have hfi : ¬ fstIn y sg = true := by unfold fstIn; rw [hocc]; decide
      refine con_num (Nat.le_trans hfl.1 (Nat.le_trans hly (by decide))) _ _ _ _ _ _ _ rfl F3 X N3 T (by show B.depth + 1 + 1 < _; omega) (by show B.units + 3 + 8 < _; omega) ?_
      rintro _ ns h5 tk5 ⟨rfl, t5, rfl⟩ F5 N5 _
      clear F3 N3
      k_steps
      · have hge : lawNum (Txt.partition y (Str.ofString ".")).1 ≥ 0 := by assumption
        refine con_mark (Nat.le_trans hfl.1 (Nat.le_trans hly (by decide))) (part_okay ok.oy) _ _ _ _ _ _ _ rfl F5 X N5 T (by show B.depth + 1 + 1 < _; omega) (by show B.units + 3 + 100 < _; omega) ?_
        rintro _ ns h6 tk6 ⟨rfl, rfl⟩ F6 N6 _
        clear F5 N5
        k_steps
        · have ed : dueOf W sg x y z = (Str.ofString "Solaris", W y, W z) := by
            unfold dueOf firstOf
            rw [if_pos hsol, if_neg hfi, if_pos ⟨hge, by assumption⟩]
          (rename Fr g L' _ _ => F7)
          (rename News g L' _ _ => N7)
          rw [loopM_due] at F7
          refine .of ⟨rfl, _, _, _, tk6, w2, w3, 0, rfl, F7, fun p hp => ?_⟩
          rw [ed] at hp
          rcases List.mem_cons.mp hp with rfl | hp
          · exact N7 _ (.head _)
          · exact N7 _ (.tail _ (.tail _ hp))
        · have ed : dueOf W sg x y z = (W (aliasOf x y z).1, W (aliasOf x y z).2.1, W (aliasOf x y z).2.2) := by
            unfold dueOf firstOf
            have hmk : markOf (Txt.partition y (Str.ofString ".")).1 sg = false := by assumption
            rw [if_pos hsol, if_neg hfi, if_neg (fun h => by rw [hmk] at h; exact absurd h.2 (by decide))]
          refine .of ⟨rfl, _, _, Du, d1, d2, d3, k3, rfl, F6, ?_⟩
          rw [ed]
          exact N6
      · have ed : dueOf W sg x y z = (W (aliasOf x y z).1, W (aliasOf x y z).2.1, W (aliasOf x y z).2.2) := by
          unfold dueOf firstOf
          rw [if_pos hsol, if_neg hfi, if_neg (fun h => absurd h.1 (by assumption))]
        refine .of ⟨rfl, _, _, Du, d1, d2, d3, k3, rfl, F5, ?_⟩
        rw [ed]
        exact N5
    · have hocc : (Builtin.Str.occurrences sg (Txt.item y 0) 0 sg.length 1).isEmpty = false := by assumption
      have ed : dueOf W sg x y z = (W x, W y, W z) := by unfold dueOf fstIn; rw [if_pos (by assumption), if_pos (by rw [hocc]; rfl)]
      (rename Fr g L' _ _ => F5)
      (rename News g L' _ _ => N5)
      rw [loopM_due] at F5
      refine .of ⟨rfl, _, _, Wn, w1, w2, w3, k2, rfl, F5, fun p hp => ?_⟩
      rw [ed] at hp
      rcases List.mem_cons.mp hp with rfl | hp
      · exact N5 _ (.tail _ (.head _))
      · exact N5 _ (.tail _ hp)
    · have ed : dueOf W sg x y z = (W (aliasOf x y z).1, W (aliasOf x y z).2.1, W (aliasOf x y z).2.2) := by unfold dueOf; rw [if_neg (by simp_all)]
      refine .of ⟨rfl, _, _, Du, d1, d2, d3, k3, rfl, F3, ?_⟩
      rw [ed]
      exact N3
  rintro fl s' ⟨hmid⟩
  obtain ⟨rfl, h4, tk4', Du2, e1, e2, e3, k4, rfl, F4, N4⟩ := hmid
  clear F3 N3
  dsimp only
  have hlz := ok.lz
  have hlb := ok.lb
  refine execsC_consA ?_
  k_steps
  refine callWith_K (X.keeps F4.keep) hkf ?_
  refine args_cons (ldLoc F4 rfl ?_)
  refine args_nil ?_
  refine ⟨X.keeps F4.keep, ?_⟩
  refine hW _ _ ok.ln _ _ _ _ _ _ _ _ rfl F4 X N4 T (by show B.depth + 1 + 1 < _; omega) (by show B.units + 3 + 8 < _; omega) ?_
  rintro _ ns h5 tk5 ⟨rfl, t5, rfl⟩ F5 N5 _
  refine stLocN F5 N5 ?_
  intro h6 F6 N6
  rw [loopM_told] at F6
  replace N6 : News g L' h6 ((Du2, listObj #[.str (dueOf W sg x y z).1 e1, .str (dueOf W sg x y z).2.1 e2, .str (dueOf W sg x y z).2.2 e3] k4) :: (Wn, listObj #[.str (W x) w1, .str (W y) w2, .str (W z) w3] k2) :: (P, listObj vs.toArray k) ::
      (D, tup3 (aliasOf x y z).1 (aliasOf x y z).2.1 (aliasOf x y z).2.2 t1 t2 t3) :: (r, tup3 x y z t u v) :: (L' + 1, oc2) :: (news ++ frs')) := N6
  clear F4 N4 F5 N5
  dsimp only
  refine execsC_consA (wpAny_mono (Q := fun fl s' => Kept (fl = .next ∧ ∃ h' tk' tt, s' = { s with heap := h', toks := tk' } ∧
    Fr g L' h' (loopM (some (.str (toldOf W sg z b) tt)) (some (.ref Du2)) (some (.ref Wn)) (some (.str sg ut)) (plainOf z b) (holdsM x y z b (.ref r) bt (.ref D) t4 t6 tf (.ref P))) ∧
    News g L' h' ((Du2, listObj #[.str (dueOf W sg x y z).1 e1, .str (dueOf W sg x y z).2.1 e2, .str (dueOf W sg x y z).2.2 e3] k4) :: (Wn, listObj #[.str (W x) w1, .str (W y) w2, .str (W z) w3] k2) :: (P, listObj vs.toArray k) ::
      (D, tup3 (aliasOf x y z).1 (aliasOf x y z).2.1 (aliasOf x y z).2.2 t1 t2 t3) :: (r, tup3 x y z t u v) :: (L' + 1, oc2) :: (news ++ frs')))) ?_ ?_ (fun _ _ h => h))
  · k_steps
    · have hpl : plainOf z b = true := by assumption
      refine con_mark (by rw [PySem.Str.length_append]; omega) (app_okay ok.oz ok.ob) _ _ _ _ _ _ _ rfl F6 X N6 T (by show B.depth + 1 + 1 < _; omega) (by show B.units + 3 + 100 < _; omega) ?_
      rintro _ ns h8 tk8 ⟨rfl, rfl⟩ F8 N8 _
      replace N8 := news_app N8
      clear F6 N6
      refine wpAny_truthy_bool ?_
      cases hmk : markOf (z ++ b) sg
      · have et : toldOf W sg z b = W (normOf z b) := by unfold toldOf; rw [if_pos hpl, if_neg (by rw [hmk]; decide)]
        refine ite_neg (by decide) ?_
        refine wpAny_execs_nil ?_
        refine .of ⟨rfl, _, _, t5, rfl, ?_, N8⟩
        rw [et]
        exact F8
      · have et : toldOf W sg z b = Txt.join dotS (((partsOf z b).take 3).map W) := by unfold toldOf; rw [if_pos hpl, if_pos hmk]
        refine ite_pos rfl ?_
        have hpo := parts_okay (Nat.le_trans hlz (by decide)) (Nat.le_trans hlb (by decide)) ok.oz ok.ob
        have hpn := parts_len (x := z) (b := b) (Nat.le_trans hlz (by decide))
        have hvl : vs.length = (partsOf z b).length := hvs.length
        walk1
        refine ite_pos rfl ?_
        refine wpAny_execs_cons (wpAny_Assign_Name (MethodCall_ (Calls.Constant_str ?_)))
        walk1
        walk1
        refine args_cons ?_
        refine comp_src (p := fun _ => true) (F := WrV W) rfl (by decide) rfl (by decide) rfl ?_
        walk1
        refine ldLoc F8 rfl ?_
        walk1
        walk1
        walk1
        refine wpAny_Constant_int ?_
        walk1
        dsimp only
        refine slice_list (s := { s with heap := h8, toks := _ }) (value := _) (slice := _) F8 N8 (News.isList N8 (.tail _ (.tail _ (.head _)))) .none (.int _ _) ?_ (by with_unfolding_all rfl) (by intro _; with_unfolding_all rfl) (by simp only [List.size_toArray]; rw [sizeLine_eq]; omega)
        intro h9 F9 N9
        have e3 : slicePick vs.toArray none (some 3) none = (vs.take 3).toArray := slicePick_upto' vs.toArray 3
        rw [e3] at N9
        have hl9 := News.isList N9 (.head _)
        have hp3 := paired_take hvs 3
        have hlp : ∀ p ∈ (partsOf z b).take 3, p.length ≤ 40 := fun p hp => Nat.le_trans (parts_short hlz hlb p (List.mem_of_mem_take hp)) (by decide)
        refine ⟨_, _, src_list rfl hl9, ?_, ?_, ?_, ?_⟩
        · rw [sizeLine_eq, List.size_toArray, List.length_take]; omega
        · intro C i v s₃ m₃ E' hC hP hn hm hk
          exact wpAny_tests_nil ⟨rfl, s₃.heap, s₃.toks, rfl, fun b o e => e⟩
        · intro C i v s₃ m₃ E' hC hP hp hn hm hk
          refine Call_ ?_
          refine wpAny_Name (wpAny_loadName_cell rfl rfl rfl ⟨oc2, hk _ _ (N9 _ (.tail _ (.tail _ (.tail _ (.tail _ (.tail _ (.tail _ (.head _)))))))).1, hoc⟩ ?_) (by decide)
          refine callWith_K (X.keeps F9.keep) hkf ?_
          refine args_cons (wpAny_Name (wpAny_loadName_local rfl rfl hn hm ?_) (by decide))
          refine args_nil ?_
          refine ⟨(X.keeps F9.keep).keeps hk, ?_⟩
          obtain ⟨x', u', rfl, hx'⟩ := str_at hp3 hlp (show (vs.take 3)[i]? = some v by simpa using hP)
          refine elt_con (F := WrV W (.str x' u')) (fun news => con_mono (hW x' u' hx' news) fun r ns hr => ⟨hr.1, ?_⟩) rfl F9 X T (by show B.depth + 1 + 1 < _; omega) (by show B.units + 3 + 8 < _; omega) hC hn hk
          obtain ⟨t', rfl⟩ := hr.2
          exact ⟨_, _, t', rfl, rfl⟩
        · intro D2 h10 tk10 zs k10 vs10 hD10 hg10 hlen10 hP10 hpair10 hk10
          rw [filter_true, vals_of hlen10 hP10] at hpair10
          obtain ⟨F10, N10⟩ := comp_led F9 N9 hD10 hg10 hk10
          have hz10 := wr_strs hp3 (by simpa using hpair10)
          have hl10 : h10.IsList D2 zs := ⟨_, hg10, rfl, _, rfl⟩
          dsimp only
          refine args_nil ?_
          refine join_list hl10 hz10 ?_ ?_
          · have h1 := sum_le_of (l := ((partsOf z b).take 3).map W) (k := 1000) fun a ha => by
              obtain ⟨p, hp, rfl⟩ := List.mem_map.mp ha
              exact tok.lp p (List.mem_of_mem_take hp)
            have h2 : (((partsOf z b).take 3).map W).length ≤ 3 := by rw [List.length_map, List.length_take]; omega
            have e4 : (Str.ofString ".").length = 1 := by decide
            rw [e4]
            omega
          intro t11 k11
          refine stLocN F10 N10 ?_
          intro h12 F12 N12
          rw [loopM_told] at F12
          dsimp only
          refine wpAny_execs_nil ?_
          refine .of ⟨rfl, _, _, t11, rfl, ?_, fun p hp => N12 p (.tail _ (.tail _ hp))⟩
          rw [et]
          exact F12
    · have et : toldOf W sg z b = W (normOf z b) := by unfold toldOf; rw [if_neg (by simp_all)]
      refine .of ⟨rfl, _, _, t5, rfl, ?_, N6⟩
      rw [et]
      exact F6
  rintro fl s' ⟨hmid⟩
  obtain ⟨rfl, h7, tk7, tt, rfl, F7, N7⟩ := hmid
  clear F6 N6
  dsimp only
  exact holds_end (by k_is) ok tok hdp hun hA Fs hap X T hW hkf F7 N7 hoc hend
end Mine
end
section
-- part HLoop
open PySem PySem.W PyProof.Rows PyProof.Rows.TI PySem.Calls PySem.Spec
set_option maxRecDepth 100000
namespace Mine
set_option maxHeartbeats 8000000 in
theorem holds_loop {name qual : Str} {params : Arguments} {s1 s2 s3 s4 s5 s6 s7 s8 s9 s10 : Stmt} {scope : Scope} {dV kV doc pm cdv ct oc' : Value} {an od : Option Addr} {osl : Array (Option Value)}
    (hK : (Mine.hd.heap_39 w.params).lookup 114 = some ⟨oc', od, .func (fnOf name qual params [s1, s2, s3, s4, s5, s6, s7, s8, s9, s10] scope dV kV doc pm an cdv ct), osl⟩)
    {B : Around} {g : Heap} {L' : Addr} {s : Shared} {env0 : Env} {outer : List Env} {frs2 : List (Addr × Obj)} {Q : Flow → Shared → Prop} {r P D : Addr} {x y z b : Str} {t u v bt t1 t2 t3 t4 t6 tf : Tok} {vs : List Value} {k : Nat} {oc : Obj}
    (ok : RecOk x y z b) (hdp : B.depth + 3 < recursionLimit) (hun : B.units + 200 < cLine) (hA : B.frames = some (env0 :: outer)) (Fs2 : Frs (env0 :: outer) frs2)
    (hap : ∀ p ∈ news, p.1 ∉ L' :: frs2.map (·.1)) (hlt : ∀ p ∈ news ++ frs2, p.1 < L')
    (X : (Mine.hd.heap_39 w.params).In g) (T : Top Mine.hd.view_39 (looseW Mine.hd.view_39 [Str.ofString "_norm_version"]) mean mg mb g)
    (F : Fr g L' s.heap (loopM none none none none (plainOf z b) (holdsM x y z b (.ref r) bt (.ref D) t4 t6 tf (.ref P))))
    (N : News g L' s.heap ((P, listObj vs.toArray k) :: (D, tup3 (aliasOf x y z).1 (aliasOf x y z).2.1 (aliasOf x y z).2.2 t1 t2 t3) :: (r, tup3 x y z t u v) :: (L' + 1, oc) :: (news ++ frs2)))
    (hvs : Paired IsStrV vs (partsOf z b)) (hoc : ∃ ov, oc.data = .cell ov)
    (hret : ∀ h' tk' m' oc' frs', SameUp frs2 frs' → Frs (env0 :: outer) frs' → Fr g L' h' m' → News g L' h' ((L' + 1, oc') :: (news ++ frs')) → Q (.ret (.bool true)) { s with heap := h', toks := tk' }) :
    wpC (model prog w) (({ B with handled := none } : Around).deeper (envOfC qual scope L' 114 cdv)) (execs [s9, s10] (envOfC qual scope L' 114 cdv)) Q (fun _ _ => False) s := by
  w_on
  refine known (by k_is) hK ?_
  intro e
  injection e with e1 e2 e3 e4
  injection e3 with e3
  injection e3 with f1 f2 f3 f4 f5 f6 f7 f8 f9 f10 f11 f12 f13 f14 f15
  injection f4 with f4
  injection f4 with g1 f4
  injection f4 with g2 f4
  injection f4 with g3 f4
  injection f4 with g4 f4
  injection f4 with g5 f4
  injection f4 with g6 f4
  injection f4 with g7 f4
  injection f4 with g8 f4
  injection f4 with g9 f4
  injection f4 with g10 f4
  subst f2 f5 f13 g9 g10
  clear e1 e2 e4 f1 f3 f4 f6 f7 f8 f9 f10 f11 f12 f14 f15 g1 g2 g3 g4 g5 g6 g7 g8 hK
  have hgL : ∀ p ∈ news ++ frs2, p.1 ≠ L' + 1 := fun p hp => Nat.ne_of_lt (Nat.lt_succ_of_lt (hlt p hp))
  refine execsC_cons (ForC ?_)
  k_steps
  refine con_writers _ _ _ _ _ _ _ rfl F X N T (by show B.depth + 1 + 1 < _; omega) (by show B.units + 3 + 20 < _; omega) ?_
  rintro _ ns h2 tk2 ⟨Dw, a0, a1, a2, a3, a4, u0, u1, u2, u3, u4, rfl, rfl⟩ F2 N2 _
  replace N2 : News g L' h2 ((Dw, listObj #[.ref a0, .ref a1, .ref a2, .ref a3, .ref a4] 0) :: (a4, pairObj 78 sg4 u4) :: (a3, pairObj 71 sg3 u3) :: (a2, pairObj 64 sg2 u2) :: (a1, pairObj 57 sg1 u1) :: (a0, pairObj 50 sg0 u0) ::
    (P, listObj vs.toArray k) :: (D, tup3 (aliasOf x y z).1 (aliasOf x y z).2.1 (aliasOf x y z).2.2 t1 t2 t3) :: (r, tup3 x y z t u v) :: (L' + 1, oc) :: (news ++ frs2)) := N2
  have hlw : h2.IsList Dw #[.ref a0, .ref a1, .ref a2, .ref a3, .ref a4] := News.isList N2 (.head _)
  refine wpAny_pyIter_list hlw ?_
  have hszn := news_lt N2
  have F3 := Fr.push F2 { cls := .type "list_iterator", data := .fields #[.ref Dw, .int 0 0] }
  have N3 := News.pushKeep N2 { cls := .type "list_iterator", data := .fields #[.ref Dw, .int 0 0] }
  have hIg : h2.get? h2.objs.size = none := by
    cases e : h2.get? h2.objs.size with
    | none => rfl
    | some o => exact absurd (Heap.lt_size e) (Nat.lt_irrefl _)
  have hgI : g.get? h2.objs.size = none := by
    cases e : g.get? h2.objs.size with
    | none => rfl
    | some o => rw [F2.keep _ _ e] at hIg; cases hIg
  have hIL : h2.objs.size ≠ L' := fun q => by
    obtain ⟨o, _, _, ho, _⟩ := F2.ns
    rw [← q, hIg] at ho; cases ho
  have hIc : h2.objs.size ≠ L' + 1 := fun q => by
    have := hszn (L' + 1, oc) (by simp)
    rw [← q] at this
    exact Nat.lt_irrefl _ this
  refine for_walkV ([Dw, a4, a3, a2, a1, a0, P, D, r, L' + 1] ++ (news ++ frs2).map (·.1))
    (fun i m ns => ∃ q1 q2 q3 q4 oc' frs', m = loopM q1 q2 q3 q4 (plainOf z b) (holdsM x y z b (.ref r) bt (.ref D) t4 t6 tf (.ref P)) ∧
      ns = ((Dw, listObj #[.ref a0, .ref a1, .ref a2, .ref a3, .ref a4] 0) :: (a4, pairObj 78 sg4 u4) :: (a3, pairObj 71 sg3 u3) :: (a2, pairObj 64 sg2 u2) :: (a1, pairObj 57 sg1 u1) :: (a0, pairObj 50 sg0 u0) ::
        (P, listObj vs.toArray k) :: (D, tup3 (aliasOf x y z).1 (aliasOf x y z).2.1 (aliasOf x y z).2.2 t1 t2 t3) :: (r, tup3 x y z t u v) :: (L' + 1, oc') :: (news ++ frs')) ∧
      (∃ ov, oc'.data = .cell ov) ∧ SameUp frs2 frs' ∧ Frs (env0 :: outer) frs') ?_ (Walks.list rfl h2.objs.size Dw ?_ #[.ref a0, .ref a1, .ref a2, .ref a3, .ref a4]) ?_ ?_ ?_ hIL hgI ?_ ?_ F3 N3 ?_ ?_ ?_
  · rintro i m ns ⟨q1, q2, q3, q4, oc', frs', rfl, rfl, _, SU, _⟩
    simp [sameUp_map SU]
  · intro q
    have := hszn (Dw, listObj #[.ref a0, .ref a1, .ref a2, .ref a3, .ref a4] 0) List.mem_cons_self
    rw [show Dw = h2.objs.size from q] at this
    exact Nat.lt_irrefl _ this
  · rintro i h ⟨⟨o, ho, _⟩, _⟩
    exact ⟨o, ho⟩
  · intro a ha
    simp only [List.mem_cons, List.not_mem_nil, or_false] at ha
    rcases ha with rfl | rfl
    · exact .inl rfl
    · refine .inr ⟨listObj #[.ref a0, .ref a1, .ref a2, .ref a3, .ref a4] 0, ?_⟩
      rintro i m ns ⟨q1, q2, q3, q4, oc', frs', rfl, rfl, _⟩
      exact .head _
  · intro i v' s₁ Q' E' hP hst hQ
    obtain ⟨a, rfl⟩ : ∃ a, v' = .ref a := ref5 hP
    exact wpAny_letOwnedTupleGo_listiter hst.1 hQ
  · intro hm
    have hm : h2.objs.size ∈ ((Dw, listObj #[.ref a0, .ref a1, .ref a2, .ref a3, .ref a4] 0) :: (a4, pairObj 78 sg4 u4) :: (a3, pairObj 71 sg3 u3) :: (a2, pairObj 64 sg2 u2) :: (a1, pairObj 57 sg1 u1) :: (a0, pairObj 50 sg0 u0) ::
      (P, listObj vs.toArray k) :: (D, tup3 (aliasOf x y z).1 (aliasOf x y z).2.1 (aliasOf x y z).2.2 t1 t2 t3) :: (r, tup3 x y z t u v) :: (L' + 1, oc) :: (news ++ frs2)).map (·.1) := hm
    obtain ⟨p, hp, q⟩ := List.mem_map.mp hm
    have := hszn p hp
    rw [q] at this
    exact Nat.lt_irrefl _ this
  · exact ⟨⟨_, Heap.get?_push_size _ rfl, rfl, rfl⟩, hlw.push _⟩
  · exact ⟨none, none, none, none, oc, frs2, rfl, rfl, hoc, SameUp.refl _, Fs2⟩
  · rintro i v' m₁ ns s₁ o hi hP ⟨q1, q2, q3, q4, oc', frs', rfl, rfl, ⟨ov, hov⟩, SU, Fs'⟩ ⟨h4, tk4, rfl⟩ F4 N4
    obtain ⟨q, hq, a, ut, rfl, hma⟩ := pair5 (u0 := u0) (u1 := u1) (u2 := u2) (u3 := u3) (u4 := u4) hP
    have hW := writer_con (prog := prog) (w := w) (mean := mean) (mg := mg) (mb := mb) hq
    have hkf := writer_keep (w := w) hq
    have tok := ok.turns q hq
    obtain ⟨f, W, sg⟩ := q
    dsimp only at hW hkf tok hma
    have N5 : News g L' h4 ((a, pairObj f sg ut) :: (h2.objs.size, o) :: ((Dw, listObj #[.ref a0, .ref a1, .ref a2, .ref a3, .ref a4] 0) :: (a4, pairObj 78 sg4 u4) :: (a3, pairObj 71 sg3 u3) :: (a2, pairObj 64 sg2 u2) :: (a1, pairObj 57 sg1 u1) :: (a0, pairObj 50 sg0 u0) ::
        (P, listObj vs.toArray k) :: (D, tup3 (aliasOf x y z).1 (aliasOf x y z).2.1 (aliasOf x y z).2.2 t1 t2 t3) :: (r, tup3 x y z t u v) :: (L' + 1, oc') :: (news ++ frs'))) := fun p hp => by
      rcases List.mem_cons.mp hp with rfl | hp
      · exact N4 _ (.tail _ (.tail _ (List.mem_append_left (bs := _ :: _ :: _ :: _ :: (news ++ frs')) hma)))
      · exact N4 p hp
    replace F4 : Fr g L' h4 (loopM q1 q2 q3 q4 (plainOf z b) (holdsM x y z b (.ref r) bt (.ref D) t4 t6 tf (.ref P))) := F4
    clear N4 hma F N F2 N2 F3 N3
    refine wpC_of ?_
    walk1
    walk1
    walk1
    (rename Fr g L' _ _ => F4)
    (rename News g L' _ _ => N5)
    refine stCN (own := [_, _, _, _, _, _, _, _, _, _, _]) F4 N5 rfl hov ?_ ?_ ?_
    · have key := fun p (hp : p ∈ _) => cell_apart (c := L' + 1) N5 hov (by simp) p hp
      intro p hp
      simp only [List.mem_cons, List.not_mem_nil, or_false] at hp
      rcases hp with rfl | rfl | rfl | rfl | rfl | rfl | rfl | rfl | rfl | rfl | rfl
      · exact key _ (by simp) rfl
      · exact hIc
      all_goals exact key _ (by simp) rfl
    · intro p hp
      rcases List.mem_append.mp hp with hp | hp
      · exact hgL p (List.mem_append_left _ hp)
      · obtain ⟨p', hp', e⟩ := SU.fwd p hp
        rw [e]
        exact hgL p' (List.mem_append_right _ hp')
    intro h5 oc2 F5 N6 hoc2
    walk1
    walk1
    refine stLocN F5 N6 ?_
    intro h6 F6 N7
    rw [loopM_signs] at F6
    walk1
    obtain ⟨news2, hn2⟩ : ∃ l, l = (h2.objs.size, o) :: (Dw, listObj #[.ref a0, .ref a1, .ref a2, .ref a3, .ref a4] 0) :: (a4, pairObj 78 sg4 u4) :: (a3, pairObj 71 sg3 u3) :: (a2, pairObj 64 sg2 u2) :: (a1, pairObj 57 sg1 u1) :: (a0, pairObj 50 sg0 u0) :: news := ⟨_, rfl⟩
    have N8 : News g L' h6 ((P, listObj vs.toArray k) :: (D, tup3 (aliasOf x y z).1 (aliasOf x y z).2.1 (aliasOf x y z).2.2 t1 t2 t3) :: (r, tup3 x y z t u v) :: (L' + 1, oc2) :: (news2 ++ frs')) := fun p hp => N7 p (by
      rw [hn2] at hp
      exact led1 hp)
    have hfl : ∀ p ∈ frs', p.1 < L' := fun p hp => by
      obtain ⟨p', hp', e⟩ := SU.fwd p hp
      rw [e]
      exact hlt p' (List.mem_append_right _ hp')
    have hLI : L' < h2.objs.size := Nat.lt_of_succ_lt (hszn (L' + 1, oc) (by simp))
    have hapI : ∀ p ∈ news, p.1 ∉ L' :: frs'.map (·.1) := by rw [sameUp_map SU]; exact hap
    have hap2 : ∀ p ∈ news2, p.1 ∉ L' :: frs'.map (·.1) := by
      have Nd : News g L' h6 ((Dw, listObj #[.ref a0, .ref a1, .ref a2, .ref a3, .ref a4] 0) :: (a4, pairObj 78 sg4 u4) :: (a3, pairObj 71 sg3 u3) :: (a2, pairObj 64 sg2 u2) :: (a1, pairObj 57 sg1 u1) :: (a0, pairObj 50 sg0 u0) :: (news ++ frs')) := fun p hp => N7 p (led2 hp)
      rw [hn2]
      intro p hp
      rcases List.mem_cons.mp hp with rfl | hp
      · intro hm
        rcases List.mem_cons.mp hm with e | hm
        · exact hIL e
        · obtain ⟨p', hp', e⟩ := List.mem_map.mp hm
          have h1 := hfl p' hp'
          rw [e] at h1
          exact absurd (Nat.lt_trans h1 hLI) (Nat.lt_irrefl _)
      · exact hap_cons Fs' Nd rfl (hap_cons Fs' (news_tl Nd) rfl (hap_cons Fs' (news_tl (news_tl Nd)) rfl (hap_cons Fs' (news_tl (news_tl (news_tl Nd))) rfl (hap_cons Fs' (news_tl (news_tl (news_tl (news_tl Nd)))) rfl (hap_cons Fs' (news_tl (news_tl (news_tl (news_tl (news_tl Nd))))) rfl hapI))))) p hp
    clear F4 N5 F5 N6 N7
    refine holds_turn (by k_is) ok tok hdp hun hA Fs' hap2 X T hW hkf F6 N8 hvs hoc2 ?_
    intro h' tk' frsZ q1 q2 q3 q4 SUZ FsZ FZ NZ
    refine .inl ⟨rfl, h', tk', _, _, rfl, FZ, ?_, q1, q2, q3, q4, oc2, frsZ, rfl, rfl, ⟨_, hoc2⟩, SameUp.trans SU SUZ, FsZ⟩
    intro p hp
    refine NZ p ?_
    rw [hn2]
    exact led3 hp
  · rintro h' tk' m' ns F' N' ⟨q1, q2, q3, q4, oc', frs', rfl, rfl, _, SU, Fs'⟩
    dsimp only
    refine wpC_of (wpAny_execs_cons (wpAny_Return_some ?_))
    walk1
    exact hret _ _ _ _ _ SU Fs' F' (fun p hp => N' p (.tail _ (.tail _ (.tail _ (.tail _ (.tail _ (.tail _ (.tail _ (.tail _ (.tail _ (hp)))))))))))
end Mine
end
section
-- part Holds
open PySem PySem.W PyProof.Rows PyProof.Rows.TI PySem.Calls PySem.Spec
set_option maxRecDepth 100000
namespace Mine
theorem loopM_start {x y z b : Str} {r d p : Value} {bt t4 t6 tf : Tok} {pl : Bool} : (fun a => if a = Str.ofString "plain" then some (.bool pl) else holdsM x y z b r bt d t4 t6 tf p a) = loopM none none none none pl (holdsM x y z b r bt d t4 t6 tf p) := by
  funext a
  unfold loopM
  by_cases h1 : a = Str.ofString "told"
  · subst h1; rfl
  · rw [if_neg h1]
    by_cases h2 : a = Str.ofString "due"
    · subst h2; rfl
    · rw [if_neg h2]
      by_cases h3 : a = Str.ofString "written"
      · subst h3; rfl
      · rw [if_neg h3]
        by_cases h4 : a = Str.ofString "signs"
        · subst h4; rfl
        · rw [if_neg h4]
variable {prog : Program} {w : World} {mean : ExcName → Option Value} {mg mb : Str → Option Value} {news : List (Addr × Obj)}
set_option maxHeartbeats 8000000 in
theorem con_holds {r : Addr} {x y z b : Str} {t u v bt : Tok} (hr : (r, tup3 x y z t u v) ∈ news) (ok : RecOk x y z b) : ConT prog w mean mg mb 3 200 114 news [.ref r, .str b bt]
    (fun v ns => ns = [] ∧ v = .bool true) := by
  w_on
  intro A env outer frs h₀ L m s Q E hh hA hfr hke hFs hF hX hN hap hT hdp hun hret
  obtain ⟨B, rfl⟩ : ∃ B : Around, A = { B with handled := none } := ⟨A, by cases A; cases hh; rfl⟩
  dsimp only at hdp hun
  have hx := ok.lx
  have hy := ok.ly
  have hz := ok.lz
  have hb := ok.lb
  have hy0 := ok.y0
  have hoy := ok.oy
  have hoz := ok.oz
  have hob := ok.ob
  refine wpC_call ?_
  k_dflt (refine' defTC ?k2 ?k3 ?k4 ?kS ?k5 ?kF ?kK ?k6 ?k7 ?k8 ?k9 ?kB ?kC ?_ ?c2 ?c3 ?c4; (case k2 => exact hF); (case k3 => exact hX); (case k4 => exact hN); (case kS => exact hFs); (case k5 => exact hT); (case kF => exact hfr); (case kK => exact hke); (case k6 => k_is); (case k7 => k_is); (case k8 => (dsimp only; omega)); (case k9 => exact BindsTo.of_eq rfl); (case kB => rfl); (case kC => decide); (case c2 => exact rfl); (case c3 => exact rfl); (case c4 => exact rfl); k_whole)
  intro g L' h1 tk1 cells oL F1 N1 hC hFs1 X T hlt
  obtain ⟨oc, rfl, hoc⟩ := CellsAre.one (n := Str.ofString "writer") (c := L' + 1) hC
  replace hoc : oc.data = .cell none := hoc
  replace F1 : Fr g L' h1 (fun a => if a = Str.ofString "build" then some (.str b bt) else if a = Str.ofString "record" then some (.ref r) else none) := F1
  have N2 : News g L' h1 ((r, tup3 x y z t u v) :: (L' + 1, oc) :: (news ++ (L, oL) :: frs)) := fun p hp => by
    rcases List.mem_cons.mp hp with rfl | hp
    · exact N1 _ (List.mem_append_right _ (List.mem_append_left _ hr))
    · exact N1 p hp
  clear N1 hC
  refine execsC_cons (AssignC (CallC ?_))
  refine nameG_fn F1 X T (by k_is) ?_
  refine callWithC_K (K := Mine.hd.heap_39 w.params) (by k_is) ?_
  k_steps
  refine con_alias (news := _ :: _ :: news) (Nat.le_trans hy (by decide)) hoy _ _ _ ((L, oL) :: frs) g L' _ _ _ _ rfl (Around.frames_deeper hA) rfl rfl hFs1 F1 X N2 ?_ T (by show B.depth + 1 + 1 < _; omega) (by show B.units + 3 + 20 < _; omega) ?_
  · exact hap_cons hFs1 N2 rfl (hap_cons hFs1 (news_tl N2) (by show isDict oc = false; unfold isDict; rw [hoc]) (hap_base hap hlt))
  rintro _ ns frs1 h2 tk2 ⟨D, t1, t2, t3, rfl, rfl⟩ SU1 Fs1 F2 N3 hap1
  replace N3 : News g L' h2 ((D, tup3 (aliasOf x y z).1 (aliasOf x y z).2.1 (aliasOf x y z).2.2 t1 t2 t3) :: (r, tup3 x y z t u v) :: (L' + 1, oc) :: (news ++ frs1)) := N3
  refine stLocN F2 N3 ?_
  intro h3 F3 N4
  dsimp only
  refine execsC_cons (AssignC (CallC ?_))
  refine nameG_fn F3 X T (by k_is) ?_
  refine callWithC_K (K := Mine.hd.heap_39 w.params) (by k_is) ?_
  k_steps
  have hapB1 : ∀ p ∈ news, p.1 ∉ L' :: frs1.map (·.1) := by rw [sameUp_map SU1]; exact hap_base hap hlt
  refine con_norm (news := _ :: _ :: _ :: news) (Nat.le_trans hz (by decide)) (Nat.le_trans hb (by decide)) hoz hob _ _ _ frs1 g L' _ _ _ _ rfl (Around.frames_deeper hA) rfl rfl Fs1 F3 X N4 ?_ T (by show B.depth + 1 + 1 < _; omega) (by show B.units + 3 + 20 < _; omega) ?_
  · exact hap_cons Fs1 N4 rfl (hap_cons Fs1 (news_tl N4) rfl (hap_cons Fs1 (news_tl (news_tl N4)) (by show isDict oc = false; unfold isDict; rw [hoc]) hapB1))
  rintro _ ns frs2 h4 tk4 ⟨rfl, t4, rfl⟩ SU2 Fs2 F4 N5 _
  replace N5 : News g L' h4 ((D, tup3 (aliasOf x y z).1 (aliasOf x y z).2.1 (aliasOf x y z).2.2 t1 t2 t3) :: (r, tup3 x y z t u v) :: (L' + 1, oc) :: (news ++ frs2)) := N5
  refine stLocN F4 N5 ?_
  intro h5 F5 N6
  dsimp only
  have hapB2 : ∀ p ∈ news, p.1 ∉ L' :: frs2.map (·.1) := by rw [sameUp_map SU2]; exact hapB1
  clear hFs1 Fs1 F1 F2 F3 F4 N2 N3 N4 N5 hapB1 hap1
  refine execsC_consA ?_
  k_steps
  refine con_unk _ _ _ _ _ _ _ rfl F5 X N6 T (by show B.depth + 1 + 1 < _; omega) (by show B.units + 3 + 8 < _; omega) ?_
  rintro _ ns h6 tk6 ⟨rfl, t6, rfl⟩ F6 N7 _
  replace N7 : News g L' h6 ((D, tup3 (aliasOf x y z).1 (aliasOf x y z).2.1 (aliasOf x y z).2.2 t1 t2 t3) :: (r, tup3 x y z t u v) :: (L' + 1, oc) :: (news ++ frs2)) := N7
  refine stLocN F6 N7 ?_
  intro h7 F7 N8
  dsimp only
  clear F5 F6 N6 N7
  refine execsC_consA ?_
  k_steps
  dsimp only
  (rename Fr g L' _ _ => F9)
  (rename News g L' _ _ => N9)
  refine execsC_consA (wpAny_mono (Q := fun fl s' => Kept (fl = .next ∧ ∃ h' tk' P tf vs k, s' = { s with heap := h', toks := tk' } ∧ Paired IsStrV vs (partsOf z b) ∧
    Fr g L' h' (holdsM x y z b (.ref r) bt (.ref D) t4 t6 tf (.ref P)) ∧
    News g L' h' ((P, listObj vs.toArray k) :: (D, tup3 (aliasOf x y z).1 (aliasOf x y z).2.1 (aliasOf x y z).2.2 t1 t2 t3) :: (r, tup3 x y z t u v) :: (L' + 1, oc) :: (news ++ frs2)))) ?_ ?_ (fun _ _ h => h))
  · k_steps
    · (rename Fr g L' _ _ => F10)
      (rename News g L' _ _ => N10)
      (rename List (Str × Tok) => l10)
      (rename List.map (fun x => x.fst) l10 = Txt.split z (Str.ofString ".") => hl10)
      refine add_lists F10 N10 (News.isList N10 (.tail _ (.head _))) (News.isList N10 (.head _)) ?_ ?_
      · intro h11 F11 N11
        dsimp only
        refine stLocN F11 N11 ?_
        intro h12 F12 N12
        refine .of ⟨rfl, h12, _, _, _, strValues l10 ++ [Value.str b bt], 0, rfl, parts_pair hl10 (by assumption), F12, fun p hp => ?_⟩
        rcases List.mem_cons.mp hp with rfl | hp
        · exact N12 _ (.head _)
        · exact N12 _ (.tail _ (.tail _ (.tail _ (.tail _ hp))))
      · have e1 := split_len z (Str.ofString ".")
        rw [← hl10] at e1
        simp only [strValues, List.length_map, List.length_cons, List.length_nil] at e1 ⊢
        rw [sizeLine_eq]
        omega
    · (rename Fr g L' _ _ => F12)
      (rename News g L' _ _ => N12)
      (rename List (Str × Tok) => l10)
      (rename List.map (fun x => x.fst) l10 = Txt.split z (Str.ofString ".") => hl10)
      refine .of ⟨rfl, _, _, _, _, strValues l10, 0, rfl, parts_pair0 hl10 (by assumption), F12, fun p hp => ?_⟩
      rcases List.mem_cons.mp hp with rfl | hp
      · exact (by simpa using N12 _ (.head _))
      · exact N12 _ (.tail _ (.tail _ (.tail _ (.tail _ hp))))
  rintro fl s' ⟨hmid⟩
  obtain ⟨rfl, h13, tk13, P, tf, vs, k, rfl, hvs, F13, N13⟩ := hmid
  dsimp only
  clear F9 N9
  refine execsC_consA ?_
  k_steps
  refine con_renamed (.tail _ (.tail _ (.head _))) (Nat.le_trans hy (by decide)) hy0 hoy _ _ _ _ _ _ _ rfl F13 X N13 T (by show B.depth + 1 + 2 < _; omega) (by show B.units + 3 + 20 < _; omega) ?_
  rintro _ ns h14 tk14 ⟨D2, u1, u2, u3, rfl, hD2⟩ F14 N14 _
  have N15 := news_app N14
  rw [← ok.ali] at hD2
  refine ne_dataH (da := .tuple (([(aliasOf x y z).1, (aliasOf x y z).2.1, (aliasOf x y z).2.2] : List Str).map PyData.str)) (db := .tuple (([(aliasOf x y z).1, (aliasOf x y z).2.1, (aliasOf x y z).2.2] : List Str).map PyData.str))
    (reads_tuple_at (N15 _ (.tail _ (.head _))).1 rfl rfl (strs_readAll _ (.cons _ _ (.cons _ _ (.cons _ _ .nil))))) (reads_tuple_at (N14 _ hD2).1 rfl rfl (strs_readAll _ (.cons _ _ (.cons _ _ (.cons _ _ .nil))))) (shaped3 ok.s1 ok.s2 ok.s3) (shaped3 ok.s1 ok.s2 ok.s3) (by show B.units + 3 + 64 < _; omega) ?_
  rw [eqv_tup]
  clear F13 N13 N14
  dsimp only
  k_steps
  have hpo := parts_okay (Nat.le_trans hz (by decide)) (Nat.le_trans hb (by decide)) hoz hob
  have hpn := parts_len (x := z) (b := b) (Nat.le_trans hz (by decide))
  refine con_normed (.head _) hvs hpn (fun p hp => (hpo p hp).1) _ _ _ _ _ _ _ rfl F14 X N15 T (by show B.depth + 1 + 2 < _; omega) (by show B.units + 3 + 100 < _; omega) ?_
  rintro _ ns h16 tk16 ⟨rfl, t16, rfl⟩ F16 N16 _
  replace N16 := news_app N16
  refine ne_str ?_
  rw [ok.norm, bne_self_eq_false]
  clear F14 N15
  k_steps
  dsimp only
  refine execsC_consA (wpAny_mono (Q := fun fl s' => Kept (fl = .next ∧ ∃ h' tk', s' = { s with heap := h', toks := tk' } ∧
    Fr g L' h' (holdsM x y z b (.ref r) bt (.ref D) t4 t6 tf (.ref P)) ∧
    News g L' h' ((P, listObj vs.toArray k) :: (D, tup3 (aliasOf x y z).1 (aliasOf x y z).2.1 (aliasOf x y z).2.2 t1 t2 t3) :: (r, tup3 x y z t u v) :: (L' + 1, oc) :: (news ++ frs2)))) ?_ ?_ (fun _ _ h => h))
  · k_steps
    · exact absurd (by assumption) (unk_no1 (x := x) (by assumption))
    · exact .of ⟨rfl, _, _, rfl, F16, N16⟩
    · exact absurd (by assumption) (unk_no2 (x := x) (by assumption))
    · exact .of ⟨rfl, _, _, rfl, F16, N16⟩
  rintro fl s' ⟨hmid⟩
  obtain ⟨rfl, h17, tk17, rfl, F17, N17⟩ := hmid
  clear F16 N16
  dsimp only
  refine execsC_consA (wpAny_Assign_Name ?_)
  walk1
  walk1
  refine wpAny_Constant_int ?_
  walk1
  have hvl : vs.length = (partsOf z b).length := hvs.length
  refine comp_src (p := fun _ => true) (F := NumV) rfl (by decide) rfl (by decide) rfl ?_
  refine ldLoc F17 rfl ?_
  refine ⟨_, _, src_list rfl (News.isList N17 (.head _)), ?_, ?_, ?_, ?_⟩
  · rw [sizeLine_eq, List.size_toArray]; omega
  · intro C i v s₃ m₃ E' hC hP hn hm hk
    exact wpAny_tests_nil ⟨rfl, s₃.heap, s₃.toks, rfl, fun b o e => e⟩
  · intro C i v s₃ m₃ E' hC hP hp hn hm hk
    refine Call_ ?_
    have F3 : Fr h17 C s₃.heap m₃ := ⟨hn, hk, hC⟩
    refine nameG_fn F3 (X.keeps F17.keep) (T.keeps F17.keep) (by k_is) ?_
    refine callWith_K (X.keeps F17.keep) (by k_is) ?_
    refine args_cons (wpAny_Name (wpAny_loadName_local rfl rfl hn hm ?_) (by decide))
    refine args_nil ?_
    refine ⟨(X.keeps F17.keep).keeps hk, ?_⟩
    obtain ⟨x, u, rfl, hx⟩ := str_at hvs (fun p hp => (hpo p hp).1) (show vs[i]? = some v by simpa using hP)
    refine elt_con (F := NumV (.str x u)) (fun news => con_mono (con_num (Nat.le_trans hx (by decide))) fun r ns hr => ⟨hr.1, ?_⟩) rfl F17 X T (by show B.depth + 1 + 1 < _; omega) (by show B.units + 3 + 8 < _; omega) hC hn hk
    obtain ⟨t', rfl⟩ := hr.2
    exact ⟨x, u, t', rfl, rfl⟩
  intro D3 h18 tk18 ys k18 vs18 hD18 hg18 hlen18 hP18 hpair18 hk18
  rw [filter_true, vals_of hlen18 hP18] at hpair18
  have hints := numV_pair hvs hpair18
  obtain ⟨F18, N18⟩ := comp_led F17 N17 hD18 hg18 hk18
  have hl18 : h18.IsList D3 ys.toList.toArray := ⟨_, hg18, rfl, k18, by simp⟩
  refine notin_list_ints hl18 hints ?_
  replace N18 := news_tl N18
  refine stLocN F18 N18 ?_
  intro h19 F19 N19
  clear F17 N17 F18 N18
  dsimp only
  have hapL : ∀ p ∈ news ++ frs2, p.1 < L' := fun p hp => by
    rcases List.mem_append.mp hp with hp | hp
    · exact hlt p (List.mem_append_left _ hp)
    · obtain ⟨p', hp', e⟩ := (SameUp.trans SU1 SU2).fwd p hp
      rw [e]
      exact hlt p' (List.mem_append_right _ hp')
  refine holds_loop (by k_is) ok hdp hun hA Fs2 hapB2 hapL X T (by rw [← loopM_start]; exact F19) N19 hvs ⟨_, hoc⟩ ?_
  intro h' tk' m' oc' frs' SU3 Fs3 F20 N20
  have SU := SameUp.trans SU1 (SameUp.trans SU2 SU3)
  cases frs' with
  | nil => exact SU.elim
  | cons q frsR =>
    obtain ⟨q1, q2⟩ := q
    obtain ⟨sl, e2⟩ := SU.2.1
    have e1 : L = q1 := SU.1.symm
    have e3 : ({ oL with slots := sl } : Obj) = q2 := e2.symm
    have SU' := SU.2.2
    subst e1 e3
    dsimp only
    exact ⟨L', _, news, sl, frsR, F20, news_tl N20, SU', fun p hp => (hN p (List.mem_append_left _ hp)).2.1, fun F₀ N₀ => hret _ [] frsR _ _ ⟨rfl, rfl⟩ SU' Fs3.2.2.2 F₀ N₀ fun p hp => by cases hp⟩
end Mine
end
section
-- part TopC
open PySem PySem.W PyProof.Rows PyProof.Rows.TI PySem.Calls
open Sem (wp)
set_option maxRecDepth 100000
namespace Mine
section
variable {prog : Program} {w : World} {A : Around} {s : Shared} {K : Frag}
  {R : Result → Shared → Prop} {name qual : Str} {params : Arguments} {body : List Stmt} {scope : Scope} {dV kV doc pm cdv ct oc : Value} {an od : Option Addr} {osl : Array (Option Value)} {f : Addr} {args : Args} {binds : List (Str × Value)}
  {p : Program} {loose : List Str} {mean : ExcName → Option Value} {mg mb : Str → Option Value}
/-- the law itself, entered from its caller -/
theorem topTC (X₀ : K.In s.heap) (T : Top p loose mean mg mb s.heap)
    (ho : K.lookup f = some ⟨oc, od, .func (fnOf name qual params body scope dV kV doc pm an cdv ct), osl⟩) (hcd : codeIn K cdv qual = true) (hroom : A.depth < recursionLimit)
    (hbind : BindsTo s (fnOf name qual params body scope dV kV doc pm an cdv ct) args binds) (hkind : (binds.all fun y => scope.names.lookup y.1 == some .local || scope.names.lookup y.1 == some .cell) = true)
    (hnd : ((cellsFrom 0 scope.names []).map (·.1)).Nodup)
    (h : ∀ L' h₁ tk cells, Fr s.heap L' h₁ (bindL (envOfC qual scope L' f cdv).kindOf binds fun _ => none) → News s.heap L' h₁ cells →
      CellsAre (bindC (envOfC qual scope L' f cdv).kindOf binds fun _ => none) (cellsFrom (L' + 1) scope.names []) cells →
      wpC (model prog w) (A.deeper (envOfC qual scope L' f cdv)) (execs body (envOfC qual scope L' f cdv))
        (fun fl s' => R (.ok (.ret (match fl with | .ret v => v | _ => .none))) s') (fun _ _ => False)
        { s with heap := h₁, toks := tk })
    (hco : scope.isCoroutine = false) (hgen : scope.isGenerator = false) (hk : scope.kind = .function) : codeC (model prog w) A (.call (.ref f) args) R s := by
  have hcd' := codeRec_of X₀ hcd
  refine codeC_call_function (body := body) hroom (X₀ _ _ ho) rfl hco hgen rfl hcd' (hbind _ _ _ _ ?_)
  refine wpAny_newFunctionEnv_cells hk (kindsX hkind _) fun env' he s' x => ?_
  subst he
  refine ⟨T.nolimit.keeps x.toInCall.keep, codeC_func ?_⟩
  obtain ⟨h₁, tk, rfl, _⟩ := x.done
  obtain ⟨cells, NC, Y⟩ := Cl.news (h₀ := s.heap) (Nat.le_refl _) fun n c hm => ⟨x.cell n c (lookup_of_mem_nodup (cellsFrom_names scope.names 0 (s.heap.objs.size + 1) [] [] rfl ▸ hnd) hm), x.above n c hm⟩
  exact wpC_mono (h s.heap.objs.size h₁ tk cells ⟨x.toInCall.ns, x.toInCall.keep, Nat.le_refl _⟩ NC Y) (fun _ _ q => q) fun _ _ y => y.elim
theorem walks_lt {I : Addr} {fp wr : List Addr} {n : Nat} {P : Nat → Value → Prop} {St : Nat → Heap → Prop} (W : Walks prog w A I fp wr n P St) : Walks prog w A I fp wr n (fun i v => P i v ∧ i < n) St where
  sub := W.sub
  frame := W.frame
  item := fun i s Q E hi st hQ => W.item i s Q E hi st fun v h' tk hP => hQ v h' tk ⟨hP, hi⟩
  done := W.done
  self := W.self
/-- what a walk over range(n) hands out -/
theorem src_range (hh : A.handled = none) {r : Addr} {n : Nat} {t u v : Tok} (hr : IsRange s.heap r 0 n 1 t u v) (hsmall : Builtin.Range.small 0 n 1 = true) (hn : Builtin.Range.rangeSize 0 n 1 = n) : Src prog w A s (.ref r) n (fun i v => (∃ t, v = .int (i : Int) t) ∧ i < n) := by
  intro Q E h
  refine wpAny_pyIter_range hr hsmall ?_
  have W := Walks.range (prog := prog) (w := w) hh s.heap.objs.size 0 1 n
  have e : (fun (i : Nat) (v : Value) => ∃ t, v = .int (0 + (i : Int) * 1) t) = (fun i v => ∃ t, v = .int (i : Int) t) := by funext i v; rw [Int.zero_add, Int.mul_one]
  rw [e] at W
  refine h [s.heap.objs.size] _ _ (walks_lt W) ?_ (fun b o e => Heap.get?_push_of_some _ e) ?_ ?_
  · rw [hn]
    exact (by have := Heap.get?_push_size s.heap (o := { cls := .type "range_iterator", data := .fields #[rawInt 0, rawInt n, rawInt 1] }) rfl; simpa [IsRangeIter] using this)
  · intro b hb; rw [Heap.size_push, List.mem_singleton.mp hb]; exact Nat.lt_succ_self _
  · rw [Heap.size_push]; exact Nat.lt_succ_self _
end
end Mine
end
section
-- part Consts
open PySem PySem.W PyProof.Rows PyProof.Rows.TI PySem.Calls
set_option maxRecDepth 100000
namespace Mine
inductive ConstStrs : List Expr → List Str → Prop
  | nil : ConstStrs [] []
  | cons {x : Str} {k : Nat} {p : Pos} {es : List Expr} {xs : List Str} : ConstStrs es xs → ConstStrs (.Constant (.str x) k p :: es) (x :: xs)
inductive ConstInts : List Expr → List Int → Prop
  | nil : ConstInts [] []
  | cons {x : Int} {k : Nat} {p : Pos} {es : List Expr} {xs : List Int} : ConstInts es xs → ConstInts (.Constant (.int x) k p :: es) (x :: xs)
section
variable {M : Model} {A : Around} {E : Value → Shared → Prop} {env : Env} {pos : Pos}
theorem args_strs {es : List Expr} {xs : List Str} (h : ConstStrs es xs) : ∀ {s : Shared} {Q : List Value → Shared → Prop}, (∀ vs tk, StrsAre vs xs → Q vs { s with toks := tk }) → wpAny M A (spliced (backTo pos (starEach es env))) Q E s := by
  induction h with
  | nil => intro s Q hQ; exact args_nil (hQ [] s.toks .nil)
  | cons _ ih => intro s Q hQ; exact args_cons (Calls.Constant_str (ih fun vs tk hv => hQ _ tk (.cons _ _ hv)))
theorem args_ints {es : List Expr} {xs : List Int} (h : ConstInts es xs) : ∀ {s : Shared} {Q : List Value → Shared → Prop}, (∀ vs tk, IntsAre vs xs → Q vs { s with toks := tk }) → wpAny M A (spliced (backTo pos (starEach es env))) Q E s := by
  induction h with
  | nil => intro s Q hQ; exact args_nil (hQ [] s.toks .nil)
  | cons _ ih => intro s Q hQ; exact args_cons (wpAny_Constant_int (ih fun vs tk hv => hQ _ tk (.cons _ _ hv)))
end
theorem strs_get {vs : List Value} {xs : List Str} (h : StrsAre vs xs) : ∀ {i : Nat} {x : Str}, xs[i]? = some x → ∃ t, vs[i]? = some (.str x t) := by
  induction h with
  | nil => intro i x e; simp at e
  | cons n t _ ih =>
    intro i x e
    cases i with
    | zero => simp at e; exact ⟨t, by simp [e]⟩
    | succ i => simpa using ih (by simpa using e)
def pieceL : List Str := [Str.ofString "5", Str.ofString "7", Str.ofString "61", Str.ofString "08", Str.ofString "3", Str.ofString "0", Str.ofString ".", Str.ofString ".", Str.ofString "9\n", Str.ofString "8\t", Str.ofString "6\r", Str.ofString " ", Str.ofString "\t", Str.ofString "\n", Str.ofString "<", Str.ofString ">", Str.ofString "&", Str.ofString "\"", Str.ofString "a", Str.ofString "."]
def restL : List Int := [8, 14, 2, 6, 1, 6, 3, 6, 1, 7, 18, 7, 4, 16, 0]
def otherL : List Str := [Str.ofString "win32", Str.ofString "SunOS", Str.ofString "win16", Str.ofString "unknown", Str.ofString "SunOS\n", Str.ofString "<SunOS>", Str.ofString "Linux", Str.ofString "unknown\t"]
end Mine
end
section
-- part LawX
open PySem PySem.W PyProof.Rows PyProof.Rows.TI PySem.Calls PySem.Spec
set_option maxRecDepth 100000
namespace Mine
def pieceOf (n : Int) : Str := pieceL.getD (n % 20).toNat (Str.ofString "")
def textOf (l : List Int) : Str := Txt.join (Str.ofString "") (l.map pieceOf)
def fullN (ns : List Int) : List Int := ns.take 15 ++ restL.drop (ns.take 15).length
theorem fullN_len (ns : List Int) : (fullN ns).length = 15 := by
  unfold fullN restL
  simp only [List.length_append, List.length_take, List.length_drop, List.length_cons, List.length_nil]
  omega
def pick3 (k : Nat) (l : List Int) : List Int := [l.getD k 0, l.getD (k + 3) 0, l.getD (k + 6) 0, l.getD (k + 9) 0, l.getD (k + 12) 0]
theorem get_some {l : List Int} {j : Nat} (h : j < l.length) : l[j]? = some (l.getD j 0) := by
  rw [List.getD_eq_getElem?_getD, List.getElem?_eq_getElem h]
  rfl
theorem pick_eq {l : List Int} (h : l.length = 15) {k : Nat} (hk : k < 3) : pickNums l (some (k : Int)) none (some 3) = pick3 k l := by
  have e0 : sliceRange (sliceBounds (some (k : Int)) none (some 3) 15).1 (sliceBounds (some (k : Int)) none (some 3) 15).2.1 (sliceBounds (some (k : Int)) none (some 3) 15).2.2 = [k, k + 3, k + 6, k + 9, k + 12] := by
    have : k = 0 ∨ k = 1 ∨ k = 2 := by omega
    rcases this with rfl | rfl | rfl <;> decide +kernel
  unfold pickNums
  rw [h, e0]
  have g (j : Nat) (hj : j < 15) : l[j]? = some (l.getD j 0) := get_some (by omega)
  unfold pick3
  simp only [List.filterMap_cons, List.filterMap_nil, g k (by omega), g (k + 3) (by omega), g (k + 6) (by omega), g (k + 9) (by omega), g (k + 12) (by omega)]
theorem pick3_len {l : List Int} (_ : l.length = 15) {k : Nat} (_ : k < 3) : (pick3 k l).length = 5 := rfl
theorem pieceL_len : pieceL.length = 20 := rfl
theorem piece_at (n : Int) : pieceL[(n.fmod 20).toNat]? = some (pieceOf n) := by
  have e : n.fmod 20 = n % 20 := Int.fmod_eq_emod_of_nonneg n (by decide)
  have h1 : (n % 20).toNat < pieceL.length := by rw [pieceL_len]; omega
  unfold pieceOf
  rw [e, List.getElem?_eq_getElem h1, List.getD_eq_getElem?_getD, List.getElem?_eq_getElem h1]
  rfl
theorem pieceL_short : ∀ p ∈ pieceL, p.length ≤ 2 := by decide
theorem piece_mem (n : Int) : pieceOf n ∈ pieceL := List.mem_of_getElem? (piece_at n)
theorem piece_short (n : Int) : (pieceOf n).length ≤ 2 := pieceL_short _ (piece_mem n)
theorem join_empty : ∀ ps : List Str, (Str.join (Str.ofString "") ps).cps.toList = (ps.map (·.cps.toList)).flatten
  | [] => rfl
  | [p] => by simp [Str.join]
  | p :: q :: ps => by
    have ih := join_empty (q :: ps)
    have e0 : (Str.ofString "").cps.toList = [] := by decide
    show (p ++ Str.ofString "" ++ Str.join (Str.ofString "") (q :: ps)).cps.toList = _
    simp only [Str.cps_append, Array.toList_append, ih, e0, List.append_nil, List.map_cons, List.flatten_cons]
theorem text_list (l : List Int) : (textOf l).cps.toList = (l.map fun n => (pieceOf n).cps.toList).flatten := by
  unfold textOf
  have e : Txt.join (Str.ofString "") (l.map pieceOf) = Str.join (Str.ofString "") (l.map pieceOf) := StrLaws.glued_eq_join _ _
  rw [e, join_empty, List.map_map]
  rfl
theorem pieceL_okay : ∀ p ∈ pieceL, Okay p := by unfold Okay okC; decide
theorem pieceL_pos : ∀ p ∈ pieceL, 1 ≤ p.length := by decide
theorem text_okay (l : List Int) : Okay (textOf l) := fun c hc => by
  rw [text_list] at hc
  obtain ⟨cs, hcs, hc⟩ := List.mem_flatten.mp hc
  obtain ⟨n, _, rfl⟩ := List.mem_map.mp hcs
  exact pieceL_okay _ (piece_mem n) c hc
theorem text_len (l : List Int) : l.length ≤ (textOf l).length ∧ (textOf l).length ≤ 2 * l.length := by
  have e : (textOf l).length = (textOf l).cps.toList.length := rfl
  rw [e, text_list]
  clear e
  induction l with
  | nil => exact ⟨Nat.le_refl _, Nat.le_refl _⟩
  | cons n l ih =>
    rw [List.map_cons, List.flatten_cons, List.length_append, List.length_cons]
    have h1 : (pieceOf n).cps.toList.length ≤ 2 := piece_short n
    have h2 : 1 ≤ (pieceOf n).cps.toList.length := pieceL_pos _ (piece_mem n)
    omega
end Mine
end
section
-- part LawTx
open PySem PySem.W PyProof.Rows PyProof.Rows.TI PySem.Calls PySem.Spec
set_option maxRecDepth 100000
namespace Mine
variable {prog : Program} {w : World} {mean : ExcName → Option Value} {mg mb : Str → Option Value}
def PieceV (v y : Value) : Prop := ∃ n t t', v = .int n t ∧ y = .str (pieceOf n) t'
def TextV (xs : List Int) (v y : Value) : Prop := ∃ (k : Nat) (t t' : Tok), k < 3 ∧ v = .int (k : Int) t ∧ y = .str (textOf (pick3 k xs)) t'
theorem pieces_pair {vs : List Value} {ns : List Int} (h : IntsAre vs ns) : ∀ {ys : List Value}, Paired PieceV vs ys → StrsAre ys (ns.map pieceOf) := by
  induction h with
  | nil => intro ys hy; cases hy; exact .nil
  | cons n t _ ih =>
    intro ys hy
    cases hy with
    | cons h2 h3 =>
      obtain ⟨n', u, t', e1, rfl⟩ := h2
      cases e1
      exact .cons _ _ (ih h3)
theorem texts_pair {xs : List Int} {vs : List Value} {ys : Array Value} (hlen : vs.length = 3) (hP : ∀ (j : Nat) v, vs[j]? = some v → ∃ t, v = .int (j : Int) t) (h : Paired (TextV xs) vs ys.toList) :
    StrsAre ys.toList [textOf (pick3 0 xs), textOf (pick3 1 xs), textOf (pick3 2 xs)] := by
  match vs, hlen with
  | [v0, v1, v2], _ =>
    obtain ⟨t0, rfl⟩ := hP 0 v0 rfl
    obtain ⟨t1, rfl⟩ := hP 1 v1 rfl
    obtain ⟨t2, rfl⟩ := hP 2 v2 rfl
    generalize ys.toList = l at h
    cases h with
    | cons h1 h =>
      cases h with
      | cons h2 h =>
        cases h with
        | cons h3 h =>
          cases h
          obtain ⟨k1, a1, b1, _, e1, rfl⟩ := h1
          obtain ⟨k2, a2, b2, _, e2, rfl⟩ := h2
          obtain ⟨k3, a3, b3, _, e3, rfl⟩ := h3
          have q1 : k1 = 0 := by injection e1 with e1 _; omega
          have q2 : k2 = 1 := by injection e2 with e2 _; omega
          have q3 : k3 = 2 := by injection e3 with e3 _; omega
          subst q1 q2 q3
          exact .cons _ _ (.cons _ _ (.cons _ _ .nil))
set_option maxHeartbeats 8000000 in
theorem law_texts {name qual : Str} {params : Arguments} {s1 s2 s3 s4 s5 s6 s7 s8 : Stmt} {scope : Scope} {dV kV doc pm cdv ct oc' : Value} {an od : Option Addr} {osl : Array (Option Value)}
    (hK : (Mine.hd.heap_39 w.params).lookup 119 = some ⟨oc', od, .func (fnOf name qual params [s1, s2, s3, s4, s5, s6, s7, s8] scope dV kV doc pm an cdv ct), osl⟩)
    {g : Heap} {L' NL PL : Addr} {s : Shared} {Q : Flow → Shared → Prop} {m : Str → Option Value} {news : List (Addr × Obj)} {nv pv : List Value} {xs : List Int} {k1 k2 : Nat} {oc3 oc4 : Obj}
    (X : (Mine.hd.heap_39 w.params).In g) (T : Top Mine.hd.view_39 (looseW Mine.hd.view_39 [Str.ofString "_norm_version"]) mean mg mb g)
    (F : Fr g L' s.heap m) (N : News g L' s.heap news)
    (hN : (NL, listObj nv.toArray k1) ∈ news) (hP : (PL, listObj pv.toArray k2) ∈ news) (h3 : (L' + 1, oc3) ∈ news) (h4 : (L' + 1 + 1, oc4) ∈ news)
    (hnv : IntsAre nv xs) (hxs : xs.length = 15) (hpv : StrsAre pv pieceL) (hoc3 : oc3.data = .cell (some (.ref PL))) (hoc4 : oc4.data = .cell (some (.ref NL)))
    (hret : ∀ h' tk TL tv k, Fr g L' h' (fun y => if y = Str.ofString "texts" then some (.ref TL) else m y) → News g L' h' ((TL, listObj tv k) :: news) →
      StrsAre tv.toList [textOf (pick3 0 xs), textOf (pick3 1 xs), textOf (pick3 2 xs)] → Q .next { s with heap := h', toks := tk }) :
    wpAny (model prog w) (callerA.deeper (envOfC qual scope L' 119 cdv)) (exec s4 (envOfC qual scope L' 119 cdv)) Q (fun _ _ => False) s := by
  w_on
  refine known (by k_is) hK ?_
  intro e
  injection e with e1 e2 e3 e4
  injection e3 with e3
  injection e3 with f1 f2 f3 f4 f5 f6 f7 f8 f9 f10 f11 f12 f13 f14 f15
  injection f4 with f4
  injection f4 with g1 f4
  injection f4 with g2 f4
  injection f4 with g3 f4
  injection f4 with g4 f4
  subst f2 f5 f13 g4
  clear e1 e2 e4 f1 f3 f4 f6 f7 f8 f9 f10 f11 f12 f14 f15 g1 g2 g3 hK
  have hpn : pv.length = 20 := hpv.length
  have hnn : nv.length = 15 := by rw [hnv.length, hxs]
  refine' comp_assign (p := fun _ => true) (F := TextV xs) ?a1 ?a2 ?a3 ?a4 ?a5 ?a6 ?a7 ?a8 ?a9
  case a1 => with_unfolding_all rfl
  case a2 => exact rfl
  case a3 => decide
  case a4 => exact rfl
  case a5 => decide
  case a6 => exact rfl
  case a7 => exact rfl
  case a8 => exact rfl
  walk1
  walk1
  walk1
  walk1
  walk1
  walk1
  refine call_range_1 ?_
  have hr : IsRange (s.heap.push { cls := .type "range", data := .fields #[.int 0 (s.toks + 1), .int 3 s.toks, .int 1 (s.toks + 1 + 1)] }) s.heap.objs.size 0 (3 : Nat) 1 (s.toks + 1) s.toks (s.toks + 1 + 1) := Heap.get?_push_size _ rfl
  have F1 := F.push { cls := .type "range", data := .fields #[.int 0 (s.toks + 1), .int 3 s.toks, .int 1 (s.toks + 1 + 1)] }
  have N1 := N.pushKeep { cls := .type "range", data := .fields #[.int 0 (s.toks + 1), .int 3 s.toks, .int 1 (s.toks + 1 + 1)] }
  refine ⟨3, _, g, m, news, src_range rfl hr (by decide) (by decide), by rw [sizeLine_eq]; decide, F1, N1, ?_, ?_, ?_⟩
  · intro C i v s₃ m₃ E' hC hP hn hm hk
    exact wpAny_tests_nil ⟨rfl, s₃.heap, s₃.toks, rfl, fun b o e => e⟩
  · rintro C i v s₃ m₃ E' hC ⟨⟨t, rfl⟩, hi⟩ hp hn hm hk
    have F3 : Fr (s.heap.push { cls := .type "range", data := .fields #[.int 0 (s.toks + 1), .int 3 s.toks, .int 1 (s.toks + 1 + 1)] }) C s₃.heap m₃ := ⟨hn, hk, hC⟩
    refine MethodCall_ (Calls.Constant_str ?_)
    walk1
    walk1
    refine args_cons ?_
    refine' comp_src (p := fun _ => true) (F := PieceV) ?b1 ?b2 ?b3 ?b4 ?b5 ?b6
    case b1 => exact rfl
    case b2 => decide
    case b3 => exact rfl
    case b4 => decide
    case b5 => exact rfl
    walk1
    refine wpAny_Name (wpAny_loadName_cell rfl rfl rfl ⟨oc4, hk _ _ (N1 _ h4).1, hoc4⟩ ?_) (by decide)
    walk1
    walk1
    refine wpAny_Name (wpAny_loadName_local rfl rfl hn hm ?_) (by decide)
    walk1
    walk1
    refine wpAny_Constant_int ?_
    dsimp only
    have hl3 : s₃.heap.IsList NL nv.toArray := ⟨_, hk _ _ (N1 _ hN).1, rfl, _, rfl⟩
    refine' subscriptTail_ops (Heap.IsList.typeIs (s := { heap := s₃.heap.push { cls := .type "slice", data := .fields #[.int (i : Int) t, .none, .int 3 (s₃.toks + 1)] }, gens := s₃.gens, drawn := s₃.drawn, toks := s₃.toks + 1 + 1, os := s₃.os }) (hl3.push _)) list_getitem_lookup
      (wpAny_getItem_list_slice (hl3.push _) (Heap.IsSliceOf.new ..) (.int (i : Int) t) .none (.int 3 (s₃.toks + 1)) (by decide) ?c0 ?c3) ?c1 ?c2
    case c1 => with_unfolding_all rfl
    case c2 => (intro _; with_unfolding_all rfl)
    case c3 => (rw [sizeLine_eq, List.size_toArray, hnn]; decide)
    generalize hh5 : (s₃.heap.push { cls := .type "slice", data := .fields #[.int (i : Int) t, .none, .int 3 (s₃.toks + 1)] }) = h4
    have hk4 : ∀ b o, s₃.heap.get? b = some o → h4.get? b = some o := fun b o e => by rw [← hh5]; exact Heap.get?_push_of_some _ e
    have hl5 : (h4.push { cls := .type "list", data := .seq (slicePick nv.toArray (some (i : Int)) none (some 3)) }).IsList h4.objs.size (slicePick nv.toArray (some (i : Int)) none (some 3)) := ⟨_, Heap.get?_push_size _ rfl, rfl, _, rfl⟩
    have hk5 : ∀ b o, s₃.heap.get? b = some o → (h4.push { cls := .type "list", data := .seq (slicePick nv.toArray (some (i : Int)) none (some 3)) }).get? b = some o := fun b o e => Heap.get?_push_of_some _ (hk4 b o e)
    have hpk := hnv.pick (some (i : Int)) none (some 3)
    rw [pick_eq hxs hi] at hpk
    have hsz5 : (slicePick nv.toArray (some (i : Int)) none (some 3)).size = 5 := by
      have := hpk.length
      rw [pick3_len hxs hi] at this
      simpa using this
    refine ⟨_, _, src_list rfl hl5, by rw [sizeLine_eq, hsz5]; decide, ?_, ?_, ?_⟩
    · intro C2 i2 v2 s₄ m₄ E4 hC2 hP2 hn2 hm2 hk2
      exact wpAny_tests_nil ⟨rfl, s₄.heap, s₄.toks, rfl, fun b o e => e⟩
    · intro C2 i2 v2 s₄ m₄ E4 hC2 hP2 hp2 hn2 hm2 hk2
      have hv2 : v2 ∈ (slicePick nv.toArray (some (i : Int)) none (some 3)).toList := List.mem_of_getElem? (i := i2) (by simpa using hP2)
      obtain ⟨n, t2, rfl, _⟩ := ints_get hpk hv2
      walk1
      refine wpAny_Name (wpAny_loadName_cell rfl rfl rfl ⟨oc3, hk2 _ _ (hk5 _ _ (hk _ _ (N1 _ h3).1)), hoc3⟩ ?_) (by decide)
      refine wpAny_BinOp ?_
      refine wpAny_Name (wpAny_loadName_local rfl rfl hn2 hm2 ?_) (by decide)
      refine wpAny_Constant_int ?_
      refine mod_int (by decide) ?_
      have hpl : s₄.heap.IsList PL pv.toArray := ⟨_, hk2 _ _ (hk5 _ _ (hk _ _ (N1 _ hP).1)), rfl, _, rfl⟩
      obtain ⟨tp, htp⟩ := strs_get hpv (piece_at n)
      have hf0 : 0 ≤ n.fmod 20 := Int.fmod_nonneg_of_pos n (by decide)
      have hf1 : n.fmod 20 < 20 := Int.fmod_lt_of_pos n (by decide)
      refine tail_any (Heap.IsList.typeIs hpl) slot_list_getitem.lookup (wpAny_getItem_list hpl hf0 (by omega) (x := .str (pieceOf n) tp) (by simpa using htp) ?_) (by with_unfolding_all rfl)
      exact ⟨⟨n, t2, tp, rfl, rfl⟩, s₄.heap, _, rfl, fun b o e => e⟩
    · intro D h6 tk6 ys k6 vs6 hD6 hg6 hlen6 hP6 hpair6 hk6
      rw [filter_true, vals_of hlen6 hP6] at hpair6
      have hys := pieces_pair hpk hpair6
      refine args_nil ?_
      refine join_list ⟨_, hg6, rfl, _, rfl⟩ hys ?_ ?_
      · have h1 := sum_le_of (l := (pick3 i xs).map pieceOf) (k := 2) fun a ha => by
          obtain ⟨n, _, rfl⟩ := List.mem_map.mp ha
          exact piece_short n
        rw [List.length_map, pick3_len hxs hi] at h1
        rw [List.length_map, pick3_len hxs hi]
        have e4 : (Str.ofString "").length = 0 := by decide
        rw [e4]
        omega
      intro t7 k7
      exact ⟨⟨i, _, _, hi, rfl, rfl⟩, h6, _, rfl, fun b o e => hk6 b o (hk5 b o e)⟩
  · intro TL h6 tk6 tv k6 vs6 F6 N6 hlen6 hP6 hpair6 _
    rw [filter_true] at hpair6
    refine hret h6 tk6 TL tv k6 F6 N6 ?_
    exact texts_pair hlen6 (fun j v h => (hP6 j v h).1) hpair6
end Mine
end
section
-- part LawR
open PySem PySem.W PyProof.Rows PyProof.Rows.TI PySem.Calls PySem.Spec
set_option maxRecDepth 100000
namespace Mine
variable {prog : Program} {w : World} {mean : ExcName → Option Value} {mg mb : Str → Option Value}
def txt (ns : List Int) (k : Nat) : Str := textOf (pick3 k (fullN ns))
def otherOf (ns : List Int) : Str := otherL.getD (((ns.take 15).sum) % 8).toNat (Str.ofString "")
theorem other_at (n : Int) : otherL[(n.fmod 8).toNat]? = some (otherL.getD (n % 8).toNat (Str.ofString "")) := by
  have e : n.fmod 8 = n % 8 := Int.fmod_eq_emod_of_nonneg n (by decide)
  have h1 : (n % 8).toNat < otherL.length := by show _ < 8; omega
  rw [e, List.getElem?_eq_getElem h1, List.getD_eq_getElem?_getD, List.getElem?_eq_getElem h1]
  rfl
theorem txt_len (ns : List Int) {k : Nat} (hk : k < 3) : 0 < (txt ns k).length ∧ (txt ns k).length ≤ 10 := by
  have h := text_len (pick3 k (fullN ns))
  rw [pick3_len (fullN_len ns) hk] at h
  exact ⟨Nat.lt_of_lt_of_le (by decide) h.1, h.2⟩
theorem txt_okay (ns : List Int) (k : Nat) : Okay (txt ns k) := text_okay _
theorem txt_short (ns : List Int) {k : Nat} (hk : k < 3) : (txt ns k).length ≤ 1000 := Nat.le_trans (txt_len ns hk).2 (by decide)
theorem other_mem (ns : List Int) : otherOf ns ∈ otherL := List.mem_of_getElem? (other_at (ns.take 15).sum)
def lawB (bl tl d a : Value) (o : Str) (tp : Tok) : Str → Option Value := fun y =>
  if y = Str.ofString "builds" then some bl else if y = Str.ofString "other" then some (.str o tp) else if y = Str.ofString "texts" then some tl else if y = Str.ofString "drawn" then some d else if y = Str.ofString "script" then some a else none
def lawM (q1 q2 : Option Value) (base : Str → Option Value) : Str → Option Value := fun y => if y = Str.ofString "record" then q2 else if y = Str.ofString "k" then q1 else base y
theorem lawM_k {q1 q2 : Option Value} {base : Str → Option Value} {v : Value} : (fun a => if a = Str.ofString "k" then some v else lawM q1 q2 base a) = lawM (some v) q2 base := by
  funext a
  unfold lawM
  by_cases h : a = Str.ofString "k"
  · subst h; rfl
  · simp only [if_neg h]
theorem lawM_record {q1 q2 : Option Value} {base : Str → Option Value} {v : Value} : (fun a => if a = Str.ofString "record" then some v else lawM q1 q2 base a) = lawM q1 (some v) base := by
  funext a
  unfold lawM
  by_cases h : a = Str.ofString "record"
  · subst h; rfl
  · simp only [if_neg h]
theorem lawM_start {bl tl d a : Value} {o : Str} {tp : Tok} : lawB bl tl d a o tp = lawM none none (lawB bl tl d a o tp) := by
  funext y
  unfold lawM
  by_cases h : y = Str.ofString "record"
  · subst h; rfl
  · rw [if_neg h]
    by_cases h2 : y = Str.ofString "k"
    · subst h2; rfl
    · rw [if_neg h2]
set_option maxHeartbeats 8000000 in
theorem law_loop {name qual : Str} {params : Arguments} {s1 s2 s3 s4 s5 s6 s7 s8 : Stmt} {scope : Scope} {dV kV doc pm cdv ct oc' : Value} {an od : Option Addr} {osl : Array (Option Value)}
    (hK : (Mine.hd.heap_39 w.params).lookup 119 = some ⟨oc', od, .func (fnOf name qual params [s1, s2, s3, s4, s5, s6, s7, s8] scope dV kV doc pm an cdv ct), osl⟩)
    {g : Heap} {L' BL TL : Addr} {d a : Value} {s : Shared} {Q : Flow → Shared → Prop} {ns : List Int} {news : List (Addr × Obj)} {b0 b1 b2 ta tb tc tp : Tok} {k1 : Nat}
    (X : (Mine.hd.heap_39 w.params).In g) (T : Top Mine.hd.view_39 (looseW Mine.hd.view_39 [Str.ofString "_norm_version"]) mean mg mb g)
    (F : Fr g L' s.heap (lawB (.ref BL) (.ref TL) d a (otherOf ns) tp))
    (N : News g L' s.heap ((BL, PySem.W.listOf #[.str (Txt.partition (txt ns 2) (Str.ofString ".")).1 b0, .str (Txt.partition (txt ns 0) (Str.ofString ".")).1 b1, .str (Str.ofString "") b2] 0) :: (TL, listObj #[.str (txt ns 0) ta, .str (txt ns 1) tb, .str (txt ns 2) tc] k1) :: news))
    (hr0 : RecOk (Str.ofString "SunOS") (txt ns 0) (txt ns 1) (Txt.partition (txt ns 2) (Str.ofString ".")).1)
    (hr1 : RecOk (Str.ofString "SunOS") (txt ns 1) (txt ns 2) (Txt.partition (txt ns 0) (Str.ofString ".")).1)
    (hr2 : RecOk (otherOf ns) (txt ns 2) (txt ns 0) (Str.ofString ""))
    (hret : ∀ h' tk' m', Fr g L' h' m' → Q (.ret (.bool true)) { s with heap := h', toks := tk' }) :
    wpC (model prog w) (callerA.deeper (envOfC qual scope L' 119 cdv)) (execs [s7, s8] (envOfC qual scope L' 119 cdv)) Q (fun _ _ => False) s := by
  w_on
  refine known (by k_is) hK ?_
  intro e
  injection e with e1 e2 e3 e4
  injection e3 with e3
  injection e3 with f1 f2 f3 f4 f5 f6 f7 f8 f9 f10 f11 f12 f13 f14 f15
  injection f4 with f4
  injection f4 with g1 f4
  injection f4 with g2 f4
  injection f4 with g3 f4
  injection f4 with g4 f4
  injection f4 with g5 f4
  injection f4 with g6 f4
  injection f4 with g7 f4
  injection f4 with g8 f4
  subst f2 f5 f13 g7 g8
  clear e1 e2 e4 f1 f3 f4 f6 f7 f8 f9 f10 f11 f12 f14 f15 g1 g2 g3 g4 g5 g6 hK
  refine execsC_cons (ForC ?_)
  walk1
  walk1
  walk1
  walk1
  walk1
  walk1
  refine call_range_1 ?_
  have hr : IsRange (s.heap.push { cls := .type "range", data := .fields #[.int 0 (s.toks + 1), .int 3 s.toks, .int 1 (s.toks + 1 + 1)] }) s.heap.objs.size 0 (3 : Nat) 1 (s.toks + 1) s.toks (s.toks + 1 + 1) := Heap.get?_push_size _ rfl
  have F1 := F.push { cls := .type "range", data := .fields #[.int 0 (s.toks + 1), .int 3 s.toks, .int 1 (s.toks + 1 + 1)] }
  have N1 := N.pushKeep { cls := .type "range", data := .fields #[.int 0 (s.toks + 1), .int 3 s.toks, .int 1 (s.toks + 1 + 1)] }
  dsimp only
  generalize (s.heap.push { cls := .type "range", data := .fields #[.int 0 (s.toks + 1), .int 3 s.toks, .int 1 (s.toks + 1 + 1)] }) = h1 at hr F1 N1 ⊢
  refine wpAny_pyIter_range hr (by decide) ?_
  rw [lawM_start] at F1
  have F2 := F1.push { cls := .type "range_iterator", data := .fields #[rawInt 0, rawInt (Builtin.Range.rangeSize 0 3 1), rawInt 1] }
  have N2 := N1.pushKeep { cls := .type "range_iterator", data := .fields #[rawInt 0, rawInt (Builtin.Range.rangeSize 0 3 1), rawInt 1] }
  have hszn := news_lt N1
  have hIg : h1.get? h1.objs.size = none := by
    cases e : h1.get? h1.objs.size with
    | none => rfl
    | some o => exact absurd (Heap.lt_size e) (Nat.lt_irrefl _)
  have hgI : g.get? h1.objs.size = none := by
    cases e : g.get? h1.objs.size with
    | none => rfl
    | some o => rw [F1.keep _ _ e] at hIg; cases hIg
  have hIL : h1.objs.size ≠ L' := fun q => by
    obtain ⟨o, _, _, ho, _⟩ := F1.ns
    rw [← q, hIg] at ho; cases ho
  refine for_walkV (BL :: TL :: news.map (·.1))
    (fun i m ns' => ∃ q1 q2, m = lawM q1 q2 (lawB (.ref BL) (.ref TL) d a (otherOf ns) tp) ∧
      ns' = ((BL, PySem.W.listOf #[.str (Txt.partition (txt ns 2) (Str.ofString ".")).1 b0, .str (Txt.partition (txt ns 0) (Str.ofString ".")).1 b1, .str (Str.ofString "") b2] 0) :: (TL, listObj #[.str (txt ns 0) ta, .str (txt ns 1) tb, .str (txt ns 2) tc] k1) :: news)) ?_
    (walks_lt (Walks.range rfl h1.objs.size 0 1 3)) ?_ ?_ ?_ hIL hgI ?_ ?_ F2 N2 ?_ ?_ ?_
  · rintro i m ns' ⟨q1, q2, rfl, rfl⟩
    rfl
  · intro i h hst
    exact ⟨_, hst⟩
  · intro b hb
    exact .inl (List.mem_singleton.mp hb)
  · intro i v' s₁ Q' E' hP hst hQ
    exact wpAny_of_eq rfl hQ
  · intro hm
    have hm : h1.objs.size ∈ ((BL, PySem.W.listOf #[.str (Txt.partition (txt ns 2) (Str.ofString ".")).1 b0, .str (Txt.partition (txt ns 0) (Str.ofString ".")).1 b1, .str (Str.ofString "") b2] 0) :: (TL, listObj #[.str (txt ns 0) ta, .str (txt ns 1) tb, .str (txt ns 2) tc] k1) :: news).map (·.1) := hm
    obtain ⟨p, hp, q⟩ := List.mem_map.mp hm
    have := hszn p hp
    rw [q] at this
    exact Nat.lt_irrefl _ this
  · exact Heap.get?_push_size _ rfl
  · exact ⟨none, none, rfl, rfl⟩
  · rintro i v' m₁ ns' s₁ o hi ⟨⟨t, rfl⟩, hi'⟩ ⟨q1, q2, rfl, rfl⟩ ⟨h2, tk2, rfl⟩ F3 N3
    replace F3 : Fr g L' h2 (lawM q1 q2 (lawB (.ref BL) (.ref TL) d a (otherOf ns) tp)) := F3
    refine wpC_of ?_
    walk1
    refine stLocN F3 N3 ?_
    intro h4 F4 N4
    rw [lawM_k] at F4
    replace N4 : News g L' h4 ((BL, PySem.W.listOf #[.str (Txt.partition (txt ns 2) (Str.ofString ".")).1 b0, .str (Txt.partition (txt ns 0) (Str.ofString ".")).1 b1, .str (Str.ofString "") b2] 0) :: (TL, listObj #[.str (txt ns 0) ta, .str (txt ns 1) tb, .str (txt ns 2) tc] k1) :: (h1.objs.size, o) :: news) := fun p hp => N4 p (led4 hp)
    clear F3 N3 F F1 F2 N N1 N2
    dsimp only
    have h012 : i = 0 ∨ i = 1 ∨ i = 2 := by omega
    rcases h012 with rfl | rfl | rfl
    · refine execsC_consA ?_
      k_steps
      (rename Fr g L' _ _ => F5)
      (rename News g L' _ _ => N5)
      rw [lawM_record] at F5
      dsimp only
      refine execsC_cons (IfC (isTrueC_not (isTrueC_plain (CallC ?_))))
      refine nameG_fn F5 X T (by k_is) ?_
      refine callWithC_K (K := Mine.hd.heap_39 w.params) (by k_is) ?_
      k_steps
      refine con_holds (news := _ :: _ :: _ :: _ :: news) (.head _) hr0 _ _ _ [] g L' _ _ _ _ rfl (Around.frames_deeper (A := callerA) rfl) rfl rfl trivial F5 X (by rw [List.append_nil]; exact N5) ?_ T (by show callerA.depth + 1 + 3 < recursionLimit; decide) (by show callerA.units + 3 + 200 < cLine; decide) ?_
      · intro p hp hm
        rw [List.map_nil, List.mem_singleton] at hm
        exact (N5 p hp).2.1 hm
      rintro _ ns2 frs2 h6 tk6 ⟨rfl, rfl⟩ SU _ F6 N6 _
      cases frs2 with
      | cons q qs => exact SU.elim
      | nil =>
        rw [List.nil_append, List.append_nil] at N6
        refine wpAny_truthy_bool ?_
        refine ite_neg (by decide) ?_
        refine wpC_of (wpAny_execs_nil ?_)
        dsimp only
        refine wpC_of (wpAny_execs_nil ?_)
        refine .inl ⟨rfl, h6, _, _, _, rfl, F6, ?_, _, _, rfl, rfl⟩
        intro p hp
        exact N6 p (led5 hp)
    · refine execsC_consA ?_
      k_steps
      (rename Fr g L' _ _ => F5)
      (rename News g L' _ _ => N5)
      rw [lawM_record] at F5
      dsimp only
      refine execsC_cons (IfC (isTrueC_not (isTrueC_plain (CallC ?_))))
      refine nameG_fn F5 X T (by k_is) ?_
      refine callWithC_K (K := Mine.hd.heap_39 w.params) (by k_is) ?_
      k_steps
      refine con_holds (news := _ :: _ :: _ :: _ :: news) (.head _) hr1 _ _ _ [] g L' _ _ _ _ rfl (Around.frames_deeper (A := callerA) rfl) rfl rfl trivial F5 X (by rw [List.append_nil]; exact N5) ?_ T (by show callerA.depth + 1 + 3 < recursionLimit; decide) (by show callerA.units + 3 + 200 < cLine; decide) ?_
      · intro p hp hm
        rw [List.map_nil, List.mem_singleton] at hm
        exact (N5 p hp).2.1 hm
      rintro _ ns2 frs2 h6 tk6 ⟨rfl, rfl⟩ SU _ F6 N6 _
      cases frs2 with
      | cons q qs => exact SU.elim
      | nil =>
        rw [List.nil_append, List.append_nil] at N6
        refine wpAny_truthy_bool ?_
        refine ite_neg (by decide) ?_
        refine wpC_of (wpAny_execs_nil ?_)
        dsimp only
        refine wpC_of (wpAny_execs_nil ?_)
        refine .inl ⟨rfl, h6, _, _, _, rfl, F6, ?_, _, _, rfl, rfl⟩
        intro p hp
        exact N6 p (led5 hp)
    · refine execsC_consA ?_
      k_steps
      (rename Fr g L' _ _ => F5)
      (rename News g L' _ _ => N5)
      rw [lawM_record] at F5
      dsimp only
      refine execsC_cons (IfC (isTrueC_not (isTrueC_plain (CallC ?_))))
      refine nameG_fn F5 X T (by k_is) ?_
      refine callWithC_K (K := Mine.hd.heap_39 w.params) (by k_is) ?_
      k_steps
      refine con_holds (news := _ :: _ :: _ :: _ :: news) (.head _) hr2 _ _ _ [] g L' _ _ _ _ rfl (Around.frames_deeper (A := callerA) rfl) rfl rfl trivial F5 X (by rw [List.append_nil]; exact N5) ?_ T (by show callerA.depth + 1 + 3 < recursionLimit; decide) (by show callerA.units + 3 + 200 < cLine; decide) ?_
      · intro p hp hm
        rw [List.map_nil, List.mem_singleton] at hm
        exact (N5 p hp).2.1 hm
      rintro _ ns2 frs2 h6 tk6 ⟨rfl, rfl⟩ SU _ F6 N6 _
      cases frs2 with
      | cons q qs => exact SU.elim
      | nil =>
        rw [List.nil_append, List.append_nil] at N6
        refine wpAny_truthy_bool ?_
        refine ite_neg (by decide) ?_
        refine wpC_of (wpAny_execs_nil ?_)
        dsimp only
        refine wpC_of (wpAny_execs_nil ?_)
        refine .inl ⟨rfl, h6, _, _, _, rfl, F6, ?_, _, _, rfl, rfl⟩
        intro p hp
        exact N6 p (led5 hp)
  · rintro h' tk' m' ns' F' N' ⟨q1, q2, rfl, rfl⟩
    dsimp only
    refine wpC_of (wpAny_execs_cons (wpAny_Return_some ?_))
    walk1
    exact hret _ _ _ F'
set_option maxHeartbeats 8000000 in
theorem law_rest {name qual : Str} {params : Arguments} {s1 s2 s3 s4 s5 s6 s7 s8 : Stmt} {scope : Scope} {dV kV doc pm cdv ct oc' : Value} {an od : Option Addr} {osl : Array (Option Value)}
    (hK : (Mine.hd.heap_39 w.params).lookup 119 = some ⟨oc', od, .func (fnOf name qual params [s1, s2, s3, s4, s5, s6, s7, s8] scope dV kV doc pm an cdv ct), osl⟩)
    {g : Heap} {L' NL PL DL a : Addr} {s : Shared} {Q : Flow → Shared → Prop} {nv pv dv : List Value} {ns : List Int} {oc3 oc4 : Obj}
    (X : (Mine.hd.heap_39 w.params).In g) (T : Top Mine.hd.view_39 (looseW Mine.hd.view_39 [Str.ofString "_norm_version"]) mean mg mb g)
    (F : Fr g L' s.heap (fun y => if y = Str.ofString "drawn" then some (.ref DL) else if y = Str.ofString "script" then some (.ref a) else none))
    (N : News g L' s.heap [(NL, listObj nv.toArray 0), (DL, listObj dv.toArray 0), (PL, listObj pv.toArray 0), (L' + 1 + 1, oc4), (L' + 1, oc3)])
    (hnv : IntsAre nv (fullN ns)) (hdv : IntsAre dv (ns.take 15)) (hpv : StrsAre pv pieceL) (hoc3 : oc3.data = .cell (some (.ref PL))) (hoc4 : oc4.data = .cell (some (.ref NL)))
    (hr0 : RecOk (Str.ofString "SunOS") (txt ns 0) (txt ns 1) (Txt.partition (txt ns 2) (Str.ofString ".")).1)
    (hr1 : RecOk (Str.ofString "SunOS") (txt ns 1) (txt ns 2) (Txt.partition (txt ns 0) (Str.ofString ".")).1)
    (hr2 : RecOk (otherOf ns) (txt ns 2) (txt ns 0) (Str.ofString ""))
    (hret : ∀ h' tk' m', Fr g L' h' m' → Q (.ret (.bool true)) { s with heap := h', toks := tk' }) :
    wpC (model prog w) (callerA.deeper (envOfC qual scope L' 119 cdv)) (execs [s4, s5, s6, s7, s8] (envOfC qual scope L' 119 cdv)) Q (fun _ _ => False) s := by
  w_on
  have hK0 := hK
  refine known (by k_is) hK ?_
  intro e
  injection e with e1 e2 e3 e4
  injection e3 with e3
  injection e3 with f1 f2 f3 f4 f5 f6 f7 f8 f9 f10 f11 f12 f13 f14 f15
  injection f4 with f4
  injection f4 with g1 f4
  injection f4 with g2 f4
  injection f4 with g3 f4
  injection f4 with g4 f4
  injection f4 with g5 f4
  injection f4 with g6 f4
  injection f4 with g7 f4
  injection f4 with g8 f4
  refine execsC_consA (law_texts hK0 X T F N (.head _) (.tail _ (.tail _ (.head _))) (by simp) (by simp) hnv (fullN_len ns) hpv hoc3 hoc4 ?_)
  intro h1 tk1 TL tv k1 F1 N1 htv
  obtain ⟨ta, tb, tc, rfl⟩ : ∃ ta tb tc, tv = #[.str (txt ns 0) ta, .str (txt ns 1) tb, .str (txt ns 2) tc] := by
    obtain ⟨l⟩ := tv
    cases htv with
    | cons _ t0 h =>
      cases h with
      | cons _ t1 h =>
        cases h with
        | cons _ t2 h =>
          cases h
          exact ⟨t0, t1, t2, rfl⟩
  subst f2 f5 f13 g5 g6 g7 g8
  clear e1 e2 e4 f1 f3 f4 f6 f7 f8 f9 f10 f11 f12 f14 f15 g1 g2 g3 g4 hK hK0 F N
  dsimp only
  refine execsC_consA ?_
  walk1
  walk1
  refine List_ ?_
  with_reducible refine args_strs (xs := otherL) ?_ ?_
  · exact .cons (.cons (.cons (.cons (.cons (.cons (.cons (.cons .nil)))))))
  intro ov tk2 hov
  have hon : ov.length = 8 := hov.length
  refine newList_N F1 N1 ?_ (by rw [sizeLine_eq, hon]; decide)
  intro h2 F2 N2
  generalize { s with heap := h1, toks := tk2 }.heap.objs.size = OL at N2 ⊢
  clear F1 N1
  walk1
  walk1
  walk1
  walk1
  walk1
  walk1
  walk1
  walk1
  walk1
  walk1
  walk1
  clear F2 N2
  (rename Fr g L' _ _ => F3)
  (rename News g L' _ _ => N3)
  obtain ⟨tp, htp⟩ := strs_get hov (other_at (List.take 15 ns).sum)
  have hf0 : 0 ≤ (List.take 15 ns).sum.fmod 8 := Int.fmod_nonneg_of_pos _ (by decide)
  have hf1 : (List.take 15 ns).sum.fmod 8 < 8 := Int.fmod_lt_of_pos _ (by decide)
  have hl3 := News.isList N3 (.head _)
  refine tail_any (Heap.IsList.typeIs hl3) slot_list_getitem.lookup (wpAny_getItem_list hl3 hf0 (by omega) (x := .str (otherOf ns) tp) (by simpa [otherOf] using htp) ?_) (by with_unfolding_all rfl)
  refine stLocN F3 N3 ?_
  intro h4 F4 N4
  replace N4 := news_tl N4
  clear F3 N3 hl3
  dsimp only
  have hs0 := txt_short ns (k := 0) (by decide)
  have hs2 := txt_short ns (k := 2) (by decide)
  refine execsC_consA ?_
  k_steps
  (rename Fr g L' _ _ => F5)
  (rename News g L' _ _ => N5)
  dsimp only
  exact law_loop (news := []) (ta := ta) (tb := tb) (tc := tc) (k1 := k1) (by k_is) X T F5 (fun p hp => by
    rcases List.mem_cons.mp hp with rfl | hp
    · exact N5 _ (.head _)
    · rw [List.mem_singleton.mp hp]
      first | exact N5 _ (.tail _ (.tail _ (.head _))) | exact N5 _ (.tail _ (.tail _ (.tail _ (.head _)))) | exact N5 _ (.tail _ (.tail _ (.tail _ (.tail _ (.head _)))))) hr0 hr1 hr2 hret
end Mine
end
section
-- part LawW
open PySem PySem.W PyProof.Rows PyProof.Rows.TI PySem.Calls PySem.Spec
set_option maxRecDepth 100000
namespace Mine
variable {prog : Program} {w : World} {mean : ExcName → Option Value} {mg mb : Str → Option Value}
set_option maxHeartbeats 8000000 in
theorem law_ends {a : Addr} {vs : List Value} {ns : List Int} {s : Shared} {Q E : Value → Shared → Prop} (hl : s.heap.IsList a vs.toArray) (hI : IntsAre vs ns) (hlen : ns.length ≤ 63)
    (X : (Mine.hd.heap_39 w.params).In s.heap) (T : Top Mine.hd.view_39 (looseW Mine.hd.view_39 [Str.ofString "_norm_version"]) mean mg mb s.heap)
    (hr0 : RecOk (Str.ofString "SunOS") (txt ns 0) (txt ns 1) (Txt.partition (txt ns 2) (Str.ofString ".")).1)
    (hr1 : RecOk (Str.ofString "SunOS") (txt ns 1) (txt ns 2) (Txt.partition (txt ns 0) (Str.ofString ".")).1)
    (hr2 : RecOk (otherOf ns) (txt ns 2) (txt ns 0) (Str.ofString ""))
    (hret : ∀ L h' tk' m', Fr s.heap L h' m' → Q (.bool true) { s with heap := h', toks := tk' }) :
    wpC (model prog w) callerA (call (.ref 119) [.ref a]) Q E s := by
  w_on
  refine wpC_call ?_
  k_dflt (refine' topTC ?k3 ?k5 ?k6 ?k7 ?k8 ?k9 ?kB ?kC ?_ ?c2 ?c3 ?c4; (case k3 => exact X); (case k5 => exact T); (case k6 => k_is); (case k7 => k_is); (case k8 => decide); (case k9 => exact BindsTo.of_eq rfl); (case kB => rfl); (case kC => decide); (case c2 => exact rfl); (case c3 => exact rfl); (case c4 => exact rfl); k_whole)
  intro L' h1 tk1 cells F1 N1 hC
  obtain ⟨oc2, oc1, rfl, hoc2, hoc1⟩ := CellsAre.two (n := Str.ofString "numbers") (c := L' + 1 + 1) (n' := Str.ofString "pieces") (c' := L' + 1) hC
  replace hoc1 : oc1.data = .cell none := hoc1
  replace hoc2 : oc2.data = .cell none := hoc2
  replace F1 : Fr s.heap L' h1 (fun y => if y = Str.ofString "script" then some (.ref a) else none) := F1
  clear hC
  have hvl : vs.length = ns.length := hI.length
  refine execsC_consA ?_
  walk1
  refine List_ ?_
  with_reducible refine args_strs (xs := pieceL) ?_ ?_
  · exact .cons (.cons (.cons (.cons (.cons (.cons (.cons (.cons (.cons (.cons (.cons (.cons (.cons (.cons (.cons (.cons (.cons (.cons (.cons (.cons (.nil))))))))))))))))))))
  intro pv tk2 hpv
  have hpn : pv.length = 20 := hpv.length
  refine newList_N F1 N1 ?_ (by rw [sizeLine_eq, hpn]; decide)
  intro h2 F2 N2
  generalize h1.objs.size = PL at N2 ⊢
  refine stCN (own := [_, _]) F2 N2 rfl hoc1 ?_ (by intro p hp; cases hp) ?_
  · have key := fun p (hp : p ∈ _) => cell_apart (c := L' + 1) N2 hoc1 (by simp) p hp
    intro p hp
    simp only [List.mem_cons, List.not_mem_nil, or_false] at hp
    rcases hp with rfl | rfl
    · exact key _ (by simp) rfl
    · show L' + 1 + 1 ≠ L' + 1
      exact Nat.succ_ne_self _
  intro h3 oc3 F3 N3 hoc3
  clear F1 N1 F2 N2
  dsimp only
  replace N3 : News s.heap L' h3 [(PL, listObj pv.toArray 0), (L' + 1 + 1, oc2), (L' + 1, oc3)] := N3
  refine execsC_consA ?_
  k_steps
  dsimp only
  (rename Fr s.heap L' _ _ => F4)
  (rename News s.heap L' _ _ => N4)
  (rename IntsAre _ (List.take 15 ns) => hdr)
  (rename List Value => dv)
  have hdn : dv.length = (List.take 15 ns).length := hdr.length
  refine execsC_consA ?_
  walk1
  walk1
  walk1
  walk1
  refine List_ ?_
  with_reducible refine args_ints (xs := restL) ?_ ?_
  · exact .cons (.cons (.cons (.cons (.cons (.cons (.cons (.cons (.cons (.cons (.cons (.cons (.cons (.cons (.cons (.nil)))))))))))))))
  intro rv tk5 hrv
  have hrn : rv.length = 15 := hrv.length
  refine newList_N F4 N4 ?_ (by rw [sizeLine_eq, hrn]; decide)
  intro h5 F5 N5
  generalize { s with heap := _, toks := tk5 }.heap.objs.size = RL at N5 ⊢
  clear F4 N4
  walk1
  walk1
  walk1
  walk1
  walk1
  walk1
  walk1
  walk1
  walk1
  walk1
  walk1
  walk1
  dsimp only
  refine slice_list (s := { s with heap := h5, toks := _ }) (value := _) (slice := _) F5 N5 (News.isList N5 (.head _)) (.int _ _) .none ?_ ?_ ?_ ?_
  · intro h6 F6 N6
    have e3 : slicePick rv.toArray (some ((List.take 15 ns).length : Int)) none none = (rv.drop (List.take 15 ns).length).toArray := slicePick_from' rv.toArray _
    rw [e3] at N6
    generalize { s with heap := h5, toks := _ }.heap.objs.size + 1 = SL at N6 ⊢
    have hl6 := News.isList N6 (.head _)
    refine add_lists F6 N6 (News.isList N6 (.tail _ (.tail _ (.head _)))) hl6 ?_ ?_
    · intro h7 F7 N7
      have hnv : IntsAre (dv ++ rv.drop (List.take 15 ns).length) (fullN ns) := IntsAre.append hdr (IntsAre.drop hrv _)
      generalize dv ++ rv.drop (List.take 15 ns).length = nv at hnv N7
      generalize { s with heap := h6, toks := _ }.heap.objs.size = NL at N7 ⊢
      (rename Addr => DL)
      refine stCN (own := [_, _, _, _, _]) F7 N7 rfl hoc2 ?_ ?_ ?_
      · have key := fun p (hp : p ∈ _) => cell_apart (c := L' + 1 + 1) N7 hoc2 (by simp) p hp
        intro p hp
        simp only [List.mem_cons, List.not_mem_nil, or_false] at hp
        rcases hp with rfl | rfl | rfl | rfl | rfl <;> exact key _ (by simp) rfl
      · intro p hp
        rw [List.mem_singleton.mp hp]
        show L' + 1 ≠ L' + 1 + 1
        exact (Nat.succ_ne_self _).symm
      intro h8 oc4 F8 N8 hoc4
      (try dsimp only)
      refine law_rest (by k_is) X T F8 (fun p hp => N8 p ?_) hnv hdr hpv hoc3 hoc4 hr0 hr1 hr2 ?_
      · exact led6 hp
      · intro h' tk' m' F'
        exact hret _ _ _ _ F'
    · have := List.length_take (i := 15) (l := ns)
      rw [sizeLine_eq, List.length_drop]
      omega
  · with_unfolding_all rfl
  · intro _
    with_unfolding_all rfl
  · rw [sizeLine_eq, List.size_toArray, hrn]; decide
end Mine
end
section
-- part Plain
open PySem PySem.W PyProof.Rows PySem.Spec
set_option maxRecDepth 100000
namespace Mine
abbrev tl (x : Str) : List Nat := x.cps.toList
theorem dotS_eq : dotS = ⟨#[46]⟩ := by decide
theorem str_ext {x y : Str} (h : tl x = tl y) : x = y := by rw [← mkS_self x, ← mkS_self y]; unfold tl at h; rw [h]
theorem tl_app (x y : Str) : tl (x ++ y) = tl x ++ tl y := by simp [tl, Str.cps_append]
def joinL : List (List Nat) → List Nat
  | [] => []
  | [p] => p
  | p :: q :: ps => p ++ 46 :: joinL (q :: ps)
theorem tl_join : ∀ ps : List Str, tl (Str.join dotS ps) = joinL (ps.map tl)
  | [] => rfl
  | [p] => rfl
  | p :: q :: ps => by
    have ih := tl_join (q :: ps)
    show tl (p ++ dotS ++ Str.join dotS (q :: ps)) = _
    rw [tl_app, tl_app, ih, dotS_eq]
    simp [joinL, tl]
theorem app_dot {p q A B : List Nat} (hp : 46 ∉ p) (hq : 46 ∉ q) (h : p ++ 46 :: A = q ++ 46 :: B) : p = q ∧ A = B := by
  induction p generalizing q with
  | nil =>
    cases q with
    | nil => simpa using h
    | cons c q => simp at h; exact absurd (h.1 ▸ List.mem_cons_self) hq
  | cons a p ih =>
    cases q with
    | nil => simp at h; exact absurd (h.1.symm ▸ List.mem_cons_self) hp
    | cons c q =>
      simp at h
      obtain ⟨h1, h2⟩ := ih (fun e => hp (List.mem_cons_of_mem _ e)) (fun e => hq (List.mem_cons_of_mem _ e)) h.2
      exact ⟨by rw [h.1, h1], h2⟩
theorem joinL_inj : ∀ {ps qs : List (List Nat)}, ps ≠ [] → qs ≠ [] → (∀ p ∈ ps, 46 ∉ p) → (∀ q ∈ qs, 46 ∉ q) → joinL ps = joinL qs → ps = qs
  | [], _, h, _, _, _, _ => absurd rfl h
  | _ :: _, [], _, h, _, _, _ => absurd rfl h
  | [p], [q], _, _, _, _, h => by simp [joinL] at h; rw [h]
  | [p], q :: q' :: qs, _, _, hp, _, h => by
    simp only [joinL] at h
    exact absurd (by rw [h]; simp : 46 ∈ p) (hp p List.mem_cons_self)
  | p :: p' :: ps, [q], _, _, _, hq, h => by
    simp only [joinL] at h
    exact absurd (by rw [← h]; simp : 46 ∈ q) (hq q List.mem_cons_self)
  | p :: p' :: ps, q :: q' :: qs, _, _, hp, hq, h => by
    simp only [joinL] at h
    obtain ⟨h1, h2⟩ := app_dot (hp p List.mem_cons_self) (hq q List.mem_cons_self) h
    rw [h1, joinL_inj (by simp) (by simp) (fun x hx => hp x (List.mem_cons_of_mem _ hx)) (fun x hx => hq x (List.mem_cons_of_mem _ hx)) h2]
theorem map_tl_inj {ps qs : List Str} (h : ps.map tl = qs.map tl) : ps = qs := by
  induction ps generalizing qs with
  | nil => cases qs with | nil => rfl | cons q qs => simp at h
  | cons p ps ih =>
    cases qs with
    | nil => simp at h
    | cons q qs =>
      simp only [List.map_cons, List.cons.injEq] at h
      rw [str_ext h.1, ih h.2]
theorem split_dot_free (x : Str) : ∀ p ∈ Txt.split x dotS, 46 ∉ tl p := by rw [dotS_eq]; exact StrLaws.split_free x 46
theorem split_unique {x : Str} {ps : List Str} (hne : ps ≠ []) (hf : ∀ p ∈ ps, 46 ∉ tl p) (hj : Str.join dotS ps = x) : Txt.split x dotS = ps := by
  apply map_tl_inj
  apply joinL_inj
  · simpa using split_ne_nil x dotS
  · simpa using hne
  · intro p hp
    obtain ⟨q, hq, rfl⟩ := List.mem_map.mp hp
    exact split_dot_free x q hq
  · intro p hp
    obtain ⟨q, hq, rfl⟩ := List.mem_map.mp hp
    exact hf q hq
  · rw [← tl_join, ← tl_join, StrLaws.join_split, hj]
theorem join_dot {ps : List Str} (p : Str) (h : ps ≠ []) : Str.join dotS (p :: ps) = p ++ dotS ++ Str.join dotS ps := by
  cases ps with
  | nil => exact absurd rfl h
  | cons q ps => rfl
theorem part_spec (y : Str) : (Txt.partition y dotS = (y, Str.empty, Str.empty) ∧ Txt.split y dotS = [y]) ∨ ∃ A B, Txt.partition y dotS = (A, dotS, B) ∧ Txt.split y dotS = A :: Txt.split B dotS ∧ y = A ++ dotS ++ B := by
  rcases partition_whole y dotS with ⟨h, hn⟩ | ⟨i, h, hi, hn⟩
  · refine .inl ⟨h, split_unique (by simp) (fun p hp => ?_) rfl⟩
    rw [List.mem_singleton.mp hp]
    intro hm
    rw [dotS_eq] at hn
    obtain ⟨i, hi⟩ := (mem_iff_at y 46).mp hm
    exact hn i hi
  · refine .inr ⟨_, _, h, ?_, ?_⟩
    · refine split_unique (by simp) (fun p hp => ?_) ?_
      · rcases List.mem_cons.mp hp with rfl | hp
        · intro hm
          show False
          unfold tl at hm
          rw [StrLaws.strSub_toList] at hm
          obtain ⟨j, hj⟩ := List.mem_iff_getElem?.mp hm
          rw [List.getElem?_take] at hj
          split at hj
          · rename_i hlt
            refine hn j (by simpa using hlt) ?_
            rw [dotS_eq]
            exact (StrLaws.subAt_one y 46 j).mpr (by simpa using hj)
          · cases hj
        · exact split_dot_free _ p hp
      · rw [join_dot _ (split_ne_nil _ _), StrLaws.join_split]
        have := StrLaws.partition_sum y dotS
        rw [h] at this
        exact this
    · have := StrLaws.partition_sum y dotS
      rw [h] at this
      exact this.symm
end Mine
end
section
-- part Plain2
open PySem PySem.W PyProof.Rows PySem.Spec
set_option maxRecDepth 100000
namespace Mine
theorem txt_join (x : Str) (l : List Str) : Txt.join x l = Str.join x l := StrLaws.glued_eq_join x l
theorem app_empty (x : Str) : x ++ Str.empty = x := str_ext (by rw [tl_app]; exact List.append_nil _)
theorem item0 {y : Str} {c : Nat} {r : List Nat} (h : tl y = c :: r) : Txt.item y 0 = ⟨#[c]⟩ := by
  have e1 : y.length = r.length + 1 := by show (tl y).length = _; rw [h]; rfl
  have e2 : y.cps[0]? = some c := by
    have : (tl y)[0]? = some c := by rw [h]; rfl
    simpa [tl] using this
  unfold Txt.item Txt.charAt
  have e3 : seqIndex? 0 y.length = some 0 := by
    unfold seqIndex?
    simp [e1]
  rw [e3]
  simp [e2]
theorem cons_of {y : Str} (h : 0 < y.length) : ∃ c r, tl y = c :: r := by
  cases e : tl y with
  | nil => have : (tl y).length = 0 := by rw [e]; rfl
           exact absurd (show y.length = 0 from this) (by omega)
  | cons c r => exact ⟨c, r, rfl⟩
theorem five : tl (Str.ofString "5") = [53] := by decide
theorem sLt_five {y : Str} {c : Nat} {r : List Nat} (h : tl y = c :: r) : sLt y (Str.ofString "5") = decide (c < 53) := by
  unfold sLt
  apply decide_eq_decide.mpr
  show tl y < tl (Str.ofString "5") ↔ _
  rw [h, five]
  constructor
  · intro hl
    rcases List.cons_lt_cons_iff.mp hl with h1 | ⟨_, h2⟩
    · exact h1
    · exact absurd h2 (List.not_lt_nil _)
  · intro hl
    exact List.cons_lt_cons_iff.mpr (.inl hl)
theorem sLt_item {y : Str} (h : 0 < y.length) : sLt (Txt.item y 0) (Str.ofString "5") = sLt y (Str.ofString "5") := by
  obtain ⟨c, r, e⟩ := cons_of h
  rw [item0 e, sLt_five e, sLt_five (y := ⟨#[c]⟩) (c := c) (r := []) rfl]
theorem alias_rel {y : Str} (hy : y.length ≤ 4300) (ho : Okay y) : aliasRel y = renRel y := by
  unfold aliasRel renRel
  rcases part_spec y with ⟨h1, h2⟩ | ⟨A, B, h1, h2, h3⟩
  · rw [h1, h2]
    dsimp only
    rw [int_law ho hy]
    split
    · rename_i e
      split at e
      · rw [if_pos (by assumption)]
      · cases e
    · rename_i n e
      split at e
      · cases e
      · cases e
        rw [if_neg (by assumption), txt_join, app_empty, app_empty]
        rfl
  · rw [h1, h2]
    dsimp only
    have hA : Okay A := split_okay ho (by rw [h2]; exact List.mem_cons_self)
    have hl : A.length ≤ 4300 := by
      have : y.length = A.length + dotS.length + B.length := by rw [h3, PySem.Str.length_append, PySem.Str.length_append]
      omega
    rw [int_law hA hl]
    split
    · rename_i e
      split at e
      · rw [if_pos (by assumption)]
      · cases e
    · rename_i n e
      split at e
      · cases e
      · cases e
        rw [if_neg (by assumption), txt_join, join_dot _ (split_ne_nil _ _), StrLaws.join_split]
theorem alias_ren {x y z : Str} (hy0 : 0 < y.length) (hy : y.length ≤ 4300) (ho : Okay y) : aliasOf x y z = renOf x y z := by
  unfold aliasOf renOf
  rw [sLt_item hy0, alias_rel hy ho]
  by_cases hs : (x == Str.ofString "SunOS") = true
  · have hx : x = Str.ofString "SunOS" := eq_of_beq hs
    have hw : ([Str.ofString "win32", Str.ofString "win16"].any fun a => a == x) = false := by rw [hx]; decide
    have hn : (x != Str.ofString "SunOS") = false := by rw [hx]; simp
    rw [if_pos hs, hw, hn, Bool.false_or, if_neg (c := false = true) (by decide)]
  · rw [if_neg hs]
    have hn : (x != Str.ofString "SunOS") = true := by
      cases e : (x == Str.ofString "SunOS") with
      | true => exact absurd e hs
      | false => simp [bne, e]
    rw [hn, Bool.true_or, if_pos (c := true = true) rfl]
theorem some_iff {p : Str} (ho : Okay p) (hl : p.length ≤ 4300) : (PySem.intText? p).isSome = !(lawNum p == -1) := by
  rw [int_law ho hl]
  have := lawNum_low p
  split
  · have : lawNum p = -1 := by omega
    rw [this]; rfl
  · have : (lawNum p == -1) = false := by simp; omega
    rw [this]; rfl
theorem intStr_num {p : Str} (ho : Okay p) (hl : p.length ≤ 4300) (h : ¬ lawNum p = -1) : intStr p = numStr (lawNum p) := by
  unfold intStr numStr
  rw [int_law ho hl, if_neg (by have := lawNum_low p; omega)]
theorem all_any {ps : List Str} (h : ∀ p ∈ ps, p.length ≤ 4300 ∧ Okay p) : ps.all (fun p => (PySem.intText? p).isSome) = !(ps.map lawNum).any (· == -1) := by
  induction ps with
  | nil => rfl
  | cons p ps ih =>
    rw [List.all_cons, List.map_cons, List.any_cons, Bool.not_or, ih fun q hq => h q (List.mem_cons_of_mem _ hq), some_iff (h p List.mem_cons_self).2 (h p List.mem_cons_self).1]
theorem norm_ln {z b : Str} (hp : ∀ p ∈ partsOf z b, p.length ≤ 4300 ∧ Okay p) : normOf z b = lnOf (partsOf z b) := by
  unfold normOf lnOf
  rw [all_any hp]
  cases e : (List.map lawNum (partsOf z b)).any (· == -1) with
  | true => rfl
  | false =>
    rw [if_pos (by decide), if_neg (by decide)]
    congr 1
    rw [← List.map_take, ← List.map_take, List.map_map]
    apply List.map_congr_left
    intro p hm
    have hm := List.mem_of_mem_take hm
    refine intStr_num (hp p hm).2 (hp p hm).1 fun q => ?_
    have : (List.map lawNum (partsOf z b)).any (· == -1) = true := List.any_eq_true.mpr ⟨lawNum p, List.mem_map_of_mem hm, by rw [q]; rfl⟩
    rw [e] at this
    cases this
end Mine
end
section
-- part Plain3
open PySem PySem.W PyProof.Rows PySem.Spec
set_option maxRecDepth 100000
namespace Mine
def repT (tab : List (Nat × Str)) (d : Nat) : List Nat := tab.foldl (fun l p => subst1 p.1 p.2.cps.toList l) [d]
theorem fold_flat (tab : List (Nat × Str)) : ∀ l : List Nat, tab.foldl (fun l p => subst1 p.1 p.2.cps.toList l) l = l.flatMap (repT tab) := by
  induction tab with
  | nil => intro l; show l = l.flatMap fun d => [d]; simp
  | cons p tab ih =>
    intro l
    rw [List.foldl_cons, ih]
    unfold subst1
    rw [List.flatMap_assoc]
    congr 1
    funext d
    show _ = tab.foldl _ (subst1 p.1 p.2.cps.toList [d])
    rw [ih]
    unfold subst1
    simp
theorem escT_list (tab : List (Nat × Str)) : ∀ x : Str, tl (escT tab x) = tab.foldl (fun l p => subst1 p.1 p.2.cps.toList l) (tl x) := by
  unfold escT
  induction tab with
  | nil => intro x; rfl
  | cons p tab ih => intro x; rw [List.foldl_cons, List.foldl_cons, ih]; rfl
theorem escT_flat (tab : List (Nat × Str)) (x : Str) : tl (escT tab x) = (tl x).flatMap (repT tab) := by rw [escT_list, fold_flat]
theorem repT_free {tab : List (Nat × Str)} {d : Nat} (h : ∀ p ∈ tab, d ≠ p.1) : repT tab d = [d] := by
  unfold repT
  induction tab with
  | nil => rfl
  | cons p tab ih =>
    rw [List.foldl_cons]
    have e : subst1 p.1 p.2.cps.toList [d] = [d] := subst1_free (by simp; exact fun q => h p List.mem_cons_self q.symm)
    rw [e]
    exact ih fun q hq => h q (List.mem_cons_of_mem _ hq)
/-- a writer: sign by sign, its own signs as references -/
structure Wr (rep : Nat → List Nat) (W : Str → Str) (sg : Str) : Prop where
  eq : ∀ x, tl (W x) = (tl x).flatMap rep
  free : ∀ d, d ∉ tl sg → rep d = [d]
  ref : ∀ d ∈ tl sg, (rep d).head? = some 38
  ok : ∀ d ∈ tl sg, ∀ e ∈ rep d, okC e ∧ e ≠ 46
  len : ∀ d ∈ tl sg, (rep d).length ≤ 6
  sub : ∀ d ∈ tl sg, d ∈ [38, 60, 62, 34, 13, 10, 9]
theorem wr_of {tab : List (Nat × Str)} {sg : Str} (h1 : ∀ p ∈ tab, p.1 ∈ tl sg) (h2 : ∀ d ∈ tl sg, (repT tab d).head? = some 38) (h3 : ∀ d ∈ tl sg, ∀ e ∈ repT tab d, okC e ∧ e ≠ 46) (h4 : ∀ d ∈ tl sg, (repT tab d).length ≤ 6) (h5 : ∀ d ∈ tl sg, d ∈ [38, 60, 62, 34, 13, 10, 9]) : Wr (repT tab) (escT tab) sg :=
  ⟨escT_flat tab, fun d hd => repT_free fun p hp e => hd (e ▸ h1 p hp), h2, h3, h4, h5⟩
theorem wr0 : Wr (repT tab0) (escT tab0) sg0 := wr_of (by decide) (by decide) (by unfold okC; decide) (by decide) (by decide)
theorem wr1 : Wr (repT tab1) (escT tab1) sg1 := wr_of (by decide) (by decide) (by unfold okC; decide) (by decide) (by decide)
theorem wr2 : Wr (repT tab2) (escT tab2) sg2 := wr_of (by decide) (by decide) (by unfold okC; decide) (by decide) (by decide)
theorem wr3' : Wr (repT tab3) (escT tab3) sg3 := wr_of (by decide) (by decide) (by unfold okC; decide) (by decide) (by decide)
theorem wr4 : Wr (repT tab4) (escT tab4) sg4 := wr_of (by decide) (by decide) (by unfold okC; decide) (by decide) (by decide)
theorem writers_wr {q : Addr × (Str → Str) × Str} (hq : q ∈ writers) : ∃ rep, Wr rep q.2.1 q.2.2 := by
  unfold writers at hq
  simp only [List.mem_cons, List.not_mem_nil, or_false] at hq
  rcases hq with rfl | rfl | rfl | rfl | rfl
  · exact ⟨_, wr0⟩
  · exact ⟨_, wr1⟩
  · exact ⟨_, wr2⟩
  · exact ⟨_, wr3'⟩
  · exact ⟨_, wr4⟩
section
variable {rep : Nat → List Nat} {W : Str → Str} {sg : Str} (hW : Wr rep W sg)
include hW
theorem W_app (x y : Str) : W (x ++ y) = W x ++ W y := str_ext (by rw [hW.eq, tl_app, tl_app, List.flatMap_append, hW.eq, hW.eq])
theorem flat_free : ∀ {l : List Nat}, (∀ c ∈ l, c ∉ tl sg) → l.flatMap rep = l
  | [], _ => rfl
  | c :: l, h => by
    rw [List.flatMap_cons, hW.free c (h c List.mem_cons_self), flat_free fun d hd => h d (List.mem_cons_of_mem _ hd)]
    rfl
theorem W_free {x : Str} (h : ∀ c ∈ tl x, c ∉ tl sg) : W x = x := str_ext (by rw [hW.eq, flat_free hW h])
theorem W_dot : W dotS = dotS := W_free hW (fun c hc => by
  rw [dotS_eq] at hc
  rw [List.mem_singleton.mp hc]
  intro hm
  exact absurd (hW.sub _ hm) (by decide))
theorem W_empty : W Str.empty = Str.empty := str_ext (by rw [hW.eq]; rfl)
theorem W_join : ∀ ps : List Str, W (Str.join dotS ps) = Str.join dotS (ps.map W)
  | [] => W_empty hW
  | [p] => rfl
  | p :: q :: ps => by
    rw [join_dot p (by simp), W_app hW, W_app hW, W_dot hW, W_join (q :: ps)]
    rfl
theorem W_mem {x : Str} {c : Nat} (h : c ∈ tl (W x)) : c ∈ tl x ∧ c ∉ tl sg ∨ ∃ d ∈ tl x, d ∈ tl sg ∧ c ∈ rep d := by
  rw [hW.eq] at h
  obtain ⟨d, hd, hc⟩ := List.mem_flatMap.mp h
  by_cases hs : d ∈ tl sg
  · exact .inr ⟨d, hd, hs, hc⟩
  · rw [hW.free d hs] at hc
    rw [List.mem_singleton.mp hc]
    exact .inl ⟨hd, hs⟩
theorem W_okay {x : Str} (h : Okay x) : Okay (W x) := fun c hc => by
  rcases W_mem hW hc with ⟨h1, _⟩ | ⟨d, _, hd, hc⟩
  · exact h c h1
  · exact (hW.ok d hd c hc).1
theorem W_nodot {x : Str} (h : 46 ∉ tl x) : 46 ∉ tl (W x) := fun hc => by
  rcases W_mem hW hc with ⟨h1, _⟩ | ⟨d, _, hd, hc⟩
  · exact h h1
  · exact (hW.ok d hd 46 hc).2 rfl
theorem rep_len (d : Nat) : (rep d).length ≤ 6 := by
  by_cases h : d ∈ tl sg
  · exact hW.len d h
  · rw [hW.free d h]; simp
theorem rep_pos (d : Nat) : 1 ≤ (rep d).length := by
  by_cases h : d ∈ tl sg
  · have := hW.ref d h
    cases e : rep d with
    | nil => rw [e] at this; cases this
    | cons a l => simp
  · rw [hW.free d h]; simp
theorem W_len (x : Str) : (W x).length ≤ 6 * x.length := by
  show (tl (W x)).length ≤ 6 * (tl x).length
  rw [hW.eq]
  induction tl x with
  | nil => simp
  | cons c l ih =>
    rw [List.flatMap_cons, List.length_append, List.length_cons]
    have := rep_len hW c
    omega
theorem W_len0 (x : Str) : (W x).length = 0 ↔ x.length = 0 := by
  show (tl (W x)).length = 0 ↔ (tl x).length = 0
  rw [hW.eq]
  cases tl x with
  | nil => simp
  | cons c l =>
    rw [List.flatMap_cons, List.length_append, List.length_cons]
    have := rep_pos hW c
    constructor <;> intro h <;> omega
theorem W_amp {x : Str} (h : ∃ c ∈ tl x, c ∈ tl sg) : 38 ∈ tl (W x) := by
  obtain ⟨c, hc, hs⟩ := h
  rw [hW.eq]
  refine List.mem_flatMap.mpr ⟨c, hc, ?_⟩
  have := hW.ref c hs
  cases e : rep c with
  | nil => rw [e] at this; cases this
  | cons a l => rw [e] at this; cases this; exact List.mem_cons_self
theorem W_split (x : Str) : Txt.split (W x) dotS = (Txt.split x dotS).map W := by
  refine split_unique (by simpa using split_ne_nil x dotS) (fun p hp => ?_) ?_
  · obtain ⟨q, hq, rfl⟩ := List.mem_map.mp hp
    exact W_nodot hW (split_dot_free x q hq)
  · rw [← W_join hW, StrLaws.join_split]
theorem W_parts (z b : Str) : partsOf (W z) (W b) = (partsOf z b).map W := by
  unfold partsOf
  rw [W_split hW, List.map_append]
  congr 1
  by_cases h : b.length = 0
  · rw [if_pos h, if_pos ((W_len0 hW b).mpr h)]; rfl
  · rw [if_neg h, if_neg (fun e => h ((W_len0 hW b).mp e))]; rfl
end
theorem mem_drop {p : Nat → Bool} {c : Nat} (hc : p c = false) : ∀ {l : List Nat}, c ∈ l → c ∈ l.dropWhile p
  | a :: l, h => by
    rw [List.dropWhile_cons]
    rcases List.mem_cons.mp h with rfl | h
    · rw [hc]; exact List.mem_cons_self
    · split
      · exact mem_drop hc h
      · exact List.mem_cons_of_mem _ h
theorem mem_cut {c : Nat} {l : List Nat} (hc : ws c = false) (h : c ∈ l) : c ∈ cut l := by
  unfold cut
  exact List.mem_reverse.mpr (mem_drop hc (List.mem_reverse.mpr (mem_drop hc h)))
theorem num_amp {x : Str} (h : 38 ∈ tl x) : lawNum x = -1 := by
  have hm : 38 ∈ bareOf x := by rw [bare_eq]; exact mem_cut (by decide) h
  unfold lawNum
  split
  · rfl
  · rw [if_neg]
    intro ha
    exact absurd (List.all_eq_true.mp ha 38 hm) (by decide)
end Mine
end
section
-- part Plain4
open PySem PySem.W PyProof.Rows PySem.Spec
set_option maxRecDepth 100000
namespace Mine
theorem num_chars {n : Int} {c : Nat} (h : c ∈ tl (numStr n)) : c = 45 ∨ (48 ≤ c ∧ c ≤ 57) := by
  by_cases h1 : c = 45
  · exact .inl h1
  · by_cases h2 : 48 ≤ c ∧ c ≤ 57
    · exact .inr h2
    · exact absurd h (int_text_free' c ⟨h1, by omega⟩ n)
theorem mark_iff (p sg : Str) : markOf p sg = true ↔ ∃ c ∈ tl p, c ∈ tl sg := by
  unfold markOf
  rw [List.any_eq_true]
  simp only [List.contains_eq_mem, decide_eq_true_eq]
theorem unmarked {p sg : Str} (h : markOf p sg = false) : ∀ c ∈ tl p, c ∉ tl sg := fun c hc hs => by
  have := (mark_iff p sg).mpr ⟨c, hc, hs⟩
  rw [h] at this; cases this
theorem fst_iff {y sg : Str} {c : Nat} {r : List Nat} (h : tl y = c :: r) : fstIn y sg = decide (c ∈ tl sg) := by
  unfold fstIn
  rw [item0 h]
  exact StrLaws.found_one sg c
def Low (x : Str) : Prop := ∀ c ∈ tl x, c < 1114112
theorem sok {x : Str} (h : Low x) : SOk x := strOk_of h
theorem low_okay {x : Str} (h : Okay x) : Low x := fun c hc => Nat.lt_trans (h c hc).1 (by decide)
theorem low_num (n : Int) : Low (numStr n) := fun c hc => by rcases num_chars hc with h | h <;> omega
theorem low_join {ps : List Str} (h : ∀ p ∈ ps, Low p) : Low (Str.join dotS ps) := by
  intro c hc
  rw [tl_join] at hc
  induction ps with
  | nil => cases hc
  | cons p ps ih =>
    cases ps with
    | nil => exact h p List.mem_cons_self c hc
    | cons q ps =>
      simp only [List.map_cons, joinL] at hc
      rcases List.mem_append.mp hc with hc | hc
      · exact h p List.mem_cons_self c hc
      · rcases List.mem_cons.mp hc with rfl | hc
        · decide
        · exact ih (fun x hx => h x (List.mem_cons_of_mem _ hx)) hc
theorem join_len {ps : List Str} {k : Nat} (h : ∀ p ∈ ps, p.length ≤ k) : (Str.join dotS ps).length ≤ (k + 1) * ps.length := by
  show (tl (Str.join dotS ps)).length ≤ _
  rw [tl_join]
  induction ps with
  | nil => simp [joinL]
  | cons p ps ih =>
    have h1 : (tl p).length ≤ k := h p List.mem_cons_self
    cases ps with
    | nil => simp only [List.map_cons, List.map_nil, joinL, List.length_cons, List.length_nil]; omega
    | cons q ps =>
      have h2 := ih fun x hx => h x (List.mem_cons_of_mem _ hx)
      have e1 : (q :: ps).length = ps.length + 1 := rfl
      have e2 : (p :: q :: ps).length = ps.length + 1 + 1 := rfl
      rw [e1] at h2
      rw [e2, Nat.mul_succ]
      have e3 : joinL (List.map tl (p :: q :: ps)) = tl p ++ 46 :: joinL (List.map tl (q :: ps)) := rfl
      rw [e3, List.length_append, List.length_cons]
      generalize (k + 1) * (ps.length + 1) = M at h2 ⊢
      omega
theorem joinL_mem {c : Nat} (h46 : c ≠ 46) : ∀ {ps : List (List Nat)}, c ∈ joinL ps → ∃ p ∈ ps, c ∈ p
  | [p], h => ⟨p, List.mem_cons_self, h⟩
  | p :: q :: ps, h => by
    simp only [joinL] at h
    rcases List.mem_append.mp h with h | h
    · exact ⟨p, List.mem_cons_self, h⟩
    · rcases List.mem_cons.mp h with h | h
      · exact absurd h h46
      · obtain ⟨x, hx, hc⟩ := joinL_mem h46 h
        exact ⟨x, List.mem_cons_of_mem _ hx, hc⟩
section
variable {rep : Nat → List Nat} {W : Str → Str} {sg : Str} (hW : Wr rep W sg)
include hW
theorem low_W {x : Str} (h : Low x) : Low (W x) := fun c hc => by
  rcases W_mem hW hc with ⟨h1, _⟩ | ⟨d, _, hd, hc⟩
  · exact h c h1
  · exact Nat.lt_trans (hW.ok d hd c hc).1.1 (by decide)
theorem W_num (n : Int) : W (numStr n) = numStr n := W_free hW fun c hc hs => by
  have h1 := hW.sub c hs
  have h2 := num_chars hc
  simp only [List.mem_cons, List.not_mem_nil, or_false] at h1
  omega
theorem num_W (p : Str) : lawNum (W p) = if markOf p sg = true then -1 else lawNum p := by
  cases e : markOf p sg with
  | true => rw [if_pos rfl]; exact num_amp (W_amp hW ((mark_iff p sg).mp e))
  | false => rw [if_neg (by decide), W_free hW (unmarked e)]
theorem norm_due {z b : Str} (hz : z.length ≤ 10) (hb : b.length ≤ 10) (hoz : Okay z) (hob : Okay b) : normOf (W z) (W b) = toldOf W sg z b := by
  have hps : ∀ p ∈ partsOf z b, p.length ≤ 10 ∧ Okay p := fun p hp => ⟨parts_short hz hb p hp, (parts_okay (Nat.le_trans hz (by decide)) (Nat.le_trans hb (by decide)) hoz hob p hp).2⟩
  have hpw : ∀ p ∈ partsOf (W z) (W b), p.length ≤ 4300 ∧ Okay p := fun p hp => by
    rw [W_parts hW] at hp
    obtain ⟨q, hq, rfl⟩ := List.mem_map.mp hp
    have := W_len hW q
    have := (hps q hq).1
    exact ⟨by omega, W_okay hW (hps q hq).2⟩
  have hln : normOf z b = lnOf (partsOf z b) := norm_ln fun p hp => ⟨Nat.le_trans (hps p hp).1 (by decide), (hps p hp).2⟩
  rw [norm_ln hpw, W_parts hW]
  unfold toldOf plainOf
  rw [hln]
  cases hpl : ((partsOf z b).map lawNum).any (· == -1) with
  | true =>
    rw [if_neg (by decide)]
    have h1 : (((partsOf z b).map W).map lawNum).any (· == -1) = true := by
      obtain ⟨n, hn, e⟩ := List.any_eq_true.mp hpl
      obtain ⟨p, hp, rfl⟩ := List.mem_map.mp hn
      refine List.any_eq_true.mpr ⟨lawNum (W p), List.mem_map_of_mem (List.mem_map_of_mem hp), ?_⟩
      rw [num_W hW]
      split
      · rfl
      · exact e
    unfold lnOf
    rw [if_pos h1, if_pos hpl, txt_join, txt_join, W_join hW, List.map_take]
  | false =>
    rw [if_pos (by decide)]
    cases hmk : markOf (z ++ b) sg with
    | true =>
      rw [if_pos rfl]
      obtain ⟨c, hc, hs⟩ := (mark_iff _ _).mp hmk
      have hpm : ∃ p ∈ partsOf z b, c ∈ tl p := by
        rw [tl_app] at hc
        rcases List.mem_append.mp hc with hc | hc
        · have hj : c ∈ tl (Str.join dotS (Txt.split z dotS)) := by rw [StrLaws.join_split]; exact hc
          rw [tl_join] at hj
          have hc46 : c ≠ 46 := fun q => by have := hW.sub c hs; rw [q] at this; exact absurd this (by decide)
          obtain ⟨p, hp, hcp⟩ := joinL_mem hc46 hj
          obtain ⟨q, hq, rfl⟩ := List.mem_map.mp hp
          exact ⟨q, List.mem_append_left _ hq, hcp⟩
        · refine ⟨b, ?_, hc⟩
          unfold partsOf
          refine List.mem_append_right _ ?_
          rw [if_neg (fun e => by
            have : (tl b).length = 0 := e
            cases e2 : tl b with
            | nil => rw [e2] at hc; cases hc
            | cons a l => rw [e2] at this; cases this)]
          exact List.mem_singleton.mpr rfl
      obtain ⟨p, hp, hcp⟩ := hpm
      have h1 : (((partsOf z b).map W).map lawNum).any (· == -1) = true := by
        refine List.any_eq_true.mpr ⟨lawNum (W p), List.mem_map_of_mem (List.mem_map_of_mem hp), ?_⟩
        rw [num_W hW, if_pos ((mark_iff p sg).mpr ⟨c, hcp, hs⟩)]
        rfl
      unfold lnOf
      rw [if_pos h1, List.map_take]
    | false =>
      rw [if_neg (by decide)]
      have hun : ∀ p ∈ partsOf z b, W p = p := fun p hp => W_free hW fun c hc => unmarked hmk c (by
        rw [tl_app]
        unfold partsOf at hp
        rcases List.mem_append.mp hp with hp | hp
        · exact List.mem_append_left _ (split_mem hp hc)
        · split at hp
          · cases hp
          · rw [List.mem_singleton.mp hp] at hc; exact List.mem_append_right _ hc)
      have hmap : (partsOf z b).map W = partsOf z b := by
        conv => rhs; rw [← List.map_id (partsOf z b)]
        exact List.map_congr_left fun p hp => hun p hp
      rw [hmap]
      unfold lnOf
      rw [if_neg (by rw [hpl]; decide), txt_join, W_join hW, List.map_map]
      congr 1
      exact (List.map_congr_left fun n _ => (W_num hW n)).symm
end
end Mine
end
section
-- part Plain5
open PySem PySem.W PyProof.Rows PySem.Spec
set_option maxRecDepth 100000
namespace Mine
abbrev sunS : Str := Str.ofString "SunOS"
abbrev solS : Str := Str.ofString "Solaris"
abbrev winS : Str := Str.ofString "Windows"
def isWin (x : Str) : Bool := [Str.ofString "win32", Str.ofString "win16"].any fun a => a == x
/-- what a writer makes of a system's name -/
structure SysOk (W : Str → Str) (x : Str) : Prop where
  sun : (W x == sunS) = (x == sunS)
  win : isWin (W x) = isWin x
  sol : W solS = solS
  wins : W winS = winS
  unk : unkOf (W x) = W (unkOf x)
  self : (x == sunS) = true → W x = x
  nosol : (x == solS) = false
theorem first_split (y : Str) : ∃ ps, Txt.split y dotS = firstOf y :: ps := by
  unfold firstOf
  show ∃ ps, Txt.split y dotS = (Txt.partition y dotS).1 :: ps
  rcases part_spec y with ⟨h1, h2⟩ | ⟨A, B, h1, h2, _⟩
  · rw [h1, h2]; exact ⟨_, rfl⟩
  · rw [h1, h2]; exact ⟨_, rfl⟩
theorem aliasRel_eq {y p : Str} {ps : List Str} (hs : Txt.split y dotS = p :: ps) (ho : Okay p) (hl : p.length ≤ 4300) : aliasRel y = if lawNum p < 0 then y else Str.join dotS (numStr (lawNum p - 3) :: ps) := by
  unfold aliasRel
  rw [hs]
  dsimp only
  rw [int_law ho hl]
  split
  · rename_i e
    split at e
    · rw [if_pos (by assumption)]
    · cases e
  · rename_i n e
    split at e
    · cases e
    · cases e
      rw [if_neg (by assumption), txt_join]
      rfl
section
variable {rep : Nat → List Nat} {W : Str → Str} {sg : Str} (hW : Wr rep W sg)
include hW
theorem W_head {y : Str} {c : Nat} {r : List Nat} (h : tl y = c :: r) : ∃ r', tl (W y) = (if c ∈ tl sg then 38 else c) :: r' := by
  rw [hW.eq, h, List.flatMap_cons]
  by_cases hc : c ∈ tl sg
  · have := hW.ref c hc
    rw [if_pos hc]
    cases e : rep c with
    | nil => rw [e] at this; cases this
    | cons a l => rw [e] at this; cases this; exact ⟨_, rfl⟩
  · rw [if_neg hc, hW.free c hc]
    exact ⟨_, rfl⟩
theorem alias_due {x y z : Str} (hx : SysOk W x) (hy0 : 0 < y.length) (hy : y.length ≤ 10) (ho : Okay y) : aliasOf (W x) (W y) (W z) = dueOf W sg x y z := by
  obtain ⟨c, r, hc⟩ := cons_of hy0
  obtain ⟨r', hc'⟩ := W_head hW hc
  cases hs : (x == sunS) with
  | false =>
    have e1 : aliasOf x y z = if isWin x = true then (winS, y, z) else (x, y, z) := by
      unfold aliasOf
      rw [if_neg (by rw [show (x == Str.ofString "SunOS") = false from hs]; decide)]
      rfl
    have e2 : aliasOf (W x) (W y) (W z) = if isWin x = true then (winS, W y, W z) else (W x, W y, W z) := by
      unfold aliasOf
      rw [if_neg (by rw [show (W x == Str.ofString "SunOS") = false from hx.sun.trans hs]; decide), ← hx.win]
      rfl
    have hns : ¬ ((aliasOf x y z).1 == Str.ofString "Solaris") = true := by
      rw [e1]
      split
      · show ¬ (winS == solS) = true
        decide
      · show ¬ (x == solS) = true
        rw [hx.nosol]
        decide
    unfold dueOf
    rw [if_neg hns, e2, e1]
    split
    · rw [hx.wins]
    · rfl
  | true =>
    have hx1 : x = sunS := eq_of_beq hs
    have hWx : W x = x := hx.self hs
    have hsw : (W x == sunS) = true := hx.sun.trans hs
    have a1 : aliasOf x y z = if sLt y (Str.ofString "5") = true then (x, y, z) else (solS, aliasRel y, z) := by
      unfold aliasOf; rw [if_pos hs]
    have a2 : aliasOf (W x) (W y) (W z) = if sLt (W y) (Str.ofString "5") = true then (W x, W y, W z) else (solS, aliasRel (W y), W z) := by
      unfold aliasOf; rw [if_pos hsw]
    rw [a2, sLt_five hc']
    rw [sLt_five hc] at a1
    unfold dueOf
    by_cases h5 : c < 53
    · rw [if_pos (by simpa using h5)] at a1
      have h5' : (if c ∈ tl sg then 38 else c) < 53 := by split <;> omega
      rw [if_pos (by simpa using h5'), a1, if_neg (by show ¬ (x == solS) = true; rw [hx.nosol]; decide)]
    · rw [if_neg (by simpa using h5)] at a1
      have hsol : ((solS, aliasRel y, z).1 == Str.ofString "Solaris") = true := (by decide : (solS == solS) = true)
      by_cases hm : c ∈ tl sg
      · rw [if_pos hm, if_pos (show decide (38 < 53) = true by decide), a1, if_pos hsol, fst_iff hc, if_pos (by simp [hm])]
      · rw [if_neg hm, if_neg (by simpa using h5), a1, if_pos hsol, fst_iff hc, if_neg (by simp [hm])]
        obtain ⟨ps, hsp⟩ := first_split y
        have hoA : Okay (firstOf y) := split_okay ho (by rw [hsp]; exact List.mem_cons_self)
        have hlA : (firstOf y).length ≤ 10 := Nat.le_trans (fact_partition y (Str.ofString ".")).1 hy
        have hlW := W_len hW (firstOf y)
        have b1 := aliasRel_eq hsp hoA (Nat.le_trans hlA (by decide))
        have hsw2 : Txt.split (W y) dotS = W (firstOf y) :: ps.map W := by rw [W_split hW, hsp]; rfl
        have b2 := aliasRel_eq hsw2 (W_okay hW hoA) (by omega)
        rw [num_W hW] at b2
        by_cases hcond : 0 ≤ lawNum (firstOf y) ∧ markOf (firstOf y) sg = true
        · rw [if_pos hcond, b2, if_pos hcond.2, if_pos (by decide)]
        · rw [if_neg hcond]
          dsimp only
          rw [hx.sol, b1]
          by_cases hneg : lawNum (firstOf y) < 0
          · rw [if_pos hneg, b2, if_pos (by split <;> omega)]
          · have hmk : markOf (firstOf y) sg = false := by
              cases e : markOf (firstOf y) sg with
              | false => rfl
              | true => exact absurd ⟨by omega, e⟩ hcond
            rw [hmk] at b2
            rw [if_neg (c := false = true) (by decide)] at b2
            rw [if_neg hneg, b2, if_neg hneg, W_join hW, List.map_cons, W_num hW]
end
end Mine
end
section
-- part Plain6
open PySem PySem.W PyProof.Rows PySem.Spec
set_option maxRecDepth 100000
namespace Mine
theorem sys_sun : ∀ x ∈ otherL, x.length ≤ 40 ∧ (x == solS) = false ∧ (∀ c ∈ tl x, c < 1114112) := by decide
theorem sys_of {W : Str → Str} (h : ∀ x ∈ otherL, (W x == sunS) = (x == sunS) ∧ isWin (W x) = isWin x ∧ unkOf (W x) = W (unkOf x) ∧ ((x == sunS) = true → W x = x)) (h1 : W solS = solS) (h2 : W winS = winS) : ∀ x ∈ otherL, SysOk W x :=
  fun x hx => ⟨(h x hx).1, (h x hx).2.1, h1, h2, (h x hx).2.2.1, (h x hx).2.2.2, (sys_sun x hx).2.1⟩
theorem sys_all {q : Addr × (Str → Str) × Str} (hq : q ∈ writers) : ∀ x ∈ otherL, SysOk q.2.1 x := by
  unfold writers at hq
  simp only [List.mem_cons, List.not_mem_nil, or_false] at hq
  rcases hq with rfl | rfl | rfl | rfl | rfl
  · exact sys_of (by decide +kernel) (by decide +kernel) (by decide +kernel)
  · exact sys_of (by decide +kernel) (by decide +kernel) (by decide +kernel)
  · exact sys_of (by decide +kernel) (by decide +kernel) (by decide +kernel)
  · exact sys_of (by decide +kernel) (by decide +kernel) (by decide +kernel)
  · exact sys_of (by decide +kernel) (by decide +kernel) (by decide +kernel)
theorem num_len {p : Str} (h : p.length ≤ 10) (k : Int) (hk : k = 0 ∨ k = 3) : (numStr (lawNum p - k)).length ≤ 12 := by
  have h1 := lawNum_lt h
  have h2 := lawNum_low p
  unfold numStr
  rw [PySem.ofString_length]
  exact int_text_length_le10 (a := lawNum p - k) (k := 11) (by decide) (by omega)
theorem rel_len {y : Str} (hy : y.length ≤ 10) (ho : Okay y) : (aliasRel y).length ≤ 40 := by
  rw [alias_rel (Nat.le_trans hy (by decide)) ho]
  unfold renRel
  have hp := fact_partition y dotS
  split
  · omega
  · rw [PySem.Str.length_append, PySem.Str.length_append]
    have := num_len (p := (Txt.partition y dotS).1) (Nat.le_trans hp.1 hy) 3 (.inr rfl)
    unfold numStr at this
    omega
theorem rel_low {y : Str} (hy : y.length ≤ 10) (ho : Okay y) : Low (aliasRel y) := by
  obtain ⟨ps, hsp⟩ := first_split y
  have hoA : Okay (firstOf y) := split_okay ho (by rw [hsp]; exact List.mem_cons_self)
  rw [aliasRel_eq hsp hoA (Nat.le_trans (fact_partition y (Str.ofString ".")).1 (Nat.le_trans hy (by decide)))]
  split
  · exact low_okay ho
  · refine low_join fun p hp => ?_
    rcases List.mem_cons.mp hp with rfl | hp
    · exact low_num _
    · exact low_okay (split_okay ho (by rw [hsp]; exact List.mem_cons_of_mem _ hp))
theorem alias_cases (x y z : Str) : (aliasOf x y z).2.2 = z ∧ ((aliasOf x y z).2.1 = y ∨ (aliasOf x y z).2.1 = aliasRel y) ∧ ((aliasOf x y z).1 = x ∨ (aliasOf x y z).1 = winS ∨ (aliasOf x y z).1 = solS) := by
  unfold aliasOf
  split
  · split
    · exact ⟨rfl, .inl rfl, .inl rfl⟩
    · exact ⟨rfl, .inr rfl, .inr (.inr rfl)⟩
  · split
    · exact ⟨rfl, .inl rfl, .inr (.inl rfl)⟩
    · exact ⟨rfl, .inl rfl, .inl rfl⟩
theorem low_sol : Low solS := by unfold Low; decide
theorem low_win : Low winS := by unfold Low; decide
theorem norm_len {z b : Str} (hz : z.length ≤ 10) (hb : b.length ≤ 10) (hoz : Okay z) (hob : Okay b) : (normOf z b).length ≤ 40 := by
  have hps : ∀ p ∈ partsOf z b, p.length ≤ 10 ∧ Okay p := fun p hp => ⟨parts_short hz hb p hp, (parts_okay (Nat.le_trans hz (by decide)) (Nat.le_trans hb (by decide)) hoz hob p hp).2⟩
  rw [norm_ln fun p hp => ⟨Nat.le_trans (hps p hp).1 (by decide), (hps p hp).2⟩]
  unfold lnOf
  rw [txt_join]
  have key : ∀ l : List Str, l.length ≤ 3 → (∀ p ∈ l, p.length ≤ 12) → (Str.join dotS l).length ≤ 40 := fun l h3 hl => by
    have := join_len hl
    have : (12 + 1) * l.length ≤ 13 * 3 := Nat.mul_le_mul_left _ h3
    omega
  split
  · exact key _ (by rw [List.length_take]; omega) fun p hp => Nat.le_trans (hps p (List.mem_of_mem_take hp)).1 (by decide)
  · refine key _ (by rw [List.length_map, List.length_take]; omega) fun p hp => ?_
    obtain ⟨n, hn, rfl⟩ := List.mem_map.mp hp
    obtain ⟨q, hq, rfl⟩ := List.mem_map.mp (List.mem_of_mem_take hn)
    have := num_len (hps q hq).1 0 (.inl rfl)
    rwa [Int.sub_zero] at this
theorem turn_ok {q : Addr × (Str → Str) × Str} (hq : q ∈ writers) {x y z b : Str} (hx : x ∈ otherL) (hy0 : 0 < y.length) (hy : y.length ≤ 10) (hz : z.length ≤ 10) (hb : b.length ≤ 10) (hoy : Okay y) (hoz : Okay z) (hob : Okay b) : TurnOk q.2.1 q.2.2 x y z b := by
  obtain ⟨rep, hW⟩ := writers_wr hq
  have hs := sys_all hq x hx
  obtain ⟨f, W, sg⟩ := q
  dsimp only at hW hs ⊢
  have ly := W_len hW y
  have lz := W_len hW z
  have lb := W_len hW b
  obtain ⟨c3, c2, c1⟩ := alias_cases x y z
  have lx : Low x := (sys_sun x hx).2.2
  have la1 : Low (aliasOf x y z).1 := by rcases c1 with e | e | e <;> rw [e] <;> first | exact lx | exact low_win | exact low_sol
  have la2 : Low (aliasOf x y z).2.1 := by rcases c2 with e | e <;> rw [e] <;> first | exact low_okay hoy | exact rel_low hy hoy
  have la3 : Low (aliasOf x y z).2.2 := by rw [c3]; exact low_okay hoz
  have hd : Low (dueOf W sg x y z).1 ∧ Low (dueOf W sg x y z).2.1 ∧ Low (dueOf W sg x y z).2.2 := by
    unfold dueOf
    split
    · split
      · exact ⟨low_W hW lx, low_W hW (low_okay hoy), low_W hW (low_okay hoz)⟩
      · split
        · exact ⟨low_sol, low_W hW (low_okay hoy), low_W hW (low_okay hoz)⟩
        · exact ⟨low_W hW la1, low_W hW la2, low_W hW la3⟩
    · exact ⟨low_W hW la1, low_W hW la2, low_W hW la3⟩
  exact ⟨by omega, W_okay hW hoy, by omega, W_okay hW hoz, by omega, W_okay hW hob,
    fun p hp => by have h1 := W_len hW p; have h2 := parts_short hz hb p hp; omega,
    sok hd.1, sok hd.2.1, sok hd.2.2, alias_due hW hs hy0 hy hoy, norm_due hW hz hb hoz hob, hs.unk⟩
theorem rec_ok {x y z b : Str} (hx : x ∈ otherL) (hy0 : 0 < y.length) (hy : y.length ≤ 10) (hz : z.length ≤ 10) (hb : b.length ≤ 10) (hoy : Okay y) (hoz : Okay z) (hob : Okay b) : RecOk x y z b := by
  obtain ⟨c3, c2, c1⟩ := alias_cases x y z
  have lx : Low x := (sys_sun x hx).2.2
  have la1 : Low (aliasOf x y z).1 := by rcases c1 with e | e | e <;> rw [e] <;> first | exact lx | exact low_win | exact low_sol
  have la2 : Low (aliasOf x y z).2.1 := by rcases c2 with e | e <;> rw [e] <;> first | exact low_okay hoy | exact rel_low hy hoy
  have la3 : Low (aliasOf x y z).2.2 := by rw [c3]; exact low_okay hoz
  have hps : ∀ p ∈ partsOf z b, p.length ≤ 4300 ∧ Okay p := fun p hp => ⟨Nat.le_trans (parts_short hz hb p hp) (by decide), (parts_okay (Nat.le_trans hz (by decide)) (Nat.le_trans hb (by decide)) hoz hob p hp).2⟩
  exact ⟨(sys_sun x hx).1, hy, hz, hb, hy0, hoy, hoz, hob,
    by rcases c1 with e | e | e <;> rw [e] <;> first | exact (sys_sun x hx).1 | decide,
    by rcases c2 with e | e <;> rw [e] <;> first | exact Nat.le_trans hy (by decide) | exact rel_len hy hoy,
    by rw [c3]; exact Nat.le_trans hz (by decide),
    norm_len hz hb hoz hob, sok la1, sok la2, sok la3, alias_ren hy0 (Nat.le_trans hy (by decide)) hoy, norm_ln hps,
    fun q hq => turn_ok hq hx hy0 hy hz hb hoy hoz hob⟩
end Mine
end
section
-- part Law
open PySem PySem.W PyProof.Rows PyProof.Rows.TI PySem.Calls PySem.Spec
set_option maxRecDepth 100000
theorem Mine.recs (ns : List Int) : Mine.RecOk (Str.ofString "SunOS") (Mine.txt ns 0) (Mine.txt ns 1) (Txt.partition (Mine.txt ns 2) (Str.ofString ".")).1 ∧
    Mine.RecOk (Str.ofString "SunOS") (Mine.txt ns 1) (Mine.txt ns 2) (Txt.partition (Mine.txt ns 0) (Str.ofString ".")).1 ∧ Mine.RecOk (Mine.otherOf ns) (Mine.txt ns 2) (Mine.txt ns 0) (Str.ofString "") := by
  have l0 := Mine.txt_len ns (k := 0) (by decide)
  have l1 := Mine.txt_len ns (k := 1) (by decide)
  have l2 := Mine.txt_len ns (k := 2) (by decide)
  have p0 := (fact_partition (Mine.txt ns 0) (Str.ofString ".")).1
  have p2 := (fact_partition (Mine.txt ns 2) (Str.ofString ".")).1
  have hs : Str.ofString "SunOS" ∈ Mine.otherL := .tail _ (.head _)
  exact ⟨Mine.rec_ok hs l0.1 l0.2 l1.2 (Nat.le_trans p2 l2.2) (Mine.txt_okay _ _) (Mine.txt_okay _ _) (Mine.part_okay (Mine.txt_okay _ _)),
    Mine.rec_ok hs l1.1 l1.2 l2.2 (Nat.le_trans p0 l0.2) (Mine.txt_okay _ _) (Mine.txt_okay _ _) (Mine.part_okay (Mine.txt_okay _ _)),
    Mine.rec_ok (Mine.other_mem ns) l2.1 l2.2 l0.2 (by decide) (Mine.txt_okay _ _) (Mine.txt_okay _ _) (fun c hc => by cases hc)⟩
set_option maxHeartbeats 8000000 in
theorem PySem.Challenge.cw_ny0159_01_holds : PySem.Challenge.rw_ny0159_01.Holds := by
  w_on
  refine Mine.hd ?_
  k_fill
  intro w s₀ s₁ mg mb G Y fa o pm cd doc dV kV ho hd hcd hD hmg hg args vals as hpre hlay hrd hwl hlo
  have KX := kIn_of Y
  have T := G.T
  have hfa : fa = 119 := by
    have e := mg_of (n := Str.ofString "law") (v := .ref 119) KX T.g (by k_is)
    have e2 : mg (Str.ofString "law") = some (.ref fa) := hmg
    rw [e] at e2
    injection e2 with e2
    injection e2 with e2
    exact e2.symm
  subst hfa
  clear ho hd hcd hD hmg
  wrow_args hpre hlay hrd hwl hlo
  (rename IntsAre _ _ => hI)
  (rename s₁.heap.IsList _ _ => hL)
  obtain ⟨r0, r1, r2⟩ := Mine.recs _
  refine Mine.law_ends hL hI (by omega) KX T r0 r1 r2 ?_
  intro L h' tk' m' F
  refine GoodW.toG (goodW_bool F hg ?_ ?_)
  · intro cls; first | rfl | with_unfolding_all rfl
  · first | rfl | with_unfolding_all rfl
end
