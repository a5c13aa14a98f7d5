import PyProof.Rows.All
import Wide.All
import OpenK.AllK
import Wide.FinOn
import KE.KIntText
import PyProof.StrLawsRepr
import KE.KSortAsk
import KE.KRegrown
import KE.TopReadKeeps
import PySem.Challenge.RW_pu0021_01
set_option Elab.async false
section
open PySem PySem.W PyProof.Rows PySem.Spec PySem.Calls
open PySem.Sem (wp)
set_option maxRecDepth 100000
namespace Mine
noncomputable def HasC (Γ : PySem.Ctx) : Prop := Γ.code.isCaller = true ∨ Γ.below.any (fun x : Code × Pos => x.1.isCaller) = true
noncomputable def HasB (Γ : PySem.Ctx) : Prop := Γ.below.any (fun x : Code × Pos => x.1.isCaller) = true
noncomputable def wpC {α : Type} (M : Model) (A : Around) (t : Sem α) (Q : α → Shared → Prop) (E : Value → Shared → Prop) (s : Shared) : Prop :=
  ∀ Γ p, Γ.In A → HasC Γ → wp M Γ t (fun a _ s' => Q a s') (fun e _ s' => E e s') p s
noncomputable def codeC (M : Model) (A : Around) (c : Code) (R : Result → Shared → Prop) (s : Shared) : Prop :=
  ∀ Γ p, Γ.code = c → Γ.Below A → HasB Γ → wpCode M Γ R p s
section
variable {α β : Type} {M : Model} {A : Around} {E : Value → Shared → Prop} {s : Shared}
theorem wpC_of_any {t : Sem α} {Q : α → Shared → Prop} (h : wpAny M A t Q E s) : wpC M A t Q E s := fun Γ p hΓ _ => h Γ p hΓ
theorem codeC_of_any {c : Code} {R : Result → Shared → Prop} (h : codeAny M A c R s) : codeC M A c R s := fun Γ p hc hΓ _ => h Γ p hc hΓ
theorem wpC_mono {t : Sem α} {Q Q' : α → Shared → Prop} {E' : Value → Shared → Prop} (h : wpC M A t Q E s)
    (hQ : ∀ a s, Q a s → Q' a s) (hE : ∀ e s, E e s → E' e s) : wpC M A t Q' E' s :=
  fun Γ p hΓ hc => Sem.wp_mono M Γ t (fun a _ s => hQ a s) (fun e _ s => hE e s) p s (h Γ p hΓ hc)
theorem wpC_bind {m : Sem α} {f : α → Sem β} {Q : β → Shared → Prop} (h : wpC M A m (fun a s' => wpC M A (f a) Q E s') E s) :
    wpC M A (m >>= f) Q E s := fun Γ p hΓ hc => by
  rw [Sem.wp_bind']
  exact Sem.wp_mono M Γ m (fun a p' s' h' => h' Γ p' hΓ hc) (fun _ _ _ h' => h') p s (h Γ p hΓ hc)
theorem wpC_bindA {m : Sem α} {f : α → Sem β} {Q : β → Shared → Prop} (h : wpAny M A m (fun a s' => wpC M A (f a) Q E s') E s) :
    wpC M A (m >>= f) Q E s := wpC_bind (wpC_of_any h)
theorem wpC_pure {a : α} {Q : α → Shared → Prop} (h : Q a s) : wpC M A (pure a) Q E s := fun _ _ _ _ => h
theorem wpC_onRaise {m : Sem α} {k : Value → Sem Unit} {Q : α → Shared → Prop}
    (h : wpC M A m Q (fun e s' => wpAny M A (k e) (fun _ s'' => E e s'') E s') s) : wpC M A (m.onRaise k) Q E s := fun Γ p hΓ hc => by
  rw [Sem.wp_onRaise]
  exact Sem.wp_mono M Γ m (fun _ _ _ h' => h') (fun e p' s' h' => h' Γ p' hΓ) p s (h Γ p hΓ hc)
theorem wpC_attempt {m : Sem α} {Q : Except Value α → Shared → Prop} (h : wpC M A m (fun a => Q (.ok a)) (fun e => Q (.error e)) s) :
    wpC M A m.attempt Q E s := fun Γ p hΓ hc => by rw [Sem.wp_attempt]; exact h Γ p hΓ hc
theorem wpC_holding {vs : List Value} {m : Sem α} {Q : α → Shared → Prop} (h : wpC M A m Q E s) : wpC M A (holding vs m) Q E s :=
  fun Γ p hΓ hc => by rw [Sem.wp_holding]; exact h Γ p hΓ hc
theorem wpC_standAt {pos : Pos} {Q : Unit → Shared → Prop} (h : Q () s) : wpC M A (standAt pos) Q E s := fun _ _ _ _ => h
theorem wpC_of_eq {t t' : Sem α} {Q : α → Shared → Prop} (e : t = t') (h : wpC M A t' Q E s) : wpC M A t Q E s := e ▸ h
theorem hasB_enter {Γ : PySem.Ctx} {c : Code} {h : Option Value} {p : Pos} (hc : HasC Γ) : HasB (Γ.enter c h p) := by
  show ((Γ.code, p) :: Γ.below).any (fun x : Code × Pos => x.1.isCaller) = true
  rw [List.any_cons]
  rcases hc with h | h
  · rw [h]; rfl
  · rw [h]; exact Bool.or_true _
theorem codeC_mono {c : Code} {R R' : Result → Shared → Prop} (h : codeC M A c R s) (hR : ∀ r s, R r s → R' r s) : codeC M A c R' s :=
  fun Γ p hc hΓ hb => wpCode_mono hR (h Γ p hc hΓ hb)
theorem wpC_run {c : Code} {h : Option Value} {Q : Flow → Shared → Prop}
    (hc : codeC M (A.mark h) c (fun r s' => match r with | .ok f => Q f s' | .error e => E e s') s) (hnb : h ≠ some byPass) :
    wpC M A (run c h) Q E s :=
  fun Γ p hΓ hC => by rw [Sem.wp_run]; exact hc _ p rfl (hΓ.enter c h p hnb) (hasB_enter hC)
theorem wpC_runValue {c : Code} {Q : Value → Shared → Prop}
    (hc : codeC M A c (fun r s' => match r with | .ok (.ret v) => Q v s' | .ok _ => False | .error e => E e s') s) :
    wpC M A (runValue c) Q E s := fun Γ p hΓ hC => by rw [Sem.wp_runValue]; exact hc _ p rfl (hΓ.enter c none p (by intro x; cases x)) (hasB_enter hC)
theorem wpC_call {f : Value} {pos : List Value} {kw : List (Str × Value)} {Q : Value → Shared → Prop}
    (hc : codeC M A (.call f ⟨pos, kw⟩) (fun r s' => match r with | .ok (.ret v) => Q v s' | .ok _ => False | .error e => E e s') s) :
    wpC M A (call f pos kw) Q E s := wpC_runValue hc
theorem wpC_runOwn {env : Env} {c : Code} {h : Option Value} {Q : Flow → Shared → Prop}
    (hc : codeC M (A.mark h) c (fun r s' => match r with | .ok f => Q f s' | .error e => cameBackBy M A env E e s') s) (hnb : h ≠ some byPass) :
    wpC M A (runOwn c env h) Q E s := by
  unfold runOwn
  exact wpC_onRaise (wpC_run hc hnb)
theorem codeC_of_tree {c : Code} {R : Result → Shared → Prop}
    (h : wpC M (A.under c) (M.den c) (fun fin s' => match fin with | .done f => R (.ok f) s' | .again c' => c'.quiet = true ∧ codeC M A c' R s')
      (fun e s' => R (.error e) s') s) : codeC M A c R s := fun Γ p hc hΓ hB => by
  rw [wpCode_iff_wp, hc]
  refine Sem.wp_mono M Γ _ (fun fin p' s' h' => ?_) (fun _ _ _ h' => h') p s (h Γ p (hc ▸ hΓ.in) (.inr hB))
  cases fin with
  | done f => exact h'
  | again c' => exact ⟨h'.1, h'.2 (Γ.goto c') p' rfl (hΓ.goto c') hB⟩
theorem wpC_noted {env : Env} {m : Sem α} {Q : α → Shared → Prop} (h : wpC M A m Q (notedBy M A env E) s) : wpC M A (m.onRaise fun x => do noteFrame x env; theTreesLotGoes x) Q E s :=
  wpC_onRaise (wpC_mono h (fun _ _ q => q) fun _ _ hx => wpAny_bind (wpAny_mono hx (fun _ _ e => wpAny_theTreesLotGoes e) fun _ _ e => e))
theorem wpC_mark {own : List String} {e : Value} {Q : Unit → Shared → Prop} (h : Q () s) : wpC M A (markTheRefusal own e) Q E s := fun Γ p hΓ hc => by
  unfold markTheRefusal
  rw [Sem.wp_bind']
  show wp M Γ (if pythonCodeMadeTheCall own (((Γ.code, p) :: Γ.below).map (·.1)) then _ else _) _ _ p s
  have e0 : pythonCodeMadeTheCall own (((Γ.code, p) :: Γ.below).map (·.1)) = false := by
    have this : ((((Γ.code, p) :: Γ.below).map (·.1)).any Code.isCaller) = true := by
      rw [List.map_cons, List.any_cons, List.any_map]
      rcases hc with h | h
      · rw [h]; rfl
      · exact (Bool.or_eq_true _ _).mpr (.inr h)
    show ((!((((Γ.code, p) :: Γ.below).map (·.1)).any Code.isCaller) && _) && _) = false
    rw [this]; rfl
  rw [e0]
  exact h
end
end Mine
end
section
open PySem
namespace Mine
theorem hideG {G : Prop} (h : ∀ C : Prop, (G → C) → C) : G := h G id
theorem hideQ {α : Type} {M : Model} {A : Around} {t : Sem α} {Q : α → Shared → Prop} {E : Value → Shared → Prop} {s : Shared}
    (h : ∀ Q' : α → Shared → Prop, (∀ v (s' : Shared), Q v s' → Q' v s') → wpAny M A t Q' E s) : wpAny M A t Q E s := h Q fun _ _ h => h
theorem tup5 {a b c d e : Type} {P : a × b × c × d × e → Prop} (h : ∀ x1 x2 x3 x4 x5, P (x1, x2, x3, x4, x5)) (x : a × b × c × d × e) : P x := h x.1 x.2.1 x.2.2.1 x.2.2.2.1 x.2.2.2.2
theorem tup9 {a b c d e f g i j : Type} {P : a × b × c × d × e × f × g × i × j → Prop} (h : ∀ x1 x2 x3 x4 x5 x6 x7 x8 x9, P (x1, x2, x3, x4, x5, x6, x7, x8, x9)) (x : a × b × c × d × e × f × g × i × j) : P x := h x.1 x.2.1 x.2.2.1 x.2.2.2.1 x.2.2.2.2.1 x.2.2.2.2.2.1 x.2.2.2.2.2.2.1 x.2.2.2.2.2.2.2.1 x.2.2.2.2.2.2.2.2
end Mine
end
section
open PySem PySem.W PyProof.Rows PySem.Calls
open PySem.Sem (wp)
set_option maxRecDepth 100000
namespace Mine
theorem endsC {prog : Program} {w : World} {t : Sem PySem.Fin} {s : Shared} {R : Result → Shared → Prop} (hreg : s.asleep)
    (h : wpC (model prog w) callerA t (fun fin s' => ∃ f, fin = .done f ∧ (R (.ok f) s' ∧ leftWithCleanup s'.gens = false)) (fun e s' => R (.error e) s' ∧ leftWithCleanup s'.gens = false) s) :
    ∃ n r s' s'', runN (denote table) prog w n s ⟨t, .builtin "claim.caller" {}, default, []⟩ = .halted (outcomeOf r) s' ∧
      schedN (denote table) prog w n (.single s ⟨t, .builtin "claim.caller" {}, default, []⟩) = .halted (outcomeOf r) s' ∧ s'.forget = s''.forget ∧ R r s'' := by
  have hw : wp (model prog w) ⟨.builtin "claim.caller" {}, none, none, [], none⟩ t (Sem.finPost (model prog w) ⟨.builtin "claim.caller" {}, none, none, [], none⟩ fun r s' => R r s' ∧ leftWithCleanup s'.gens = false) (fun e _ s' => R (.error e) s' ∧ leftWithCleanup s'.gens = false) default s := by
    refine Sem.wp_mono _ _ t (fun fin p' s' h' => ?_) (fun _ _ _ h' => h') default s (h _ default caller_in (.inl rfl))
    obtain ⟨f, rfl, hf⟩ := h'
    exact hf
  obtain ⟨n, r, s₁, s₂, hs, hn, hfo, hR⟩ := wp_halts_full (M := model prog w) (R := R) hreg hw
  exact ⟨n, r, s₂, s₁, hn, hs, hfo, hR⟩
theorem fromC {c : ClaimW} {tree : List Value → Sem PySem.Fin} {w : World} {s : Shared} {free : Addr → Prop} {gens : Prop} {kept : Heap → Prop} (hz : s.asleep) (hgens : s.gens = #[])
    (hspec : ∀ args, c.pre args = true → WData.layableAll args = true →
      ∀ ord : List DictEntry → List DictEntry, (∀ l, (ord l).Perm l) →
      ∃ vs s₁, layAllW c.records (classAt s.heap) w.params ord args s = some (vs, s₁) ∧
        wpC (model c.prog w) callerA (tree vs) (fun fin s' => ∃ f, fin = .done f ∧ (c.Ends s args vs s₁ (.ok f) s' ∧ s'.os = s.os ∧ AllBare s'.gens ∧ kept s'.heap))
          (fun e s' => c.Ends s args vs s₁ (.error e) s' ∧ s'.os = s.os ∧ AllBare s'.gens ∧ kept s'.heap) s₁) :
    c.CallFrom (fun vs => ⟨tree vs, .builtin "claim.caller" {}, default, []⟩) w free gens kept s := by
  intro args hpre hlay ord hord
  refine hideG ?_
  intro Cg hCg
  obtain ⟨vs, s₁, hlaid, hcode⟩ := hspec args hpre hlay ord hord
  have hal := layAllW_rest _ _ _ hlaid
  obtain ⟨k, r, s', s'', hrun, hsched, hfo, hcase, hos, hkp⟩ := endsC (prog := c.prog) (w := w) (t := tree vs) (s := s₁)
    (R := fun r s' => c.Ends s args vs s₁ r s' ∧ s'.os = s.os ∧ kept s'.heap)
    (Shared.asleep_of_life hal.2.2.2 hz)
    (wpC_mono hcode (by
      rintro fin s' ⟨f, e, h1, h2, h3, h4⟩
      exact ⟨f, e, ⟨h1, h2, h4⟩, leftWithCleanup_false_of_bare h3⟩) (by
      rintro e s' ⟨h1, h2, h3, h4⟩
      exact ⟨⟨h1, h2, h4⟩, leftWithCleanup_false_of_bare h3⟩))
  obtain ⟨eh, _, _, eo, _⟩ := Shared.forget_eq hfo
  have hcase := hcase.congr eh
  have hkp : kept s'.heap := by first | exact eh ▸ hkp | (rw [eh] at hkp; exact hkp) | (rw [← eh] at hkp; exact hkp)
  rw [← eo] at hos
  have hlife : s'.heap.life = s.heap.life := (runN_life _ _ _ hrun).trans hal.2.2.2
  refine hCg ⟨vs, s₁, hlaid, k, _, s', hsched, ?_, (fun _ i x hx => by rw [hgens] at hx; simp at hx), hkp, by rw [hlife], Shared.rest_eq hos⟩
  rcases hcase with ⟨v, rfl, d1, d2, d3, d4, d5⟩ | ⟨e, ob, cls, rfl, d1, d2, d3, d4, d5⟩
  · exact .inl ⟨v, rfl, d1, d2, d3, fun b o y _ => d4 b o y, d5⟩
  · exact .inr ⟨e, ob, cls, rfl, d1, d2, d3, d4, fun b o y _ => d5 b o y⟩
noncomputable abbrev WalkC (q : Program) (loose : List Str) (XP : (Str → Option Value) → Heap → Prop) (YP : World → Heap → Prop) (r : RowW) (d : DefRec) (kwd : List (Str × Expr)) : Prop :=
  ∀ (w : World) (s₀ s₁ : Shared) (mg mb : Str → Option Value), Ground q loose r.records XP w s₀ mg mb s₁.heap → YP w s₁.heap → ∀ (a : Addr) (o : Obj) (pm cd doc dV kV : Value), s₁.heap.get? a = some o →
    o.data = .func { docDef d.name d.params d.body d.scope pm cd doc with defaults := dV, kwdefaults := kV } → s₁.heap.CodeRec cd d.name → Dflts mg s₁.heap d.params kwd dV kV → mg d.name = some (.ref a) → s₁.gens = #[] →
    ∀ (args : List WData) (vals : List Value) (as : List Addr), r.claim.pre args = true → WData.layableAll args = true → ReadsAllW r.records (classAt s₀.heap) s₁.heap vals args as → WellAll w.params s₁.heap vals args → (∀ a ∈ as, (a == sysModules) = false) →
      wpC (model r.prog w) callerA (PySem.call (.ref a) vals) (fun v s' => GoodWG r.claim (classAt s₀.heap) (ExcName.means s₀.heap) args s₁ (.ok (.ret v)) s')
        (fun e s' => GoodWG r.claim (classAt s₀.heap) (ExcName.means s₀.heap) args s₁ (.error e) s') s₁
theorem holdsC {r : OpenRow} {q : Program} {loose : List Str} {Xt : Shared → Bool} {XP : (Str → Option Value) → Heap → Prop} {α : Type} {Yf : Shared → α} {Ya : World → α} {YP : World → Heap → Prop} {d : DefRec} {kwd : List (Str × Expr)} {N : Nat}
    (left : LeftO r.prog q loose Xt Yf Ya N) (hY : ∀ w s, Yf s = Ya w → YP w s.heap) (hYk : ∀ w h h', YP w h → (∀ b o, h.get? b = some o → h'.get? b = some o) → YP w h')
    (hX : ∀ s, Xt s = true → XP (s.heap.nsMap mainGlobals) s.heap) (hXk : ∀ mg h h', XP mg h → (∀ b o, h.get? b = some o → h'.get? b = some o) → XP mg h')
    (hdef : defOf q r.name = some (d, kwd)) (hp : r.prog.theDef r.name = some (d.params, d.body, d.scope)) (hk : kwWritten? d.params.kwonlyargs d.params.kw_defaults = some kwd) (hRf : ∀ s, Xt s = true → RecFacts r.records s.heap) (hwr : (!r.writes || r.records.isEmpty) = true)
    (k1 : r.wellSaid = true) (ok : (chainsOk q && opensWell r.prog && (frees r.toRowW && r.within.isEmpty)) = true) (hb : r.prog.bare) (hw : r.toRowW.promised)
    (walk : WalkC q loose XP YP r.toRowW d kwd) : r.Holds := by
  refine ⟨k1, hw, ?_⟩
  obtain ⟨ok, k5⟩ := Bool.and_eq_true_iff.mp ok
  obtain ⟨hch, o1⟩ := Bool.and_eq_true_iff.mp ok
  obtain ⟨k5, k6⟩ := Bool.and_eq_true_iff.mp k5
  obtain ⟨hsame, hu, ha, hap, hm⟩ := frees_parts k5
  refine ⟨⟨hb, o1, by show r.makers.map _ = []; rw [hm]; rfl⟩, hw.witness, fun w => ⟨(left.behind hX hch w).1, fun s' hs' => ?_⟩⟩
  refine hideG ?_
  intro Cg hCg
  obtain ⟨s₀, hf, hg0, s, hT, hz, hgens, hg, G00, y⟩ := (left.behind (XP := fun mg h => XP mg h ∧ RecFacts r.records h) (fun s hs => ⟨hX s hs, hRf s hs⟩) hch w).2 s' hs'
  refine hCg ?_
  clear hCg Cg
  have G0 : Ground q loose [] XP w s (s.heap.nsMap mainGlobals) (s.heap.nsMap builtinsNs) s.heap := ⟨G00.T, G00.B, G00.D, G00.TE, G00.TD, G00.W, G00.X.1, G00.cls, G00.has, G00.apart, G00.once, G00.K⟩
  have RF := G00.X.2
  have hT' := hT
  have pin : ∀ n ∈ (if r.name = r.name then [r.name] else []), isTheDefsW r.prog s.heap n := fun n hn => by
    obtain rfl : n = r.name := by simpa using hn
    exact pinned_of_view hg G0 hdef hp hk
  refine ⟨s₀, hf, hg0, s, hT, fun n hn => ?_, RF.1, RF.2.1, ?_⟩
  · obtain rfl : n = r.name := by split at hn <;> simp_all
    exact pinned_of_view hg G0 hdef hp hk
  have hgens : s.gens = #[] := Array.eq_empty_of_size_eq_zero (beq_iff_eq.mp hgens)
  have G : Ground q loose r.records XP w s _ _ s.heap := RF.ground G0
  refine fromC (c := r.claim) hz hgens fun args hpre hlay ord hord => ?_
  refine hideG ?_
  intro Cg hCg
  obtain ⟨⟨vs, s₁⟩, hlaid⟩ := Option.isSome_iff_exists.mp (layAllW_isSome (P := w.params) (ord := ord) G.has args r.args s (pre_splitW hpre).1)
  have keeps := layAllW_keeps _ _ _ hlaid
  have hal := layAllW_rest _ _ _ hlaid
  obtain ⟨as, hrd, hin, hold⟩ := reads_layAllW hord _ _ _ hlaid hlay s₁.heap (fun _ _ e => e)
  have L : Laid r.records w s s₁ args vs as := ⟨⟨ord, hord, hlaid⟩, hrd, hin, hold, keeps, hal.1.trans hgens, hal.2.2.1⟩
  have G₁ := G.keeps hXk keeps
  have Y₁ := hYk _ _ _ (hY w s y) keeps
  obtain ⟨a, o, pm, cd, doc, dV, kV, h1, h2, h3, h4, h5⟩ := G₁.fn hdef
  have h := walk w s s₁ _ _ G₁ Y₁ a o pm cd doc dV kV h2 h3 h4 h5 (defOf_name hdef ▸ h1) L.gens args vs as hpre hlay L.reads L.well (L.low G.low)
  have hi := ident_freeW hu ha hap
  have hwi : r.claim.within = [] := List.isEmpty_iff.mp k6
  refine hCg ?_
  clear hCg Cg
  refine ⟨vs, s₁, hlaid, ?_⟩
  refine wpC_bindA (wpAny_nsGet G₁.T.g ?_)
  rw [h1]
  exact wpC_bind (wpC_mono h (fun v s' g => wpC_pure ⟨_, rfl, have z := g.laid (c := r.claim) hsame hwi hi L; ⟨z.1, z.2.1, z.2.2, fun q => ⟨namesKept_of hT' hg _ keeps g.2.1.old, noTable hwr q⟩⟩⟩) fun e s' g => have z := g.laid (c := r.claim) hsame hwi hi L; ⟨z.1, z.2.1, z.2.2, fun q => ⟨namesKept_of hT' hg _ keeps g.2.1.old, noTable hwr q⟩⟩)
end Mine
end
section
open PySem PySem.W PyProof.Rows
set_option maxRecDepth 100000
set_option maxHeartbeats 0
namespace Mine
def rowD : OpenRow := { PySem.Challenge.rw_pu0021_01.row with name := "_law_within", args := [.int, .int, .int], returns := .bool, pre := .lit (.bool true), post := .lit (.bool true) }
noncomputable def asL : List Addr := [2, 3, 6, 11, 12, 32, 34, 35, 37, 38, 39, 41, 42, 44, 45, 49, 50, 51, 52, 54, 55, 57, 58, 59, 61, 62, 64, 65,
          66, 68, 69, 71, 72, 73, 76, 77, 78, 80, 81, 83, 84, 85, 87, 88, 90, 91, 92, 95, 96]
noncomputable def hdOf (q : Program) (K : Params → Frag) (e : ∀ P, asL = (K P).map (·.1))
  (h : LeftO (RowW.prog (OpenRow.toRowW rowD)) q [Str.ofString "_twin_re_1", Str.ofString "_ver_stages"] (fun s => xlAt q [] s && recOk (RowW.records (OpenRow.toRowW rowD)) s) (Hook.obs (kHook K asL e)) (Hook.val (kHook K asL e)) 1696) :
  { x : Program × (Params → Frag) // ∃ e : ∀ P, Mine.asL = (x.2 P).map (·.1), LeftO PySem.Challenge.rw_pu0021_01.prog x.1 [Str.ofString "_twin_re_1", Str.ofString "_ver_stages"] (fun s => xlAt x.1 [] s && recOk [] s) (Hook.obs (kHook x.2 Mine.asL e)) (Hook.val (kHook x.2 Mine.asL e)) 1696 } := ⟨(q, K), e, h⟩
end Mine
namespace Mine
noncomputable def hd : { x : Program × (Params → Frag) // ∃ e : ∀ P, Mine.asL = (x.2 P).map (·.1), LeftO PySem.Challenge.rw_pu0021_01.prog x.1 [Str.ofString "_twin_re_1", Str.ofString "_ver_stages"] (fun s => xlAt x.1 [] s && recOk [] s) (Hook.obs (kHook x.2 Mine.asL e)) (Hook.val (kHook x.2 Mine.asL e)) 1696 } := by
  refine (?f : (Mine.rowD.wellSaid = true → Mine.rowD.Holds) → _) ?foo
  case foo =>
    intro said
    w_on
    k_head
    case hw => exact ⟨[.int 0, .int 0, .int 0], by decide +kernel, by decide +kernel⟩
    k_fill
    intro w s₀ s₁ mg mb G Y fa o pm cd doc dV kV ho hd hcd hD hmg hg args vals as hpre hlay hrd hwl hlo
    have KX := kIn_of Y
    have X := (Ground.X G).1
    have V := (Ground.X G).2
    refine Ground.open G ?_
    intro T B D TE TW
    try (refine guard_noD D (by decide +kernel) ?_; clear D)
    obtain ⟨_, _, M⟩ := bmod_of_top T
    have TA := at_of_top T
    obtain ⟨_, _, he, B0⟩ := based_of_top T rfl hmg ho hd
    have he' : cd = _ := he
    subst he'
    clear he
    clear hmg
    wrow_args hpre hlay hrd hwl hlo
    all_goals (
      first | refine callC_kw (enter_call ?_) | refine enter_call ?_ | refine callC_kw (enter_callW ?_) | refine enter_callW ?_ | w_how
      w_top on
      try refine codeAny_mono ?_ (fun _ _ g => GoodW.toG g)
      have K0 := below_caller (Top.heap T)
      w_call any ho hd hcd hD T F
      clear hd TA
      k_drop
      skip)
    (all_goals try k_fold)
    k_steps
    (all_goals (try k_data))
  w_top off
  intro _
  exact Mine.hdOf hd.view_1 hd.heap_1 (fun _ => rfl) (LeftO.of_split "special-get-raises" ?hl)
end Mine
end
section
open PySem PySem.W PyProof.Rows PySem.Spec PySem.Calls
set_option maxRecDepth 100000
set_option maxHeartbeats 0
namespace Mine
noncomputable abbrev PG : Program := PySem.Challenge.rw_pu0021_01.prog
noncomputable abbrev VFull : Program := hd.view_1
noncomputable abbrev LFull : List Str := looseW hd.view_1 [Str.ofString "_twin_re_1", Str.ofString "_ver_stages"]
noncomputable def VW : Program := { VFull with main := { VFull.main with body := [] } }
noncomputable def LS : List Str := LFull ++ ((recsOf VFull).map (·.name) ++ ((litsOf VFull).map (·.1) ++ (clssOf VFull LFull).map (·.name)))
noncomputable def mp : List (Str × Value) → Str → Option Value
  | [] => fun _ => none
  | (k, v) :: r => fun z => if z = k then some v else mp r z
noncomputable def mset (k : Str) (v : Value) : List (Str × Value) → List (Str × Value)
  | [] => [(k, v)]
  | (k', v') :: r => if k' = k then (k, v) :: r else (k', v') :: mset k v r
theorem mp_setp (k : Str) (v : Value) (y : Str) : ∀ l : List (Str × Value), (if y = k then some v else mp l y) = mp (mset k v l) y
  | [] => rfl
  | (k', v') :: r => by
    unfold mset
    by_cases h : k' = k
    · subst h
      rw [if_pos rfl]
      show (if y = k' then some v else if y = k' then some v' else mp r y) = if y = k' then some v else mp r y
      by_cases e : y = k'
      · rw [if_pos e, if_pos e]
      · rw [if_neg e, if_neg e, if_neg e]
    · rw [if_neg h]
      show (if y = k then some v else if y = k' then some v' else mp r y) = if y = k' then some v' else mp (mset k v r) y
      rw [← mp_setp k v y r]
      by_cases e : y = k
      · have e' : y ≠ k' := fun q => h (q ▸ e)
        rw [if_pos e, if_neg e', if_pos e]
      · rw [if_neg e, if_neg e]
theorem lookup_mp : ∀ l : List (Str × Value), (fun y => l.lookup y) = mp l
  | [] => rfl
  | (k, v) :: l => by
    funext y
    show (match y == k with | true => some v | false => l.lookup y) = if y = k then some v else mp l y
    rw [← lookup_mp l]
    by_cases h : y = k
    · rw [if_pos h, beq_iff_eq.mpr h]
    · rw [if_neg h]
      have : (y == k) = false := by simpa using h
      rw [this]
noncomputable def Kept (P : Prop) : Prop := P
theorem Kept.out {P : Prop} (h : Kept P) : P := h
theorem Kept.of {P : Prop} (h : P) : Kept P := h
noncomputable def St (g : Heap) (L : Addr) (s : Shared) (news : List (Addr × Obj)) (ps : List (Str × Value)) (s' : Shared) : Prop := ∃ h tk, s' = { s with heap := h, toks := tk } ∧ Fr g L h (mp ps) ∧ News g L h news
theorem St.intro {g h : Heap} {L : Addr} {s : Shared} {news : List (Addr × Obj)} {ps : List (Str × Value)} {tk : Nat} (F : Fr g L h (mp ps)) (N : News g L h news) : St g L s news ps { s with heap := h, toks := tk } := ⟨h, tk, rfl, F, N⟩
structure Site (w : World) (mean : ExcName → Option Value) (mg mb : Str → Option Value) (cs : Scope) (outer : List Env) (A₀ : Around) (base h₀ : Heap) (L : Addr) (m : Str → Option Value) (s : Shared) (news : List (Addr × Obj)) : Prop where
  B : Below A₀ base outer h₀
  F : Fr h₀ L s.heap m
  X : (hd.heap_1 w.params).In h₀
  N : News h₀ L s.heap news
  T : Top VW LS mean mg mb h₀
  hk : cs.kind = .function
noncomputable abbrev Ctr (w : World) (mean : ExcName → Option Value) (mg mb : Str → Option Value) (f : Addr) (D U : Nat) (news : List (Addr × Obj)) (vs : List Value) (Post : Value → List (Addr × Obj) → Prop) : Prop :=
  ∀ (dp un : Nat) (gd : Option (List Code)) (cn : Str) (cs : Scope) (a : Addr) (ccd : Value) (cl : List (Str × Addr)) (outer : List Env) (A₀ : Around) (base h₀ : Heap) (L : Addr) (m : Str → Option Value) (s : Shared) (Q E : Value → Shared → Prop),
    Site w mean mg mb cs outer A₀ base h₀ L m s news → dp + D < recursionLimit → un + U < cLine →
    (∀ (r : Value) (tl : List (Addr × Obj)) (h' : Heap) (tk' : Nat), Fr h₀ L h' m → News h₀ L h' (tl ++ news) → Post r tl → Q r { s with heap := h', toks := tk' }) →
    wpAny (model PG w) (ktrTop dp un gd cn cs L a ccd cl outer) (call (.ref f) vs) Q E s
theorem callDef {w : World} {mean : ExcName → Option Value} {mg mb : Str → Option Value} {dp un : Nat} {gd : Option (List Code)} {cn : Str} {cs : Scope} {a : Addr} {ccd : Value} {cl : List (Str × Addr)} {outer : List Env} {A₀ : Around} {base h₀ : Heap} {L : Addr} {m : Str → Option Value} {s : Shared} {Q E : Value → Shared → Prop} {news : List (Addr × Obj)}
    {name qual : Str} {params : Arguments} {body : List Stmt} {scope : Scope} {dV kV doc pm cdv ct oc : Value} {an od : Option Addr} {osl : Array (Option Value)} {f : Addr} {vs : List Value}
    (binds rb : List (Str × Value)) (S : Site w mean mg mb cs outer A₀ base h₀ L m s news)
    (ho : (hd.heap_1 w.params).lookup f = some ⟨oc, od, .func (fnOf name qual params body scope dV kV doc pm an cdv ct), osl⟩) (hcd : codeIn (hd.heap_1 w.params) cdv qual = true) (hroom : dp < recursionLimit)
    (hbind : BindsTo s (fnOf name qual params body scope dV kV doc pm an cdv ct) ⟨vs, []⟩ binds) (hloc : ∀ y ∈ binds, scope.names.lookup y.1 = some .local)
    (hco : scope.isCoroutine = false) (hgen : scope.isGenerator = false) (hk : scope.kind = .function) (hcell : ∀ x ∈ scope.names, x.2 ≠ .cell)
    (hrb : binds.reverse = rb) (h : ∀ g L' h₁, Fr g L' h₁ (mp rb) → News g L' h₁ news → Below (ktrTop dp un gd cn cs L a ccd cl outer) base (envX cn cs L a ccd cl :: outer) g → (hd.heap_1 w.params).In g → Top VW LS mean mg mb g →
      wpAny (model PG w) ((ktrTop dp un gd cn cs L a ccd cl outer).deeper (envOf qual scope L' f cdv)) (execs body (envOf qual scope L' f cdv))
        (fun fl s' => LeaveK h₀ L m g (fun r s' => match r with | .ok (.ret v) => Q v s' | .ok _ => False | .error e => E e s') (match fl with | .ret v => v | _ => .none) s')
        (fun e s' => wpAny (model PG w) ((ktrTop dp un gd cn cs L a ccd cl outer).deeper (envOf qual scope L' f cdv)) (leaving (envOf qual scope L' f cdv) e) (fun _ s'' => E e s'') (fun e' s'' => E e' s'') s')
        { s with heap := h₁, toks := s.toks + binds.length }) :
    wpAny (model PG w) (ktrTop dp un gd cn cs L a ccd cl outer) (call (.ref f) vs) Q E s := by
  refine wpAny_call (code_def (binds := binds) S.B S.F S.X S.N S.T rfl rfl S.hk ho hcd hroom hbind hloc ?_ hco hgen hk hcell)
  intro g L' h₁ _ F' N' B' X' T'
  rw [lookup_mp, hrb] at F'
  exact h g L' h₁ F' N' B' X' T'
theorem ret_int {h₀ h' : Heap} {L : Addr} {m : Str → Option Value} {news : List (Addr × Obj)} {s : Shared} {Q : Value → Shared → Prop} {y z : Int} {t : Tok} {tk' : Nat}
    (hret : ∀ (r : Value) (tl : List (Addr × Obj)) (h' : Heap) (tk' : Nat), Fr h₀ L h' m → News h₀ L h' (tl ++ news) → (tl = [] ∧ ∃ t, r = .int z t) → Q r { s with heap := h', toks := tk' })
    (F : Fr h₀ L h' m) (N : News h₀ L h' news) (e : y = z) : Q (.int y t) { s with heap := h', toks := tk' } := hret _ [] h' tk' F N ⟨rfl, t, by rw [e]⟩
theorem useCtr {w : World} {mean : ExcName → Option Value} {mg mb : Str → Option Value} {f : Addr} {D U : Nat} {news : List (Addr × Obj)} {vs : List Value} {Post : Value → List (Addr × Obj) → Prop} (C : Ctr w mean mg mb f D U news vs Post)
    {dp un : Nat} {gd : Option (List Code)} {cn : Str} {cs : Scope} {L a : Addr} {ccd : Value} {cl : List (Str × Addr)} {outer : List Env} {qual : Str} {scope : Scope} {L' fa : Addr} {cd : Value} {A₀ : Around} {base g : Heap} {m : Str → Option Value} {s : Shared} {Q E : Value → Shared → Prop}
    (B : Below A₀ base (envX cn cs L a ccd cl :: outer) g) (F : Fr g L' s.heap m) (X : (hd.heap_1 w.params).In g) (N : News g L' s.heap news) (T : Top VW LS mean mg mb g) (hk : scope.kind = .function) (hd : dp + 1 + D < recursionLimit) (hu : un + 3 + U < cLine)
    (h : ∀ (r : Value) (tl : List (Addr × Obj)) (h' : Heap) (tk' : Nat), Fr g L' h' m → News g L' h' (tl ++ news) → Post r tl → Q r { s with heap := h', toks := tk' }) :
    wpAny (model PG w) ((ktrTop dp un gd cn cs L a ccd cl outer).deeper (envOf qual scope L' fa cd)) (call (.ref f) vs) Q E s :=
  C (dp + 1) (un + 3) gd qual scope fa cd [] (envX cn cs L a ccd cl :: outer) A₀ base g L' m s Q E ⟨B, F, X, N, T, hk⟩ hd hu h
theorem useCtrI {w : World} {mean : ExcName → Option Value} {mg mb : Str → Option Value} {f : Addr} {D U : Nat} {news : List (Addr × Obj)} {vs : List Value} {z : Int} (C : Ctr w mean mg mb f D U news vs (fun r tl => tl = [] ∧ ∃ t, r = .int z t))
    {dp un : Nat} {gd : Option (List Code)} {cn : Str} {cs : Scope} {L a : Addr} {ccd : Value} {cl : List (Str × Addr)} {outer : List Env} {qual : Str} {scope : Scope} {L' fa : Addr} {cd : Value} {A₀ : Around} {base g : Heap} {m : Str → Option Value} {s : Shared} {Q E : Value → Shared → Prop}
    (B : Below A₀ base (envX cn cs L a ccd cl :: outer) g) (F : Fr g L' s.heap m) (X : (hd.heap_1 w.params).In g) (N : News g L' s.heap news) (T : Top VW LS mean mg mb g) (hk : scope.kind = .function) (hd : dp + 1 + D < recursionLimit) (hu : un + 3 + U < cLine)
    (h : ∀ (t : Tok) (h' : Heap) (tk' : Nat), Fr g L' h' m → News g L' h' news → Q (.int z t) { s with heap := h', toks := tk' }) :
    wpAny (model PG w) ((ktrTop dp un gd cn cs L a ccd cl outer).deeper (envOf qual scope L' fa cd)) (call (.ref f) vs) Q E s :=
  useCtr C B F X N T hk hd hu (by rintro r tl h' tk' F' N' ⟨rfl, t, rfl⟩; exact h t h' tk' F' N')
theorem fillIt {P : Prop} (h : (PySem.Challenge.rw_pu0021_01 = PySem.Challenge.rw_pu0021_01 ∧ hd.heap_1 = hd.heap_1) → P) : P := h ⟨rfl, rfl⟩
end Mine
end
section
open PySem PySem.W PyProof.Rows PySem.Spec PySem.Calls
open PySem.Sem (wp)
set_option maxRecDepth 100000
namespace Mine
section
variable {M : Model} {A : Around} {E : Value → Shared → Prop} {s : Shared} {env : Env}
theorem wpC_execs_cons {st : Stmt} {rest : List Stmt} {Q : Flow → Shared → Prop}
    (h : wpC M A (exec st env) (fun f s' => match f with | .next => wpC M A (execs rest env) Q E s' | f => Q f s') E s) :
    wpC M A (execs (st :: rest) env) Q E s := by
  rw [execs_cons]
  refine wpC_bind (wpC_mono h (fun f s' h' => ?_) fun _ _ x => x)
  cases f <;> first | exact h' | exact wpC_pure h'
theorem wpC_execs_consA {st : Stmt} {rest : List Stmt} {Q : Flow → Shared → Prop}
    (h : wpAny M A (exec st env) (fun f s' => match f with | .next => wpC M A (execs rest env) Q E s' | f => Q f s') E s) :
    wpC M A (execs (st :: rest) env) Q E s := wpC_execs_cons (wpC_of_any h)
theorem wpC_execs_nil {Q : Flow → Shared → Prop} (h : Q .next s) : wpC M A (execs [] env) Q E s := fun _ _ _ _ => h
theorem wpC_If {test : Expr} {body orelse : List Stmt} {pos : Pos} {Q : Flow → Shared → Prop}
    (h : wpAny M A (isTrue test env (eval test env))
      (fun b s₂ => if b then wpC M A (execs body env) Q E s₂ else wpC M A (execs orelse env) Q E s₂) E s) :
    wpC M A (exec (.If test body orelse pos) env) Q E s := by
  rw [exec_If]
  refine wpC_bind (wpC_standAt (wpC_bindA (wpAny_mono h (fun b s₂ h₂ => ?_) fun _ _ x => x)))
  cases b <;> exact h₂
theorem wpC_Assign_Name {x : Str} {pos' pos : Pos} {value : Expr} {Q : Flow → Shared → Prop}
    (h : wpC M A (eval value env) (fun v s₁ => wpAny M A (storeName env x v) (fun _ => Q .next) E s₁) E s)
    (hs : swapsWith value (some (.Name x pos')) pos.line env = pure false) :
    wpC M A (exec (.Assign [.Name x pos'] value pos) env) Q E s := by
  rw [exec_Assign_Name env x pos' value pos hs]
  exact wpC_bind (wpC_standAt (wpC_bind (wpC_mono h (fun v s₁ h₁ => wpC_bind (wpC_standAt (wpC_bindA (wpAny_bindName (wpAny_mono h₁ (fun _ _ q => wpC_pure q) fun _ _ x => x))))) fun _ _ x => x)))
theorem wpC_Try_except {prog : Program} {w : World} {body orelse : List Stmt} {h₀ : ExceptHandler} {hs : List ExceptHandler} {pos : Pos} {Q : Flow → Shared → Prop}
    (h : wpC (model prog w) A (execs body env) (fun f s₁ => match f with | .next => wpAny (model prog w) A (execs orelse env) Q E s₁ | f => Q f s₁)
      (fun e s₁ => wpAny (model prog w) A (noteFrame e env) (fun _ s₂ => wpAny (model prog w) A (setFlight e none) (fun _ s₃ => wpAny (model prog w) A (handleBy e env (h₀ :: hs)) Q E s₃) E s₂) E s₁) s) :
    wpC (model prog w) A (exec (.Try body (h₀ :: hs) orelse [] pos) env) Q E s := by
  rw [arm_exec_Try]
  refine wpC_bind (wpC_standAt ?_)
  refine wpC_bind (wpC_attempt (wpC_mono h (fun f s₁ h₁ => ?_) fun e s₁ h₁ => ?_))
  · cases f <;> first | exact wpC_of_any h₁ | exact wpC_pure h₁
  · exact wpC_of_any (wpAny_bind (wpAny_mono h₁ (fun _ _ h₂ => wpAny_bind h₂) fun _ _ x => x))
theorem codeC_forTurn {prog : Program} {w : World} {R : Result → Shared → Prop} {target : Expr} {it : Value} {body orelse : List Stmt}
    (h : wpAny (model prog w) A (pyNext it) (fun r s₁ => match r with
      | none => wpAny (model prog w) A (execs orelse env) (fun f s₃ => R (.ok f) s₃) (notedBy (model prog w) A env fun e s' => R (.error e) s') s₁
      | some v => wpAny (model prog w) A (assign target env v) (fun _ s₂ => wpC (model prog w) A (execs body env) (fun f s₃ => match f with
          | .next | .cont => codeC (model prog w) A (.forLoop target it body orelse env) R s₃
          | .brk => R (.ok .next) s₃
          | .ret v => R (.ok (.ret v)) s₃) (notedBy (model prog w) A env fun e s' => R (.error e) s') s₂) (notedBy (model prog w) A env fun e s' => R (.error e) s') s₁) (notedBy (model prog w) A env fun e s' => R (.error e) s') s)
    (ht : ∀ v, letOwnedTupleGo target it v = pure ()) : codeC (model prog w) A (.forLoop target it body orelse env) R s := by
  refine codeC_of_tree ?_
  show wpC _ _ ((forTurn target it body orelse env).onRaise (fun x => do noteFrame x env; theTreesLotGoes x)) _ _ s
  refine wpC_noted ?_
  refine wpC_bind (wpC_standAt (wpC_bind (wpC_of_any (wpAny_onRaise (wpAny_mono h (fun r s₁ h₁ => ?_) fun _ _ h' => wpAny_standAt h')))))
  cases r with
  | none => exact wpC_pure ⟨rfl, codeC_of_any (codeAny_block h₁)⟩
  | some v =>
    refine wpC_bind (wpC_of_eq (ht v) (wpC_pure ?_))
    refine wpC_bindA (wpAny_mono h₁ (fun _ s₂ h₂ => wpC_bind (wpC_mono h₂ (fun f s₃ h₃ => ?_) fun _ _ h' => h')) fun _ _ h' => h')
    cases f with
    | next => exact wpC_pure ⟨rfl, h₃⟩
    | cont => exact wpC_pure ⟨rfl, h₃⟩
    | brk => exact wpC_pure h₃
    | ret v => exact wpC_pure h₃
theorem wpC_For {target iter : Expr} {body orelse : List Stmt} {pos : Pos} {Q : Flow → Shared → Prop}
    (h : wpAny M A (eval iter env) (fun x s₁ => wpAny M A (pyIter x) (fun it s₂ =>
      codeC M A (.forLoop target it body orelse env) (fun r s' => match r with | .ok f => Q f s' | .error e => cameBackBy M A env E e s') s₂) E s₁) E s)
    (hs : ∀ x, foldedSetIterable iter env x = pure x) :
    wpC M A (exec (.For target iter body orelse pos) env) Q E s := by
  rw [exec_For]
  exact wpC_bind (wpC_standAt (wpC_bindA (wpAny_mono h (fun x s₁ h₁ => wpC_bind (wpC_of_eq (hs x) (wpC_pure (wpC_bind (wpC_standAt (wpC_bindA (wpAny_holding
    (wpAny_mono h₁ (fun it s₂ h₂ => wpC_runOwn h₂ (by intro x; cases x)) fun _ _ h' => h')))))))) fun _ _ h' => h')))
end
section
variable {prog : Program} {w : World} {A : Around} {s : Shared} {R : Result → Shared → Prop}
theorem codeC_func {body : List Stmt} {env : Env}
    (h : wpC (model prog w) (A.deeper env) (execs body env) (fun f s' => R (.ok (.ret (match f with | .ret v => v | _ => .none))) s')
      (fun e s' => wpAny (model prog w) (A.deeper env) (leaving env e) (fun _ s'' => R (.error e) s'') (fun e' s'' => R (.error e') s'') s') s) :
    codeC (model prog w) A (.func body env) R s := by
  refine codeC_of_tree ?_
  show wpC _ (A.deeper env) (do point; match ← (execs body env).onRaise (leaving env) with | .ret v => ret v | _ => ret .none) _ _ s
  refine wpC_bindA (wpAny_point (wpC_bind (wpC_onRaise (wpC_mono h (fun f s' h' => ?_) fun _ _ h' => h'))))
  cases f <;> exact wpC_pure h'
theorem codeC_call_function {a : Addr} {args : Args} {o : Obj} {fd : FuncData} {body : List Stmt} (hroom : A.depth < recursionLimit)
    (ho : s.heap.get? a = some o)
    (hd' : o.data = .func fd) (hco : fd.scope.isCoroutine = false) (hgen : fd.scope.isGenerator = false) (hbody : fd.body = .stmts body) (hcd : s.heap.CodeRec fd.code fd.qualname)
    (h : wpAny (model prog w) A.in1 (bindArgs fd args) (fun binds s₁ =>
      wpAny (model prog w) A.in1 (newFunctionEnv fd.scope fd.globals fd.closure binds (fd.qualname ++ ".<locals>.") (some a) fd.code none fd.builtins)
        (fun env s₂ => s₂.heap.NoLimit ∧ codeC (model prog w) A (.func body env) R s₂) (fun e s' => R (.error e) s') s₁) (fun e s' => R (.error e) s') s) :
    codeC (model prog w) A (.call (.ref a) args) R s := by
  refine codeC_of_tree (wpC_of_any ?_)
  show wpAny _ A.in1 (callAny (.ref a) args) _ _ s
  obtain ⟨oc', od', odata, osl'⟩ := o
  dsimp only at hd'
  subst hd'
  obtain ⟨n, q, p, b, sc, gl, clo, df, kd, dc, pm, an, cd, ct, bt⟩ := fd
  obtain ⟨sk, sn, sg, sco, sm⟩ := sc
  dsimp only at hco hgen hbody hcd h
  subst hco hgen hbody
  refine wpAny_bind (wpAny_load ho ?_)
  refine hideG ?_
  intro Cg hCg
  obtain ⟨c, oc, vs, tq, hc, hoc, hdc, hq⟩ := hcd
  refine hCg ?_
  clear hCg Cg
  subst hc
  refine wpAny_bind (m := field (.ref c) 1) (wpAny_field hoc hdc hq (wpAny_bind (wpAny_pure ?_)))
  exact wpAny_bind (wpAny_mono h (fun binds s₁ h₁ => wpAny_bind (wpAny_mono h₁ (fun env s₂ h₂ => wpAny_bind (wpAny_enterFrame h₂.1 hroom
    (wpAny_pure (And.intro rfl h₂.2)))) fun _ _ h' => h')) fun _ _ h' => h')
end
end Mine
end
section
open PySem PySem.W PyProof.Rows PySem.Spec PySem.Calls
open PySem.Sem (wp)
set_option maxRecDepth 100000
namespace Mine
theorem codeC_call_def {prog : Program} {w : World} {A : Around} {s : Shared} {R : Result → Shared → Prop} {a : Addr} {o : Obj} {fd : FuncData} {body : List Stmt} {args : Args} {binds : List (Str × Value)}
    (hroom : A.depth < recursionLimit) (ho : s.heap.get? a = some o) (hdata : o.data = .func fd) (hlim : s.heap.NoLimit) (hcd : s.heap.CodeRec fd.code fd.qualname)
    (hbody : fd.body = .stmts body) (hbind : BindsTo s fd args binds)
    (hcell : ∀ x ∈ fd.scope.names, x.2 ≠ .cell) (hloc : ∀ x ∈ binds, fd.scope.names.lookup x.1 = some .local)
    (h : ∀ h₀, h₀.Ns s.heap.objs.size (fun x => binds.reverse.lookup x) → (∀ b o, s.heap.get? b = some o → h₀.get? b = some o) →
      wpC (model prog w) (A.deeper (callEnv fd s.heap.objs.size a)) (execs body (callEnv fd s.heap.objs.size a)) (fun f s' => R (.ok (.ret (match f with | .ret v => v | _ => .none))) s')
        (fun e s' => wpAny (model prog w) (A.deeper (callEnv fd s.heap.objs.size a)) (leaving (callEnv fd s.heap.objs.size a) e) (fun _ s'' => R (.error e) s'') (fun e' s'' => R (.error e') s'') s')
        { s with heap := h₀, toks := s.toks + binds.length })
    (hco : fd.scope.isCoroutine = false) (hgen : fd.scope.isGenerator = false) (hk : fd.scope.kind = .function) :
    codeC (model prog w) A (.call (.ref a) args) R s := by
  refine codeC_call_function hroom ho hdata hco hgen hbody hcd (hbind _ _ _ _ ?_)
  refine wpAny_newFunctionEnv hcell hloc (fun h₀ hns₀ hsb₀ => ⟨hlim.fresh _ hsb₀, codeC_func (h h₀ hns₀ fun b o e => ?_)⟩) hk
  exact hsb₀.extBut b o (Nat.ne_of_lt (Heap.lt_size e)) (Heap.get?_push_of_some _ e)
theorem callDefC {w : World} {mean : ExcName → Option Value} {mg mb : Str → Option Value} {dp un : Nat} {gd : Option (List Code)} {cn : Str} {cs : Scope} {a : Addr} {ccd : Value} {cl : List (Str × Addr)} {outer : List Env} {A₀ : Around} {base h₀ : Heap} {L : Addr} {m : Str → Option Value} {s : Shared} {Q E : Value → Shared → Prop} {news : List (Addr × Obj)}
    {name qual : Str} {params : Arguments} {body : List Stmt} {scope : Scope} {dV kV doc pm cdv ct oc : Value} {an od : Option Addr} {osl : Array (Option Value)} {f : Addr} {vs : List Value}
    (binds rb : List (Str × Value)) (S : Site w mean mg mb cs outer A₀ base h₀ L m s news)
    (ho : (hd.heap_1 w.params).lookup f = some ⟨oc, od, .func (fnOf name qual params body scope dV kV doc pm an cdv ct), osl⟩) (hcd : codeIn (hd.heap_1 w.params) cdv qual = true) (hroom : dp < recursionLimit)
    (hbind : BindsTo s (fnOf name qual params body scope dV kV doc pm an cdv ct) ⟨vs, []⟩ binds) (hloc : ∀ y ∈ binds, scope.names.lookup y.1 = some .local)
    (hco : scope.isCoroutine = false) (hgen : scope.isGenerator = false) (hk : scope.kind = .function) (hcell : ∀ x ∈ scope.names, x.2 ≠ .cell)
    (hrb : binds.reverse = rb) (h : ∀ g L' h₁, Fr g L' h₁ (mp rb) → News g L' h₁ news → Below (ktrTop dp un gd cn cs L a ccd cl outer) base (envX cn cs L a ccd cl :: outer) g → (hd.heap_1 w.params).In g → Top VW LS mean mg mb g →
      wpC (model PG w) ((ktrTop dp un gd cn cs L a ccd cl outer).deeper (envOf qual scope L' f cdv)) (execs body (envOf qual scope L' f cdv))
        (fun fl s' => LeaveK h₀ L m g (fun r s' => match r with | .ok (.ret v) => Q v s' | .ok _ => False | .error e => E e s') (match fl with | .ret v => v | _ => .none) s')
        (fun e s' => wpAny (model PG w) ((ktrTop dp un gd cn cs L a ccd cl outer).deeper (envOf qual scope L' f cdv)) (leaving (envOf qual scope L' f cdv) e) (fun _ s'' => E e s'') (fun e' s'' => E e' s'') s')
        { s with heap := h₁, toks := s.toks + binds.length }) :
    wpC (model PG w) (ktrTop dp un gd cn cs L a ccd cl outer) (call (.ref f) vs) Q E s := by
  refine wpC_call ?_
  obtain ⟨FG, BG, st, lv⟩ := groundX (A := ktrTop dp un gd cn cs L a ccd cl outer) (env := envX cn cs L a ccd cl) (R := fun r s' => match r with | .ok (.ret v) => Q v s' | .ok _ => False | .error e => E e s') S.B S.F S.N rfl rfl S.hk
  refine codeC_call_def (fd := fnOf name qual params body scope dV kV doc pm an cdv ct) (body := body) (binds := binds) hroom ((S.X.keeps S.F.keep) _ _ ho) rfl (S.T.nolimit.keeps S.F.keep) (codeRec_of (S.X.keeps S.F.keep) hcd) rfl hbind hcell hloc (fun h₁ hns hk₁ => ?_) hco hgen hk
  have F' : Fr (hideAll s.heap (news.map (·.1))) s.heap.objs.size h₁ (mp rb) := by
    rw [← hrb, ← lookup_mp]
    exact ⟨hns, fun b o e => hk₁ b o (of_hideAll _ e), Nat.le_of_eq (hideAll_size _ _)⟩
  exact wpC_mono (h _ s.heap.objs.size h₁ F'
    (fun p hp => ⟨hk₁ _ _ (S.N p hp).1, Nat.ne_of_lt (Heap.lt_size (S.N p hp).1), hideAll_none _ (List.mem_map_of_mem hp)⟩) BG (S.X.keeps st) (S.T.keeps st)) (fun fl s' hl => lv _ _ hl) fun _ _ y => y
noncomputable abbrev CtrC (w : World) (mean : ExcName → Option Value) (mg mb : Str → Option Value) (f : Addr) (D U : Nat) (news : List (Addr × Obj)) (vs : List Value) (Post : Value → List (Addr × Obj) → Prop) : Prop :=
  ∀ (dp un : Nat) (gd : Option (List Code)) (cn : Str) (cs : Scope) (a : Addr) (ccd : Value) (cl : List (Str × Addr)) (outer : List Env) (A₀ : Around) (base h₀ : Heap) (L : Addr) (m : Str → Option Value) (s : Shared) (Q E : Value → Shared → Prop),
    Site w mean mg mb cs outer A₀ base h₀ L m s news → dp + D < recursionLimit → un + U < cLine →
    (∀ (r : Value) (tl : List (Addr × Obj)) (h' : Heap) (tk' : Nat), Fr h₀ L h' m → News h₀ L h' (tl ++ news) → Post r tl → Q r { s with heap := h', toks := tk' }) →
    wpC (model PG w) (ktrTop dp un gd cn cs L a ccd cl outer) (call (.ref f) vs) Q E s
end Mine
end
section
open PySem PySem.W PyProof.Rows PySem.Spec PySem.Calls
open PySem.Sem (wp)
set_option maxRecDepth 100000
namespace Mine
noncomputable def Came (g : Heap) (L' : Addr) (s : Shared) (news : List (Addr × Obj)) (Post : Value → List (Addr × Obj) → Prop) (fl : Flow) (s' : Shared) : Prop :=
  ∃ v tl h tk m', (match fl with | .ret v => v | _ => Value.none) = v ∧ s' = { s with heap := h, toks := tk } ∧ Fr g L' h m' ∧ News g L' h (tl ++ news) ∧ Post v tl
theorem Came.ret {g : Heap} {L' : Addr} {s : Shared} {news : List (Addr × Obj)} {Post : Value → List (Addr × Obj) → Prop} {v : Value} {h : Heap} {tk : Nat} {m' : Str → Option Value} (tl : List (Addr × Obj))
    (F : Fr g L' h m') (N : News g L' h (tl ++ news)) (p : Post v tl) : Kept (Came g L' s news Post (.ret v) { s with heap := h, toks := tk }) := ⟨v, tl, h, tk, m', rfl, rfl, F, N, p⟩
theorem Came.ret_drop {g : Heap} {L' : Addr} {s : Shared} {news news' : List (Addr × Obj)} {Post : Value → List (Addr × Obj) → Prop} {v : Value} {h : Heap} {tk : Nat} {m' : Str → Option Value} (tl : List (Addr × Obj))
    (F : Fr g L' h m') (N : News g L' h news') (hd : ∀ p ∈ tl ++ news, p ∈ news') (p : Post v tl) : Kept (Came g L' s news Post (.ret v) { s with heap := h, toks := tk }) := Came.ret tl F (fun p hp => N p (hd p hp)) p
section
variable {w : World} {mean : ExcName → Option Value} {mg mb : Str → Option Value} {dp un : Nat} {gd : Option (List Code)} {cn : Str} {cs : Scope} {a : Addr} {ccd : Value} {cl : List (Str × Addr)} {outer : List Env} {A₀ : Around} {base h₀ : Heap} {L : Addr} {m : Str → Option Value} {s : Shared} {Q E : Value → Shared → Prop} {news : List (Addr × Obj)}
    {name qual : Str} {params : Arguments} {body : List Stmt} {scope : Scope} {dV kV doc pm cdv ct oc : Value} {an od : Option Addr} {osl : Array (Option Value)} {f : Addr} {vs : List Value} {Post : Value → List (Addr × Obj) → Prop}
theorem came_leave {g : Heap} {L' : Addr} {s₁ : Shared} (hret : ∀ (r : Value) (tl : List (Addr × Obj)) (h' : Heap) (tk' : Nat), Fr h₀ L h' m → News h₀ L h' (tl ++ news) → Post r tl → Q r { s with heap := h', toks := tk' })
    {h₁ : Heap} {tk₁ : Nat} {fl : Flow} (c : Kept (Came g L' { s with heap := h₁, toks := tk₁ } news Post fl s₁)) :
    LeaveK h₀ L m g (fun r s' => match r with | .ok (.ret v) => Q v s' | .ok _ => False | .error e => E e s') (match (generalizing := false) fl with | .ret v => v | _ => .none) s₁ := by
  obtain ⟨v, tl, h, tk, m', ev, rfl, F, N, p⟩ := c
  rw [ev]
  exact leaveK_ F N fun F0 N0 => hret v tl h tk F0 N0 p
theorem callBody (binds rb : List (Str × Value)) (S : Site w mean mg mb cs outer A₀ base h₀ L m s news)
    (ho : (hd.heap_1 w.params).lookup f = some ⟨oc, od, .func (fnOf name qual params body scope dV kV doc pm an cdv ct), osl⟩) (hcd : codeIn (hd.heap_1 w.params) cdv qual = true) (hroom : dp < recursionLimit)
    (hbind : BindsTo s (fnOf name qual params body scope dV kV doc pm an cdv ct) ⟨vs, []⟩ binds) (hloc : ∀ y ∈ binds, scope.names.lookup y.1 = some .local)
    (hco : scope.isCoroutine = false) (hgen : scope.isGenerator = false) (hk : scope.kind = .function) (hcell : ∀ x ∈ scope.names, x.2 ≠ .cell)
    (hrb : binds.reverse = rb)
    (hret : ∀ (r : Value) (tl : List (Addr × Obj)) (h' : Heap) (tk' : Nat), Fr h₀ L h' m → News h₀ L h' (tl ++ news) → Post r tl → Q r { s with heap := h', toks := tk' })
    (h : ∀ g L' h₁, Fr g L' h₁ (mp rb) → News g L' h₁ news → Below (ktrTop dp un gd cn cs L a ccd cl outer) base (envX cn cs L a ccd cl :: outer) g → (hd.heap_1 w.params).In g → Top VW LS mean mg mb g →
      wpAny (model PG w) ((ktrTop dp un gd cn cs L a ccd cl outer).deeper (envOf qual scope L' f cdv)) (execs body (envOf qual scope L' f cdv))
        (fun fl s' => Kept (Came g L' { s with heap := h₁, toks := s.toks + binds.length } news Post fl s')) (fun _ _ => False)
        { s with heap := h₁, toks := s.toks + binds.length }) :
    wpAny (model PG w) (ktrTop dp un gd cn cs L a ccd cl outer) (call (.ref f) vs) Q E s := by
  refine callDef binds rb S ho hcd hroom hbind hloc hco hgen hk hcell hrb fun g L' h₁ F' N' B' X' T' => ?_
  exact wpAny_mono (h g L' h₁ F' N' B' X' T') (fun fl s₁ c => came_leave hret c) fun _ _ e => e.elim
theorem callBodyC (binds rb : List (Str × Value)) (S : Site w mean mg mb cs outer A₀ base h₀ L m s news)
    (ho : (hd.heap_1 w.params).lookup f = some ⟨oc, od, .func (fnOf name qual params body scope dV kV doc pm an cdv ct), osl⟩) (hcd : codeIn (hd.heap_1 w.params) cdv qual = true) (hroom : dp < recursionLimit)
    (hbind : BindsTo s (fnOf name qual params body scope dV kV doc pm an cdv ct) ⟨vs, []⟩ binds) (hloc : ∀ y ∈ binds, scope.names.lookup y.1 = some .local)
    (hco : scope.isCoroutine = false) (hgen : scope.isGenerator = false) (hk : scope.kind = .function) (hcell : ∀ x ∈ scope.names, x.2 ≠ .cell)
    (hrb : binds.reverse = rb)
    (hret : ∀ (r : Value) (tl : List (Addr × Obj)) (h' : Heap) (tk' : Nat), Fr h₀ L h' m → News h₀ L h' (tl ++ news) → Post r tl → Q r { s with heap := h', toks := tk' })
    (h : ∀ g L' h₁, Fr g L' h₁ (mp rb) → News g L' h₁ news → Below (ktrTop dp un gd cn cs L a ccd cl outer) base (envX cn cs L a ccd cl :: outer) g → (hd.heap_1 w.params).In g → Top VW LS mean mg mb g →
      wpC (model PG w) ((ktrTop dp un gd cn cs L a ccd cl outer).deeper (envOf qual scope L' f cdv)) (execs body (envOf qual scope L' f cdv))
        (fun fl s' => Kept (Came g L' { s with heap := h₁, toks := s.toks + binds.length } news Post fl s')) (fun _ _ => False)
        { s with heap := h₁, toks := s.toks + binds.length }) :
    wpC (model PG w) (ktrTop dp un gd cn cs L a ccd cl outer) (call (.ref f) vs) Q E s := by
  refine callDefC binds rb S ho hcd hroom hbind hloc hco hgen hk hcell hrb fun g L' h₁ F' N' B' X' T' => ?_
  exact wpC_mono (h g L' h₁ F' N' B' X' T') (fun fl s₁ c => came_leave hret c) fun _ _ e => e.elim
end
end Mine
end
section
open PySem PySem.W PyProof.Rows PySem.Spec PySem.Calls
set_option maxRecDepth 100000
namespace Mine
theorem seqA {M : Model} {A : Around} {env : Env} {st : Stmt} {rest : List Stmt} {Q : Flow → Shared → Prop} {E : Value → Shared → Prop} {s : Shared} (P : Shared → Prop)
    (h1 : wpAny M A (exec st env) (fun f s' => Kept (f = .next ∧ P s')) (fun _ _ => False) s) (h2 : ∀ s', P s' → wpAny M A (execs rest env) Q E s') : wpAny M A (execs (st :: rest) env) Q E s := by
  refine wpAny_execs_cons (wpAny_mono h1 (fun f s' h => ?_) fun _ _ e => e.elim)
  obtain ⟨rfl, h⟩ := h
  exact h2 s' h
theorem seqH {M : Model} {A : Around} {env : Env} {st : Stmt} {rest : List Stmt} {Q : Flow → Shared → Prop} {E : Value → Shared → Prop} {s : Shared} (P : Shared → Prop)
    (h1 : ∀ Q' : Flow → Shared → Prop, (∀ s', P s' → Q' .next s') → wpAny M A (exec st env) Q' (fun _ _ => False) s) (h2 : ∀ s', P s' → wpAny M A (execs rest env) Q E s') : wpAny M A (execs (st :: rest) env) Q E s :=
  seqA P (h1 _ fun _ h => ⟨rfl, h⟩) h2
end Mine
end
section
open PySem PySem.W PyProof.Rows PySem.Spec PySem.Calls
open PySem.Sem (wp)
set_option maxRecDepth 100000
namespace Mine
section
variable {w : World} {mean : ExcName → Option Value} {mg mb : Str → Option Value} {dp un : Nat} {gd : Option (List Code)} {cn : Str} {cs : Scope} {a : Addr} {ccd : Value} {cl : List (Str × Addr)} {outer : List Env} {A₀ : Around} {base h₀ : Heap} {L : Addr} {m : Str → Option Value} {s : Shared} {Q E : Value → Shared → Prop} {news : List (Addr × Obj)}
    {name qual : Str} {params : Arguments} {body : List Stmt} {scope : Scope} {dV kV doc pm cdv ct oc : Value} {an od : Option Addr} {osl : Array (Option Value)} {f : Addr} {vs : List Value} {Post : Value → List (Addr × Obj) → Prop}
theorem callCells (binds : List (Str × Value)) (S : Site w mean mg mb cs outer A₀ base h₀ L m s news)
    (ho : (hd.heap_1 w.params).lookup f = some ⟨oc, od, .func (fnOf name qual params body scope dV kV doc pm an cdv ct), osl⟩) (hcd : codeIn (hd.heap_1 w.params) cdv qual = true) (hroom : dp < recursionLimit)
    (hbind : BindsTo s (fnOf name qual params body scope dV kV doc pm an cdv ct) ⟨vs, []⟩ binds) (hkind : (binds.all fun y => scope.names.lookup y.1 == some .local || scope.names.lookup y.1 == some .cell) = true)
    (hnd : ((cellsFrom 0 scope.names []).map (·.1)).Nodup)
    (hco : scope.isCoroutine = false) (hgen : scope.isGenerator = false) (hk : scope.kind = .function)
    (hret : ∀ (r : Value) (tl : List (Addr × Obj)) (h' : Heap) (tk' : Nat), Fr h₀ L h' m → News h₀ L h' (tl ++ news) → Post r tl → Q r { s with heap := h', toks := tk' })
    (h : ∀ g L' h₁ tk cells, Fr g L' h₁ (bindL (envOfC qual scope L' f cdv).kindOf binds fun _ => none) → News g L' h₁ (cells ++ news) →
      CellsAre (bindC (envOfC qual scope L' f cdv).kindOf binds fun _ => none) (cellsFrom (L' + 1) scope.names []) cells → Below (ktrTop dp un gd cn cs L a ccd cl outer) base (envX cn cs L a ccd cl :: outer) g → (hd.heap_1 w.params).In g → Top VW LS mean mg mb g → (∀ p ∈ news, p.1 < L') →
      wpAny (model PG w) ((ktrTop dp un gd cn cs L a ccd cl outer).deeper (envOfC qual scope L' f cdv)) (execs body (envOfC qual scope L' f cdv))
        (fun fl s' => Kept (Came g L' { s with heap := h₁, toks := tk } news Post fl s')) (fun _ _ => False)
        { s with heap := h₁, toks := tk }) :
    wpAny (model PG w) (ktrTop dp un gd cn cs L a ccd cl outer) (call (.ref f) vs) Q E s := by
  refine wpAny_call (code_defC (binds := binds) S.B S.F S.X S.N S.T rfl rfl S.hk ho hcd hroom hbind hkind hnd ?_ hco hgen hk)
  intro g L' h₁ tk cells _ F' N' Y B' X' T' l
  exact wpAny_mono (h g L' h₁ tk cells F' N' Y B' X' T' l) (fun fl s₁ c => came_leave hret c) fun _ _ e => e.elim
end
end Mine
end
section
open PySem PySem.W PyProof.Rows PySem.Spec PySem.Calls PyProof.Rows.LCg PyProof.Rows.LCt
open PySem.Sem (wp)
set_option maxRecDepth 100000
namespace Mine
noncomputable def Took (h₀ : Heap) (L : Addr) (m : Str → Option Value) (s : Shared) (all : List (Addr × Obj)) (P : Prop) (s' : Shared) : Prop :=
  ∃ h' tk', s' = { s with heap := h', toks := tk' } ∧ Fr h₀ L h' m ∧ News h₀ L h' all ∧ P
theorem Took.intro {h₀ h' : Heap} {L : Addr} {m : Str → Option Value} {s : Shared} {all all' : List (Addr × Obj)} {P : Prop} {tk' : Nat} (F : Fr h₀ L h' m) (N : News h₀ L h' all') (hd : ∀ p ∈ all, p ∈ all') (p : P) : Kept (Took h₀ L m s all P { s with heap := h', toks := tk' }) := ⟨h', tk', rfl, F, fun q hq => N q (hd q hq), p⟩
section
variable {prog : Program} {w : World} {A : Around} {s : Shared} {h₀ : Heap} {L : Addr} {m : Str → Option Value} {env : Env} {elt ct : Expr} {x : Str} {scope : Scope} {cl : List (Str × Addr)} {news : List (Addr × Obj)} {n : Nat}
theorem compU_inv {S : List (Addr × Obj) → Prop} {P : Nat → Value → Prop} {Fin : List Value → List (Addr × Obj) → Prop} (hS : S news) (J : Nat → List Value → Prop)
    (step : ∀ (i : Nat) (ys : List Value) (v : Value) (I : Addr) (oI : Obj) (C : Addr) (oC : Obj) (D : Addr) (m₂ : Str → Option Value) (h : Heap) (tk : Nat), i < n → J i ys → P i v → NsObj oC m₂ → m₂ x = some v → Fr h₀ L h m → News h₀ L h ((I, oI) :: (C, oC) :: (D, lst ys) :: news) →
      wpAny (model prog w) A (eval elt (compEnvC scope cl C env)) (fun y s₂ => Kept (Took h₀ L m s ((I, oI) :: (C, oC) :: (D, lst ys) :: news) (J (i + 1) (ys ++ [y])) s₂)) (fun _ _ => False) { s with heap := h, toks := tk })
    (fin : ∀ ys, J n ys → Fin ys news) : ∀ (k i : Nat) (ys : List Value), i + k = n → J i ys → CompRest prog w A h₀ L m env elt x scope cl s S P Fin k i ys news := by
  intro k
  induction k with
  | zero =>
    intro i ys hi hJ
    have : i = n := by (first | lia | omega)
    subst this
    exact CompRest.zero (fin ys hJ)
  | succ k ih =>
    intro i ys hi hJ
    refine CompRest.succ fun v I oI C oC D m₂ h tk E' hP hC hm F N off hne => ?_
    refine wpAny_mono (step i ys v I oI C oC D m₂ h tk (by (first | lia | omega)) hJ hP hC hm F N) (fun y s₂ hy => ?_) fun _ _ e => e.elim
    refine hideG ?_
    intro Cg hCg
    obtain ⟨h', tk', rfl, F', N', j⟩ := hy
    refine hCg ?_
    clear hCg Cg
    exact ⟨h', tk', news, rfl, F', N', off, hS, ih (i + 1) (ys ++ [y]) (by (first | lia | omega)) j⟩
theorem compT_inv {S : List (Addr × Obj) → Prop} {P : Nat → Value → Prop} {Fin : List Value → List (Addr × Obj) → Prop} (hS : S news) (J : Nat → List Value → Prop)
    (step : ∀ (i : Nat) (ys : List Value) (v : Value) (I : Addr) (oI : Obj) (C : Addr) (oC : Obj) (D : Addr) (m₂ : Str → Option Value) (h : Heap) (tk : Nat), i < n → J i ys → P i v → NsObj oC m₂ → m₂ x = some v → Fr h₀ L h m → News h₀ L h ((I, oI) :: (C, oC) :: (D, lst ys) :: news) →
      wpAny (model prog w) A (isTrue ct (compEnvC scope cl C env) (eval ct (compEnvC scope cl C env))) (fun ok s' => if ok = true then
        wpAny (model prog w) A (eval elt (compEnvC scope cl C env)) (fun y s₂ => Kept (Took h₀ L m s ((I, oI) :: (C, oC) :: (D, lst ys) :: news) (J (i + 1) (ys ++ [y])) s₂)) (fun _ _ => False) s'
        else Kept (Took h₀ L m s ((I, oI) :: (C, oC) :: (D, lst ys) :: news) (J (i + 1) ys) s')) (fun _ _ => False) { s with heap := h, toks := tk })
    (fin : ∀ ys, J n ys → Fin ys news) : ∀ (k i : Nat) (ys : List Value), i + k = n → J i ys → CompRestT prog w A h₀ L m env ct elt x scope cl s S P Fin k i ys news := by
  intro k
  induction k with
  | zero =>
    intro i ys hi hJ
    have : i = n := by (first | lia | omega)
    subst this
    exact CompRestT.zero (fin ys hJ)
  | succ k ih =>
    intro i ys hi hJ
    refine CompRestT.succ fun v I oI C oC D m₂ h tk E' hP hC hm F N off hne => ?_
    refine wpAny_mono (step i ys v I oI C oC D m₂ h tk (by (first | lia | omega)) hJ hP hC hm F N) (fun ok s' hok => ?_) fun _ _ e => e.elim
    cases ok with
    | true =>
      simp only [if_true] at hok ⊢
      refine wpAny_mono hok (fun y s₂ hy => ?_) fun _ _ e => e.elim
      refine hideG ?_
      intro Cg hCg
      obtain ⟨h', tk', rfl, F', N', j⟩ := hy
      refine hCg ?_
      clear hCg Cg
      exact ⟨h', tk', news, rfl, F', N', off, hS, ih (i + 1) (ys ++ [y]) (by (first | lia | omega)) j⟩
    | false =>
      simp only [Bool.false_eq_true, if_false] at hok ⊢
      refine hideG ?_
      intro Cg hCg
      obtain ⟨h', tk', rfl, F', N', j⟩ := hok
      refine hCg ?_
      clear hCg Cg
      exact ⟨h', tk', news, rfl, F', N', off, hS, ih (i + 1) ys (by (first | lia | omega)) j⟩
end
end Mine
end
section
open PySem PySem.W PyProof.Rows PySem.Spec PySem.Calls
set_option maxRecDepth 100000
set_option maxHeartbeats 0
namespace Mine
noncomputable def bodyOf : Stmt → List Stmt
  | .FunctionDef _ _ b _ _ _ _ _ _ _ => b
  | _ => []
noncomputable def scopeOf : Stmt → Option Scope
  | .FunctionDef _ _ _ _ _ _ s _ _ _ => some s
  | _ => none
noncomputable def lawDef : Stmt := PySem.Challenge.pw_pu0021_01.main.body.getLast!
noncomputable def lawBody : List Stmt := bodyOf lawDef
noncomputable def lawScope : Scope := (scopeOf lawDef).getD default
noncomputable abbrev lawCl (L : Addr) : List (Str × Addr) := [(Str.ofString "turned", L + 1 + 1), (Str.ofString "numbers", L + 1)]
noncomputable abbrev lawEnv (L a : Addr) (cd : Value) : Env := envX (Str.ofString "law") lawScope L a cd (lawCl L)
noncomputable abbrev lawA (L a : Addr) (cd : Value) : Around := ktrTop (callerA.depth + 1) (callerA.units + 3) (some []) (Str.ofString "law") lawScope L a cd (lawCl L) []
theorem lawA_eq (L a : Addr) (cd : Value) : callerA.deeper (lawEnv L a cd) = lawA L a cd := rfl
theorem lawCl_eq (L : Addr) : cellsFrom (L + 1) lawScope.names [] = lawCl L := rfl
theorem lawKind : lawScope.kind = .function := rfl
noncomputable def LSt (h₀ : Heap) (L : Addr) (s : Shared) (R : (Str → Option Value) → List (Addr × Obj) → Prop) (s' : Shared) : Prop := ∃ h tk m news, s' = { s with heap := h, toks := tk } ∧ Fr h₀ L h m ∧ News h₀ L h news ∧ R m news
theorem LSt.intro {h₀ h : Heap} {L : Addr} {s : Shared} {R : (Str → Option Value) → List (Addr × Obj) → Prop} {tk : Nat} {m : Str → Option Value} {news : List (Addr × Obj)} (F : Fr h₀ L h m) (N : News h₀ L h news) (r : R m news) : LSt h₀ L s R { s with heap := h, toks := tk } := ⟨h, tk, m, news, rfl, F, N, r⟩
end Mine
end
section
open PySem PyProof.Rows
namespace Mine
noncomputable def ofL (l : List Nat) : Str := ⟨l.toArray⟩
theorem ofL_cps (l : List Nat) : (ofL l).cps.toList = l := by simp [ofL]
theorem ofL_len (l : List Nat) : (ofL l).length = l.length := by simp [ofL, Str.length]
theorem ofL_inj {l l' : List Nat} (h : ofL l = ofL l') : l = l' := by have := congrArg (fun x => x.cps.toList) h; simpa [ofL_cps] using this
theorem ofL_of (x : Str) : x = ofL x.cps.toList := by cases x; simp [ofL]
theorem ofL_app (l l' : List Nat) : ofL l ++ ofL l' = ofL (l ++ l') := by
  show (⟨l.toArray ++ l'.toArray⟩ : Str) = _
  simp [ofL]
theorem slice_from {l : List Nat} {p : Nat} (h : p ≤ l.length) : Txt.slice (ofL l) (some (p : Int)) none = ofL (l.drop p) := by
  rw [slice_from_eq (b := ((ofL l).length : Int)) (by (first | lia | omega)) (by rw [ofL_len]; (first | lia | omega)) rfl, ofL_cps, ofL_len]
  have e : ((l.length : Int) - (p : Int)).toNat = (l.drop p).length := by rw [List.length_drop]; (first | lia | omega)
  rw [e, Int.toNat_natCast, List.take_length]
  rfl
theorem range_to (n : Nat) : sliceRange 0 (n : Int) 1 = List.range n := by
  unfold sliceRange
  simp only [show (1 : Int) > 0 by decide, if_true]
  by_cases h : (0 : Int) < n
  · rw [if_pos h]
    have : (((n : Int) - 0 + 1 - 1) / 1).toNat = n := by (first | lia | omega)
    rw [this]
    apply List.ext_getElem
    · simp
    · intro i h1 h2
      simp
  · rw [if_neg h]
    have : n = 0 := by (first | lia | omega)
    subst this
    rfl
theorem filterMap_range (l : List Nat) : ∀ n, n ≤ l.length → (List.range n).filterMap (fun i => l[i]?) = l.take n
  | 0, _ => by simp
  | n + 1, h => by
    rw [List.range_succ, List.filterMap_append, filterMap_range l n (by (first | lia | omega))]
    have hn : n < l.length := by (first | lia | omega)
    have e : l[n]? = some l[n] := List.getElem?_eq_getElem hn
    rw [List.take_add_one, e]
    simp only [List.filterMap_cons, List.filterMap_nil, e, Option.toList]
theorem slice_all (l : List Nat) : Txt.slice (ofL l) none none = ofL l := by
  unfold Txt.slice
  have e : PySem.Builtin.Str.strSliceIndices none none 1 (ofL l).length = List.range l.length := by
    rw [ofL_len]
    show sliceRange 0 (l.length : Int) 1 = _
    exact range_to _
  rw [e]
  simp [ofL_len]
theorem slice_upto {l : List Nat} {q : Nat} (h0 : 0 < q) (h : q ≤ l.length) : Txt.slice (ofL l) none (some (-(q : Int))) = ofL (l.take (l.length - q)) := by
  unfold Txt.slice
  have e : PySem.Builtin.Str.strSliceIndices none (some (-(q : Int))) 1 (ofL l).length = List.range (l.length - q) := by
    rw [ofL_len]
    have e1 : PySem.Builtin.Str.strSliceIndices none (some (-(q : Int))) 1 l.length = sliceRange 0 ((l.length - q : Nat) : Int) 1 := by
      unfold PySem.Builtin.Str.strSliceIndices
      simp only [show (1 : Int) > 0 by decide, if_true]
      rw [if_pos (by (first | lia | omega))]
      congr 1
      (first | lia | omega)
    rw [e1]
    exact range_to _
  rw [e]
  have hne : ((List.range (l.length - q)).length == (ofL l).length) = false := by
    rw [ofL_len, List.length_range]
    simp
    (first | lia | omega)
  rw [hne]
  simp only [Bool.and_false, Bool.false_eq_true, if_false]
  have : (List.range (l.length - q)).filterMap ((ofL l).cps[·]?) = l.take (l.length - q) := by
    have : (fun i : Nat => (ofL l).cps[i]?) = fun i : Nat => l[i]? := by funext i; simp [ofL]
    rw [this]
    exact filterMap_range l _ (by (first | lia | omega))
  rw [this]
  rfl
theorem item_at {l : List Nat} {p : Nat} (h : p < l.length) : Txt.item (ofL l) (p : Int) = ofL [l.getD p 0] := by
  have := eq_of_beq (item_closes (x := ofL l) (i := (p : Int)) ⟨by (first | lia | omega), by rw [ofL_len]; (first | lia | omega)⟩)
  rw [this, Int.toNat_natCast]
  simp [ofL, List.getD_eq_getElem?_getD]
theorem item_back {l : List Nat} {q : Nat} (h : q < l.length) : Txt.item (ofL l) (-(q : Int) - 1) = ofL [l.reverse.getD q 0] := by
  have := eq_of_beq (item_closes_neg (x := ofL l) (i := -(q : Int) - 1) (j := (l.length : Int) - q - 1) (by (first | lia | omega)) (by rw [ofL_len]; (first | lia | omega)) (by rw [ofL_len]; (first | lia | omega)))
  rw [this]
  have e : ((l.length : Int) - q - 1).toNat = l.length - 1 - q := by omega
  rw [e]
  simp [ofL, List.getD_eq_getElem?_getD, List.getElem?_reverse h]
noncomputable def stripPre : List Nat → List Nat → List Nat × List Nat
  | a :: as, b :: bs => if a = b then stripPre as bs else (a :: as, b :: bs)
  | as, bs => (as, bs)
theorem stripPre_stop {x y : List Nat} (h : x = [] ∨ y = [] ∨ x.getD 0 0 ≠ y.getD 0 0) : stripPre x y = (x, y) := by
  cases x with
  | nil => rfl
  | cons a as => cases y with
    | nil => rfl
    | cons b bs =>
      have : a ≠ b := by simpa using h
      simp [stripPre, this]
theorem stripPre_go {x y : List Nat} {p : Nat} (hx : p < x.length) (hy : p < y.length) (h : x.getD p 0 = y.getD p 0) : stripPre (x.drop p) (y.drop p) = stripPre (x.drop (p + 1)) (y.drop (p + 1)) := by
  rw [List.drop_eq_getElem_cons hx, List.drop_eq_getElem_cons hy]
  have : x[p] = y[p] := by simpa [List.getD_eq_getElem?_getD, hx, hy] using h
  simp [stripPre, this]
theorem rev_drop (l : List Nat) (q : Nat) : (l.reverse.drop q).reverse = l.take (l.length - q) := by
  rw [List.drop_reverse, List.reverse_reverse]
noncomputable def subCost (x y : Str) : Int := if x = y then 0 else if Txt.lower x = Txt.lower y then 1 else 2
noncomputable def cost (b c : Nat) : Int := subCost (ofL [b]) (ofL [c])
noncomputable def row0 (n : Nat) : List Int := (List.range n).map (fun (i : Nat) => 2 * ((i : Int) + 1))
noncomputable def inStep (a : List Nat) (bc : Nat) (st : Int × Int × Int × List Int) (i : Nat) : Int × Int × Int × List Int :=
  let d := st.2.2.2.getD i 0
  let r := min (min st.2.1 d + 2) (st.1 + cost bc (a.getD i 0))
  (d, r, if r < st.2.2.1 then r else st.2.2.1, st.2.2.2.set i r)
noncomputable def stepVal (d r x c : Int) : Int := if d + c < (if x < r then x else r) + 2 then d + c else (if x < r then x else r) + 2
theorem stepVal_eq (d r x c : Int) : min (min r x + 2) (d + c) = stepVal d r x c := by
  unfold stepVal
  (repeat' split) <;> (first | lia | omega)
theorem inStep_lt {a : List Nat} {bc i : Nat} {d r mn : Int} {row : List Int} (h : stepVal d r (row.getD i 0) (cost bc (a.getD i 0)) < mn) :
    inStep a bc (d, r, mn, row) i = (row.getD i 0, stepVal d r (row.getD i 0) (cost bc (a.getD i 0)), stepVal d r (row.getD i 0) (cost bc (a.getD i 0)), row.set i (stepVal d r (row.getD i 0) (cost bc (a.getD i 0)))) := by
  show (row.getD i 0, min (min r (row.getD i 0) + 2) (d + cost bc (a.getD i 0)), (if min (min r (row.getD i 0) + 2) (d + cost bc (a.getD i 0)) < mn then min (min r (row.getD i 0) + 2) (d + cost bc (a.getD i 0)) else mn), row.set i (min (min r (row.getD i 0) + 2) (d + cost bc (a.getD i 0)))) = _
  rw [stepVal_eq, if_pos h]
theorem inStep_ge {a : List Nat} {bc i : Nat} {d r mn : Int} {row : List Int} (h : ¬ stepVal d r (row.getD i 0) (cost bc (a.getD i 0)) < mn) :
    inStep a bc (d, r, mn, row) i = (row.getD i 0, stepVal d r (row.getD i 0) (cost bc (a.getD i 0)), mn, row.set i (stepVal d r (row.getD i 0) (cost bc (a.getD i 0)))) := by
  show (row.getD i 0, min (min r (row.getD i 0) + 2) (d + cost bc (a.getD i 0)), (if min (min r (row.getD i 0) + 2) (d + cost bc (a.getD i 0)) < mn then min (min r (row.getD i 0) + 2) (d + cost bc (a.getD i 0)) else mn), row.set i (min (min r (row.getD i 0) + 2) (d + cost bc (a.getD i 0)))) = _
  rw [stepVal_eq, if_neg h]
noncomputable def inner (a : List Nat) (bc : Nat) (j : Nat) (row : List Int) : Int × Int × Int × List Int :=
  (List.range a.length).foldl (inStep a bc) ((j : Int) * 2, (j : Int) * 2, 9223372036854775807, row)
noncomputable def outer (a : List Nat) (mc : Int) : List Nat → Nat → List Int → Int → Int
  | [], _, _, res => res
  | b :: bs, j, row, _ =>
    let st := inner a b j row
    if st.2.2.1 > mc then mc + 1 else outer a mc bs (j + 1) st.2.2.2 st.2.1
noncomputable def levTail (a b : List Nat) (mc : Int) : Int := if ((b.length : Int) - a.length) * 2 > mc then mc + 1 else outer a mc b 0 (row0 a.length) 0
noncomputable def levStr (a b : List Nat) (mc : Int) : Int :=
  if a.length = 0 ∨ b.length = 0 then 2 * ((a.length : Int) + b.length) else if 40 < a.length ∨ 40 < b.length then mc + 1
  else if b.length < a.length then levTail b a mc else levTail a b mc
noncomputable def lev (x y : List Nat) (mc : Int) : Int :=
  if x = y then 0 else
    let s := stripPre x y
    let r := stripPre s.1.reverse s.2.reverse
    levStr r.1.reverse r.2.reverse mc
end Mine
end
section
open PySem PySem.W PyProof.Rows PySem.Spec PySem.Calls
namespace Mine
inductive It where
  | i (n : Int)
  | s (x : List Nat)
deriving DecidableEq
inductive ItIs : Value → It → Prop where
  | i (n : Int) (t : Tok) : ItIs (.int n t) (.i n)
  | s (x : List Nat) (t : Tok) : ItIs (.str (ofL x) t) (.s x)
inductive ItsAre : List Value → List It → Prop where
  | nil : ItsAre [] []
  | cons {v : Value} {x : It} {vs : List Value} {xs : List It} : ItIs v x → ItsAre vs xs → ItsAre (v :: vs) (x :: xs)
theorem ItsAre.append {vs ws : List Value} {xs ys : List It} (h : ItsAre vs xs) (k : ItsAre ws ys) : ItsAre (vs ++ ws) (xs ++ ys) := by
  induction h with
  | nil => exact k
  | cons a _ ih => exact .cons a ih
theorem ItsAre.length {vs : List Value} {xs : List It} (h : ItsAre vs xs) : vs.length = xs.length := by
  induction h with
  | nil => rfl
  | cons _ _ ih => simp [ih]
theorem ItsAre.at {vs : List Value} {xs : List It} (h : ItsAre vs xs) : ∀ {i : Nat} {v : Value}, vs[i]? = some v → ∃ x, xs[i]? = some x ∧ ItIs v x := by
  induction h with
  | nil => intro i v e; simp at e
  | cons a _ ih =>
    intro i v e
    cases i with
    | zero => simp at e; subst e; exact ⟨_, rfl, a⟩
    | succ i => simpa using ih (by simpa using e)
theorem ItsAre.ii {a b : Int} {t u : Tok} : ItsAre [.int a t, .int b u] [.i a, .i b] := .cons (.i ..) (.cons (.i ..) .nil)
theorem ItsAre.is {a : Int} {b : List Nat} {t u : Tok} : ItsAre [.int a t, .str (ofL b) u] [.i a, .s b] := .cons (.i ..) (.cons (.s ..) .nil)
end Mine
end
section
open PySem PySem.W PyProof.Rows PySem.Spec PySem.Calls
set_option maxRecDepth 100000
set_option maxHeartbeats 0
namespace Mine
section
variable {prog : Program} {w : World} {A : Around} {E : Value → Shared → Prop} {s : Shared} {h₀ : Heap} {L : Addr} {m : Str → Option Value} {news : List (Addr × Obj)} {Q : Value → Shared → Prop}
theorem isListN {l : Addr} {vs : List Value} {c : Nat} (N : News h₀ L s.heap news) (hm : (l, W.listOf vs.toArray c) ∈ news) : s.heap.IsList l vs.toArray := ⟨_, (N _ hm).1, rfl, c, rfl⟩
theorem r_len {l : Addr} {vs : List Value} {c n : Nat} (N : News h₀ L s.heap news) (hm : (l, W.listOf vs.toArray c) ∈ news) (hn : vs.length = n) (hl : n ≤ 1000) (h : Q (.int (n : Int) (s.toks + 1)) { s with toks := s.toks + 1 + 1 }) :
    wpAny (model prog w) A (call (.builtin "len") [.ref l]) Q E s := by
  refine len_list (isListN N hm) (by simp; (first | lia | omega)) ?_
  subst hn
  simpa using h
theorem r_item' {value slice : Expr} {l : Addr} {vs : List Value} {c k : Nat} {x : Int} {u : Tok} {v : Value} (N : News h₀ L s.heap news) (hm : (l, W.listOf vs.toArray c) ∈ news) (hx : x = (k : Int)) (hk : vs[k]? = some v) (hl : vs.length ≤ 1000) (h : Q v s)
    (hs : subscripted slice false (.ref l) (.int x u) = operate [.ref l, .int x u] (getItem (.ref l) (.int x u))) :
    wpAny (model prog w) A (subscriptTail value slice (.ref l) (.int x u)) Q E s := by
  subst hx
  have hlt := (List.getElem?_eq_some_iff.mp hk).1
  have hI := isListN N hm
  exact tail_any hI.typeIs slot_list_getitem.lookup (wpAny_getItem_list hI (by (first | lia | omega)) (by (first | lia | omega)) (by simpa using hk) h) hs
theorem r_add {a b : Addr} {vs ws : List Value} {c c' : Nat} (F : Fr h₀ L s.heap m) (N : News h₀ L s.heap news) (ha : (a, W.listOf vs.toArray c) ∈ news) (hb : (b, W.listOf ws.toArray c') ∈ news) (hl : vs.length + ws.length ≤ 1000)
    (h : ∀ D h', Fr h₀ L h' m → News h₀ L h' ((D, W.listOf (vs ++ ws).toArray 0) :: news) → (∀ q ∈ news, q.1 < D) → Q (.ref D) { s with heap := h' }) :
    wpAny (model prog w) A (binaryOp .Add (.ref a) (.ref b)) Q E s :=
  kmk_add_lit (zs := vs ++ ws) F N (isListN N ha) (isListN N hb) (by simp) h (by simp [sizeLine_eq]; (first | lia | omega))
theorem r_append {D : Addr} {vs : List Value} {c : Nat} {x : Value} {g : Obj → List (Addr × Obj)} (F : Fr h₀ L s.heap m) (N : News h₀ L s.heap news) (U : UpdF D (W.listOf vs.toArray c) news g) (hl : vs.length ≤ 1000)
    (h : ∀ h', Fr h₀ L h' m → News h₀ L h' (g (W.listOf (vs ++ [x]).toArray (c + 1))) → Q .none { s with heap := h' }) : wpAny (model prog w) A (call (.builtin "list.append") [.ref D, x]) Q E s := by
  obtain ⟨pre, post, rfl, hg, a, b⟩ := U.split
  have z := N (D, W.listOf vs.toArray c) (List.mem_append.mpr (.inr (.head _)))
  have e : (vs ++ [x]).toArray = vs.toArray.push x := by simp
  refine append_at (hsz := by simp [sizeLine_eq]; (first | lia | omega)) z.1 fun h' hs ho' => h h' (F.change hs z.2.1 z.2.2) ?_
  rw [hg, e]
  exact news_set N a b hs ho'
theorem max_of {l : List Int} {M : Int} {a : Int} (h1 : M ∈ a :: l) (h2 : ∀ x ∈ a :: l, x ≤ M) : M = l.foldl max a := by
  have : ∀ (l : List Int) (a : Int), (l.foldl max a) ∈ a :: l ∧ ∀ x ∈ a :: l, x ≤ l.foldl max a := by
    intro l
    induction l with
    | nil => intro a; simp
    | cons b l ih =>
      intro a
      obtain ⟨i1, i2⟩ := ih (max a b)
      constructor
      · rcases List.mem_cons.mp i1 with h | h
        · simp only [List.foldl_cons]
          rw [h]
          rcases Int.le_total a b with q | q
          · rw [Int.max_eq_right q]; simp
          · rw [Int.max_eq_left q]; simp
        · simp only [List.foldl_cons]
          exact .tail _ (.tail _ h)
      · intro x hx
        simp only [List.foldl_cons]
        have hm := i2 (max a b) (.head _)
        rcases List.mem_cons.mp hx with rfl | hx
        · (first | lia | omega)
        · rcases List.mem_cons.mp hx with rfl | hx
          · (first | lia | omega)
          · exact i2 x (.tail _ hx)
  obtain ⟨t1, t2⟩ := this l a
  have := h2 _ t1
  have := t2 _ h1
  (first | lia | omega)
end
end Mine
end
section
open PySem PySem.W PyProof.Rows PySem.Spec PySem.Calls
set_option maxRecDepth 100000
set_option maxHeartbeats 0
namespace Mine
section
variable {prog : Program} {w : World} {A : Around} {E : Value → Shared → Prop} {s : Shared} {value slice : Expr} {l : List Nat} {t : Tok} {h₀ : Heap} {L : Addr} {m : Str → Option Value} {news : List (Addr × Obj)} {Q : Value → Shared → Prop}
theorem r_slice_none (hF : Fr h₀ L s.heap m) (hN : News h₀ L s.heap news) (hl : l.length ≤ 1000) (h : ∀ h' t' k, Fr h₀ L h' m → News h₀ L h' news → Q (.str (ofL l) t') { s with heap := h', toks := k })
    (hs : subscripted slice false (.str (ofL l) t) (.ref s.heap.objs.size) = operate [.ref s.heap.objs.size, .str (ofL l) t] (getItem (.str (ofL l) t) (.ref s.heap.objs.size)))
    (ht : ∀ r, letTemporaryGo value (.str (ofL l) t) r = pure ()) :
    wpAny (model prog w) A (subscriptTail value slice (.str (ofL l) t) (.ref s.heap.objs.size)) Q E { s with heap := s.heap.push { cls := .type "slice", data := .fields #[.none, .none, .none] } } :=
  slice_strN_nn hF hN (fun h' t' k F N => by rw [slice_all]; exact h h' t' k F N) hs ht (by rw [ofL_len]; rw [sizeLine_eq]; (first | lia | omega))
theorem r_slice_from {p : Nat} {u : Tok} (hF : Fr h₀ L s.heap m) (hN : News h₀ L s.heap news) (hl : l.length ≤ 1000) (hp : p ≤ l.length) (h : ∀ h' t' k, Fr h₀ L h' m → News h₀ L h' news → (ofL (l.drop p)).length = l.length - p → Q (.str (ofL (l.drop p)) t') { s with heap := h', toks := k })
    (hs : subscripted slice false (.str (ofL l) t) (.ref s.heap.objs.size) = operate [.ref s.heap.objs.size, .str (ofL l) t] (getItem (.str (ofL l) t) (.ref s.heap.objs.size)))
    (ht : ∀ r, letTemporaryGo value (.str (ofL l) t) r = pure ()) :
    wpAny (model prog w) A (subscriptTail value slice (.str (ofL l) t) (.ref s.heap.objs.size)) Q E { s with heap := s.heap.push { cls := .type "slice", data := .fields #[.int (p : Int) u, .none, .none] } } :=
  slice_strN_sn hF hN (fun h' t' k F N => by rw [slice_from hp]; exact h h' t' k F N (by rw [ofL_len, List.length_drop])) hs ht (by rw [ofL_len]; rw [sizeLine_eq]; (first | lia | omega))
theorem r_slice_upto {q : Nat} {u : Tok} (hF : Fr h₀ L s.heap m) (hN : News h₀ L s.heap news) (hl : l.length ≤ 1000) (h0 : 0 < q) (hq : q ≤ l.length) (h : ∀ h' t' k, Fr h₀ L h' m → News h₀ L h' news → (ofL (l.take (l.length - q))).length = l.length - q → Q (.str (ofL (l.take (l.length - q))) t') { s with heap := h', toks := k })
    (hs : subscripted slice false (.str (ofL l) t) (.ref s.heap.objs.size) = operate [.ref s.heap.objs.size, .str (ofL l) t] (getItem (.str (ofL l) t) (.ref s.heap.objs.size)))
    (ht : ∀ r, letTemporaryGo value (.str (ofL l) t) r = pure ()) :
    wpAny (model prog w) A (subscriptTail value slice (.str (ofL l) t) (.ref s.heap.objs.size)) Q E { s with heap := s.heap.push { cls := .type "slice", data := .fields #[.none, .int (-(q : Int)) u, .none] } } :=
  slice_strN_ns hF hN (fun h' t' k F N => by rw [slice_upto h0 hq]; exact h h' t' k F N (by rw [ofL_len, List.length_take]; (first | lia | omega))) hs ht (by rw [ofL_len]; rw [sizeLine_eq]; (first | lia | omega))
theorem r_item {p : Nat} {u : Tok} (hl : l.length ≤ 1000) (hp : p < l.length) (h : Q (.str (ofL [l.getD p 0]) s.toks) { s with toks := s.toks + 1 })
    (hs : subscripted slice false (.str (ofL l) t) (.int (p : Int) u) = operate [.str (ofL l) t, .int (p : Int) u] (getItem (.str (ofL l) t) (.int (p : Int) u)))
    (ht : ∀ r, letTemporaryGo value (.str (ofL l) t) r = pure ()) :
    wpAny (model prog w) A (subscriptTail value slice (.str (ofL l) t) (.int (p : Int) u)) Q E s :=
  item_str (by simp [fitsSsize]; (first | lia | omega)) (by rw [ofL_len]; (first | lia | omega)) (by rw [ofL_len]; (first | lia | omega)) (fun _ => by rw [item_at hp]; exact h) hs ht
theorem r_item_back {q : Nat} {u : Tok} (hl : l.length ≤ 1000) (hp : q < l.length) (h : Q (.str (ofL [l.reverse.getD q 0]) s.toks) { s with toks := s.toks + 1 })
    (hs : subscripted slice false (.str (ofL l) t) (.int (-(q : Int) - 1) u) = operate [.str (ofL l) t, .int (-(q : Int) - 1) u] (getItem (.str (ofL l) t) (.int (-(q : Int) - 1) u)))
    (ht : ∀ r, letTemporaryGo value (.str (ofL l) t) r = pure ()) :
    wpAny (model prog w) A (subscriptTail value slice (.str (ofL l) t) (.int (-(q : Int) - 1) u)) Q E s :=
  item_str (by simp [fitsSsize]; (first | lia | omega)) (by rw [ofL_len]; (first | lia | omega)) (by rw [ofL_len]; (first | lia | omega)) (fun _ => by rw [item_back hp]; exact h) hs ht
theorem r_item_back0 {u : Tok} (hl : l.length ≤ 1000) (hp : 0 < l.length) (h : Q (.str (ofL [l.reverse.getD 0 0]) s.toks) { s with toks := s.toks + 1 })
    (hs : subscripted slice false (.str (ofL l) t) (.int (0 - 1) u) = operate [.str (ofL l) t, .int (0 - 1) u] (getItem (.str (ofL l) t) (.int (0 - 1) u)))
    (ht : ∀ r, letTemporaryGo value (.str (ofL l) t) r = pure ()) :
    wpAny (model prog w) A (subscriptTail value slice (.str (ofL l) t) (.int (0 - 1) u)) Q E s :=
  item_str (by simp [fitsSsize]) (by rw [ofL_len]; (first | lia | omega)) (by rw [ofL_len]; (first | lia | omega)) (fun _ => by have e := item_back hp; rw [show (-((0 : Nat) : Int) - 1) = 0 - 1 from by decide] at e; rw [e]; exact h) hs ht
end
end Mine
end
section
open PySem PySem.W PyProof.Rows PySem.Spec PySem.Calls
set_option maxRecDepth 100000
set_option maxHeartbeats 0
namespace Mine
section
variable {prog : Program} {w : World} {A : Around} {E : Value → Shared → Prop} {s : Shared} {h₀ : Heap} {L : Addr} {m : Str → Option Value} {news : List (Addr × Obj)} {Q : Value → Shared → Prop}
theorem row0_eq (n : Nat) : rangeInts 2 2 n = row0 n := by
  unfold rangeInts row0
  apply List.map_congr_left
  intro i _
  (first | lia | omega)
theorem r_listRange2 {r : Addr} {n : Nat} {t u v : Tok} (hh : A.handled = none) (F : Fr h₀ L s.heap m) (N : News h₀ L s.heap news) (hr : IsRange s.heap r 2 (2 * ((n : Int) + 1)) 2 t u v) (hn : n ≤ 1000)
    (h : ∀ (D : Addr) (h' : Heap) (tk : Nat) (ys : List Value) (c : Nat), Fr h₀ L h' m → News h₀ L h' ((D, listOf ys.toArray c) :: news) → (∀ p ∈ news, p.1 < D) → IntsAre ys (row0 n) → Q (.ref D) { s with heap := h', toks := tk }) :
    wpAny (model prog w) A (call (.type "list") [.ref r]) Q E s := by
  have hz : Builtin.Range.rangeSize 2 (2 * ((n : Int) + 1)) 2 = (n : Int) := by
    unfold Builtin.Range.rangeSize
    simp only [show (2 : Int) > 0 by decide, if_true]
    by_cases h0 : n = 0
    · subst h0; decide
    · rw [if_pos (by (first | lia | omega))]; (first | lia | omega)
  refine list_rangeD (n := n) hh F N hr ?_ hz (by (first | lia | omega)) ?_
  · unfold Builtin.Range.small
    rw [hz]
    simp [Builtin.Range.rangeFitsLong]
    (first | lia | omega)
  · intro h' tk ys F' N' hk hn0 _ hp hc
    rw [row0_eq] at hc
    obtain ⟨⟨c, hc'⟩, hne⟩ := hp
    refine h _ h' tk ys c F' ?_ ?_ (IntsAre.ofCarried hc)
    · intro p hp
      rcases List.mem_cons.mp hp with rfl | hp
      · exact ⟨hc', Nat.ne_of_gt F.ns.lt, hn0⟩
      · exact N' p hp
    · intro p hp
      exact Heap.lt_size (N p hp).1
theorem size01 (n : Nat) : Builtin.Range.rangeSize 0 (n : Int) 1 = (n : Int) := by
  unfold Builtin.Range.rangeSize
  simp only [show (1 : Int) > 0 by decide, if_true]
  by_cases h0 : n = 0
  · subst h0; decide
  · rw [if_pos (by (first | lia | omega))]; (first | lia | omega)
theorem small01 {n : Nat} (h : n ≤ 1000) : Builtin.Range.small 0 (n : Int) 1 = true := by
  unfold Builtin.Range.small
  rw [size01]
  simp [Builtin.Range.rangeFitsLong]
  (first | lia | omega)
end
end Mine
end
section
open PySem PySem.W PyProof.Rows PySem.Spec PySem.Calls
open PySem.Sem (wp)
set_option maxRecDepth 100000
namespace Mine
noncomputable def Turned (g : Heap) (L' : Addr) (s : Shared) (it : Addr) (bs : List (Addr × Obj)) (J' : (Str → Option Value) → List (Addr × Obj) → Prop) (f : Flow) (s₃ : Shared) : Prop :=
  f = .next ∧ ∃ m₂ nx₂ h₂ tk₂, s₃ = { s with heap := h₂, toks := tk₂ } ∧ Fr g L' h₂ m₂ ∧ News g L' h₂ (bs ++ nx₂) ∧ (∀ p ∈ nx₂, p.1 ≠ it ∨ p.2.cls ≠ .type "list_iterator") ∧ J' m₂ nx₂
theorem Turned.intro {g : Heap} {L' : Addr} {s : Shared} {it : Addr} {bs : List (Addr × Obj)} {J' : (Str → Option Value) → List (Addr × Obj) → Prop} {h₂ : Heap} {tk₂ : Nat} {m₂ : Str → Option Value} {news : List (Addr × Obj)} (nx₂ : List (Addr × Obj))
    (F : Fr g L' h₂ m₂) (N : News g L' h₂ news) (hd : ∀ p ∈ bs ++ nx₂, p ∈ news) (ha : ∀ p ∈ nx₂, p.1 ≠ it ∨ p.2.cls ≠ .type "list_iterator") (j : J' m₂ nx₂) : Kept (Turned g L' s it bs J' .next { s with heap := h₂, toks := tk₂ }) :=
  ⟨rfl, m₂, nx₂, h₂, tk₂, rfl, F, fun p hp => N p (hd p hp), ha, j⟩
section
variable {prog : Program} {w : World} {A : Around} {E : Value → Shared → Prop} {s : Shared} {env : Env} {g : Heap} {L' D : Addr} {nn : Nat} {vs : List Value}
theorem listIs {h : Heap} {news : List (Addr × Obj)} (N : News g L' h news) (hm : (D, W.listOf vs.toArray nn) ∈ news) : h.IsList D vs.toArray := ⟨_, (N _ hm).1, rfl, nn, rfl⟩
theorem fr_sameBut {h h' : Heap} {m : Str → Option Value} {it : Addr} (F : Fr g L' h m) (hs : Heap.SameBut it h h') (h0 : g.get? it = none) (hL : it ≠ L') : Fr g L' h' m :=
  ⟨F.ns.sameBut hs hL.symm, fun b o e => (hs.2 b (fun q => by rw [q, h0] at e; cases e)).trans (F.keep b o e), F.above⟩
theorem fr_extBut {h h' : Heap} {m : Str → Option Value} {it : Addr} (F : Fr g L' h m) (hs : Heap.ExtBut it h h') (h0 : g.get? it = none) (hL : it ≠ L') : Fr g L' h' m :=
  ⟨(by obtain ⟨oL, a1, a2, hL', a3⟩ := F.ns; exact ⟨oL, a1, a2, hs _ _ (fun q => hL q.symm) hL', a3⟩), fun b o e => hs b o (fun q => by rw [q, h0] at e; cases e) (F.keep b o e), F.above⟩
theorem news_extBut {h h' : Heap} {it : Addr} {nx : List (Addr × Obj)} (N : News g L' h nx) (hs : Heap.ExtBut it h h') (hne : ∀ p ∈ nx, p.1 ≠ it) : News g L' h' nx :=
  fun p hp => ⟨hs _ _ (hne p hp) (N p hp).1, (N p hp).2⟩
theorem news_sameBut {h h' : Heap} {it : Addr} {nx : List (Addr × Obj)} (N : News g L' h nx) (hs : Heap.SameBut it h h') (hne : ∀ p ∈ nx, p.1 ≠ it) : News g L' h' nx :=
  fun p hp => ⟨(hs.2 _ (hne p hp)).trans (N p hp).1, (N p hp).2⟩
theorem loopC {R : Result → Shared → Prop} {target : Expr} {body orelse : List Stmt} {it : Addr} (hh : A.handled = none)
    (J : Nat → (Str → Option Value) → List (Addr × Obj) → Prop)
    (turn : ∀ (i : Nat) (v : Value) (m₁ : Str → Option Value) (nx : List (Addr × Obj)) (h₁ : Heap) (tk : Nat) (o : Obj), vs[i]? = some v → J i m₁ nx → (∀ p ∈ nx, p.1 ≠ it) → Fr g L' h₁ m₁ → News g L' h₁ ((it, o) :: (D, W.listOf vs.toArray nn) :: nx) →
      wpAny (model prog w) A (assign target env v) (fun _ s₂ => wpC (model prog w) A (execs body env) (fun f s₃ => Kept (Turned g L' s it [(it, o), (D, W.listOf vs.toArray nn)] (J (i + 1)) f s₃)) (fun _ _ => False) s₂) (fun _ _ => False) { s with heap := h₁, toks := tk })
    (done : ∀ (m₁ : Str → Option Value) (nx : List (Addr × Obj)) (h₁ : Heap) (tk : Nat), J vs.length m₁ nx → Fr g L' h₁ m₁ → News g L' h₁ ((D, W.listOf vs.toArray nn) :: nx) →
      wpAny (model prog w) A (execs orelse env) (fun f s₃ => R (.ok f) s₃) (fun _ _ => False) { s with heap := h₁, toks := tk })
    (ht : ∀ v, letOwnedTupleGo target (.ref it) v = pure ()) :
    ∀ (k i : Nat) (m₁ : Str → Option Value) (nx : List (Addr × Obj)) (h₁ : Heap) (tk : Nat) (o : Obj), i + k = vs.length → J i m₁ nx → (∀ p ∈ nx, p.1 ≠ it) → Fr g L' h₁ m₁ → News g L' h₁ ((it, o) :: (D, W.listOf vs.toArray nn) :: nx) → h₁.IsListIter it D i →
      codeC (model prog w) A (.forLoop target (.ref it) body orelse env) R { s with heap := h₁, toks := tk } := by
  intro k
  induction k with
  | zero =>
    intro i m₁ nx h₁ tk o hi hJ hne F N hit
    refine codeC_forTurn ?_ ht
    have hi : i = vs.length := by (first | lia | omega)
    subst hi
    have hD : D ≠ it := fun q => by
      refine hideG ?_
      intro Cg hCg
      obtain ⟨o1, h1, h2, h3⟩ := hit
      refine hCg ?_
      clear hCg Cg
      have := (N (D, W.listOf vs.toArray nn) (.tail _ (.head _))).1
      rw [q] at this
      rw [h1] at this
      cases this
      simp at h2
    refine wpAny_pyNext_list_end hh hit (listIs N (.tail _ (.head _))) (by simp) ?_
    intro h' hx
    have n0 := N (it, o) (.head _)
    dsimp only
    refine wpAny_mono (done m₁ nx h' tk hJ (fr_extBut F hx n0.2.2 n0.2.1) (news_extBut (fun p hp => N p (.tail _ hp)) hx ?_)) (fun _ _ e => e) fun _ _ e => e.elim
    exact List.forall_mem_cons.mpr ⟨hD, hne⟩
  | succ k ih =>
    intro i m₁ nx h₁ tk o hi hJ hne F N hit
    refine codeC_forTurn ?_ ht
    have hlt : i < vs.length := by (first | lia | omega)
    have hD : D ≠ it := fun q => by
      refine hideG ?_
      intro Cg hCg
      obtain ⟨o1, h1, h2, h3⟩ := hit
      refine hCg ?_
      clear hCg Cg
      have := (N (D, W.listOf vs.toArray nn) (.tail _ (.head _))).1
      rw [q] at this
      rw [h1] at this
      cases this
      simp at h2
    refine wpAny_pyNext_list_item hit (listIs N (.tail _ (.head _))) (x := vs[i]) (by simp [hlt]) ?_
    intro h' hit' hx
    have n0 := N (it, o) (.head _)
    refine hideG ?_
    intro Cg hCg
    obtain ⟨o', ho', hc', hd'⟩ := id hit'
    refine hCg ?_
    clear hCg Cg
    have F' := fr_sameBut F hx n0.2.2 n0.2.1
    have N' : News g L' h' ((it, o') :: (D, W.listOf vs.toArray nn) :: nx) := by
      intro p hp
      rcases List.mem_cons.mp hp with rfl | hp
      · exact ⟨ho', n0.2.1, n0.2.2⟩
      · exact news_sameBut (fun p hp => N p (.tail _ hp)) hx (List.forall_mem_cons.mpr ⟨hD, hne⟩) p hp
    dsimp only
    refine wpAny_mono (turn i vs[i] m₁ nx h' tk o' (by simp [hlt]) hJ hne F' N') (fun _ s₂ h₂ => ?_) fun _ _ e => e.elim
    refine wpC_mono h₂ (fun f s₃ h₃ => ?_) fun _ _ e => e.elim
    refine hideG ?_
    intro Cg hCg
    obtain ⟨rfl, m₂, nx₂, h₂, tk₂, rfl, F2, N2, ha, j⟩ := h₃
    refine hCg ?_
    clear hCg Cg
    dsimp only
    have n1 := N2 (it, o') (.head _)
    refine ih (i + 1) m₂ nx₂ h₂ tk₂ o' (by (first | lia | omega)) j ?_ F2 N2 ⟨o', n1.1, hc', hd'⟩
    intro p hp
    rcases ha p hp with h | h
    · exact h
    · intro q
      have e := (N2 p (.tail _ (.tail _ hp))).1
      rw [q, n1.1] at e
      cases e
      exact h hc'
theorem forC {R : Result → Shared → Prop} {target : Expr} {body orelse : List Stmt} {m₀ : Str → Option Value} {nx₀ : List (Addr × Obj)} (hh : A.handled = none)
    (F : Fr g L' s.heap m₀) (N : News g L' s.heap ((D, W.listOf vs.toArray nn) :: nx₀))
    (J : Nat → (Str → Option Value) → List (Addr × Obj) → Prop) (h0 : J 0 m₀ nx₀)
    (turn : ∀ (it : Addr) (i : Nat) (v : Value) (m₁ : Str → Option Value) (nx : List (Addr × Obj)) (h₁ : Heap) (tk : Nat) (o : Obj), (∀ p ∈ nx₀, p.1 ≠ it) → vs[i]? = some v → J i m₁ nx → (∀ p ∈ nx, p.1 ≠ it) → Fr g L' h₁ m₁ → News g L' h₁ ((it, o) :: (D, W.listOf vs.toArray nn) :: nx) →
      wpAny (model prog w) A (assign target env v) (fun _ s₂ => wpC (model prog w) A (execs body env) (fun f s₃ => Kept (Turned g L' s it [(it, o), (D, W.listOf vs.toArray nn)] (J (i + 1)) f s₃)) (fun _ _ => False) s₂) (fun _ _ => False) { s with heap := h₁, toks := tk })
    (done : ∀ (m₁ : Str → Option Value) (nx : List (Addr × Obj)) (h₁ : Heap) (tk : Nat), J vs.length m₁ nx → Fr g L' h₁ m₁ → News g L' h₁ ((D, W.listOf vs.toArray nn) :: nx) →
      wpAny (model prog w) A (execs orelse env) (fun f s₃ => R (.ok f) s₃) (fun _ _ => False) { s with heap := h₁, toks := tk })
    (ht : ∀ it v, letOwnedTupleGo target (.ref it) v = pure ()) :
    wpAny (model prog w) A (pyIter (.ref D)) (fun it s₂ => codeC (model prog w) A (.forLoop target it body orelse env) R s₂) E s := by
  refine wpAny_pyIter_list (listIs N (.head _)) ?_
  refine loopC (it := s.heap.objs.size) hh J (fun i v m₁ nx h₁ tk o a b c F1 N1 => turn _ i v m₁ nx h₁ tk o (fun p hp => Nat.ne_of_lt (Heap.lt_size (N p (.tail _ hp)).1)) a b c F1 N1) done (ht _) vs.length 0 m₀ nx₀ _ _ _ (by (first | lia | omega)) h0 (fun p hp => Nat.ne_of_lt (Heap.lt_size (N p (.tail _ hp)).1)) (F.push _) (N.push F _) ⟨_, Heap.get?_push_size _ rfl, rfl, rfl⟩
end
end Mine
end
section
open PySem PySem.W PyProof.Rows PySem.Spec PySem.Calls
open PySem.Sem (wp)
set_option maxRecDepth 100000
namespace Mine
noncomputable def TurnedR (g : Heap) (L' : Addr) (s : Shared) (it : Addr) (o : Obj) (J' : (Str → Option Value) → List (Addr × Obj) → Prop) (f : Flow) (s₃ : Shared) : Prop :=
  f = .next ∧ ∃ m₂ nx₂ h₂ tk₂, s₃ = { s with heap := h₂, toks := tk₂ } ∧ Fr g L' h₂ m₂ ∧ News g L' h₂ ((it, o) :: nx₂) ∧ (∀ p ∈ nx₂, p.1 ≠ it ∨ p.2.cls ≠ .type "range_iterator") ∧ J' m₂ nx₂
theorem TurnedR.intro {g : Heap} {L' : Addr} {s : Shared} {it : Addr} {o : Obj} {J' : (Str → Option Value) → List (Addr × Obj) → Prop} {h₂ : Heap} {tk₂ : Nat} {m₂ : Str → Option Value} {news : List (Addr × Obj)} (nx₂ : List (Addr × Obj))
    (F : Fr g L' h₂ m₂) (N : News g L' h₂ news) (hd : ∀ p ∈ (it, o) :: nx₂, p ∈ news) (ha : ∀ p ∈ nx₂, p.1 ≠ it ∨ p.2.cls ≠ .type "range_iterator") (j : J' m₂ nx₂) : Kept (TurnedR g L' s it o J' .next { s with heap := h₂, toks := tk₂ }) :=
  ⟨rfl, m₂, nx₂, h₂, tk₂, rfl, F, fun p hp => N p (hd p hp), ha, j⟩
noncomputable def rgObj (a b : Int) : Obj := { cls := .type "range_iterator", data := .fields #[rawInt a, rawInt b, rawInt 1] }
section
variable {prog : Program} {w : World} {A : Around} {E : Value → Shared → Prop} {s : Shared} {env : Env} {g : Heap} {L' : Addr} {n : Nat}
theorem forRangeA {Q : Flow → Shared → Prop} {target : Expr} {body orelse : List Stmt} {m₀ : Str → Option Value} {nx₀ : List (Addr × Obj)} {r : Addr} {t u v : Tok} (hh : A.handled = none)
    (F : Fr g L' s.heap m₀) (N : News g L' s.heap nx₀) (hr : IsRange s.heap r 0 (n : Int) 1 t u v) (hz : Builtin.Range.small 0 (n : Int) 1 = true) (hs : Builtin.Range.rangeSize 0 (n : Int) 1 = (n : Int))
    (J : Nat → (Str → Option Value) → List (Addr × Obj) → Prop) (h0 : J 0 m₀ nx₀)
    (turn : ∀ (it : Addr) (i : Nat) (m₁ : Str → Option Value) (nx : List (Addr × Obj)) (h₁ : Heap) (tk : Nat) (o : Obj), (∀ p ∈ nx₀, p.1 ≠ it) → i < n → J i m₁ nx → (∀ p ∈ nx, p.1 ≠ it) → Fr g L' h₁ m₁ → News g L' h₁ ((it, o) :: nx) →
      wpAny (model prog w) A (assign target env (.int (i : Int) tk)) (fun _ s₂ => wpAny (model prog w) A (execs body env) (fun f s₃ => Kept (TurnedR g L' s it o (J (i + 1)) f s₃)) (fun _ _ => False) s₂) (fun _ _ => False) { s with heap := h₁, toks := tk + 1 })
    (done : ∀ (m₁ : Str → Option Value) (nx : List (Addr × Obj)) (h₁ : Heap) (tk : Nat), J n m₁ nx → Fr g L' h₁ m₁ → News g L' h₁ nx →
      wpAny (model prog w) A (execs orelse env) (fun f s₃ => Q f s₃) (fun _ _ => False) { s with heap := h₁, toks := tk })
    (ht : ∀ it v, letOwnedTupleGo target (.ref it) v = pure ()) :
    wpAny (model prog w) A (pyIter (.ref r)) (fun it s₂ => codeAny (model prog w) A (.forLoop target it body orelse env) (fun r s' => match r with | .ok f => Q f s' | .error e => cameBackBy (model prog w) A env E e s') s₂) E s := by
  refine wpAny_pyIter_range hr hz ?_
  rw [hs]
  have hne0 : ∀ p ∈ nx₀, p.1 ≠ s.heap.objs.size := fun p hp => Nat.ne_of_lt (Heap.lt_size (N p hp).1)
  refine codeAny_forLoop (fun k s' => ∃ (i : Nat) (m₁ : Str → Option Value) (nx : List (Addr × Obj)) (h₁ : Heap) (tk : Nat), s' = { s with heap := h₁, toks := tk } ∧ i ≤ n ∧ k = n + 1 - i ∧ J i m₁ nx ∧ (∀ p ∈ nx, p.1 ≠ s.heap.objs.size) ∧ Fr g L' h₁ m₁ ∧
    News g L' h₁ ((s.heap.objs.size, rgObj (i : Int) ((n : Int) - i)) :: nx)) ?_ (n + 1) ⟨0, m₀, nx₀, _, _, rfl, Nat.zero_le _, rfl, h0, hne0, F.push _, ?_⟩ (ht _)
  · intro k s' hRg
    refine hideG ?_
    intro Cg hCg
    obtain ⟨i, m₁, nx, h₁, tk, rfl, hi, rfl, hJ, hne, F1, N1⟩ := hRg
    refine hCg ?_
    clear hCg Cg
    have n0 := N1 _ (.head _)
    by_cases hlt : i < n
    · refine wpAny_pyNext_range_item (it := s.heap.objs.size) (x := (i : Int)) (left := (n : Int) - i) (step := 1) n0.1 (by (first | lia | omega)) fun h' hit' hx => ?_
      have F' := fr_sameBut F1 hx n0.2.2 n0.2.1
      have N' : News g L' h' ((s.heap.objs.size, rgObj ((i : Int) + 1) ((n : Int) - i - 1)) :: nx) := by
        intro p hp
        rcases List.mem_cons.mp hp with rfl | hp
        · exact ⟨hit', n0.2.1, n0.2.2⟩
        · exact news_sameBut (fun p hp => N1 p (.tail _ hp)) hx hne p hp
      dsimp only
      refine wpAny_mono (turn _ i m₁ nx h' tk _ hne0 hlt hJ hne F' N') (fun _ s₂ h₂ => ?_) fun _ _ e => e.elim
      refine wpAny_mono h₂ (fun f s₃ h₃ => ?_) fun _ _ e => e.elim
      refine hideG ?_
      intro Cg hCg
      obtain ⟨rfl, m₂, nx₂, h₂, tk₂, rfl, F2, N2, ha, j⟩ := h₃
      refine hCg ?_
      clear hCg Cg
      dsimp only
      have n1 := N2 _ (.head _)
      refine ⟨n + 1 - (i + 1), by (first | lia | omega), i + 1, m₂, nx₂, h₂, tk₂, rfl, hlt, rfl, j, ?_, F2, ?_⟩
      · intro p hp
        rcases ha p hp with h | h
        · exact h
        · intro q
          have e := (N2 p (.tail _ hp)).1
          rw [q, n1.1] at e
          have e := Option.some.inj e
          rw [← e] at h
          exact h rfl
      · have e1 : ((i + 1 : Nat) : Int) = (i : Int) + 1 := by (first | lia | omega)
        have e2 : (n : Int) - ((i + 1 : Nat) : Int) = (n : Int) - i - 1 := by (first | lia | omega)
        rw [e2, e1]
        exact N2
    · have hin : i = n := by (first | lia | omega)
      subst hin
      refine wpAny_pyNext_range_end (it := s.heap.objs.size) (x := (i : Int)) (left := (i : Int) - i) (step := 1) hh n0.1 (by (first | lia | omega)) fun h' hx => ?_
      dsimp only
      exact wpAny_mono (done m₁ nx h' tk hJ (fr_extBut F1 hx n0.2.2 n0.2.1) (news_extBut (fun p hp => N1 p (.tail _ hp)) hx hne)) (fun _ _ e => e) fun _ _ e => e.elim
  · have := N.push F (rgObj 0 (n : Int))
    simpa [rgObj] using this
end
end Mine
end
section
open PySem PySem.W PyProof.Rows PySem.Spec PySem.Calls
set_option maxRecDepth 100000
namespace Mine
noncomputable def TurnedG (L' : Addr) (it D : Addr) (o oD : Obj) (J' : Heap → (Str → Option Value) → List (Addr × Obj) → Shared → Prop) (f : Flow) (s₃ : Shared) : Prop :=
  f = .next ∧ ∃ g m₂ nx₂, Fr g L' s₃.heap m₂ ∧ News g L' s₃.heap ((it, o) :: (D, oD) :: nx₂) ∧ (∀ p ∈ nx₂, p.1 ≠ it ∨ p.2.cls ≠ .type "tuple_iterator") ∧ J' g m₂ nx₂ s₃
theorem TurnedG.intro {g : Heap} {L' : Addr} {it D : Addr} {o oD : Obj} {J' : Heap → (Str → Option Value) → List (Addr × Obj) → Shared → Prop} {s₃ : Shared} {m₂ : Str → Option Value} {news : List (Addr × Obj)} (nx₂ : List (Addr × Obj))
    (F : Fr g L' s₃.heap m₂) (N : News g L' s₃.heap news) (hd : ∀ p ∈ (it, o) :: (D, oD) :: nx₂, p ∈ news) (ha : ∀ p ∈ nx₂, p.1 ≠ it ∨ p.2.cls ≠ .type "tuple_iterator") (j : J' g m₂ nx₂ s₃) : Kept (TurnedG L' it D o oD J' .next s₃) :=
  ⟨rfl, g, m₂, nx₂, F, fun p hp => N p (hd p hp), ha, j⟩
section
variable {prog : Program} {w : World} {A : Around} {E : Value → Shared → Prop} {s : Shared} {env : Env} {g₀ : Heap} {L' : Addr}
theorem forTupG {Q : Flow → Shared → Prop} {target : Expr} {body orelse : List Stmt} {m₀ : Str → Option Value} {nx₀ : List (Addr × Obj)} {D : Addr} {vs : List Value} {oD : Obj} (hh : A.handled = none) (hc : oD.cls = .type "tuple") (hdt : ∃ n, oD.data = .seq vs.toArray n)
    (F : Fr g₀ L' s.heap m₀) (N : News g₀ L' s.heap ((D, oD) :: nx₀))
    (J : Nat → Heap → (Str → Option Value) → List (Addr × Obj) → Shared → Prop) (hJ : ∀ i g m nx s' h, J i g m nx s' → J i g m nx { s' with heap := h }) (h0 : J 0 g₀ m₀ nx₀ s)
    (turn : ∀ (it : Addr) (i : Nat) (v : Value) (g : Heap) (m₁ : Str → Option Value) (nx : List (Addr × Obj)) (s₁ : Shared) (o : Obj), (∀ p ∈ (D, oD) :: nx₀, p.1 < it) → vs[i]? = some v → J i g m₁ nx s₁ → (∀ p ∈ nx, p.1 ≠ it) → Fr g L' s₁.heap m₁ → News g L' s₁.heap ((it, o) :: (D, oD) :: nx) →
      wpAny (model prog w) A (assign target env v) (fun _ s₂ => wpAny (model prog w) A (execs body env) (fun f s₃ => Kept (TurnedG L' it D o oD (J (i + 1)) f s₃)) (fun _ _ => False) s₂) (fun _ _ => False) s₁)
    (done : ∀ (g : Heap) (m₁ : Str → Option Value) (nx : List (Addr × Obj)) (s₁ : Shared), J vs.length g m₁ nx s₁ → Fr g L' s₁.heap m₁ → News g L' s₁.heap ((D, oD) :: nx) →
      wpAny (model prog w) A (execs orelse env) (fun f s₃ => Q f s₃) (fun _ _ => False) s₁)
    (ht : ∀ it v, letOwnedTupleGo target (.ref it) v = pure ()) :
    wpAny (model prog w) A (pyIter (.ref D)) (fun it s₂ => codeAny (model prog w) A (.forLoop target it body orelse env) (fun r s' => match r with | .ok f => Q f s' | .error e => cameBackBy (model prog w) A env E e s') s₂) E s := by
  have tup : ∀ {g h : Heap} {nx : List (Addr × Obj)}, News g L' h nx → (D, oD) ∈ nx → h.IsTuple D vs.toArray := fun N hm => ⟨oD, (N _ hm).1, hc, hdt⟩
  refine wpAny_pyIter_tuple (tup N (.head _)) ?_
  have hlt : ∀ p ∈ (D, oD) :: nx₀, p.1 < s.heap.objs.size := fun p hp => Heap.lt_size (N p hp).1
  have hDit : D ≠ s.heap.objs.size := Nat.ne_of_lt (hlt _ (.head _))
  refine codeAny_forLoop (fun k s' => ∃ (i : Nat) (g : Heap) (m₁ : Str → Option Value) (nx : List (Addr × Obj)), i ≤ vs.length ∧ k = vs.length + 1 - i ∧ J i g m₁ nx s' ∧ (∀ p ∈ nx, p.1 ≠ s.heap.objs.size) ∧ Fr g L' s'.heap m₁ ∧
    s'.heap.IsTupleIter s.heap.objs.size D i ∧ ∃ o, News g L' s'.heap ((s.heap.objs.size, o) :: (D, oD) :: nx)) ?_ (vs.length + 1) ⟨0, g₀, m₀, nx₀, Nat.zero_le _, rfl, hJ _ _ _ _ _ _ h0, fun p hp => Nat.ne_of_lt (hlt p (.tail _ hp)), F.push _, ⟨_, Heap.get?_push_size _ rfl, rfl, rfl⟩, _, N.push F _⟩ (ht _)
  intro k s' hRg
  refine hideG ?_
  intro Cg hCg
  obtain ⟨i, g, m₁, nx, hi, rfl, hJ1, hne, F1, hit, o0, N1⟩ := hRg
  refine hCg ?_
  clear hCg Cg
  have n0 := N1 _ (.head _)
  have hne' : ∀ p ∈ (D, oD) :: nx, p.1 ≠ s.heap.objs.size := List.forall_mem_cons.mpr ⟨hDit, hne⟩
  by_cases hlt' : i < vs.length
  · refine wpAny_pyNext_tuple_item hit (tup N1 (.tail _ (.head _))) (x := vs[i]) (by simp [hlt']) fun h' hit' hx => ?_
    refine hideG ?_
    intro Cg hCg
    obtain ⟨o', ho', hc', hd'⟩ := id hit'
    refine hCg ?_
    clear hCg Cg
    have F' := fr_sameBut F1 hx n0.2.2 n0.2.1
    have N' : News g L' h' ((s.heap.objs.size, o') :: (D, oD) :: nx) := by
      intro p hp
      rcases List.mem_cons.mp hp with rfl | hp
      · exact ⟨ho', n0.2.1, n0.2.2⟩
      · exact news_sameBut (fun p hp => N1 p (.tail _ hp)) hx hne' p hp
    dsimp only
    refine wpAny_mono (turn _ i vs[i] g m₁ nx { s' with heap := h' } o' hlt (by simp [hlt']) (hJ _ _ _ _ _ _ hJ1) hne F' N') (fun _ s₂ h₂ => ?_) fun _ _ e => e.elim
    refine wpAny_mono h₂ (fun f s₃ h₃ => ?_) fun _ _ e => e.elim
    refine hideG ?_
    intro Cg hCg
    obtain ⟨rfl, g2, m₂, nx₂, F2, N2, ha, j⟩ := h₃
    refine hCg ?_
    clear hCg Cg
    dsimp only
    have n1 := N2 _ (.head _)
    refine ⟨vs.length + 1 - (i + 1), by omega, i + 1, g2, m₂, nx₂, hlt', rfl, j, ?_, F2, ⟨o', n1.1, hc', hd'⟩, o', N2⟩
    intro p hp
    rcases ha p hp with h | h
    · exact h
    · intro q
      have e := (N2 p (.tail _ (.tail _ hp))).1
      rw [q, n1.1] at e
      have e := Option.some.inj e
      rw [← e] at h
      exact absurd hc' h
  · have hin : i = vs.length := by omega
    subst hin
    refine wpAny_pyNext_tuple_end hh hit (tup N1 (.tail _ (.head _))) (by simp) fun h' hx => ?_
    dsimp only
    exact wpAny_mono (done g m₁ nx { s' with heap := h' } (hJ _ _ _ _ _ _ hJ1) (fr_extBut F1 hx n0.2.2 n0.2.1) (news_extBut (fun p hp => N1 p (.tail _ hp)) hx hne')) (fun _ _ e => e) fun _ _ e => e.elim
end
end Mine
end
section
open PySem PySem.W PyProof.Rows PySem.Spec PySem.Calls
set_option maxRecDepth 100000
namespace Mine
noncomputable def TurnedL (g : Heap) (L' : Addr) (s : Shared) (it D : Addr) (o oD : Obj) (J' : (Str → Option Value) → List (Addr × Obj) → Prop) (f : Flow) (s₃ : Shared) : Prop :=
  f = .next ∧ ∃ m₂ nx₂ h₂ tk₂, s₃ = { s with heap := h₂, toks := tk₂ } ∧ Fr g L' h₂ m₂ ∧ News g L' h₂ ((it, o) :: (D, oD) :: nx₂) ∧ (∀ p ∈ nx₂, p.1 ≠ it ∨ p.2.cls ≠ .type "list_iterator") ∧ J' m₂ nx₂
theorem TurnedL.intro {g : Heap} {L' : Addr} {s : Shared} {it D : Addr} {o oD : Obj} {J' : (Str → Option Value) → List (Addr × Obj) → Prop} {h₂ : Heap} {tk₂ : Nat} {m₂ : Str → Option Value} {news : List (Addr × Obj)} (nx₂ : List (Addr × Obj))
    (F : Fr g L' h₂ m₂) (N : News g L' h₂ news) (hd : ∀ p ∈ (it, o) :: (D, oD) :: nx₂, p ∈ news) (ha : ∀ p ∈ nx₂, p.1 ≠ it ∨ p.2.cls ≠ .type "list_iterator") (j : J' m₂ nx₂) : Kept (TurnedL g L' s it D o oD J' .next { s with heap := h₂, toks := tk₂ }) :=
  ⟨rfl, m₂, nx₂, h₂, tk₂, rfl, F, fun p hp => N p (hd p hp), ha, j⟩
section
variable {prog : Program} {w : World} {A : Around} {E : Value → Shared → Prop} {s : Shared} {env : Env} {g : Heap} {L' : Addr}
theorem forListA {Q : Flow → Shared → Prop} {target : Expr} {body orelse : List Stmt} {m₀ : Str → Option Value} {nx₀ : List (Addr × Obj)} {D : Addr} {vs : List Value} {nn : Nat} (hh : A.handled = none)
    (F : Fr g L' s.heap m₀) (N : News g L' s.heap ((D, W.listOf vs.toArray nn) :: nx₀))
    (J : Nat → (Str → Option Value) → List (Addr × Obj) → Prop) (h0 : J 0 m₀ nx₀)
    (turn : ∀ (it : Addr) (i : Nat) (v : Value) (m₁ : Str → Option Value) (nx : List (Addr × Obj)) (h₁ : Heap) (tk : Nat) (o : Obj), (∀ p ∈ (D, W.listOf vs.toArray nn) :: nx₀, p.1 < it) → vs[i]? = some v → J i m₁ nx → (∀ p ∈ nx, p.1 ≠ it) → Fr g L' h₁ m₁ → News g L' h₁ ((it, o) :: (D, W.listOf vs.toArray nn) :: nx) →
      wpAny (model prog w) A (assign target env v) (fun _ s₂ => wpAny (model prog w) A (execs body env) (fun f s₃ => Kept (TurnedL g L' s it D o (W.listOf vs.toArray nn) (J (i + 1)) f s₃)) (fun _ _ => False) s₂) (fun _ _ => False) { s with heap := h₁, toks := tk })
    (done : ∀ (m₁ : Str → Option Value) (nx : List (Addr × Obj)) (h₁ : Heap) (tk : Nat), J vs.length m₁ nx → Fr g L' h₁ m₁ → News g L' h₁ ((D, W.listOf vs.toArray nn) :: nx) →
      wpAny (model prog w) A (execs orelse env) (fun f s₃ => Q f s₃) (fun _ _ => False) { s with heap := h₁, toks := tk })
    (ht : ∀ it v, letOwnedTupleGo target (.ref it) v = pure ()) :
    wpAny (model prog w) A (pyIter (.ref D)) (fun it s₂ => codeAny (model prog w) A (.forLoop target it body orelse env) (fun r s' => match r with | .ok f => Q f s' | .error e => cameBackBy (model prog w) A env E e s') s₂) E s := by
  refine wpAny_pyIter_list (listIs N (.head _)) ?_
  have hlt : ∀ p ∈ (D, W.listOf vs.toArray nn) :: nx₀, p.1 < s.heap.objs.size := fun p hp => Heap.lt_size (N p hp).1
  have hDit : D ≠ s.heap.objs.size := Nat.ne_of_lt (hlt _ (.head _))
  refine codeAny_forLoop (fun k s' => ∃ (i : Nat) (m₁ : Str → Option Value) (nx : List (Addr × Obj)) (h₁ : Heap) (tk : Nat), s' = { s with heap := h₁, toks := tk } ∧ i ≤ vs.length ∧ k = vs.length + 1 - i ∧ J i m₁ nx ∧ (∀ p ∈ nx, p.1 ≠ s.heap.objs.size) ∧ Fr g L' h₁ m₁ ∧
    h₁.IsListIter s.heap.objs.size D i ∧ ∃ o, News g L' h₁ ((s.heap.objs.size, o) :: (D, W.listOf vs.toArray nn) :: nx)) ?_ (vs.length + 1) ⟨0, m₀, nx₀, _, _, rfl, Nat.zero_le _, rfl, h0, fun p hp => Nat.ne_of_lt (hlt p (.tail _ hp)), F.push _, ⟨_, Heap.get?_push_size _ rfl, rfl, rfl⟩, _, N.push F _⟩ (ht _)
  intro k s' hRg
  refine hideG ?_
  intro Cg hCg
  obtain ⟨i, m₁, nx, h₁, tk, rfl, hi, rfl, hJ, hne, F1, hit, o0, N1⟩ := hRg
  refine hCg ?_
  clear hCg Cg
  have n0 := N1 _ (.head _)
  have hne' : ∀ p ∈ (D, W.listOf vs.toArray nn) :: nx, p.1 ≠ s.heap.objs.size := List.forall_mem_cons.mpr ⟨hDit, hne⟩
  by_cases hlt' : i < vs.length
  · refine wpAny_pyNext_list_item hit (listIs N1 (.tail _ (.head _))) (x := vs[i]) (by simp [hlt']) fun h' hit' hx => ?_
    refine hideG ?_
    intro Cg hCg
    obtain ⟨o', ho', hc', hd'⟩ := id hit'
    refine hCg ?_
    clear hCg Cg
    have F' := fr_sameBut F1 hx n0.2.2 n0.2.1
    have N' : News g L' h' ((s.heap.objs.size, o') :: (D, W.listOf vs.toArray nn) :: nx) := by
      intro p hp
      rcases List.mem_cons.mp hp with rfl | hp
      · exact ⟨ho', n0.2.1, n0.2.2⟩
      · exact news_sameBut (fun p hp => N1 p (.tail _ hp)) hx hne' p hp
    dsimp only
    refine wpAny_mono (turn _ i vs[i] m₁ nx h' tk o' hlt (by simp [hlt']) hJ hne F' N') (fun _ s₂ h₂ => ?_) fun _ _ e => e.elim
    refine wpAny_mono h₂ (fun f s₃ h₃ => ?_) fun _ _ e => e.elim
    refine hideG ?_
    intro Cg hCg
    obtain ⟨rfl, m₂, nx₂, h₂, tk₂, rfl, F2, N2, ha, j⟩ := h₃
    refine hCg ?_
    clear hCg Cg
    dsimp only
    have n1 := N2 _ (.head _)
    refine ⟨vs.length + 1 - (i + 1), by omega, i + 1, m₂, nx₂, h₂, tk₂, rfl, hlt', rfl, j, ?_, F2, ⟨o', n1.1, hc', hd'⟩, o', N2⟩
    intro p hp
    rcases ha p hp with h | h
    · exact h
    · intro q
      have e := (N2 p (.tail _ (.tail _ hp))).1
      rw [q, n1.1] at e
      have e := Option.some.inj e
      rw [← e] at h
      exact absurd hc' h
  · have hin : i = vs.length := by omega
    subst hin
    refine wpAny_pyNext_list_end hh hit (listIs N1 (.tail _ (.head _))) (by simp) fun h' hx => ?_
    dsimp only
    exact wpAny_mono (done m₁ nx h' tk hJ (fr_extBut F1 hx n0.2.2 n0.2.1) (news_extBut (fun p hp => N1 p (.tail _ hp)) hx hne')) (fun _ _ e => e) fun _ _ e => e.elim
end
end Mine
end
section
open PySem PySem.W PyProof.Rows PySem.Spec PySem.Calls
open PySem.Sem (wp)
set_option maxRecDepth 100000
namespace Mine
section
variable {prog : Program} {w : World} {A : Around} {E : Value → Shared → Prop} {s : Shared} {env : Env} {g : Heap} {L' : Addr} {n : Nat}
theorem loopRC {R : Result → Shared → Prop} {target : Expr} {body orelse : List Stmt} {it : Addr} (hh : A.handled = none)
    (J : Nat → (Str → Option Value) → List (Addr × Obj) → Prop)
    (turn : ∀ (i : Nat) (m₁ : Str → Option Value) (nx : List (Addr × Obj)) (h₁ : Heap) (tk : Nat) (o : Obj), i < n → J i m₁ nx → (∀ p ∈ nx, p.1 ≠ it) → Fr g L' h₁ m₁ → News g L' h₁ ((it, o) :: nx) →
      wpAny (model prog w) A (assign target env (.int (i : Int) tk)) (fun _ s₂ => wpC (model prog w) A (execs body env) (fun f s₃ => Kept (TurnedR g L' s it o (J (i + 1)) f s₃)) (fun _ _ => False) s₂) (fun _ _ => False) { s with heap := h₁, toks := tk + 1 })
    (done : ∀ (m₁ : Str → Option Value) (nx : List (Addr × Obj)) (h₁ : Heap) (tk : Nat), J n m₁ nx → Fr g L' h₁ m₁ → News g L' h₁ nx →
      wpAny (model prog w) A (execs orelse env) (fun f s₃ => R (.ok f) s₃) (fun _ _ => False) { s with heap := h₁, toks := tk })
    (ht : ∀ v, letOwnedTupleGo target (.ref it) v = pure ()) :
    ∀ (k i : Nat) (m₁ : Str → Option Value) (nx : List (Addr × Obj)) (h₁ : Heap) (tk : Nat), i + k = n → J i m₁ nx → (∀ p ∈ nx, p.1 ≠ it) → Fr g L' h₁ m₁ → News g L' h₁ ((it, rgObj (i : Int) ((n : Int) - i)) :: nx) →
      codeC (model prog w) A (.forLoop target (.ref it) body orelse env) R { s with heap := h₁, toks := tk } := by
  intro k
  induction k with
  | zero =>
    intro i m₁ nx h₁ tk hi hJ hne F N
    have hin : i = n := by (first | lia | omega)
    subst hin
    have n0 := N _ (.head _)
    refine codeC_forTurn ?_ ht
    refine wpAny_pyNext_range_end (it := it) (x := (i : Int)) (left := (i : Int) - i) (step := 1) hh n0.1 (by (first | lia | omega)) fun h' hx => ?_
    dsimp only
    exact wpAny_mono (done m₁ nx h' tk hJ (fr_extBut F hx n0.2.2 n0.2.1) (news_extBut (fun p hp => N p (.tail _ hp)) hx hne)) (fun _ _ e => e) fun _ _ e => e.elim
  | succ k ih =>
    intro i m₁ nx h₁ tk hi hJ hne F N
    have n0 := N _ (.head _)
    refine codeC_forTurn ?_ ht
    refine wpAny_pyNext_range_item (it := it) (x := (i : Int)) (left := (n : Int) - i) (step := 1) n0.1 (by (first | lia | omega)) fun h' hit' hx => ?_
    have F' := fr_sameBut F hx n0.2.2 n0.2.1
    have N' : News g L' h' ((it, rgObj ((i : Int) + 1) ((n : Int) - i - 1)) :: nx) := by
      intro p hp
      rcases List.mem_cons.mp hp with rfl | hp
      · exact ⟨hit', n0.2.1, n0.2.2⟩
      · exact news_sameBut (fun p hp => N p (.tail _ hp)) hx hne p hp
    dsimp only
    refine wpAny_mono (turn i m₁ nx h' tk _ (by (first | lia | omega)) hJ hne F' N') (fun _ s₂ h₂ => ?_) fun _ _ e => e.elim
    refine wpC_mono h₂ (fun f s₃ h₃ => ?_) fun _ _ e => e.elim
    refine hideG ?_
    intro Cg hCg
    obtain ⟨rfl, m₂, nx₂, h₂, tk₂, rfl, F2, N2, ha, j⟩ := h₃
    refine hCg ?_
    clear hCg Cg
    dsimp only
    have n1 := N2 _ (.head _)
    refine ih (i + 1) m₂ nx₂ h₂ tk₂ (by (first | lia | omega)) j ?_ F2 ?_
    · intro p hp
      rcases ha p hp with h | h
      · exact h
      · intro q
        have e := (N2 p (.tail _ hp)).1
        rw [q, n1.1] at e
        have e := Option.some.inj e
        rw [← e] at h
        exact absurd rfl h
    · have e1 : ((i + 1 : Nat) : Int) = (i : Int) + 1 := by (first | lia | omega)
      have e2 : (n : Int) - ((i + 1 : Nat) : Int) = (n : Int) - i - 1 := by (first | lia | omega)
      rw [e2, e1]
      exact N2
theorem forRangeC {R : Result → Shared → Prop} {target : Expr} {body orelse : List Stmt} {m₀ : Str → Option Value} {nx₀ : List (Addr × Obj)} {r : Addr} {t u v : Tok} (hh : A.handled = none)
    (F : Fr g L' s.heap m₀) (N : News g L' s.heap nx₀) (hr : IsRange s.heap r 0 (n : Int) 1 t u v) (hz : Builtin.Range.small 0 (n : Int) 1 = true) (hs : Builtin.Range.rangeSize 0 (n : Int) 1 = (n : Int))
    (J : Nat → (Str → Option Value) → List (Addr × Obj) → Prop) (h0 : J 0 m₀ nx₀)
    (turn : ∀ (it : Addr) (i : Nat) (m₁ : Str → Option Value) (nx : List (Addr × Obj)) (h₁ : Heap) (tk : Nat) (o : Obj), (∀ p ∈ nx₀, p.1 < it) → i < n → J i m₁ nx → (∀ p ∈ nx, p.1 ≠ it) → Fr g L' h₁ m₁ → News g L' h₁ ((it, o) :: nx) →
      wpAny (model prog w) A (assign target env (.int (i : Int) tk)) (fun _ s₂ => wpC (model prog w) A (execs body env) (fun f s₃ => Kept (TurnedR g L' s it o (J (i + 1)) f s₃)) (fun _ _ => False) s₂) (fun _ _ => False) { s with heap := h₁, toks := tk + 1 })
    (done : ∀ (m₁ : Str → Option Value) (nx : List (Addr × Obj)) (h₁ : Heap) (tk : Nat), J n m₁ nx → Fr g L' h₁ m₁ → News g L' h₁ nx →
      wpAny (model prog w) A (execs orelse env) (fun f s₃ => R (.ok f) s₃) (fun _ _ => False) { s with heap := h₁, toks := tk })
    (ht : ∀ it v, letOwnedTupleGo target (.ref it) v = pure ()) :
    wpAny (model prog w) A (pyIter (.ref r)) (fun it s₂ => codeC (model prog w) A (.forLoop target it body orelse env) R s₂) E s := by
  refine wpAny_pyIter_range hr hz ?_
  rw [hs]
  have hlt : ∀ p ∈ nx₀, p.1 < s.heap.objs.size := fun p hp => Heap.lt_size (N p hp).1
  refine loopRC (it := s.heap.objs.size) hh J (fun i m₁ nx h₁ tk o => turn _ i m₁ nx h₁ tk o hlt) done (ht _) n 0 m₀ nx₀ _ _ (by (first | lia | omega)) h0 (fun p hp => Nat.ne_of_lt (hlt p hp)) (F.push _) ?_
  have := N.push F (rgObj 0 (n : Int))
  simpa [rgObj] using this
end
end Mine
end
section
open PySem PySem.Sre
set_option maxRecDepth 100000
namespace Mine
namespace RE
noncomputable def CODE : Array Nat := #[14, 4, 0, 1, 4294967295, 17, 0, 7, 14, 24, 10, 1, 4294967295, 13, 5, 22, 48, 57, 0, 1, 15, 17, 15, 13, 11, 9, 0, 26624, 2147483648, 0, 0, 0, 0, 0, 0, 15, 2, 0, 17, 1, 1]
noncomputable def kept0 : Sre.Kept := { lastmark := 0, lastindex := -1, whole := false, marks := #[] }
noncomputable def fr0 (s : Nat) (b : Bool) : Sre.Frame := { wait := .nextStart, pc := 5, pos := s, outermost := b }
noncomputable def frB (s : Nat) (b : Bool) (alt : Nat) : Sre.Frame := { wait := .nextBranch, pc := alt, pos := s, outermost := b, kept := kept0 }
noncomputable def st0 (T : Array Nat) (s : Nat) (b : Bool) (mk : Array (Option Nat)) (sn : Seen) : M :=
  { code := CODE, text := T, lim := T.size, start := s, lastStart := T.size, pc := 5, pos := s, handed := s, outermost := b, marks := mk, frames := [fr0 s b], weight := 1, seen := sn }
noncomputable def st2 (T : Array Nat) (s : Nat) (b : Bool) (mk : Array (Option Nat)) (sn : Seen) : M :=
  { code := CODE, text := T, lim := T.size, start := s, lastStart := T.size, pc := 9, pos := s, handed := s, outermost := b, marks := mk, lastmark := 0, frames := [frB s b 8, fr0 s b], weight := 2, seen := sn }
theorem e12 (T : Array Nat) (s : Nat) (b : Bool) (m0 m1 : Option Nat) (sn : Seen) : M.runFor 2 (st0 T s b #[m0, m1] sn) = st2 T s b #[some s, m1] ((sn.add 17).add 7) := by rfl
noncomputable def isD (c : Nat) : Bool := 48 ≤ c && c ≤ 57
noncomputable def isP (c : Nat) : Bool := c == 43 || c == 45 || c == 46 || c == 95
theorem acc_dig {c : Nat} (sn : Seen) : ∃ sn', accepts CODE 13 c sn = .ok (isD c, sn') := by
  cases h : isD c with
  | true =>
    refine ⟨sn.add 22, ?_⟩
    have h' : (48 ≤ c && c ≤ 57) = true := h
    show (if (decide (48 ≤ c) && decide (c ≤ 57)) = true then Except.ok (true, sn.add 22) else _) = _
    rw [if_pos h']
  | false =>
    refine ⟨(sn.add 22).add 0, ?_⟩
    have h' : ¬ (48 ≤ c && c ≤ 57) = true := by rw [show (decide (48 ≤ c) && decide (c ≤ 57)) = isD c from rfl, h]; simp
    show (if (decide (48 ≤ c) && decide (c ≤ 57)) = true then Except.ok (true, sn.add 22) else _) = _
    rw [if_neg h']
    rfl
theorem charset_all : ∀ c : Fin 256, (CODE.getD (25 + (1 + c.val / 32)) 0).testBit (c.val % 32) = isP c.val := by decide +kernel
theorem isP_small {c : Nat} (h : isP c = true) : c < 256 := by
  simp only [isP, Bool.or_eq_true, beq_iff_eq] at h
  (first | lia | omega)
theorem acc_pun {c : Nat} (sn : Seen) : ∃ sn', accepts CODE 23 c sn = .ok (isP c, sn') := by
  have e : (decide (c < 256) && (CODE.getD (25 + (1 + c / 32)) 0).testBit (c % 32)) = isP c := by
    by_cases h : c < 256
    · rw [decide_eq_true h, Bool.true_and]; exact charset_all ⟨c, h⟩
    · rw [decide_eq_false h, Bool.false_and]
      cases q : isP c with
      | false => rfl
      | true => exact absurd (isP_small q) h
  cases h : isP c with
  | true =>
    refine ⟨sn.add 9, ?_⟩
    show (if (decide (c < 256) && (CODE.getD (25 + (1 + c / 32)) 0).testBit (c % 32)) = true then Except.ok (true, sn.add 9) else _) = _
    rw [e, h]; rfl
  | false =>
    refine ⟨(sn.add 9).add 0, ?_⟩
    show (if (decide (c < 256) && (CODE.getD (25 + (1 + c / 32)) 0).testBit (c % 32)) = true then Except.ok (true, sn.add 9) else _) = _
    rw [e, h]; rfl
noncomputable def digs (T : Array Nat) : Nat → Nat → Nat
  | _, 0 => 0
  | p, n + 1 => if isD (T.getD p 0) then digs T (p + 1) n + 1 else 0
theorem run_spec (T : Array Nat) : ∀ (n p f : Nat) (sn : Seen), ∃ sn', Sre.run CODE T 13 n p f sn = .ok (f + digs T p n, sn')
  | 0, p, f, sn => ⟨sn, rfl⟩
  | n + 1, p, f, sn => by
    obtain ⟨sn1, h1⟩ := acc_dig (c := T.getD p 0) sn
    unfold Sre.run
    rw [h1]
    show ∃ sn', (if isD (T.getD p 0) = true then Sre.run CODE T 13 n (p + 1) (f + 1) sn1 else pure (f, sn1)) = _
    unfold digs
    cases h : isD (T.getD p 0) with
    | true =>
      obtain ⟨sn2, h2⟩ := run_spec T n (p + 1) (f + 1) sn1
      refine ⟨sn2, ?_⟩
      rw [if_pos rfl, h2, if_pos rfl]
      congr 2
      (first | lia | omega)
    | false => exact ⟨sn1, rfl⟩
theorem step_rep (T : Array Nat) (s : Nat) (b : Bool) (mk : Array (Option Nat)) (sn : Seen) : (st2 T s b mk sn).step =
    (if ((1 : Nat) : Int) > (T.size : Int) - (s : Int) then ({ st2 T s b mk sn with seen := sn.add 24 } : M).say false else
      match Sre.run CODE T 13 (min 4294967295 ((T.size : Int) - (s : Int)).toNat) s 0 ((sn.add 24).add 13) with
      | .error why => ({ st2 T s b mk sn with seen := sn.add 24 } : M).stick why
      | .ok (n, seen) => if n < 1 then ({ st2 T s b mk sn with seen := seen } : M).say false else ({ st2 T s b mk sn with seen := seen, pos := s + n } : M).afterRun .giveBack n (({ st2 T s b mk sn with seen := seen, pos := s + n } : M).keep false)) := rfl
theorem rep_none {T : Array Nat} {s : Nat} {b : Bool} {mk : Array (Option Nat)} (sn : Seen) (h1 : s < T.size) (h2 : T.size ≤ 1000) (h3 : isD (T.getD s 0) = false) :
    ∃ sn', (st2 T s b mk sn).step = (st2 T s b mk sn').say false := by
  rw [step_rep, if_neg (by (first | lia | omega))]
  obtain ⟨sn', h⟩ := run_spec T (min 4294967295 ((T.size : Int) - (s : Int)).toNat) s 0 ((sn.add 24).add 13)
  rw [h]
  have e : min 4294967295 ((T.size : Int) - (s : Int)).toNat = (T.size - s - 1) + 1 := by (first | lia | omega)
  refine ⟨sn', ?_⟩
  have d0 : digs T s (min 4294967295 ((T.size : Int) - (s : Int)).toNat) = 0 := by
    rw [e]; unfold digs; rw [h3]; rfl
  rw [d0]
  rfl
noncomputable def st5 (T : Array Nat) (s : Nat) (b : Bool) (mk : Array (Option Nat)) (sn : Seen) : M :=
  { code := CODE, text := T, lim := T.size, start := s, lastStart := T.size, pc := 23, pos := s, handed := s, outermost := b, marks := mk, lastmark := 0, frames := [frB s b 22, fr0 s b], weight := 2, seen := sn }
theorem to5 (T : Array Nat) (s : Nat) (b : Bool) (mk : Array (Option Nat)) (sn : Seen) : ((st2 T s b mk sn).say false).step = st5 T s b mk sn := rfl
theorem step_in (T : Array Nat) (s : Nat) (b : Bool) (mk : Array (Option Nat)) (sn : Seen) : (st5 T s b mk sn).step =
    (if s ≥ T.size then ({ st5 T s b mk sn with seen := sn.add 13 } : M).say false else
      match accepts CODE 23 (T.getD s 0) (sn.add 13) with
      | .error why => ({ st5 T s b mk sn with seen := sn.add 13 } : M).stick why
      | .ok (false, seen) => ({ st5 T s b mk sn with seen := seen } : M).say false
      | .ok (true, seen) => ({ st5 T s b mk sn with seen := seen, pc := 35, pos := s + 1 } : M)) := rfl
theorem in_none {T : Array Nat} {s : Nat} {b : Bool} {mk : Array (Option Nat)} (sn : Seen) (h1 : s < T.size) (h3 : isP (T.getD s 0) = false) :
    ∃ sn', (st5 T s b mk sn).step = (st5 T s b mk sn').say false := by
  obtain ⟨sn', h⟩ := acc_pun (c := T.getD s 0) (sn.add 13)
  rw [step_in, if_neg (by (first | lia | omega)), h, h3]
  exact ⟨sn', rfl⟩
theorem in_some {T : Array Nat} {s : Nat} {b : Bool} {mk : Array (Option Nat)} (sn : Seen) (h1 : s < T.size) (h3 : isP (T.getD s 0) = true) :
    ∃ sn', (st5 T s b mk sn).step = ({ st5 T s b mk sn' with pc := 35, pos := s + 1 } : M) := by
  obtain ⟨sn', h⟩ := acc_pun (c := T.getD s 0) (sn.add 13)
  rw [step_in, if_neg (by (first | lia | omega)), h, h3]
  exact ⟨sn', rfl⟩
theorem fall2 (T : Array Nat) (s : Nat) (b : Bool) (mk : Array (Option Nat)) (sn : Seen) : ((st5 T s b mk sn).say false).step = (({ st0 T s b mk sn with lastmark := 0, pc := 22 } : M).say false) := rfl
theorem next_start (T : Array Nat) (s : Nat) (b : Bool) (m0 m1 : Option Nat) (sn : Seen) : (({ st0 T s b #[m0, m1] sn with lastmark := 0, pc := 22 } : M).say false).step =
    (if s < T.size then st0 T (s + 1) false #[m0, m1] sn else ({ st0 T s b #[m0, m1] sn with lastmark := 0, frames := [], weight := 0 } : M).say false) := rfl
theorem runFor_go {m m' : M} {n : Nat} (h : m.outcome = none) (e : m.step = m') : M.runFor (n + 1) m = M.runFor n m' := by
  rw [← e]
  show (if m.outcome.isSome = true then m else M.runFor n m.step) = _
  rw [h]; rfl
theorem rf2 (T : Array Nat) (s : Nat) (b : Bool) (m0 m1 : Option Nat) (sn : Seen) (n : Nat) : M.runFor (n + 2) (st0 T s b #[m0, m1] sn) = M.runFor n (st2 T s b #[some s, m1] ((sn.add 17).add 7)) := by
  rw [runFor_go (m' := (st0 T s b #[m0, m1] sn).step) (n := n + 1) rfl rfl]
  rw [runFor_go (m' := st2 T s b #[some s, m1] ((sn.add 17).add 7)) rfl rfl]
theorem skip {T : Array Nat} {s : Nat} {b : Bool} {m0 m1 : Option Nat} (sn : Seen) (h1 : s < T.size) (h2 : T.size ≤ 1000) (h3 : isD (T.getD s 0) = false) (h4 : isP (T.getD s 0) = false) :
    ∃ sn', ∀ n : Nat, M.runFor (n + 7) (st0 T s b #[m0, m1] sn) = M.runFor n (st0 T (s + 1) false #[some s, m1] sn') := by
  obtain ⟨sn1, e1⟩ := rep_none (b := b) (mk := #[some s, m1]) ((sn.add 17).add 7) h1 h2 h3
  obtain ⟨sn2, e2⟩ := in_none (b := b) (mk := #[some s, m1]) sn1 h1 h4
  refine ⟨sn2, fun n => ?_⟩
  rw [show n + 7 = (n + 5) + 2 by (first | lia | omega), rf2, runFor_go (n := n + 4) rfl e1, runFor_go (n := n + 3) rfl (to5 T s b #[some s, m1] sn1), runFor_go (n := n + 2) rfl e2,
    runFor_go (n := n + 1) rfl (fall2 T s b #[some s, m1] sn2), runFor_go (n := n) rfl (next_start T s b (some s) m1 sn2), if_pos h1]
theorem runFor_stay {m : M} (h : m.outcome.isSome = true) : ∀ n, M.runFor n m = m
  | 0 => rfl
  | n + 1 => by
    show (if m.outcome.isSome = true then m else M.runFor n m.step) = m
    rw [if_pos h]
structure Ends (F : M) (r : Option (Nat × Nat)) : Prop where
  out : F.outcome = some (if r.isSome then .matched else .failed)
  hit : ∀ p e, r = some (p, e) → F.start = p ∧ F.handed = e ∧ F.marks = #[some p, some e] ∧ F.lastmark = 1
theorem end_pun (T : Array Nat) (s : Nat) (b : Bool) (m1 : Option Nat) (sn : Seen) : Ends (M.runFor 6 ({ st5 T s b #[some s, m1] sn with pc := 35, pos := s + 1 } : M)) (some (s, s + 1)) := by
  cases b <;> exact ⟨by kernel_rfl, fun p e h => by cases h; exact ⟨by kernel_rfl, by kernel_rfl, by kernel_rfl, by kernel_rfl⟩⟩
theorem end_dig (T : Array Nat) (s n : Nat) (b : Bool) (m1 : Option Nat) (sn : Seen) : Ends (M.runFor 7 (({ st2 T s b #[some s, m1] sn with pos := s + n } : M).afterRun .giveBack n (({ st2 T s b #[some s, m1] sn with pos := s + n } : M).keep false))) (some (s, s + n)) := by
  cases b <;> exact ⟨by kernel_rfl, fun p e h => by cases h; exact ⟨by kernel_rfl, by kernel_rfl, by kernel_rfl, by kernel_rfl⟩⟩
noncomputable def nextHit (T : Array Nat) : Nat → Nat → Option (Nat × Nat)
  | _, 0 => none
  | s, k + 1 => if isD (T.getD s 0) then some (s, s + digs T s (T.size - s)) else if isP (T.getD s 0) then some (s, s + 1) else nextHit T (s + 1) k
theorem at_end {T : Array Nat} {s : Nat} {b : Bool} {m0 m1 : Option Nat} (sn : Seen) (h1 : s = T.size) : Ends (M.runFor 8 (st0 T s b #[m0, m1] sn)) none := by
  subst h1
  have e1 : (st2 T T.size b #[some T.size, m1] ((sn.add 17).add 7)).step = (st2 T T.size b #[some T.size, m1] (((sn.add 17).add 7).add 24)).say false := by rw [step_rep, if_pos (by (first | lia | omega))]; rfl
  have e2 : (st5 T T.size b #[some T.size, m1] (((sn.add 17).add 7).add 24)).step = (st5 T T.size b #[some T.size, m1] ((((sn.add 17).add 7).add 24).add 13)).say false := by rw [step_in, if_pos (Nat.le_refl _)]; rfl
  rw [rf2 T T.size b m0 m1 sn 6, runFor_go (n := 5) rfl e1, runFor_go (n := 4) rfl (to5 T _ b #[some T.size, m1] _), runFor_go (n := 3) rfl e2, runFor_go (n := 2) rfl (fall2 T _ b #[some T.size, m1] _), runFor_go (n := 1) rfl (next_start T _ b (some T.size) m1 _), if_neg (Nat.lt_irrefl _)]
  exact ⟨rfl, fun p e h => by cases h⟩
theorem search {T : Array Nat} (h2 : T.size ≤ 1000) : ∀ (k s : Nat) (b : Bool) (m0 m1 : Option Nat) (sn : Seen), s + k = T.size → ∃ N, N ≤ 7 * k + 20 ∧ Ends (M.runFor N (st0 T s b #[m0, m1] sn)) (nextHit T s k)
  | 0, s, b, m0, m1, sn, h => ⟨8, by (first | lia | omega), at_end sn (by (first | lia | omega))⟩
  | k + 1, s, b, m0, m1, sn, h => by
    have h1 : s < T.size := by (first | lia | omega)
    unfold nextHit
    cases hD : isD (T.getD s 0) with
    | true =>
      rw [if_pos rfl]
      obtain ⟨sn', hr⟩ := run_spec T (min 4294967295 ((T.size : Int) - (s : Int)).toNat) s 0 ((((sn.add 17).add 7).add 24).add 13)
      have e : min 4294967295 ((T.size : Int) - (s : Int)).toNat = T.size - s := by (first | lia | omega)
      have hn : ¬ 0 + digs T s (T.size - s) < 1 := by
        rw [show T.size - s = (T.size - s - 1) + 1 by (first | lia | omega)]
        unfold digs
        rw [hD]
        simp
      have e1 : (st2 T s b #[some s, m1] ((sn.add 17).add 7)).step = ({ st2 T s b #[some s, m1] sn' with pos := s + digs T s (T.size - s) } : M).afterRun .giveBack (digs T s (T.size - s)) (({ st2 T s b #[some s, m1] sn' with pos := s + digs T s (T.size - s) } : M).keep false) := by
        rw [step_rep, if_neg (by (first | lia | omega)), hr, e]
        show (if 0 + digs T s (T.size - s) < 1 then _ else _) = _
        rw [if_neg hn, Nat.zero_add]
        rfl
      refine ⟨10, by (first | lia | omega), ?_⟩
      rw [rf2 T s b m0 m1 sn 8, runFor_go (n := 7) rfl e1]
      exact end_dig T s _ b m1 sn'
    | false =>
      simp only [Bool.false_eq_true, if_false]
      cases hP : isP (T.getD s 0) with
      | true =>
        rw [if_pos rfl]
        obtain ⟨sn1, e1⟩ := rep_none (b := b) (mk := #[some s, m1]) ((sn.add 17).add 7) h1 h2 hD
        obtain ⟨sn2, e2⟩ := in_some (b := b) (mk := #[some s, m1]) sn1 h1 hP
        refine ⟨11, by (first | lia | omega), ?_⟩
        rw [rf2 T s b m0 m1 sn 9, runFor_go (n := 8) rfl e1, runFor_go (n := 7) rfl (to5 T s b #[some s, m1] sn1), runFor_go (n := 6) rfl e2]
        exact end_pun T s b m1 sn2
      | false =>
        simp only [Bool.false_eq_true, if_false]
        obtain ⟨sn', e⟩ := skip (b := b) (m0 := m0) (m1 := m1) sn h1 h2 hD hP
        obtain ⟨N, hN, hE⟩ := search h2 k (s + 1) false (some s) m1 sn' (by (first | lia | omega))
        refine ⟨N + 7, by (first | lia | omega), ?_⟩
        rw [e N]
        exact hE
end RE
end Mine
end
section
open PySem PySem.Sre PySem.Builtin.Re PyProof.Rows
set_option maxRecDepth 100000
namespace Mine
namespace RE
theorem runFor_add : ∀ (a b : Nat) (m : M), M.runFor (a + b) m = M.runFor b (M.runFor a m)
  | 0, b, m => by rw [Nat.zero_add]; rfl
  | a + 1, b, m => by
    cases h : m.outcome.isSome with
    | true => rw [runFor_stay h, runFor_stay h, runFor_stay h]
    | false =>
      have e : ∀ n, M.runFor (n + 1) m = M.runFor n m.step := fun n => by
        show (if m.outcome.isSome = true then m else M.runFor n m.step) = _
        rw [h]; rfl
      rw [show a + 1 + b = (a + b) + 1 by (first | lia | omega), e, e, runFor_add a b]
section
variable {Mo : Model} {A : Around} {E : Value → Shared → Prop} {s : Shared}
theorem drive {Q : Sre.M → Shared → Prop} : ∀ (turns N : Nat) (m : M), N + 1 ≤ 4 * turns → (M.runFor N m).outcome.isSome = true → Q (M.runFor N m) s → wpAny Mo A (reDrive turns m) Q E s
  | 0, N, m, h, _, _ => by (first | lia | omega)
  | turns + 1, N, m, h, ho, hQ => by
    unfold reDrive
    show wpAny Mo A (if (M.runFor 4 m).outcome.isSome = true then pure (M.runFor 4 m) else do rule "sre.turn"; reDrive turns (M.runFor 4 m)) Q E s
    cases h4 : (M.runFor 4 m).outcome.isSome with
    | true =>
      rw [if_pos rfl]
      have e : M.runFor 4 m = M.runFor N m := by
        by_cases hN : N ≤ 4
        · rw [show 4 = N + (4 - N) by (first | lia | omega), runFor_add, runFor_stay ho]
        · rw [show N = 4 + (N - 4) by (first | lia | omega), runFor_add 4, runFor_stay h4]
      rw [e]
      exact wpAny_pure hQ
    | false =>
      have hN : 4 < N := by
        apply Nat.lt_of_not_le
        intro hN
        have : M.runFor 4 m = M.runFor N m := by rw [show 4 = N + (4 - N) by (first | lia | omega), runFor_add, runFor_stay ho]
        rw [this, ho] at h4
        cases h4
      simp only [Bool.false_eq_true, if_false]
      refine wpAny_bind (wpAny_rule ?_)
      have e : M.runFor N m = M.runFor (N - 4) (M.runFor 4 m) := by rw [← runFor_add, show 4 + (N - 4) = N by (first | lia | omega)]
      rw [e] at ho hQ
      exact drive turns (N - 4) _ (by (first | lia | omega)) ho hQ
theorem unit_loop {α : Type} {f : α → PUnit → Sem (ForInStep PUnit)} {Q : PUnit → Shared → Prop} (hf : ∀ a (Q' : ForInStep PUnit → Shared → Prop), Q' (.yield ⟨⟩) s → wpAny Mo A (f a ⟨⟩) Q' E s) (hQ : Q ⟨⟩ s) : ∀ l : List α, wpAny Mo A (forIn l ⟨⟩ f) Q E s
  | [] => by rw [List.forIn_nil]; exact wpAny_pure hQ
  | a :: l => by
    rw [List.forIn_cons]
    exact wpAny_bind (hf a _ (unit_loop hf hQ l))
theorem runToEnd {Q : Option Sre.M → Shared → Prop} {N : Nat} {m : M} {r : Option (Nat × Nat)} (hN : N ≤ 10000) (hE : Ends (M.runFor N m) r) (hn : r = none → Q none s) (hs : ∀ p e F, r = some (p, e) → Ends F r → Q (some F) s) :
    wpAny Mo A (reRunToEnd m) Q E s := by
  unfold reRunToEnd
  refine wpAny_bind (drive (2 ^ 64) N m (by (first | lia | omega)) (by rw [hE.out]; rfl) ?_)
  refine wpAny_bind ?_
  refine unit_loop (fun i Q' hq => ?_) ?_ _
  · split
    · exact wpAny_bind (wpAny_rule (wpAny_pure hq))
    · exact wpAny_pure hq
  · rw [hE.out]
    cases r with
    | none => exact wpAny_pure (hn rfl)
    | some pe => exact wpAny_pure (hs pe.1 pe.2 _ rfl hE)
theorem forSearch_end {T : Array Nat} {start : Nat} (h : start = T.size) : Ends (M.runFor 1 (forSearch CODE T 1 start T.size false)) none := by
  unfold forSearch
  rw [if_pos (by subst h; simp [header, CODE, ops])]
  exact ⟨by rfl, fun p e h => by cases h⟩
theorem forSearch_go {T : Array Nat} {start : Nat} (h : start < T.size) : forSearch CODE T 1 start T.size false = st0 T start true #[none, none] (({} : Sre.Seen).add 14) := by
  unfold forSearch
  rw [if_neg (by simp [header, CODE, ops]; (first | lia | omega))]
  rfl
theorem nextFound {Q : Option Sre.M → Shared → Prop} {t : ReTarget} {T : Array Nat} {start : Nat} (ht : t.text = T) (hc : t.code = CODE) (hg : t.groups = 1) (hl : t.lim = T.size) (hz : T.size ≤ 1000) (hst : start ≤ T.size)
    (hn : nextHit T start (T.size - start) = none → Q none s) (hs : ∀ p e F, nextHit T start (T.size - start) = some (p, e) → Ends F (some (p, e)) → Q (some F) s) :
    wpAny Mo A (reNextFound t start false) Q E s := by
  unfold reNextFound
  rw [ht, hc, hg, hl]
  by_cases h : start < T.size
  · rw [forSearch_go h]
    obtain ⟨N, hN, hE⟩ := search hz (T.size - start) start true none none (({} : Sre.Seen).add 14) (by (first | lia | omega))
    have hN' : N ≤ 10000 := by (first | lia | omega)
    revert hE hN'
    generalize st0 T start true #[none, none] (({} : Sre.Seen).add 14) = m0
    intro hE hN'
    refine runToEnd hN' hE hn ?_
    intro p e F hr hF
    rw [hr] at hF
    exact hs p e F hr hF
  · have e : start = T.size := by (first | lia | omega)
    refine runToEnd (N := 1) (by (first | lia | omega)) (forSearch_end e) (fun _ => hn ?_) (fun p e F hr _ => by cases hr)
    rw [e, Nat.sub_self]
    rfl
end
end RE
end Mine
end
section
open PySem PySem.Sre PySem.Builtin.Re PyProof.Rows
set_option maxRecDepth 100000
namespace Mine
namespace RE
theorem nextHit_ok {T : Array Nat} : ∀ (k s p e : Nat), s + k = T.size → nextHit T s k = some (p, e) → s ≤ p ∧ p < e ∧ e ≤ T.size
  | 0, s, p, e, _, h => by cases h
  | k + 1, s, p, e, hk, h => by
    unfold nextHit at h
    have hd : ∀ (n q : Nat), digs T q n ≤ n := by
      intro n
      induction n with
      | zero => intro q; exact Nat.le_refl _
      | succ n ih =>
        intro q
        unfold digs
        split
        · have := ih (q + 1); (first | lia | omega)
        · (first | lia | omega)
    split at h
    · rename_i hD
      have q := Option.some.inj h
      have q1 : s = p := congrArg Prod.fst q
      have q2 : s + digs T s (T.size - s) = e := congrArg Prod.snd q
      have h1 := hd (T.size - s) s
      have h2 : 0 < digs T s (T.size - s) := by
        rw [show T.size - s = (T.size - s - 1) + 1 by (first | lia | omega)]
        unfold digs
        rw [if_pos hD]
        (first | lia | omega)
      (first | lia | omega)
    · split at h
      · have q := Option.some.inj h
        have q1 : s = p := congrArg Prod.fst q
        have q2 : s + 1 = e := congrArg Prod.snd q
        (first | lia | omega)
      · have := nextHit_ok k (s + 1) p e (by (first | lia | omega)) h; (first | lia | omega)
noncomputable def sub (T : Array Nat) (i j : Nat) : List Nat := (T.extract i j).toList
noncomputable def hits (T : Array Nat) : Nat → Nat → List (List Nat) × Nat
  | 0, p => ([], p)
  | k + 1, p => match nextHit T p (T.size - p) with
    | none => ([], p)
    | some (a, e) => (sub T p a :: sub T a e :: (hits T k e).1, (hits T k e).2)
theorem hits_len {T : Array Nat} : ∀ (k p : Nat), (hits T k p).1.length ≤ 2 * k
  | 0, p => Nat.le_refl _
  | k + 1, p => by
    unfold hits
    split
    · simp
    · rename_i a e _
      have := hits_len (T := T) k e
      simp only [List.length_cons]
      (first | lia | omega)
section
variable {Mo : Model} {A : Around} {E : Value → Shared → Prop}
noncomputable def tgt (T : Array Nat) (v u : Value) : ReTarget := { pattern := v, string := u, code := CODE, text := T, kind := 0, groups := 1, pos := 0, lim := T.size }
theorem slice_wp {T : Array Nat} {i j : Nat} {s : Shared} {Q : Value → Shared → Prop} (hz : T.size ≤ 1000) (h : Q (.str (ofL (sub T i j)) s.toks) { s with toks := s.toks + 1 }) : wpAny Mo A (reSlice T 0 i j) Q E s := by
  show wpAny Mo A (mkStr ⟨T.extract i j⟩) Q E s
  have e : (⟨T.extract i j⟩ : Str) = ofL (sub T i j) := by
    show _ = (⟨(T.extract i j).toList.toArray⟩ : Str)
    rw [Array.toArray_toList]
  rw [e]
  refine wpAny_mkStr h ?_
  rw [ofL_len, sizeLine_eq]
  simp [sub]
  (first | lia | omega)
theorem group_wp {T : Array Nat} {v u : Value} {F : Sre.M} {p e : Nat} {s : Shared} {Q : Value → Shared → Prop} (hz : T.size ≤ 1000) (hF : Ends F (some (p, e))) (hpe : p < e) (h : Q (.str (ofL (sub T p e)) s.toks) { s with toks := s.toks + 1 }) :
    wpAny Mo A (reMachineGroup (tgt T v u) F (0 + 1) (pure .none)) Q E s := by
  obtain ⟨_, _, hm, hl⟩ := hF.hit p e rfl
  unfold reMachineGroup
  rw [hl, hm]
  rw [if_neg (by decide)]
  show wpAny Mo A (if e < p then reWrongSpan else reSlice T 0 p e) Q E s
  rw [if_neg (by (first | lia | omega))]
  exact slice_wp hz h
noncomputable abbrev LS6 := Array Value × Nat × Nat × Bool × Int × Bool
theorem split_loop {T : Array Nat} {f : Nat → LS6 → Sem (ForInStep LS6)}
    (hover : ∀ (a : Nat) (x : LS6) (s : Shared) (Q' : ForInStep LS6 → Shared → Prop), x.2.2.2.2.2 = true → Q' (.yield x) s → wpAny Mo A (f a x) Q' E s)
    (hstep : ∀ (a : Nat) (out : Array Value) (p : Nat) (n : Int) (s : Shared) (Q' : ForInStep LS6 → Shared → Prop), p ≤ T.size → (nextHit T p (T.size - p) = none → Q' (.yield (out, p, p, false, n, true)) s) →
      (∀ p' e', nextHit T p (T.size - p) = some (p', e') → Q' (.yield ((out.push (.str (ofL (sub T p p')) s.toks)).push (.str (ofL (sub T p' e')) (s.toks + 1)), e', e', false, n + 1, false)) { s with toks := s.toks + 1 + 1 }) → wpAny Mo A (f a (out, p, p, false, n, false)) Q' E s)
    {Q : LS6 → Shared → Prop} :
    ∀ (l : List Nat) (k : Nat) (p : Nat) (out : Array Value) (n : Int) (s : Shared), p ≤ T.size → T.size - p < l.length → k = l.length →
      (∀ (vs : List Value) tk n' st', StrsAre vs ((hits T k p).1.map ofL) → Q (out ++ vs.toArray, st', (hits T k p).2, false, n', true) { s with toks := tk }) →
      wpAny Mo A (forIn l (out, p, p, false, n, false) f) Q E s := by
  have done : ∀ (l : List Nat) (x : LS6) (s : Shared), x.2.2.2.2.2 = true → Q x s → wpAny Mo A (forIn l x f) Q E s := by
    intro l
    induction l with
    | nil => intro x s _ h; rw [List.forIn_nil]; exact wpAny_pure h
    | cons a l ih =>
      intro x s hx h
      rw [List.forIn_cons]
      exact wpAny_bind (hover a x s _ hx (ih x s hx h))
  intro l
  induction l with
  | nil => intro k p out n s hp hl; simp at hl
  | cons a l ih =>
    intro k p out n s hp hl hk hQ
    subst hk
    rw [List.forIn_cons]
    refine wpAny_bind (hstep a out p n s _ hp ?_ ?_)
    · intro hn
      refine done l _ s rfl ?_
      have e : hits T (a :: l).length p = ([], p) := by
        show hits T (l.length + 1) p = _
        unfold hits
        rw [hn]
      have := hQ [] s.toks n p (by rw [e]; exact .nil)
      rw [e] at this
      simpa using this
    · intro p' e' hn
      obtain ⟨b1, b2, b3⟩ := nextHit_ok (T.size - p) p p' e' (by (first | lia | omega)) hn
      have e : hits T (a :: l).length p = (sub T p p' :: sub T p' e' :: (hits T l.length e').1, (hits T l.length e').2) := by
        show hits T (l.length + 1) p = _
        rw [show hits T (l.length + 1) p = (match nextHit T p (T.size - p) with | none => ([], p) | some (a, e) => (sub T p a :: sub T a e :: (hits T l.length e).1, (hits T l.length e).2)) from rfl, hn]
      refine ih l.length e' _ (n + 1) _ b3 (by simp at hl; (first | lia | omega)) rfl ?_
      intro vs tk n' st' hv
      have := hQ (.str (ofL (sub T p p')) s.toks :: .str (ofL (sub T p' e')) (s.toks + 1) :: vs) tk n' st' (by rw [e]; exact .cons _ _ (.cons _ _ hv))
      rw [e] at this
      simpa using this
noncomputable def patObj (x : Str) (t1 t2 : Tok) : Obj := { cls := .type "re.Pattern", data := .fields #[.str x t1, .int 32 t2, .int 1 0, .none, .none, .ref 49, .int 0 0] }
noncomputable def codeObj : Obj := { cls := .type "tuple", data := .seq (CODE.map fun (n : Nat) => Value.int (n : Int) 0) }
noncomputable def pieces (l : List Nat) : List (List Nat) := (hits l.toArray (2 * l.length + 3) 0).1 ++ [l.drop (hits l.toArray (2 * l.length + 3) 0).2]
theorem target_wp {l : List Nat} {t t1 t2 : Tok} {x : Str} {s : Shared} {Q : ReTarget → Shared → Prop} (h50 : s.heap.get? 50 = some (patObj x t1 t2)) (h49 : s.heap.get? 49 = some codeObj)
    (h : Q (tgt l.toArray (.ref 50) (.str (ofL l) t)) s) : wpAny Mo A (reWholeTarget (.ref 50) (.str (ofL l) t)) Q E s := by
  unfold reWholeTarget
  refine wpAny_bind ?_
  unfold fieldsOf
  refine wpAny_bind (wpAny_load h50 (wpAny_pure ?_))
  show wpAny Mo A (reRawItems (.ref 49) >>= fun r => pure { pattern := Value.ref 50, string := Value.str (ofL l) t, code := Array.map (fun x => x.toNat) r, text := l.toArray, kind := 0, groups := 1, pos := 0, lim := l.toArray.size }) Q E s
  refine wpAny_bind ?_
  unfold reRawItems
  refine wpAny_bind ?_
  unfold seqItems?
  refine wpAny_bind (wpAny_load h49 (wpAny_pure (wpAny_pure (wpAny_pure ?_))))
  have e : Array.map (fun x => Int.toNat x) (Array.map reRawOf ((some (CODE.map fun (n : Nat) => Value.int (n : Int) 0)).getD #[])) = CODE := by decide +kernel
  rw [e]
  exact h
theorem split_re {l : List Nat} {t t1 t2 : Tok} {x : Str} {s : Shared} {Q : Fin → Shared → Prop} (h50 : s.heap.get? 50 = some (patObj x t1 t2)) (h49 : s.heap.get? 49 = some codeObj) (hl : l.length ≤ 1000)
    (h : ∀ (vs : List Value) tk, StrsAre vs ((pieces l).map ofL) → Q (.done (.ret (.ref s.heap.objs.size))) { s with heap := s.heap.push { cls := .type "list", data := .seq vs.toArray }, toks := tk }) :
    wpAny Mo A (Builtin.«re.Pattern.split» ⟨[.ref 50, .str (ofL l) t], []⟩) Q E s := by
  unfold Builtin.«re.Pattern.split»
  dsimp only
  refine wpAny_bind ?_
  rw [show reNamed "re.Pattern.split" "split" ["string", "maxsplit"] 1 [Value.str (ofL l) t] [] = pure [some (Value.str (ofL l) t), none] from rfl]
  refine wpAny_pure ?_
  dsimp only
  refine wpAny_bind (wpAny_pure ?_)
  refine wpAny_bind (target_wp h50 h49 ?_)
  refine wpAny_bind ?_
  have hz : l.toArray.size ≤ 1000 := by simpa using hl
  refine split_loop (T := l.toArray) ?_ ?_ _ (2 * l.length + 3) 0 #[] 0 s (Nat.zero_le _) ?_ ?_ ?_
  · intro a x s Q' hx hq
    (try dsimp only)
    rw [hx]
    simp only [Bool.not_true, Bool.false_eq_true, if_false]
    refine wpAny_pure ?_
    rw [← hx]
    exact hq
  · intro a out p n s Q' hp hn hs
    (try dsimp only)
    simp only [Bool.not_false, if_true]
    rw [if_neg (by simp)]
    refine wpAny_bind (nextFound (T := l.toArray) rfl rfl rfl rfl hz hp (fun e => wpAny_pure (hn e)) ?_)
    intro p' e' F hE hF
    obtain ⟨hs1, hs2, _, _⟩ := hF.hit p' e' rfl
    obtain ⟨b1, b2, b3⟩ := nextHit_ok (l.toArray.size - p) p p' e' (by (first | lia | omega)) hE
    (try dsimp only)
    refine wpAny_bind ?_
    rw [hs1]
    refine slice_wp hz ?_
    refine wpAny_bind ?_
    show wpAny Mo A (forIn (List.range 1) _ _) _ E _
    rw [show List.range 1 = [0] from rfl, List.forIn_cons]
    refine wpAny_bind (wpAny_bind (group_wp hz hF b2 ?_))
    refine wpAny_pure ?_
    (try dsimp only)
    rw [List.forIn_nil]
    refine wpAny_pure (wpAny_pure ?_)
    (try dsimp only)
    rw [hs2, show (e' == p') = false by simp; (first | lia | omega)]
    exact hs p' e' hE
  · rw [List.length_range]
    show _ < 2 * l.toArray.size + 3
    (first | lia | omega)
  · rw [List.length_range]
    show _ = 2 * l.toArray.size + 3
    simp
  · intro vs tk n' st' hv
    (try dsimp only)
    simp only [Bool.not_true, Bool.false_eq_true, if_false]
    refine wpAny_bind (slice_wp hz ?_)
    refine wpAny_bind ?_
    have hlen : vs.length ≤ 2 * (2 * l.length + 3) := by
      rw [hv.length, List.length_map]
      exact hits_len _ _
    refine wpAny_newObj_type ?_ ?_
    · refine wpAny_pure ?_
      have e : ((#[] ++ vs.toArray).push (Value.str (ofL (sub l.toArray (hits l.toArray (2 * l.length + 3) 0).2 l.toArray.size)) tk)).toList = vs ++ [Value.str (ofL (sub l.toArray (hits l.toArray (2 * l.length + 3) 0).2 l.toArray.size)) tk] := by simp
      have := h (vs ++ [Value.str (ofL (sub l.toArray (hits l.toArray (2 * l.length + 3) 0).2 l.toArray.size)) tk]) (tk + 1) ?_
      · rw [← e] at this
        exact this
      · unfold pieces
        rw [List.map_append]
        refine hv.append' ?_
        have e2 : sub l.toArray (hits l.toArray (2 * l.length + 3) 0).2 l.toArray.size = l.drop (hits l.toArray (2 * l.length + 3) 0).2 := by
          simp only [sub, List.size_toArray, List.extract_toArray, List.extract_eq_drop_take, List.toList_toArray]
          rw [← List.length_drop, List.take_length]
        rw [e2]
        exact .cons _ _ .nil
    · show _ ≤ sizeLine
      simp [sizeLine_eq]
      (first | lia | omega)
end
end RE
end Mine
end
section
open PySem PySem.W PyProof.Rows PySem.Spec PySem.Calls
set_option maxRecDepth 100000
set_option maxHeartbeats 0
namespace Mine
theorem pa_re : PlainAttrs "re.Pattern" :=
  ⟨⟨"object.__getattribute__", by rw [typeLookup_type, builtinLookup_eq_fast]; kernel_rfl, by decide +kernel⟩, by rw [typeLookup_type, builtinLookup_eq_fast]; kernel_rfl⟩
theorem slot_re : Slot "re.Pattern" "split" "re.Pattern.split" :=
  .of (owner := "re.Pattern") (n := "split") (by rw [typeLookup_type, builtinLookup_eq_fast]; kernel_rfl) (by decide +kernel) (by decide +kernel) (by decide +kernel)
    (by first | exact .inl (by decide +kernel) | exact .inr (by decide +kernel)) (by rw [isSubtype_type]; kernel_rfl)
theorem type_re : typeOf (.builtin "re.Pattern.split") = pure (.type "method_descriptor") := by show builtinType _ = _; rw [builtinType_eq_fast]; kernel_rfl
theorem entry_re : entryFor table "re.Pattern.split" = some Builtin.«re.Pattern.split» := entryFor_of_tree (by kernel_rfl)
theorem owner_re : Manifest.owners.lookup (String.ofList ['n', 'r', 'e', 't', 't', 'a', 'P', '.', 'e', 'r'].reverse) = some Manifest.sig_re_Pattern := by kernel_rfl
theorem args_re (a b : Value) : argsOk "re.Pattern.split" ⟨[a, b], []⟩ := by
  unfold argsOk; rw [signature?_of (id := "re.Pattern.split") (n := ['t', 'i', 'l', 'p', 's']) (o := ['n', 'r', 'e', 't', 't', 'a', 'P', '.', 'e', 'r']) (by kernel_rfl) owner_re]; kernel_rfl
theorem look50 (P : Params) : ∃ x t1 t2, (hd.heap_1 P).lookup 50 = some (RE.patObj x t1 t2) := ⟨_, _, _, by rfl⟩
theorem look49 (P : Params) : (hd.heap_1 P).lookup 49 = some RE.codeObj := by kernel_rfl
section
variable {prog : Program} {w : World} {A : Around} {E : Value → Shared → Prop} {s : Shared} {h₀ : Heap} {L : Addr} {m : Str → Option Value} {news : List (Addr × Obj)}
theorem r_getsplit {pl : Sem Bool} {Q : Value × List Value → Shared → Prop} (F : Fr h₀ L s.heap m) (X : (hd.heap_1 w.params).In h₀) (h : Q (.builtin "re.Pattern.split", [.ref 50]) s) :
    wpAny (model prog w) A (getMethod (.ref 50) "split" pl) Q E s := by
  obtain ⟨x, t1, t2, e⟩ := look50 w.params
  have ho := (X.keeps F.keep) _ _ e
  exact getMethod_builtin (T := "re.Pattern") ⟨_, ho, rfl⟩ pa_re slot_re type_re (fun a ha => by cases ha; exact ⟨_, ho, rfl⟩) h
theorem r_resplit {l : List Nat} {t : Tok} {Q : Value → Shared → Prop} (F : Fr h₀ L s.heap m) (N : News h₀ L s.heap news) (X : (hd.heap_1 w.params).In h₀) (hl : l.length ≤ 1000)
    (h : ∀ (D : Addr) (h' : Heap) (tk : Nat) (vs : List Value), Fr h₀ L h' m → News h₀ L h' ((D, W.listOf vs.toArray 0) :: news) → (∀ p ∈ news, p.1 < D) → StrsAre vs ((RE.pieces l).map ofL) → Q (.ref D) { s with heap := h', toks := tk }) :
    wpAny (model prog w) A (call (.builtin "re.Pattern.split") [.ref 50, .str (ofL l) t]) Q E s := by
  obtain ⟨x, t1, t2, e⟩ := look50 w.params
  have ho := (X.keeps F.keep) _ _ e
  have h49 := (X.keeps F.keep) _ _ (look49 w.params)
  refine wpAny_call (codeAny_call_builtin slot_re.plain entry_re (slot_re.check _ _ _ _ _ _ _ _ ⟨_, ho, rfl⟩ (args_re _ _) ?_))
  refine RE.split_re ho h49 hl ?_
  intro vs tk hv
  exact h _ _ tk vs (F.push _) (N.push F _) (fun p hp => Heap.lt_size (N p hp).1) hv
end
end Mine
end
section
open PySem PySem.W PyProof.Rows PySem.Spec PySem.Calls
open PySem.Sem (wp)
set_option maxRecDepth 100000
namespace Mine
section
variable {M : Model} {A : Around} {E : Value → Shared → Prop} {s : Shared} {env : Env} {pos : Pos} {Q : Value → Shared → Prop}
theorem wpC_keep {α : Type} {vs : List Value} {m : Sem α} {Q : α → Shared → Prop} (h : wpC M A m Q E s) : wpC M A (m.keep vs) Q E s :=
  fun Γ p hΓ hc => by rw [Sem.wp_keep]; exact h Γ p hΓ hc
theorem wpC_callWith_type {T : String} {first : List Value} {args : List (Bool × Sem Value)} (hplain : args.any (·.1) = false)
    (h : wpAny M A (evalArgs (.type T) true args []) (fun a s₁ => wpC M A (call (.type T) (first ++ a.pos) a.kw) Q E s₁) E s) :
    wpC M A (callWith pos (.type T) first args []) Q E s := by
  unfold callWith
  refine wpC_bindA (wpAny_holding (wpAny_mono h (fun a s₁ h₁ => wpC_bind (wpC_standAt ?_)) fun _ _ x => x))
  simp only [hplain, List.any_nil, Bool.or_false]
  refine wpC_bind (wpC_pure ?_)
  exact wpC_bind (wpC_mono h₁ (fun r s₂ hr => wpC_bind (wpC_holding (wpC_of_any (wpAny_point (wpC_pure hr))))) fun _ _ x => x)
theorem wpC_callWith_builtin {id : String} {first : List Value} {args : List (Bool × Sem Value)} (hplain : args.any (·.1) = false)
    (h : wpC M A (evalArgs (.builtin id) true args []) (fun a s₁ => wpAny M A (call (.builtin id) (first ++ a.pos) a.kw) Q E s₁) E s) :
    wpC M A (callWith pos (.builtin id) first args []) Q E s := by
  unfold callWith
  refine wpC_bind (wpC_holding (wpC_mono h (fun a s₁ h₁ => wpC_bind (wpC_standAt ?_)) fun _ _ x => x))
  simp only [hplain, List.any_nil, Bool.or_false]
  refine wpC_bind (wpC_pure ?_)
  exact wpC_bindA (wpAny_mono h₁ (fun r s₂ hr => wpC_bind (wpC_holding (wpC_of_any (wpAny_point (wpC_pure hr))))) fun _ _ x => x)
theorem wpC_callWith_function {a : Addr} {o : Obj} {fd : FuncData} {first : List Value} {args : List (Bool × Sem Value)}
    (h : wpAny M A (evalArgs (.ref a) true args []) (fun x s₁ => (s₁.heap.get? a = some o ∧ o.data = .func fd) ∧ wpC M A (call (.ref a) (first ++ x.pos) x.kw) Q E s₁) E s) :
    wpC M A (callWith pos (.ref a) first args []) Q E s := by
  unfold callWith
  refine wpC_bindA (wpAny_holding (wpAny_mono h (fun x s₁ h₁ => wpC_bind (wpC_standAt ?_)) fun _ _ x => x))
  have tail : ∀ {t : Sem Value}, wpC M A t Q E s₁ → wpC M A (t >>= fun r => holding [r] point >>= fun _ => pure r) Q E s₁ :=
    fun ht => wpC_bind (wpC_mono ht (fun r s₂ hr => wpC_bind (wpC_holding (wpC_of_any (wpAny_point (wpC_pure hr))))) fun _ _ x => x)
  refine wpC_bindA (m := keeperOf (.ref a)) ?_
  unfold keeperOf
  refine wpAny_bind (wpAny_load h₁.1.1 ?_)
  rw [h₁.1.2]
  refine wpAny_pure ?_
  cases hs : (args.any (·.1) || ([] : List (Option Str × Sem Value)).any (·.1.isNone))
  · dsimp only
    split
    · exact tail h₁.2
    · exact tail (by unfold callMarked; exact wpC_keep h₁.2)
  · exact tail (by unfold callMarked; exact wpC_keep h₁.2)
theorem wpC_spliced_cons {x : Sem Value} {rest : List (Bool × Sem Value)} {Q : List Value → Shared → Prop}
    (h : wpC M A x (fun v s₁ => wpAny M A (spliced rest) (fun vs s₂ => Q (v :: vs) s₂) E s₁) E s) : wpC M A (spliced ((false, x) :: rest)) Q E s := by
  rw [spliced]
  refine wpC_bind (wpC_mono h (fun v s₁ h₁ => ?_) fun _ _ x => x)
  simp only [Bool.false_eq_true, if_false]
  exact wpC_bind (wpC_pure (wpC_bind (wpC_holding (wpC_of_any (wpAny_mono h₁ (fun vs s₂ h₂ => wpC_pure h₂) fun _ _ x => x)))))
theorem wpC_evalArgs_plain {f : Value} {x : Sem Value} {rest : List (Bool × Sem Value)} {Q : Args → Shared → Prop}
    (h : wpC M A (spliced ((false, x) :: rest)) (fun vs s' => Q ⟨vs, []⟩ s') E s) : wpC M A (evalArgs f true ((false, x) :: rest) []) Q E s := by
  unfold evalArgs
  show wpC M A (spliced ((false, x) :: rest) >>= _) Q E s
  refine wpC_bind (wpC_mono h (fun vs s' h' => ?_) fun _ _ x => x)
  refine wpC_holding ?_
  exact wpC_bind (wpC_pure (wpC_bind (wpC_pure (wpC_pure h'))))
theorem wpC_List {elts : List Expr}
    (h : wpC M A (spliced (backTo pos (starEach elts env))) (fun vs s₁ => wpAny M A (newList vs) Q E s₁) E s) : wpC M A (eval (.List elts pos) env) Q E s := by
  show wpC M A (do standAt pos; newList (← spliced (backTo pos (starEach elts env)))) Q E s
  exact wpC_bind (wpC_standAt (wpC_bind (wpC_mono h (fun _ _ q => wpC_of_any q) fun _ _ e => e)))
theorem wpC_Call_Name {x : Str} {p : Pos} {args : List Expr} {trees : List (Bool × Sem Value)} (ht : backTo pos (starEach args env) = trees)
    (h : wpAny M A (eval (.Name x p) env) (fun f s₁ => wpC M A (callWith pos f [] trees []) Q E s₁) E s) :
    wpC M A (eval (.Call (.Name x p) args [] pos) env) Q E s := by
  subst ht
  exact wpC_bindA h
theorem wpC_Call_Name2 {x : Str} {p : Pos} {e₁ e₂ : Expr}
    (h : wpAny M A (eval (.Name x p) env) (fun f s₁ => wpC M A (callWith pos f [] [(false, eval e₁ env), (false, eval e₂ env)] []) Q E s₁) E s)
    (hs : starEach [e₁, e₂] env = [(false, eval e₁ env), (false, eval e₂ env)]) :
    wpC M A (eval (.Call (.Name x p) [e₁, e₂] [] pos) env) Q E s := wpC_Call_Name (by rw [hs]; rfl) h
theorem wpC_Call_Name1 {x : Str} {p : Pos} {e₁ : Expr}
    (h : wpAny M A (eval (.Name x p) env) (fun f s₁ => wpC M A (callWith pos f [] [(false, eval e₁ env)] []) Q E s₁) E s)
    (hs : starEach [e₁] env = [(false, eval e₁ env)]) :
    wpC M A (eval (.Call (.Name x p) [e₁] [] pos) env) Q E s := wpC_Call_Name (by rw [hs]; rfl) h
end
section
variable {prog : Program} {w : World} {A : Around} {E : Value → Shared → Prop} {s : Shared} {env : Env}
theorem wpC_Expr {e pos} {Q : Flow → Shared → Prop} (h : wpC (model prog w) A (eval e env) (fun _ => Q .next) E s)
    (hi : interactive env = false) (hs : swapsWith e none pos.line env = pure false) :
    wpC (model prog w) A (exec (.Expr e pos) env) Q E s := by
  rw [exec_Expr env e pos hi hs]
  exact wpC_bind (wpC_standAt (wpC_bind (wpC_mono h (fun v s' h' => wpC_of_any (wpAny_dropValue h')) fun _ _ x => x)))
theorem wpC_Call_append {o elt : Expr} {apos pos : Pos} {Q : Value → Shared → Prop}
    (hbase : attributeBase o "append" env (eval o env) = eval o env)
    (hfew : ((backTo pos (starEach [elt] env)).all (fun x => !x.1) && (backToKw pos (keywordEach [] env)).all (fun x => x.1.isSome)
      && decide (([elt] : List Expr).length + ([] : List Keyword).length + (if ([] : List Keyword).isEmpty then 0 else 1) < 30)) = true)
    (hline : (apos.endLine == pos.line) = true)
    (htrees : backTo pos (starEach [elt] env) = [(false, eval elt env)])
    (h : wpAny (model prog w) A (eval o env) (fun ov s₁ => ∃ D its, ov = .ref D ∧ PlainL s₁.heap D its ∧
      wpC (model prog w) A (eval elt env) (fun y s₂ => wpAny (model prog w) A (call (.builtin "list.append") [.ref D, y]) Q E s₂) E s₁) E s) :
    wpC (model prog w) A (eval (.Call (.Attribute o "append" apos) [elt] [] pos) env) Q E s := by
  rw [arm_eval_Call, hbase]
  refine wpC_bindA (wpAny_mono h (fun ov s₁ h₁ => ?_) fun _ _ e => e)
  obtain ⟨D, its, rfl, ⟨ob, n, hob, hc, hd, _⟩, hcall⟩ := h₁
  refine wpC_bind (wpC_standAt ?_)
  have fin : wpC (model prog w) A (callWith pos (.builtin "list.append") [.ref D] (backTo pos (starEach [elt] env)) []) Q E s₁ := by
    rw [htrees]
    exact wpC_callWith_builtin rfl (wpC_evalArgs_plain (wpC_spliced_cons (wpC_mono hcall (fun y s₂ h₂ => Calls.spliced_nil h₂) fun _ _ e => e)))
  have hform : methodCallForm (([elt] : List Expr).length + ([] : List Keyword).length) (backTo pos (starEach [elt] env)) (backToKw pos (keywordEach [] env)) = true := hfew
  have hpos : methodCallPos true o env apos pos = pure pos := by unfold methodCallPos; simp [hline]
  unfold methodCall
  rw [hform]
  refine wpC_bindA (wpAny_holding (Calls.getMethod_list_append hob hc hd ?_))
  exact wpC_bind (wpC_of_eq hpos (wpC_pure fin))
end
end Mine
end
section
open PySem PySem.W PyProof.Rows PySem.Spec PySem.Calls PySem.NumText
open PySem.Sem (wp)
set_option maxRecDepth 100000
set_option maxHeartbeats 4000000
namespace Mine
theorem typeCall_int_2 (a b : Value) : checkTypeCall "int" ⟨[a, b], []⟩ = pure () := by kernel_rfl
theorem newCall_int_2 (a b : Value) : checkBuiltinCall "int.__new__" ⟨[.type "int", a, b], []⟩ = pure () := by kernel_rfl
theorem gives_text2 {x : PySem.Str} {u u' : Tok} {n : Int} (hl : x.length ≤ 640) (hn : PySem.intText? x = some n) : Gives (Builtin.«int.__new__» ⟨[.type "int", .str x u, .int 10 u'], []⟩) (.int n) :=
  .of_wp fun M A E s Q h => by
    obtain ⟨hp, g, d, tk, os⟩ := s
    have f1 := F.conv_sub_int
    have f2 := F.madeHere_int
    have f6 : typeOf (.str x u) = pure (.type "str") := rfl
    have hs : (numSeenOf x).length ≤ 640 := Nat.le_trans (seen_length x) hl
    have hr : (int_private% "readNumeral") 0 10 (numSeenOf x) = (int_private% "Numeral.value") n ∧ ((numSeenOf x).length == (numTextOf x).length) = true := by
      rcases read0 x hs with ⟨m, h1, h2, h3⟩ | ⟨h1, _⟩
      · rw [hn] at h1
        injection h1 with h1
        subst h1
        exact ⟨h3, h2⟩
      · rw [hn] at h1
        cases h1
    have hk := KIN.Hid.mk (And.intro hs hr)
    clear hs hr hl hn
    repeat (any_goals (first
      | assumption
      | ((with_reducible show wpAny _ _ ((int_private% "intFromText") _ _ _) _ _ _); refine KIN.wp_text hk.out.1 hk.out.2.1 hk.out.2.2 ?_)
      | wp_step))
    all_goals first | exact ⟨_, rfl, h⟩ | skip
theorem call_text2 {prog : Program} {w : World} {A : Around} {E : Value → Shared → Prop} {s : Shared} {Q : Value → Shared → Prop} {x : PySem.Str} {t u : Tok} {n : Int} (hn : PySem.intText? x = some n) (hl : x.length ≤ 640) (h : Q (.int n s.toks) { s with toks := s.toks + 1 }) : wpAny (model prog w) A (call (.type "int") [.str x t, .int 10 u]) Q E s :=
  callType_new F.called_int F.newNe_int (typeCall_int_2 _ _) (newCall_int_2 _ _) (fun obj => F.args_object_init_3 obj _ _) F.entry_int_new (gives_text2 hl hn).meets (show (Made.int n).post _ s from ⟨rfl, h⟩)
theorem tree_type_call (a b : Value) : ∃ k, Builtin.«type.__call__» ⟨[.type "int", a, b], []⟩ = (holding [.builtin "int.__new__"] (call (.builtin "int.__new__") [.type "int", a, b] []) >>= k) := by
  apply Exists.intro
  have e1 : (Value.type "int" == Value.type "type") = false := by decide
  have e2 := F.called_int.canCreate
  have e3 := typeCall_int_2 a b
  have e4 := F.mro_int
  have e5 := F.called_int.made
  unfold Builtin.«type.__call__»
  simp only [e1, e2, e3, e4, e5, Bool.false_eq_true, if_false, pure_bind, List.isEmpty_cons]
  rfl
theorem tree_int_new (x : Str) (u u' : Tok) : Builtin.«int.__new__» ⟨[.type "int", .str x u, .int 10 u'], []⟩ = ((int_private% "intFromText") (.str x u) (numTextOf x) 10 >>= fun v => ret v) := by
  kernel_rfl
end Mine
end
section
open PySem PySem.W PyProof.Rows PySem.Spec PySem.Calls PySem.NumText
set_option maxRecDepth 100000
set_option maxHeartbeats 4000000
namespace Mine
theorem wpC_ite_true {α : Type} {M : Model} {A : Around} {E : Value → Shared → Prop} {s : Shared} {c : Prop} [Decidable c] {a b : Sem α} {Q : α → Shared → Prop} (hc : c) (h : wpC M A a Q E s) : wpC M A (if c then a else b) Q E s := by rw [if_pos hc]; exact h
theorem wpC_text_bad {prog : Program} {w : World} {A : Around} {E : Value → Shared → Prop} {s : Shared} {Q : Value → Shared → Prop} {x : PySem.Str} {u : Tok} (hl : x.length ≤ 640) (hn : PySem.intText? x = none) (hh : A.handled = none) (hrep : (reprText x).length ≤ sizeLine)
    (h : ∀ h' tk e args, Heap.MadeExc s.heap h' e "ValueError" args → E (.ref e) { s with heap := h', toks := tk }) :
    wpC (model prog w) A ((int_private% "intFromText") (.str x u) (numTextOf x) 10) Q E s := by
  have hs : (numSeenOf x).length ≤ 640 := Nat.le_trans (seen_length x) hl
  refine wpC_ite_true (c := (numSeenOf x).length ≤ 640) hs ?_
  refine wpC_bind (wpC_pure ?_)
  have jp : wpC (model prog w) A (do
      rule "int.__new__.invalid-literal"
      let shown ← pyRepr (Value.str x u)
      let v ← mkStr (Str.ofString (toString "invalid literal for int() with base " ++ toString 10 ++ toString ": ") ++ { cps := shown.cps.extract 0 200 })
      let refusal ← newExc (Value.type "ValueError") [v]
      markTheRefusal ["int.__new__"] refusal
      raiseNew refusal) Q E s := by
    refine wpC_bindA (wpAny_rule (wpC_bindA (wpAny_pyRepr_str (wpC_bindA (wpAny_mkStr (wpC_bindA (wpAny_newExc_plain ?pe (fun h' e hm => wpC_bind (wpC_mark (wpC_of_any (wpAny_raiseNew_none hh (h _ _ e _ hm)))) ))) ?sz)) hrep)))
    case pe => exact plainExc_ValueError
    case sz =>
      show ((Str.ofString (toString "invalid literal for int() with base " ++ toString 10 ++ toString ": ")).cps ++ ((reprText x).cps.extract 0 200)).size ≤ sizeLine
      rw [Array.size_append, Array.size_extract]
      have e1 : (Str.ofString (toString "invalid literal for int() with base " ++ toString 10 ++ toString ": ")).cps.size = 40 := by decide +kernel
      rw [e1]
      have : 240 ≤ sizeLine := by decide
      (first | lia | omega)
  rcases read0 x hs with ⟨n, h1, _⟩ | ⟨_, h2 | ⟨i, h2, h3⟩⟩
  · rw [hn] at h1; cases h1
  · have e : (int_private% "readNumeral") 0 10 (List.takeWhile (fun x => x != 0) (numTextOf x)) = int_private% "Numeral.invalid" := h2
    dsimp only
    rw [e]
    exact jp
  · have e : (int_private% "readNumeral") 0 10 (List.takeWhile (fun x => x != 0) (numTextOf x)) = (int_private% "Numeral.value") i := h2
    have e3 : ¬ ((List.takeWhile (fun x => x != 0) (numTextOf x)).length == (numTextOf x).length) = true := h3
    dsimp only
    rw [e]
    dsimp only
    rw [if_neg e3]
    exact jp
theorem codeC_call_builtin {prog : Program} {w : World} {A : Around} {s : Shared} {R : Result → Shared → Prop} {id : String} {args : Args} {b : Builtin} (hq : plainId id = true) (hb : entryFor table id = some b)
    (h : wpAny (model prog w) A.in1 (checkBuiltinCall id args) (fun _ s₁ => wpC (model prog w) A.in1 (b args)
      (fun fin s' => match fin with | .done f => R (.ok f) s' | .again c' => c'.quiet = true ∧ codeC (model prog w) A c' R s') (fun e s' => R (.error e) s') s₁)
      (fun e s' => R (.error e) s') s) : codeC (model prog w) A (.call (.builtin id) args) R s := by
  refine codeC_of_tree ?_
  show wpC _ A.in1 (do checkBuiltinCall id args; again (.builtin id args)) _ _ s
  refine wpC_bindA (wpAny_mono h (fun _ s₁ h₁ => wpC_pure (And.intro (plainId_quiet hq args) (codeC_of_tree ?_))) fun _ _ h' => h')
  show wpC _ _ (match entryFor table id with | some b => b args | none => unsupported ((withoutEnding? id "#data").getD id)) _ _ s₁
  rw [hb, Around.under_plainId hq args]; exact h₁
theorem codeC_builtin {prog : Program} {w : World} {A : Around} {s : Shared} {R : Result → Shared → Prop} {id : String} {args : Args} {b : Builtin} (hb : entryFor table id = some b)
    (h : wpC (model prog w) (A.under (.builtin id args)) (b args)
      (fun fin s' => match fin with | .done f => R (.ok f) s' | .again c' => c'.quiet = true ∧ codeC (model prog w) A c' R s') (fun e s' => R (.error e) s') s) :
    codeC (model prog w) A (.builtin id args) R s := by
  refine codeC_of_tree ?_
  show wpC _ _ (match entryFor table id with | some b => b args | none => unsupported ((withoutEnding? id "#data").getD id)) _ _ s
  rw [hb]; exact h
theorem call_text_bad {prog : Program} {w : World} {A : Around} {E : Value → Shared → Prop} {s : Shared} {Q : Value → Shared → Prop} {x : PySem.Str} {t u : Tok} (hn : PySem.intText? x = none) (hl : x.length ≤ 640) (hh : A.handled = none) (hrep : (reprText x).length ≤ sizeLine)
    (h : ∀ h' tk e args, Heap.MadeExc s.heap h' e "ValueError" args → E (.ref e) { s with heap := h', toks := tk }) : wpC (model prog w) A (call (.type "int") [.str x t, .int 10 u]) Q E s := by
  refine wpC_call (codeC_of_tree ?_)
  show wpC _ _ (callAny (.type "int") _) _ _ _
  refine wpC_pure ⟨Code.quiet_builtin _ (by decide +kernel), codeC_builtin F.entry_type_call ?_⟩
  rw [Around.under_plain (weight_type_call_type "int" _ _) (units_type_call_type "int" _ _)]
  obtain ⟨k, hk⟩ := tree_type_call (.str x t) (.int 10 u)
  refine wpC_of_eq hk (wpC_bind (wpC_holding (wpC_call ?_)))
  refine codeC_call_builtin F.called_int.plain F.entry_int_new (wpAny_of_eq (newCall_int_2 _ _) ?_)
  refine wpC_of_eq (tree_int_new x t u) (wpC_bind (wpC_text_bad hl hn hh hrep ?_))
  exact h
end Mine
end
section
open PySem PySem.W PyProof.Rows PySem.Spec PySem.Calls
set_option maxRecDepth 100000
namespace Mine
theorem sub_of (l : List Nat) (i j : Nat) : (RE.sub l.toArray i j).length ≤ l.length ∧ ∀ c ∈ RE.sub l.toArray i j, c ∈ l := by
  unfold RE.sub
  constructor
  · simp; (first | lia | omega)
  · intro c hc
    simp at hc
    have := List.mem_of_mem_take hc
    exact List.mem_of_mem_drop this
theorem hits_of (l : List Nat) : ∀ (k p : Nat), ∀ x ∈ (RE.hits l.toArray k p).1, x.length ≤ l.length ∧ ∀ c ∈ x, c ∈ l
  | 0, p => by intro x hx; simp [RE.hits] at hx
  | k + 1, p => by
    unfold RE.hits
    split
    · intro x hx; simp at hx
    · rename_i a e _
      intro x hx
      simp only [List.mem_cons] at hx
      rcases hx with rfl | rfl | hx
      · exact sub_of l _ _
      · exact sub_of l _ _
      · exact hits_of l k e x hx
theorem pieces_of {l x : List Nat} (h : x ∈ RE.pieces l) : x.length ≤ l.length ∧ ∀ c ∈ x, c ∈ l := by
  unfold RE.pieces at h
  rcases List.mem_append.mp h with h | h
  · exact hits_of l _ _ x h
  · simp only [List.mem_singleton] at h
    subst h
    exact ⟨by simp, fun c hc => List.mem_of_mem_drop hc⟩
theorem pieces_len (l : List Nat) : (RE.pieces l).length ≤ 4 * l.length + 7 := by
  unfold RE.pieces
  have := RE.hits_len (T := l.toArray) (2 * l.length + 3) 0
  simp only [List.length_append, List.length_singleton]
  (first | lia | omega)
theorem piece_repr {l : List Nat} (h : ∀ c ∈ l, c < 128) (h2 : l.length ≤ 100) : (reprText (ofL l)).length ≤ sizeLine := by
  have := PySem.StrLaws.reprText_len (ofL l) (by rw [ofL_cps]; intro c hc; have := h c hc; (first | lia | omega))
  rw [ofL_len] at this
  have e : 2000 ≤ sizeLine := by decide
  (first | lia | omega)
end Mine
end
section
open PySem PySem.W PyProof.Rows PySem.Spec PySem.Calls
open PySem.Sem (wp)
set_option maxRecDepth 100000
namespace Mine
noncomputable def CameT (h₀ : Heap) (L L' : Addr) (oL : Obj) (s : Shared) (news : List (Addr × Obj)) (Post : Value → List (Addr × Obj) → Prop) (fl : Flow) (s' : Shared) : Prop :=
  ∃ v tl h tk m' sl, (match fl with | .ret v => v | _ => Value.none) = v ∧ s' = { s with heap := h, toks := tk } ∧ Fr h₀ L' h m' ∧ News h₀ L' h ((tl ++ news) ++ [(L, { oL with slots := sl })]) ∧ (∀ p ∈ tl, p.1 ≠ L) ∧ Post v tl
theorem CameT.ret {h₀ : Heap} {L L' : Addr} {oL : Obj} {s : Shared} {news news' : List (Addr × Obj)} {Post : Value → List (Addr × Obj) → Prop} {v : Value} {h : Heap} {tk : Nat} {m' : Str → Option Value} (tl : List (Addr × Obj)) (sl : Array (Option Value))
    (F : Fr h₀ L' h m') (N : News h₀ L' h news') (hd : ∀ p ∈ (tl ++ news) ++ [(L, { oL with slots := sl })], p ∈ news') (hn : ∀ p ∈ tl, p.1 ≠ L) (p : Post v tl) : Kept (CameT h₀ L L' oL s news Post (.ret v) { s with heap := h, toks := tk }) :=
  ⟨v, tl, h, tk, m', sl, rfl, rfl, F, fun p hp => N p (hd p hp), hn, p⟩
section
variable {w : World} {mean : ExcName → Option Value} {mg mb : Str → Option Value} {dp un : Nat} {gd : Option (List Code)} {cn : Str} {cs : Scope} {a : Addr} {ccd : Value} {cl : List (Str × Addr)} {A₀ : Around} {base h₀ : Heap} {L : Addr} {m : Str → Option Value} {s : Shared} {Q E : Value → Shared → Prop} {news : List (Addr × Obj)}
    {name qual : Str} {params : Arguments} {body : List Stmt} {scope : Scope} {dV kV doc pm cdv ct oc : Value} {an od : Option Addr} {osl : Array (Option Value)} {f : Addr} {vs : List Value} {Post : Value → List (Addr × Obj) → Prop}
theorem callBodyT (binds rb : List (Str × Value)) (S : Site w mean mg mb cs [] A₀ base h₀ L m s news)
    (ho : (hd.heap_1 w.params).lookup f = some ⟨oc, od, .func (fnOf name qual params body scope dV kV doc pm an cdv ct), osl⟩) (hcd : codeIn (hd.heap_1 w.params) cdv qual = true) (hroom : dp < recursionLimit)
    (hbind : BindsTo s (fnOf name qual params body scope dV kV doc pm an cdv ct) ⟨vs, []⟩ binds) (hloc : ∀ y ∈ binds, scope.names.lookup y.1 = some .local)
    (hco : scope.isCoroutine = false) (hgen : scope.isGenerator = false) (hk : scope.kind = .function) (hcell : ∀ x ∈ scope.names, x.2 ≠ .cell)
    (hrb : binds.reverse = rb)
    (hret : ∀ (r : Value) (tl : List (Addr × Obj)) (h' : Heap) (tk' : Nat), Fr h₀ L h' m → News h₀ L h' (tl ++ news) → Post r tl → Q r { s with heap := h', toks := tk' })
    (h : ∀ L' oL h₁, TI.Caller h₀ L m oL → TI.Frs [envX cn cs L a ccd cl] [(L, oL)] → (∀ p ∈ news, p.1 ≠ L) → Fr h₀ L' h₁ (mp rb) → News h₀ L' h₁ (news ++ [(L, oL)]) →
      wpC (model PG w) ((ktrTop dp un gd cn cs L a ccd cl []).deeper (envOf qual scope L' f cdv)) (execs body (envOf qual scope L' f cdv))
        (fun fl s' => Kept (CameT h₀ L L' oL { s with heap := h₁, toks := s.toks + binds.length } news Post fl s')) (fun _ _ => False)
        { s with heap := h₁, toks := s.toks + binds.length }) :
    wpC (model PG w) (ktrTop dp un gd cn cs L a ccd cl []) (call (.ref f) vs) Q E s := by
  refine wpC_call ?_
  have X := S.X.keeps S.F.keep
  refine hideG ?_
  intro Cg hCg
  obtain ⟨oL, es, ep, hL, hLd, hLk, hLf⟩ := S.F.ns
  refine hCg ?_
  clear hCg Cg
  have hLt := Heap.lt_size hL
  have hkind : (envX cn cs L a ccd cl).scope.kind ≠ .module := by
    show cs.kind ≠ .module
    rw [S.hk]; decide
  refine codeC_call_def (fd := fnOf name qual params body scope dV kV doc pm an cdv ct) (body := body) (binds := binds) hroom (X _ _ ho) rfl (S.T.nolimit.keeps S.F.keep) (codeRec_of X hcd) rfl hbind hcell hloc (fun h₁ hns hk₁ => ?_) hco hgen hk
  have C : TI.Caller h₀ L m oL := ⟨fun h' sl e => ⟨_, es, ep, e, hLd, hLk, hLf⟩, ⟨es, ep, hLd⟩, S.F.above⟩
  rw [lookup_mp, hrb] at hns
  refine wpC_mono (h s.heap.objs.size oL h₁ C ⟨hkind, rfl, ⟨es, ep, hLd⟩, trivial⟩ (fun p hp => (S.N p hp).2.1)
    ⟨hns, fun b o e => hk₁ b o (S.F.keep b o e), Nat.le_trans S.F.above (Nat.le_of_lt hLt)⟩ (fun p hp => ?_)) (fun fl s' c => ?_) fun _ _ x => x.elim
  · rcases List.mem_append.mp hp with hp | hp
    · obtain ⟨h1, h2, h3⟩ := S.N p hp
      exact ⟨hk₁ _ _ h1, Nat.ne_of_lt (Heap.lt_size h1), h3⟩
    · rcases List.mem_cons.mp hp with rfl | hp
      · exact ⟨hk₁ _ _ hL, Nat.ne_of_lt hLt, Heap.get?_none_of_le S.F.above⟩
      · exact nomatch hp
  · refine hideG ?_
    intro Cg hCg
    obtain ⟨v, tl, h', tk, m', sl, ev, rfl, F', N', hne, p⟩ := c
    refine hCg ?_
    clear hCg Cg
    dsimp only
    have hL' : h'.get? L = some { oL with slots := sl } := (N' _ (List.mem_append_right _ List.mem_cons_self)).1
    have key := hret v tl h' tk ⟨C.ns _ sl hL', F'.keep, C.above⟩ (fun q hq => ?_) p
    · cases fl <;> (dsimp only at ev ⊢; subst ev; exact key)
    obtain ⟨x1, _, x3⟩ := N' q (List.mem_append_left _ hq)
    refine ⟨x1, ?_, x3⟩
    rcases List.mem_append.mp hq with hq | hq
    · exact hne q hq
    · exact (S.N q hq).2.1
end
noncomputable abbrev CtrT (w : World) (mean : ExcName → Option Value) (mg mb : Str → Option Value) (f : Addr) (D U : Nat) (news : List (Addr × Obj)) (vs : List Value) (Post : Value → List (Addr × Obj) → Prop) : Prop :=
  ∀ (dp un : Nat) (gd : Option (List Code)) (cn : Str) (cs : Scope) (a : Addr) (ccd : Value) (cl : List (Str × Addr)) (A₀ : Around) (base h₀ : Heap) (L : Addr) (m : Str → Option Value) (s : Shared) (Q E : Value → Shared → Prop),
    Site w mean mg mb cs [] A₀ base h₀ L m s news → dp + D < recursionLimit → un + U < cLine →
    (∀ (r : Value) (tl : List (Addr × Obj)) (h' : Heap) (tk' : Nat), Fr h₀ L h' m → News h₀ L h' (tl ++ news) → Post r tl → Q r { s with heap := h', toks := tk' }) →
    wpC (model PG w) (ktrTop dp un gd cn cs L a ccd cl []) (call (.ref f) vs) Q E s
end Mine
end
section
open PySem PySem.W PyProof.Rows PySem.Spec PySem.Calls
namespace Mine
inductive PairsIn : List Expr → List (Str × Int) → Prop where
  | nil : PairsIn [] []
  | cons {x : Str} {n : Int} {k1 k2 k : Nat} {p1 p2 p : Pos} {es : List Expr} {ps : List (Str × Int)} : PairsIn es ps → PairsIn (.Tuple [.Constant (.str x) k1 p1, .Constant (.int n) k2 p2] k p :: es) ((x, n) :: ps)
noncomputable def pairO (x : Str) (t : Tok) (k : Int) (u : Tok) : Obj := { cls := .type "tuple", data := .seq #[.str x t, .int k u] }
noncomputable def PairsAre (vs : List Value) (ps : List (Str × Int)) (nx : List (Addr × Obj)) : Prop :=
  vs.length = ps.length ∧ ∀ (i : Nat) (p : Str × Int), ps[i]? = some p → ∃ T t u, vs[i]? = some (.ref T) ∧ (T, pairO p.1 t p.2 u) ∈ nx
variable {prog : Program} {w : World} {A : Around} {E : Value → Shared → Prop} {h₀ : Heap} {L : Addr} {m : Str → Option Value} {env : Env} {pos : Pos}
theorem two_fit {a b : Value} : [a, b].length ≤ sizeLine := by simp [sizeLine_eq]
theorem disp {es : List Expr} {ps : List (Str × Int)} (hp : PairsIn es ps) : ∀ {s : Shared} {nx : List (Addr × Obj)} {Q : List Value → Shared → Prop}, Fr h₀ L s.heap m → News h₀ L s.heap nx →
    (∀ vs h' tk' nx', Fr h₀ L h' m → News h₀ L h' nx' → (∀ p ∈ nx, p ∈ nx') → PairsAre vs ps nx' → Q vs { s with heap := h', toks := tk' }) →
    wpAny (model prog w) A (spliced (backTo pos (starEach es env))) Q E s := by
  induction hp with
  | nil => exact fun {s nx Q} F N k => args_nil (k [] s.heap s.toks nx F N (fun _ h => h) ⟨rfl, fun i p h => by cases h⟩)
  | cons hr ih =>
    intro s nx Q F N k
    refine args_cons (Tuple_ (args_cons (Constant_str (args_cons (wpAny_Constant_int (args_nil (kup_newTuple (news := nx) F N (fun D h' F' N' hD => ?_) two_fit)))))))
    refine ih F' N' fun vs h'' tk'' nx' F'' N'' hsub hP => ?_
    refine k (.ref D :: vs) h'' tk'' nx' F'' N'' (fun q hq => hsub q (.tail _ hq)) ⟨congrArg Nat.succ hP.1, fun i q hq => ?_⟩
    cases i with
    | zero =>
      cases hq
      exact ⟨D, _, _, rfl, hsub _ (.head _)⟩
    | succ i => exact hP.2 i q hq
end Mine
end
section
open PySem PySem.W PyProof.Rows PySem.Spec PySem.Calls
set_option maxRecDepth 100000
namespace Mine
noncomputable def nextL : List Nat → Option (List Nat × List Nat × List Nat)
  | [] => none
  | c :: r => if RE.isD c then some ([], c :: r.takeWhile RE.isD, r.dropWhile RE.isD) else if RE.isP c then some ([], [c], r) else (nextL r).map fun q => (c :: q.1, q.2.1, q.2.2)
noncomputable def piecesL : Nat → List Nat → List (List Nat)
  | 0, l => [l]
  | f + 1, l => match nextL l with
    | none => [l]
    | some (b, t, r) => b :: t :: piecesL f r
theorem nextL_eq : ∀ {l b t r : List Nat}, nextL l = some (b, t, r) → l = b ++ t ++ r ∧ t ≠ []
  | [], b, t, r, h => by cases h
  | c :: l, b, t, r, h => by
    unfold nextL at h
    split at h
    · cases h
      simp [List.takeWhile_append_dropWhile]
    · split at h
      · cases h; simp
      · cases hq : nextL l with
        | none => rw [hq] at h; cases h
        | some q =>
          obtain ⟨b', t', r'⟩ := q
          rw [hq] at h
          cases h
          obtain ⟨e, ne⟩ := nextL_eq hq
          exact ⟨by rw [e]; simp, ne⟩
theorem digs_take (T : Array Nat) : ∀ (n p : Nat), p + n = T.size → RE.digs T p n = ((T.toList.drop p).takeWhile RE.isD).length
  | 0, p, h => by
    have : T.toList.drop p = [] := by rw [List.drop_eq_nil_iff]; simp; (first | lia | omega)
    rw [this]; rfl
  | n + 1, p, h => by
    have hp : p < T.toList.length := by simp; (first | lia | omega)
    have e : T.toList.drop p = T.getD p 0 :: T.toList.drop (p + 1) := by
      rw [List.drop_eq_getElem_cons hp]
      congr 1
      simp [Array.getD, show p < T.size by (first | lia | omega)]
    unfold RE.digs
    rw [e, List.takeWhile_cons]
    cases hd : RE.isD (T.getD p 0) with
    | true => simp [digs_take T n (p + 1) (by (first | lia | omega))]
    | false => simp
theorem nextHit_list (T : Array Nat) : ∀ (k s : Nat), s + k = T.size → RE.nextHit T s k = (nextL (T.toList.drop s)).map fun q => (s + q.1.length, s + q.1.length + q.2.1.length)
  | 0, s, h => by
    have : T.toList.drop s = [] := by rw [List.drop_eq_nil_iff]; simp; (first | lia | omega)
    rw [this]; rfl
  | k + 1, s, h => by
    have hp : s < T.toList.length := by simp; (first | lia | omega)
    have e : T.toList.drop s = T.getD s 0 :: T.toList.drop (s + 1) := by
      rw [List.drop_eq_getElem_cons hp]
      congr 1
      simp [Array.getD, show s < T.size by (first | lia | omega)]
    have ed : RE.digs T s (T.size - s) = ((T.toList.drop s).takeWhile RE.isD).length := digs_take T (T.size - s) s (by (first | lia | omega))
    unfold RE.nextHit
    rw [ed, e]
    unfold nextL
    cases hd : RE.isD (T.getD s 0) with
    | true => rw [List.takeWhile_cons, hd]; simp
    | false =>
      cases hq : RE.isP (T.getD s 0) with
      | true => simp
      | false =>
        simp only [Bool.false_eq_true, if_false]
        rw [nextHit_list T k (s + 1) (by (first | lia | omega)), Option.map_map]
        congr 1
        funext q
        simp; (first | lia | omega)
theorem hits_list (T : Array Nat) : ∀ (f p : Nat), p ≤ T.size → T.size - p ≤ f → (RE.hits T f p).1 ++ [T.toList.drop (RE.hits T f p).2] = piecesL f (T.toList.drop p)
  | 0, p, h, hf => by
    unfold RE.hits piecesL
    simp
  | f + 1, p, h, hf => by
    unfold RE.hits piecesL
    rw [nextHit_list T (T.size - p) p (by (first | lia | omega))]
    cases hn : nextL (T.toList.drop p) with
    | none => simp
    | some q =>
      obtain ⟨b, t, r⟩ := q
      obtain ⟨e, ne⟩ := nextL_eq hn
      have hl : (T.toList.drop p).length = b.length + t.length + r.length := by rw [e]; simp; (first | lia | omega)
      have hl2 : (T.toList.drop p).length = T.size - p := by simp
      have ht : 0 < t.length := List.length_pos_iff.mpr ne
      simp only [Option.map_some]
      have ih := hits_list T f (p + b.length + t.length) (by (first | lia | omega)) (by (first | lia | omega))
      have er : T.toList.drop (p + b.length + t.length) = r := by
        rw [Nat.add_assoc, ← List.drop_drop, e, show b.length + t.length = (b ++ t).length by simp, List.drop_left]
      have e1 : RE.sub T p (p + b.length) = b := by
        unfold RE.sub
        rw [Array.toList_extract, List.extract_eq_take_drop, e]
        simp
      have e2 : RE.sub T (p + b.length) (p + b.length + t.length) = t := by
        unfold RE.sub
        rw [Array.toList_extract, List.extract_eq_take_drop, ← List.drop_drop, e]
        simp
      rw [er] at ih
      rw [e1, e2, ← ih]
      simp
theorem pieces_list (l : List Nat) : RE.pieces l = piecesL (2 * l.length + 3) l := by
  have := hits_list l.toArray (2 * l.length + 3) 0 (Nat.zero_le _) (by simp; (first | lia | omega))
  simpa [RE.pieces] using this
end Mine
end
section
open PySem PySem.W PyProof.Rows PySem.Spec PySem.Calls
open PySem.AutoSeq1 (wpAny_loadPart')
open PySem.SeqAt
open PySem.MeetsSeq3 (plain_eq_loop entry_eq_loop)
set_option maxRecDepth 100000
set_option maxHeartbeats 4000000
namespace Mine
noncomputable def itLt : It → It → Bool
  | .i a, .i b => decide (a < b)
  | .s a, .s b => decide (a < b)
  | _, _ => false
noncomputable def kind : It → It → Bool
  | .i _, .i _ => true
  | .s _, .s _ => true
  | _, _ => false
noncomputable def ltI : List It → List It → Bool
  | [], [] => false
  | [], _ :: _ => true
  | _ :: _, [] => false
  | x :: xs, y :: ys => if x = y then ltI xs ys else itLt x y
noncomputable def Comp : List It → List It → Bool
  | x :: xs, y :: ys => if x = y then Comp xs ys else kind x y
  | _, _ => true
noncomputable def opLt (g : Bool) : CmpOp := if g then .Gt else .Lt
noncomputable def resLt (g : Bool) (xs ys : List It) : Bool := if g then ltI ys xs else ltI xs ys
theorem ltI_nil (ys : List It) : ltI [] ys = decide (0 < ys.length) := by cases ys <;> rfl
section
variable {A : Around} {s : Shared}
noncomputable def CmpAt (A : Around) (s : Shared) (op : CmpOp) (x y : Value) (c : Bool) : Prop :=
  ∀ (prog : Program) (w : World) (E : Value → Shared → Prop) (Q : Value → Shared → Prop), Q (.bool c) s → wpAny (model prog w) A (richCompare op x y) Q E s
theorem cmp_it {v u : Value} {x y : It} (hv : ItIs v x) (hu : ItIs u y) (hk : kind x y = true) (g : Bool) : CmpAt A s (opLt g) v u (if g then itLt y x else itLt x y) := by
  intro prog w E Q hq
  cases hv with
  | i n t => cases hu with
    | i n' t' => cases g with
      | false => exact lt_int (prog := prog) (w := w) (A := A) (E := E) (s := s) hq
      | true => exact gt_int (prog := prog) (w := w) (A := A) (E := E) (s := s) hq
    | s _ _ => cases hk
  | s n t => cases hu with
    | i _ _ => cases hk
    | s n' t' => cases g with
      | false => exact PyProof.Rows.lt_str (prog := prog) (w := w) (A := A) (E := E) (s := s) (x := ofL n) (y := ofL n') (by simpa [ofL_cps, itLt] using hq)
      | true => exact PySem.P.gt_str (prog := prog) (w := w) (A := A) (E := E) (s := s) (x := ofL n) (y := ofL n') (by simpa [ofL_cps, itLt] using hq)
theorem eq_it {v u : Value} {x y : It} (hv : ItIs v x) (hu : ItIs u y) (hk : kind x y = true) : EqAt A s v u (decide (x = y)) := by
  cases hv with
  | i n t => cases hu with
    | i n' t' =>
      have := EqAt.int_int (A := A) (s := s) n t n' t'
      have e : decide (It.i n = It.i n') = (n == n') := by simp; rfl
      rw [e]; exact this
    | s _ _ => cases hk
  | s n t => cases hu with
    | i _ _ => cases hk
    | s n' t' =>
      have := EqAt.str_str (A := A) (s := s) (ofL n) t (ofL n') t'
      have e : decide (It.s n = It.s n') = (ofL n == ofL n') := by
        by_cases h : n = n'
        · subst h; simp
        · have : ofL n ≠ ofL n' := fun q => h (ofL_inj q)
          simp [h, this]
      rw [e]; exact this
end
theorem item_step {vs : List Value} {xs : List It} (h : ItsAre vs xs) {i : Nat} (hi : i < vs.length) : ∃ v x, vs[i]? = some v ∧ xs[i]? = some x ∧ ItIs v x ∧ xs.drop i = x :: xs.drop (i + 1) := by
  obtain ⟨x, hx, hv⟩ := h.at (List.getElem?_eq_getElem hi)
  refine ⟨_, x, List.getElem?_eq_getElem hi, hx, hv, ?_⟩
  obtain ⟨h1, h2⟩ := List.getElem?_eq_some_iff.mp hx
  rw [List.drop_eq_getElem_cons h1, h2]
theorem resLt_nil_l (gt : Bool) (ys : List It) : resLt gt [] ys = if gt then false else decide (0 < ys.length) := by
  cases gt <;> cases ys <;> rfl
theorem resLt_nil_r (gt : Bool) (xs : List It) : resLt gt xs [] = if gt then decide (0 < xs.length) else false := by
  cases gt <;> cases xs <;> rfl
theorem resLt_eq (gt : Bool) (x : It) (xs ys : List It) : resLt gt (x :: xs) (x :: ys) = resLt gt xs ys := by
  cases gt <;> simp [resLt, ltI]
theorem resLt_ne (gt : Bool) {x y : It} (h : x ≠ y) (xs ys : List It) : resLt gt (x :: xs) (y :: ys) = if gt then itLt y x else itLt x y := by
  cases gt <;> simp [resLt, ltI, h, Ne.symm h]
theorem ord_loop (gt : Bool) (l b : Addr) (vs us : List Value) (xs ys : List It) (n n2 : Nat) (hv : ItsAre vs xs) (hu : ItsAre us ys) (k : Nat) :
    ∀ i : Nat, vs.length - i = k → i ≤ vs.length → i ≤ us.length → Comp (xs.drop i) (ys.drop i) = true → Meets (Builtin.«list.__eq__.loop» ⟨[.ref l, .ref b, rawInt i, rawInt (if gt then 4 else 0)], []⟩)
      (fun _ R s => s.heap.get? l = some { cls := .type "list", dict := none, data := .seq vs.toArray n, slots := #[] } ∧ s.heap.get? b = some { cls := .type "list", dict := none, data := .seq us.toArray n2, slots := #[] } ∧
        R (.ok (.ret (.bool (resLt gt (xs.drop i) (ys.drop i))))) s) := by
  induction k with
  | zero =>
    intro i hk hi hi' hC prog w A R s h
    obtain ⟨hp, g, d, tk, os⟩ := s; obtain ⟨hl, hb, h⟩ := h
    have hi1 : vs.toArray[((i : Nat) : Int).toNat]? = none := by simp; omega
    have hd : xs.drop i = [] := by rw [List.drop_eq_nil_iff, ← hv.length]; omega
    have hyl : (ys.drop i).length = us.length - vs.length := by rw [List.length_drop, ← hu.length]; omega
    rw [hd, resLt_nil_l, hyl] at h
    cases gt with
    | false =>
      wp_walk using wpAny_loadPart' hl, wpAny_loadPart' hb
      rw [hi1]
      wp_walk using wpAny_loadPart' hl, wpAny_loadPart' hb
      show R (.ok (.ret (.bool (decide (vs.toArray.size < us.toArray.size))))) _
      have e : decide (vs.toArray.size < us.toArray.size) = decide (0 < us.length - vs.length) := by simp; omega
      rw [e]
      simpa using h
    | true =>
      wp_walk using wpAny_loadPart' hl, wpAny_loadPart' hb
      rw [hi1]
      wp_walk using wpAny_loadPart' hl, wpAny_loadPart' hb
      show R (.ok (.ret (.bool (decide (vs.toArray.size > us.toArray.size))))) _
      have e : decide (vs.toArray.size > us.toArray.size) = false := by simp; omega
      rw [e]
      simpa using h
  | succ k ih =>
    intro i hk hi hi' hC prog w A R s h
    obtain ⟨hp, g, d, tk, os⟩ := s; obtain ⟨hl, hb, h⟩ := h
    have hlt : i < vs.length := by omega
    obtain ⟨v, x, hvi, hxi, hvx, hxd⟩ := item_step hv hlt
    have hi1 : vs.toArray[((i : Nat) : Int).toNat]? = some v := by simpa using hvi
    by_cases hlt2 : i < us.length
    · obtain ⟨u, y, hui, hyi, huy, hyd⟩ := item_step hu hlt2
      have hi2 : us.toArray[((i : Nat) : Int).toNat]? = some u := by simpa using hui
      rw [hxd, hyd] at hC h
      have hkd : kind x y = true := by
        unfold Comp at hC
        by_cases e : x = y
        · subst e; cases x <;> rfl
        · rw [if_neg e] at hC; exact hC
      have hc : ((i : Int) + 1) = ((i + 1 : Nat) : Int) := by push_cast; rfl
      by_cases e : x = y
      · subst e
        rw [resLt_eq] at h
        have hC' : Comp (xs.drop (i + 1)) (ys.drop (i + 1)) = true := by
          unfold Comp at hC
          rw [if_pos rfl] at hC
          exact hC
        have he : EqAt A.in1 ⟨hp, g, d, tk, os⟩ v u true := by
          have := eq_it (A := A.in1) (s := ⟨hp, g, d, tk, os⟩) hvx huy hkd
          simpa using this
        have go : codeAny (model prog w) A (.builtin "list.__eq__.loop" ⟨[.ref l, .ref b, rawInt (((i + 1 : Nat) : Int)), rawInt (if gt then 4 else 0)], []⟩) R ⟨hp, g, d, tk, os⟩ :=
          codeAny_builtin entry_eq_loop (by
            rw [Around.under_plainId plain_eq_loop _]
            exact ih (i + 1) (by omega) (by omega) (by omega) hC' prog w A R _ ⟨hl, hb, h⟩)
        cases gt with
        | false =>
          wp_walk using wpAny_loadPart' hl, wpAny_loadPart' hb
          rw [hi1, hi2]
          refine wpAny_bind (he prog w _ _ ?_)
          wp_walk
          rw [hc]
          exact ⟨plainId_quiet plain_eq_loop _, go⟩
        | true =>
          wp_walk using wpAny_loadPart' hl, wpAny_loadPart' hb
          rw [hi1, hi2]
          refine wpAny_bind (he prog w _ _ ?_)
          wp_walk
          rw [hc]
          exact ⟨plainId_quiet plain_eq_loop _, go⟩
      · rw [resLt_ne gt e] at h
        have he : EqAt A.in1 ⟨hp, g, d, tk, os⟩ v u false := by
          have := eq_it (A := A.in1) (s := ⟨hp, g, d, tk, os⟩) hvx huy hkd
          simpa [e] using this
        have hcm := cmp_it (A := A.in1) (s := ⟨hp, g, d, tk, os⟩) hvx huy hkd gt
        cases gt with
        | false =>
          wp_walk using wpAny_loadPart' hl, wpAny_loadPart' hb
          rw [hi1, hi2]
          refine wpAny_bind (he prog w _ _ ?_)
          wp_walk using wpAny_loadPart' hl, wpAny_loadPart' hb
          rw [hi1, hi2]
          refine wpAny_bind (hcm prog w _ _ ?_)
          wp_walk
          exact h
        | true =>
          wp_walk using wpAny_loadPart' hl, wpAny_loadPart' hb
          rw [hi1, hi2]
          refine wpAny_bind (he prog w _ _ ?_)
          wp_walk using wpAny_loadPart' hl, wpAny_loadPart' hb
          rw [hi1, hi2]
          refine wpAny_bind (hcm prog w _ _ ?_)
          wp_walk
          exact h
    · have hi2 : us.toArray[((i : Nat) : Int).toNat]? = none := by simp; omega
      have hd : ys.drop i = [] := by rw [List.drop_eq_nil_iff, ← hu.length]; omega
      have hxl : (xs.drop i).length = vs.length - us.length := by rw [List.length_drop, ← hv.length]; omega
      rw [hd, resLt_nil_r, hxl] at h
      cases gt with
      | false =>
        wp_walk using wpAny_loadPart' hl, wpAny_loadPart' hb
        rw [hi1, hi2]
        wp_walk using wpAny_loadPart' hl, wpAny_loadPart' hb
        show R (.ok (.ret (.bool (decide (vs.toArray.size < us.toArray.size))))) _
        have e : decide (vs.toArray.size < us.toArray.size) = false := by simp; omega
        rw [e]
        simpa using h
      | true =>
        wp_walk using wpAny_loadPart' hl, wpAny_loadPart' hb
        rw [hi1, hi2]
        wp_walk using wpAny_loadPart' hl, wpAny_loadPart' hb
        show R (.ok (.ret (.bool (decide (vs.toArray.size > us.toArray.size))))) _
        have e : decide (vs.toArray.size > us.toArray.size) = decide (0 < vs.length - us.length) := by simp; omega
        rw [e]
        simpa using h
theorem list_ord (gt : Bool) (l b : Addr) (vs us : List Value) (xs ys : List It) (n n2 : Nat) (hv : ItsAre vs xs) (hu : ItsAre us ys) (hC : Comp xs ys = true) :
    Meets ((if gt then Builtin.«list.__gt__» else Builtin.«list.__lt__») ⟨[.ref l, .ref b], []⟩)
      (fun _ R s => s.heap.get? l = some { cls := .type "list", dict := none, data := .seq vs.toArray n, slots := #[] } ∧ s.heap.get? b = some { cls := .type "list", dict := none, data := .seq us.toArray n2, slots := #[] } ∧
        R (.ok (.ret (.bool (resLt gt xs ys)))) s) := by
  intro prog w A R s h
  obtain ⟨hp, g, d, tk, os⟩ := s; obtain ⟨hl, hb, h⟩ := h
  have f3 := AutoSeq1.sub_list_list
  have go := ord_loop gt l b vs us xs ys n n2 hv hu (vs.length - 0) 0 rfl (Nat.zero_le _) (Nat.zero_le _) (by simpa using hC) prog w A R ⟨hp, g, d, tk, os⟩ ⟨hl, hb, by simpa using h⟩
  have go : codeAny (model prog w) A (.builtin "list.__eq__.loop" ⟨[.ref l, .ref b, rawInt (((0 : Nat) : Int)), rawInt (if gt then 4 else 0)], []⟩) R ⟨hp, g, d, tk, os⟩ :=
    codeAny_builtin entry_eq_loop (by rw [Around.under_plainId plain_eq_loop _]; exact go)
  cases gt with
  | false =>
    simp only [Bool.false_eq_true, if_false]
    wp_walk using wpAny_loadPart' hl, wpAny_loadPart' hb
    exact ⟨plainId_quiet plain_eq_loop _, go⟩
  | true =>
    simp only [if_true]
    wp_walk using wpAny_loadPart' hl, wpAny_loadPart' hb
    exact ⟨plainId_quiet plain_eq_loop _, go⟩
section
variable {prog : Program} {w : World} {A : Around} {E : Value → Shared → Prop} {s : Shared} {h₀ : Heap} {L : Addr} {news : List (Addr × Obj)} {Q : Value → Shared → Prop}
theorem rich_ord (gt : Bool) {l b : Addr} {vs us : List Value} {xs ys : List It} {n n2 : Nat} (N : News h₀ L s.heap news) (hl : (l, W.listOf vs.toArray n) ∈ news) (hb : (b, W.listOf us.toArray n2) ∈ news) (hv : ItsAre vs xs) (hu : ItsAre us ys) (hC : Comp xs ys = true)
    (hun : A.units < cLine) (h : Q (.bool (resLt gt xs ys)) s) : wpAny (model prog w) A (richCompare (opLt gt) (.ref l) (.ref b)) Q E s := by
  have a1 := (N _ hl).1
  have a2 := (N _ hb).1
  have g := list_ord gt l b vs us xs ys n n2 hv hu hC
  cases gt with
  | false => exact richCompare_meets_room (op := .Lt) ⟨_, a1, rfl⟩ ⟨_, a2, rfl⟩ PySem.F.slot_list_lt PySem.F.entry_list_lt (PySem.F.args_list_lt_2 _ _) g ⟨a1, a2, by simp [wants]; exact h⟩ hun
  | true => exact richCompare_meets_room (op := .Gt) ⟨_, a1, rfl⟩ ⟨_, a2, rfl⟩ PySem.F.slot_list_gt PySem.F.entry_list_gt (PySem.F.args_list_gt_2 _ _) g ⟨a1, a2, by simp [wants]; exact h⟩ hun
end
end Mine
end
section
open PySem PySem.W PyProof.Rows PySem.Spec PySem.Calls
open PySem.AutoSeq1 (wpAny_loadPart')
open PySem.SeqAt
open PySem.MeetsSeq3 (plain_eq_loop entry_eq_loop)
set_option maxRecDepth 100000
set_option maxHeartbeats 4000000
namespace Mine
section
variable {A : Around} {s : Shared}
theorem eq_it2 {v u : Value} {x y : It} (hv : ItIs v x) (hu : ItIs u y) : EqAt A s v u (decide (x = y)) := by
  cases hv with
  | i n t => cases hu with
    | i n' t' => exact eq_it (.i n t) (.i n' t') rfl
    | s n' t' =>
      have : decide (It.i n = It.s n') = false := by simp
      rw [this]
      exact EqAt.int_str _ _ _ _
  | s n t => cases hu with
    | i n' t' =>
      have : decide (It.s n = It.i n') = false := by simp
      rw [this]
      exact EqAt.str_int _ _ _ _
    | s n' t' => exact eq_it (.s n t) (.s n' t') rfl
theorem eq_its {l b : Addr} {vs us : List Value} {xs ys : List It} (hl : s.heap.IsList l vs.toArray) (hb : s.heap.IsList b us.toArray) (hv : ItsAre vs xs) (hu : ItsAre us ys) (hun : A.units < cLine) (hne : l ≠ b) : EqAt A s (.ref l) (.ref b) (decide (xs = ys)) := by
  refine EqAt.of_refs hne ?_
  by_cases hlen : xs.length = ys.length
  · have e : decide (xs = ys) = (List.range vs.toArray.size).all fun k => decide (xs[k]? = ys[k]?) := by
      have hsz : vs.toArray.size = xs.length := by simp [hv.length]
      rw [hsz]
      by_cases h : xs = ys
      · subst h
        simp
      · rw [decide_eq_false h]
        symm
        rw [Bool.eq_false_iff]
        intro q
        refine h (List.ext_getElem? fun k => ?_)
        by_cases hk : k < xs.length
        · have := List.all_eq_true.mp q k (List.mem_range.mpr hk)
          simpa using this
        · rw [List.getElem?_eq_none (by (first | lia | omega)), List.getElem?_eq_none (by (first | lia | omega))]
    rw [e]
    refine RcAt.lists hl hb (by simp [hv.length, hu.length, hlen]) hun fun j h1 h2 => ?_
    have h1' : j < vs.length := by simpa using h1
    have h2' : j < us.length := by simpa using h2
    obtain ⟨x, hx, ix⟩ := hv.at (List.getElem?_eq_getElem h1')
    obtain ⟨y, hy, iy⟩ := hu.at (List.getElem?_eq_getElem h2')
    have e2 : decide (xs[j]? = ys[j]?) = decide (x = y) := by rw [hx, hy]; simp
    rw [e2]
    simpa using eq_it2 (A := A.in1) (s := s) ix iy
  · have e : decide (xs = ys) = false := decide_eq_false fun q => hlen (by rw [q])
    rw [e]
    refine RcAt.lists_lengths hl hb ?_ hun
    simp [hv.length, hu.length, hlen]
end
noncomputable abbrev pairObj (R : Addr) (i : Int) (t : Tok) (c : Nat) : Obj := W.listOf (List.toArray [.ref R, .int i t]) c
noncomputable def pairLt (xs ys : List It) (i j : Int) : Bool := if xs = ys then decide (i < j) else ltI xs ys
theorem pair_ord (l b R1 R2 : Addr) (V U : Array Value) (vs us : List Value) (xs ys : List It) (i j : Int) (ti tj : Tok) (n n2 c1 c2 : Nat) (hV : V = #[.ref R1, .int i ti]) (hU : U = #[.ref R2, .int j tj]) (hv : ItsAre vs xs) (hu : ItsAre us ys) (hC : Comp xs ys = true) (hR : R1 ≠ R2) (hij : i ≠ j) :
    Meets (Builtin.«list.__lt__» ⟨[.ref l, .ref b], []⟩)
      (fun A Rr s => A.units + 8 < cLine ∧ s.heap.get? l = some { cls := .type "list", dict := none, data := .seq V n, slots := #[] } ∧ s.heap.get? b = some { cls := .type "list", dict := none, data := .seq U n2, slots := #[] } ∧
        s.heap.get? R1 = some { cls := .type "list", dict := none, data := .seq vs.toArray c1, slots := #[] } ∧ s.heap.get? R2 = some { cls := .type "list", dict := none, data := .seq us.toArray c2, slots := #[] } ∧
        Rr (.ok (.ret (.bool (pairLt xs ys i j)))) s) := by
  intro prog w A R s h
  refine hideG ?_
  intro Cg hCg
  obtain ⟨hp, g, d, tk, os⟩ := s; obtain ⟨hun, hl, hb, h1, h2, h⟩ := h
  refine hCg ?_
  clear hCg Cg
  have f3 := AutoSeq1.sub_list_list
  have hV0 : V[Int.toNat 0]? = some (.ref R1) := by subst hV; rfl
  have hU0 : U[Int.toNat 0]? = some (.ref R2) := by subst hU; rfl
  have hV1 : V[Int.toNat 1]? = some (.int i ti) := by subst hV; rfl
  have hU1 : U[Int.toNat 1]? = some (.int j tj) := by subst hU; rfl
  have he1 : EqAt A.in1 ⟨hp, g, d, tk, os⟩ (.ref R1) (.ref R2) (decide (xs = ys)) := eq_its (A := A.in1) (s := ⟨hp, g, d, tk, os⟩) ⟨_, h1, rfl, c1, rfl⟩ ⟨_, h2, rfl, c2, rfl⟩ hv hu (by show A.units + 1 < cLine; (first | lia | omega)) hR
  have he2 : EqAt A.in1 ⟨hp, g, d, tk, os⟩ (.int i ti) (.int j tj) false := by
    have := EqAt.int_int (A := A.in1) (s := ⟨hp, g, d, tk, os⟩) i ti j tj
    have e : (i == j) = false := by simpa using hij
    rwa [e] at this
  clear hV hU
  by_cases e : xs = ys
  · rw [decide_eq_true e] at he1
    unfold pairLt at h
    rw [if_pos e] at h
    have go1 : codeAny (model prog w) A (.builtin "list.__eq__.loop" ⟨[.ref l, .ref b, rawInt 1, rawInt 0], []⟩) R ⟨hp, g, d, tk, os⟩ := by
      refine codeAny_builtin entry_eq_loop ?_
      rw [Around.under_plainId plain_eq_loop _]
      wp_walk using wpAny_loadPart' hl, wpAny_loadPart' hb
      rw [hV1, hU1]
      refine wpAny_bind (he2 prog w _ _ ?_)
      wp_walk using wpAny_loadPart' hl, wpAny_loadPart' hb
      rw [hV1, hU1]
      refine wpAny_bind (lt_int ?_)
      wp_walk
      exact h
    have go : codeAny (model prog w) A (.builtin "list.__eq__.loop" ⟨[.ref l, .ref b, rawInt 0, rawInt 0], []⟩) R ⟨hp, g, d, tk, os⟩ := by
      refine codeAny_builtin entry_eq_loop ?_
      rw [Around.under_plainId plain_eq_loop _]
      wp_walk using wpAny_loadPart' hl, wpAny_loadPart' hb
      rw [hV0, hU0]
      refine wpAny_bind (he1 prog w _ _ ?_)
      wp_walk
      exact ⟨plainId_quiet plain_eq_loop _, go1⟩
    wp_walk using wpAny_loadPart' hl, wpAny_loadPart' hb
    exact ⟨plainId_quiet plain_eq_loop _, go⟩
  · rw [decide_eq_false e] at he1
    unfold pairLt at h
    rw [if_neg e] at h
    have go : codeAny (model prog w) A (.builtin "list.__eq__.loop" ⟨[.ref l, .ref b, rawInt 0, rawInt 0], []⟩) R ⟨hp, g, d, tk, os⟩ := by
      refine codeAny_builtin entry_eq_loop ?_
      rw [Around.under_plainId plain_eq_loop _]
      wp_walk using wpAny_loadPart' hl, wpAny_loadPart' hb
      rw [hV0, hU0]
      refine wpAny_bind (he1 prog w _ _ ?_)
      wp_walk using wpAny_loadPart' hl, wpAny_loadPart' hb
      rw [hV0, hU0]
      have q := list_ord false R1 R2 vs us xs ys c1 c2 hv hu hC
      refine wpAny_bind (richCompare_meets_room (op := .Lt) ⟨_, h1, rfl⟩ ⟨_, h2, rfl⟩ PySem.F.slot_list_lt PySem.F.entry_list_lt (PySem.F.args_list_lt_2 _ _) q ⟨h1, h2, ?_⟩ (by show A.units + 1 < cLine; (first | lia | omega)))
      refine ⟨by simp, ?_⟩
      wp_walk
      exact h
    wp_walk using wpAny_loadPart' hl, wpAny_loadPart' hb
    exact ⟨plainId_quiet plain_eq_loop _, go⟩
section
variable {prog : Program} {w : World} {A : Around} {E : Value → Shared → Prop} {s : Shared} {h₀ : Heap} {L : Addr} {news : List (Addr × Obj)} {Q : Bool → Shared → Prop}
theorem pair_lt {l b R1 R2 : Addr} {vs us : List Value} {xs ys : List It} {i j : Int} {ti tj : Tok} {n n2 c1 c2 : Nat} (N : News h₀ L s.heap news) (hl : (l, pairObj R1 i ti n) ∈ news) (hb : (b, pairObj R2 j tj n2) ∈ news)
    (h1 : (R1, W.listOf vs.toArray c1) ∈ news) (h2 : (R2, W.listOf us.toArray c2) ∈ news) (hv : ItsAre vs xs) (hu : ItsAre us ys) (hC : Comp xs ys = true) (hR : R1 ≠ R2) (hij : i ≠ j)
    (hun : A.units + 8 < cLine) (h : Q (pairLt xs ys i j) s) : wpAny (model prog w) A (keyLt' oneType' (.ref l) (.ref b)) Q E s := by
  rw [keyLt'_oneType, oneLt'_eq]
  simp only [if_true]
  refine wpAny_bind (wpAny_cRoomFor (by (first | lia | omega)) ?_)
  have g := pair_ord l b R1 R2 _ _ vs us xs ys i j ti tj n n2 c1 c2 rfl rfl hv hu hC hR hij
  refine wpAny_bind (wpAny_callSpecialIfBound?_slot (name := Str.ofString "__lt__") ⟨_, (N _ hl).1, rfl⟩ PySem.F.slot_list_lt (call_meets PySem.F.slot_list_lt ⟨_, (N _ hl).1, rfl⟩ PySem.F.entry_list_lt (PySem.F.args_list_lt_2 _ _) g ⟨hun, (N _ hl).1, (N _ hb).1, (N _ h1).1, (N _ h2).1, ?_⟩))
  exact wpAny_truthy_bool h
end
end Mine
end
section
open PySem PySem.W PyProof.Rows PySem.Spec PySem.Calls
set_option maxRecDepth 100000
namespace Mine
noncomputable def goI : Int → Int → Int → List Int → List Int → Int × Int × Int × List Int
  | d, r, mn, c :: cs, x :: xs =>
    let v := min (min r x + 2) (d + c)
    let t := goI x v (if v < mn then v else mn) cs xs
    (t.1, t.2.1, t.2.2.1, v :: t.2.2.2)
  | d, r, mn, _, _ => (d, r, mn, [])
theorem inner_go (a : List Nat) (bc : Nat) : ∀ (k i : Nat) (d r mn : Int) (pre xs : List Int), i + k = a.length → pre.length = i → xs.length = k →
    (List.range' i k).foldl (inStep a bc) (d, r, mn, pre ++ xs) = (let t := goI d r mn ((a.drop i).map (cost bc)) xs; (t.1, t.2.1, t.2.2.1, pre ++ t.2.2.2))
  | 0, i, d, r, mn, pre, xs, h, hp, hx => by
    have : xs = [] := List.length_eq_zero_iff.mp hx
    subst this
    have hd : a.drop i = [] := by rw [List.drop_eq_nil_iff]; (first | lia | omega)
    rw [hd]
    rfl
  | k + 1, i, d, r, mn, pre, xs, h, hp, hx => by
    cases xs with
    | nil => simp at hx
    | cons x xs =>
      have hi : i < a.length := by (first | lia | omega)
      have ha : a.drop i = a.getD i 0 :: a.drop (i + 1) := by
        rw [List.drop_eq_getElem_cons hi]
        simp [List.getD_eq_getElem?_getD, hi]
      have hg : (pre ++ x :: xs).getD i 0 = x := by
        simp [List.getD_eq_getElem?_getD, ← hp]
      have hs : ∀ v, (pre ++ x :: xs).set i v = (pre ++ [v]) ++ xs := by
        intro v
        rw [← hp]
        simp
      rw [List.range'_succ, List.foldl_cons]
      have e : inStep a bc (d, r, mn, pre ++ x :: xs) i = (x, min (min r x + 2) (d + cost bc (a.getD i 0)), (if min (min r x + 2) (d + cost bc (a.getD i 0)) < mn then min (min r x + 2) (d + cost bc (a.getD i 0)) else mn), (pre ++ [min (min r x + 2) (d + cost bc (a.getD i 0))]) ++ xs) := by
        unfold inStep
        simp only [hg, hs]
      rw [e, inner_go a bc k (i + 1) _ _ _ _ xs (by (first | lia | omega)) (by simp [hp]) (by simpa using hx), ha]
      simp only [List.map_cons, goI]
      simp
theorem inner_eq (a : List Nat) (bc j : Nat) (row : List Int) (h : row.length = a.length) : inner a bc j row = goI ((j : Int) * 2) ((j : Int) * 2) 9223372036854775807 (a.map (cost bc)) row := by
  unfold inner
  have := inner_go a bc a.length 0 ((j : Int) * 2) ((j : Int) * 2) 9223372036854775807 [] row (by (first | lia | omega)) rfl h
  rw [List.range_eq_range']
  simpa using this
noncomputable def goN : Nat → Nat → List Nat → List Nat → List Nat
  | p, q, c :: cs, w :: ws =>
    let v := max (p - 2) (max w (q + 2 - c))
    v :: goN v w cs ws
  | _, _, _, _ => []
noncomputable def rowN (n : Nat) (ws : List Nat) : List Int := ws.map fun (w : Nat) => 2 * (n : Int) + 12 - (w : Int)
noncomputable def mnI (mn : Int) (l : List Int) : Int := l.foldl (fun m v => if v < m then v else m) mn
noncomputable def lastN (p : Nat) : List Nat → Nat
  | [] => p
  | v :: l => lastN v l
theorem sub_max (B : Int) (x y : Nat) : min (B - (x : Int)) (B - (y : Int)) = B - ((max x y : Nat) : Int) := by
  rcases Nat.le_total x y with h | h
  · rw [Nat.max_eq_right h, Int.min_eq_right (Int.sub_le_sub_left (Int.ofNat_le.mpr h) B)]
  · rw [Nat.max_eq_left h, Int.min_eq_left (Int.sub_le_sub_left (Int.ofNat_le.mpr h) B)]
theorem add_min (a b c : Int) : min a b + c = min (a + c) (b + c) := by
  rcases Int.le_total a b with h | h
  · rw [Int.min_eq_left h, Int.min_eq_left (Int.add_le_add_right h c)]
  · rw [Int.min_eq_right h, Int.min_eq_right (Int.add_le_add_right h c)]
theorem step_max (A : Int) {p q c w : Nat} (hp : 2 ≤ p) (hc : c ≤ 2) : min (min (A + 2 - p) (A - w) + 2) (A - q + c) = A + 2 - ((max (p - 2) (max w (q + 2 - c)) : Nat) : Int) := by
  have e1 : A + 2 - (p : Int) + 2 = A + 2 - ((p - 2 : Nat) : Int) := by omega
  have e2 : A - (w : Int) + 2 = A + 2 - (w : Int) := by omega
  have e3 : A - (q : Int) + (c : Int) = A + 2 - ((q + 2 - c : Nat) : Int) := by omega
  rw [add_min, e1, e2, e3, sub_max, sub_max, Nat.max_assoc]
theorem goI_N (n : Nat) : ∀ (cs ws : List Nat) (p q : Nat) (mn : Int), cs.length = ws.length → 2 ≤ p → (∀ c ∈ cs, c ≤ 2) → (∀ w ∈ ws, 2 ≤ w) →
    (goI (2 * (n : Int) + 12 - q) (2 * ((n : Int) + 1) + 12 - p) mn (cs.map fun (c : Nat) => (c : Int)) (rowN n ws)).2.2.2 = rowN (n + 1) (goN p q cs ws) ∧
    (goI (2 * (n : Int) + 12 - q) (2 * ((n : Int) + 1) + 12 - p) mn (cs.map fun (c : Nat) => (c : Int)) (rowN n ws)).2.1 = 2 * ((n : Int) + 1) + 12 - (lastN p (goN p q cs ws) : Nat) ∧
    (goI (2 * (n : Int) + 12 - q) (2 * ((n : Int) + 1) + 12 - p) mn (cs.map fun (c : Nat) => (c : Int)) (rowN n ws)).2.2.1 = mnI mn (rowN (n + 1) (goN p q cs ws))
  | [], [], p, q, mn, _, _, _, _ => ⟨rfl, rfl, rfl⟩
  | [], _ :: _, _, _, _, h, _, _, _ => by simp at h
  | _ :: _, [], _, _, _, h, _, _, _ => by simp at h
  | c :: cs, w :: ws, p, q, mn, h, hp, hc, hw => by
    have hc2 : c ≤ 2 := hc c (.head _)
    have hw2 : 2 ≤ w := hw w (.head _)
    have ev : min (min (2 * ((n : Int) + 1) + 12 - p) (2 * (n : Int) + 12 - w) + 2) (2 * (n : Int) + 12 - q + c) = 2 * ((n : Int) + 1) + 12 - ((max (p - 2) (max w (q + 2 - c)) : Nat) : Int) := by
      have e := step_max (2 * (n : Int) + 12) (q := q) (w := w) hp hc2
      rw [show 2 * (n : Int) + 12 + 2 = 2 * ((n : Int) + 1) + 12 by omega] at e
      exact e
    have ih := goI_N n cs ws (max (p - 2) (max w (q + 2 - c))) w (if 2 * ((n : Int) + 1) + 12 - ((max (p - 2) (max w (q + 2 - c)) : Nat) : Int) < mn then 2 * ((n : Int) + 1) + 12 - ((max (p - 2) (max w (q + 2 - c)) : Nat) : Int) else mn) (by simpa using h) (by (first | lia | omega)) (fun c h => hc c (.tail _ h)) (fun w h => hw w (.tail _ h))
    have er : rowN n (w :: ws) = (2 * (n : Int) + 12 - (w : Int)) :: rowN n ws := rfl
    have e2 : ∀ l v, rowN (n + 1) (v :: l) = (2 * ((n : Int) + 1) + 12 - (v : Int)) :: rowN (n + 1) l := by
      intro l v
      unfold rowN
      simp
    rw [er]
    simp only [List.map_cons, goI, goN, lastN, e2, ev]
    exact ⟨by rw [ih.1], ih.2.1, ih.2.2⟩
theorem mnI_le : ∀ (l : List Int) (mn : Int), mnI mn l ≤ mn ∧ ∀ v ∈ l, mnI mn l ≤ v
  | [], mn => ⟨Int.le_refl _, fun _ h => nomatch h⟩
  | x :: l, mn => by
    have he : (if x < mn then x else mn) ≤ mn ∧ (if x < mn then x else mn) ≤ x := by split <;> (first | lia | omega)
    have e : mnI mn (x :: l) = mnI (if x < mn then x else mn) l := rfl
    obtain ⟨h1, h2⟩ := mnI_le l (if x < mn then x else mn)
    rw [e]
    refine ⟨by (first | lia | omega), fun v hv => ?_⟩
    rcases List.mem_cons.mp hv with rfl | hv
    · (first | lia | omega)
    · exact h2 v hv
theorem outer_up {a : List Nat} {mc mc' : Int} (hm : mc ≤ mc') : ∀ (bs : List Nat) (j : Nat) (row : List Int) (res : Int), outer a mc bs j row res ≤ mc → outer a mc' bs j row res = outer a mc bs j row res
  | [], _, _, _, _ => rfl
  | b :: bs, j, row, res, h => by
    unfold outer at h ⊢
    simp only at h ⊢
    by_cases e : (inner a b j row).2.2.1 > mc
    · rw [if_pos e] at h; (first | lia | omega)
    · rw [if_neg e] at h ⊢
      rw [if_neg (by (first | lia | omega))]
      exact outer_up hm bs (j + 1) _ _ h
theorem outer_low {a : List Nat} {mc mc' : Int} (hm : mc' ≤ mc) : ∀ (bs : List Nat) (j : Nat) (row : List Int) (res : Int), outer a mc bs j row res ≤ mc → mc' < outer a mc bs j row res → mc' < outer a mc' bs j row res
  | [], _, _, _, _, h => h
  | b :: bs, j, row, res, h, hl => by
    unfold outer at h hl ⊢
    simp only at h hl ⊢
    by_cases e' : (inner a b j row).2.2.1 > mc'
    · rw [if_pos e']; (first | lia | omega)
    · rw [if_neg e']
      rw [if_neg (by (first | lia | omega))] at h hl
      exact outer_low hm bs (j + 1) _ _ h hl
noncomputable def runN (mc : Nat) : List (List Nat) → Nat → List Nat → Option (List Nat)
  | [], _, ws => some ws
  | cs :: r, n, ws => if (goN 14 12 cs ws).any (fun v => Nat.ble (2 * (n + 1) + 12) (mc + v)) then runN mc r (n + 1) (goN 14 12 cs ws) else none
theorem goN_len : ∀ (cs ws : List Nat) (p q : Nat), cs.length = ws.length → (goN p q cs ws).length = ws.length
  | [], [], _, _, _ => rfl
  | [], _ :: _, _, _, h => by simp at h
  | _ :: _, [], _, _, h => by simp at h
  | c :: cs, w :: ws, p, q, h => by simp only [goN, List.length_cons]; rw [goN_len cs ws _ _ (by simpa using h)]
theorem goN_two : ∀ (cs ws : List Nat) (p q : Nat), (∀ w ∈ ws, 2 ≤ w) → ∀ v ∈ goN p q cs ws, 2 ≤ v
  | [], _, _, _, _, v, hv => by simp [goN] at hv
  | _ :: _, [], _, _, _, v, hv => by simp [goN] at hv
  | c :: cs, w :: ws, p, q, h, v, hv => by
    simp only [goN] at hv
    have hw := h w (.head _)
    rcases List.mem_cons.mp hv with rfl | hv
    · (first | lia | omega)
    · exact goN_two cs ws _ _ (fun w h' => h w (.tail _ h')) v hv
theorem outer_run (a : List Nat) (cN : Nat → List Nat) (mc : Nat) : ∀ (bs : List Nat) (n : Nat) (ws ws' : List Nat) (res : Int), (∀ b ∈ bs, a.map (cost b) = (cN b).map (fun (c : Nat) => (c : Int)) ∧ ∀ c ∈ cN b, c ≤ 2) →
    ws.length = a.length → (∀ w ∈ ws, 2 ≤ w) → runN mc (bs.map cN) n ws = some ws' → outer a (mc : Int) bs n (rowN n ws) res = if bs = [] then res else 2 * ((n + bs.length : Nat) : Int) + 12 - (lastN 14 ws' : Nat)
  | [], n, ws, ws', res, _, _, _, _ => by simp [outer]
  | b :: bs, n, ws, ws', res, hc, hl, hw, h => by
    obtain ⟨hb, hb2⟩ := hc b (.head _)
    have hlb : (cN b).length = ws.length := by
      have := congrArg List.length hb
      simp at this
      (first | lia | omega)
    simp only [List.map_cons, runN] at h
    have g := goI_N n (cN b) ws 14 12 9223372036854775807 hlb (by decide) hb2 hw
    have e0 : inner a b n (rowN n ws) = goI (2 * (n : Int) + 12 - ((12 : Nat) : Int)) (2 * ((n : Int) + 1) + 12 - ((14 : Nat) : Int)) 9223372036854775807 ((cN b).map fun (c : Nat) => (c : Int)) (rowN n ws) := by
      rw [inner_eq a b n (rowN n ws) (by unfold rowN; simp [hl]), hb]
      congr 1 <;> (first | lia | omega)
    by_cases hany : (goN 14 12 (cN b) ws).any (fun v => Nat.ble (2 * (n + 1) + 12) (mc + v)) = true
    · rw [if_pos hany] at h
      unfold outer
      simp only
      rw [e0, g.1, g.2.1, g.2.2]
      obtain ⟨v, hv, hle⟩ := List.any_eq_true.mp hany
      have hle := Nat.le_of_ble_eq_true hle
      have hm := (mnI_le (rowN (n + 1) (goN 14 12 (cN b) ws)) 9223372036854775807).2 (2 * ((n + 1 : Nat) : Int) + 12 - (v : Int)) (by
        unfold rowN
        exact List.mem_map.mpr ⟨v, hv, rfl⟩)
      rw [if_neg (by (first | lia | omega))]
      rw [outer_run a cN mc bs (n + 1) (goN 14 12 (cN b) ws) ws' _ (fun b h => hc b (.tail _ h)) (by rw [goN_len _ _ _ _ hlb]; exact hl) (goN_two _ _ _ _ hw) h]
      have hcons : ¬ (b :: bs = []) := by simp
      rw [if_neg hcons]
      by_cases hbs : bs = []
      · subst hbs
        simp only [List.map_nil, runN] at h
        cases h
        simp
      · rw [if_neg hbs]
        simp; (first | lia | omega)
    · rw [if_neg hany] at h
      cases h
end Mine
end
section
open PySem PySem.W PyProof.Rows PySem.Spec PySem.Calls
set_option maxRecDepth 100000
set_option maxHeartbeats 4000000
namespace Mine
noncomputable def F5 : List Nat := [2, 2, 2, 2, 2]
theorem list5 {a b c d e a' b' c' d' e' : Nat} (h1 : a = a') (h2 : b = b') (h3 : c = c') (h4 : d = d') (h5 : e = e') : [a, b, c, d, e] = [a', b', c', d', e'] := by subst h1 h2 h3 h4 h5; rfl
theorem gg {a b : Nat} (h : a ≤ b) : a ≤ b + 2 := Nat.le_trans h (Nat.le_add_right _ _)
theorem goN_c {p q c w v : Nat} {cs ws r : List Nat} (h : max (p - 2) (max w (q + 2 - c)) = v) (h' : goN v w cs ws = r) : goN p q (c :: cs) (w :: ws) = v :: r := by subst h h'; rfl
theorem sA {P w q : Nat} (h1 : P ≤ w + 2) (h2 : q ≤ w) : max (P - 2) (max w (q + 2 - 2)) = w := by
  rw [Nat.add_sub_cancel, Nat.max_eq_left h2, Nat.max_eq_right (Nat.sub_le_of_le_add h1)]
theorem sB {P w q u : Nat} (hu : u ≤ 2) (h1 : P ≤ w + 2) : max (P - 2) (max w (q + 2 - (2 - u))) = max w (q + u) := by
  have e : q + 2 - (2 - u) = q + u := by omega
  rw [e, Nat.max_eq_right (Nat.le_trans (Nat.sub_le_of_le_add h1) (Nat.le_max_left _ _))]
theorem sC {x z : Nat} : max (x - 2) (max z (x + 2 - 2)) = max x z := by
  rw [Nat.add_sub_cancel, Nat.max_comm z x, Nat.max_eq_right (Nat.le_trans (Nat.sub_le _ _) (Nat.le_max_left _ _))]
theorem sD {x y z : Nat} (g : x ≤ y + 2) : max (max x y - 2) (max z (y + 2 - 2)) = max y z := by
  rw [Nat.add_sub_cancel, Nat.max_comm z y, Nat.max_eq_right (Nat.sub_le_of_le_add (Nat.le_trans (Nat.max_le.mpr ⟨g, Nat.le_add_right _ _⟩) (Nat.add_le_add_right (Nat.le_max_left y z) 2)))]
theorem fil {a0 a1 a2 a3 a4 : Nat} (h0 : 12 ≤ a0) (_h1 : 12 ≤ a1) (_h2 : 12 ≤ a2) (_h3 : 12 ≤ a3) (_h4 : 12 ≤ a4) (g0 : a0 ≤ a1 + 2) (g1 : a1 ≤ a2 + 2) (g2 : a2 ≤ a3 + 2) (_g3 : a3 ≤ a4 + 2) :
    goN 14 12 F5 [a0, a1, a2, a3, a4] = [a0, max a0 a1, max a1 a2, max a2 a3, max a3 a4] :=
  goN_c (sA (Nat.add_le_add_right h0 2) h0) (goN_c sC (goN_c (sD g0) (goN_c (sD g1) (goN_c (sD g2) rfl))))
theorem mx2 {a b c : Nat} (h1 : a ≤ b + 2) (h2 : b ≤ c + 2) : max a b ≤ max b c + 2 :=
  Nat.max_le.mpr ⟨Nat.le_trans h1 (Nat.add_le_add_right (Nat.le_max_left b c) 2), Nat.le_trans (Nat.le_max_left b c) (Nat.le_add_right _ 2)⟩
theorem mx0 {a b : Nat} : a ≤ max a b + 2 := Nat.le_trans (Nat.le_max_left a b) (Nat.le_add_right _ 2)
theorem ge12 {a b : Nat} (h : 12 ≤ a) : 12 ≤ max a b := Nat.le_trans h (Nat.le_max_left a b)
theorem mxx (a b c : Nat) : max (max a b) (max b c) = max (max a b) c := by rw [← Nat.max_assoc, Nat.max_assoc a b b, Nat.max_self]
theorem fil5 {a0 a1 a2 a3 a4 : Nat} (h0 : 12 ≤ a0) (h1 : 12 ≤ a1) (h2 : 12 ≤ a2) (h3 : 12 ≤ a3) (h4 : 12 ≤ a4) (g0 : a0 ≤ a1 + 2) (g1 : a1 ≤ a2 + 2) (g2 : a2 ≤ a3 + 2) (g3 : a3 ≤ a4 + 2) :
    goN 14 12 F5 (goN 14 12 F5 (goN 14 12 F5 (goN 14 12 F5 (goN 14 12 F5 [a0, a1, a2, a3, a4])))) = [a0, max a0 a1, max (max a0 a1) a2, max (max (max a0 a1) a2) a3, max (max (max (max a0 a1) a2) a3) a4] := by
  have s0 : max a0 (max a0 a1) = max a0 a1 := by rw [← Nat.max_assoc, Nat.max_self]
  rw [fil h0 h1 h2 h3 h4 g0 g1 g2 g3]
  rw [fil h0 (ge12 h0) (ge12 h1) (ge12 h2) (ge12 h3) mx0 (mx2 g0 g1) (mx2 g1 g2) (mx2 g2 g3)]
  rw [s0, mxx a0 a1 a2, mxx a1 a2 a3, mxx a2 a3 a4]
  have k1 : max a0 a1 ≤ max (max a0 a1) a2 + 2 := mx0
  have k2 : max (max a0 a1) a2 ≤ max (max a1 a2) a3 + 2 := by
    rw [Nat.max_assoc a0 a1 a2]
    exact Nat.max_le.mpr ⟨Nat.le_trans g0 (Nat.add_le_add_right (Nat.le_trans (Nat.le_max_left a1 a2) (Nat.le_max_left _ a3)) 2), Nat.le_trans (Nat.le_max_left _ a3) (Nat.le_add_right _ 2)⟩
  have k3 : max (max a1 a2) a3 ≤ max (max a2 a3) a4 + 2 := by
    rw [Nat.max_assoc a1 a2 a3]
    exact Nat.max_le.mpr ⟨Nat.le_trans g1 (Nat.add_le_add_right (Nat.le_trans (Nat.le_max_left a2 a3) (Nat.le_max_left _ a4)) 2), Nat.le_trans (Nat.le_max_left _ a4) (Nat.le_add_right _ 2)⟩
  rw [fil h0 (ge12 h0) (ge12 (ge12 h0)) (ge12 (ge12 h1)) (ge12 (ge12 h2)) mx0 k1 k2 k3]
  have t1 : max (max a0 a1) (max (max a0 a1) a2) = max (max a0 a1) a2 := by rw [← Nat.max_assoc, Nat.max_self]
  have t2 : max (max (max a0 a1) a2) (max (max a1 a2) a3) = max (max (max a0 a1) a2) a3 := by rw [Nat.max_assoc a0 a1 a2, mxx]
  have t3 : max (max (max a1 a2) a3) (max (max a2 a3) a4) = max (max (max a1 a2) a3) a4 := by rw [Nat.max_assoc a1 a2 a3, mxx]
  rw [s0, t1, t2, t3]
  have k4 : max (max (max a0 a1) a2) a3 ≤ max (max (max a1 a2) a3) a4 + 2 := by
    rw [Nat.max_assoc a0 a1 a2, Nat.max_assoc a0]
    exact Nat.max_le.mpr ⟨Nat.le_trans g0 (Nat.add_le_add_right (Nat.le_trans (Nat.le_trans (Nat.le_max_left a1 a2) (Nat.le_max_left _ a3)) (Nat.le_max_left _ a4)) 2), Nat.le_trans (Nat.le_max_left _ a4) (Nat.le_add_right _ 2)⟩
  rw [fil h0 (ge12 h0) (ge12 (ge12 h0)) (ge12 (ge12 (ge12 h0))) (ge12 (ge12 (ge12 h1))) mx0 mx0 mx0 k4]
  have t4 : max (max (max a0 a1) a2) (max (max (max a0 a1) a2) a3) = max (max (max a0 a1) a2) a3 := by rw [← Nat.max_assoc, Nat.max_self]
  have t5 : max (max (max (max a0 a1) a2) a3) (max (max (max a1 a2) a3) a4) = max (max (max (max a0 a1) a2) a3) a4 := by rw [Nat.max_assoc a0 a1 a2, Nat.max_assoc a0, mxx]
  rw [s0, t1, t4, t5]
  rw [fil h0 (ge12 h0) (ge12 (ge12 h0)) (ge12 (ge12 (ge12 h0))) (ge12 (ge12 (ge12 (ge12 h0)))) mx0 mx0 mx0 mx0]
  have t6 : max (max (max (max a0 a1) a2) a3) (max (max (max (max a0 a1) a2) a3) a4) = max (max (max (max a0 a1) a2) a3) a4 := by rw [← Nat.max_assoc, Nat.max_self]
  rw [s0, t1, t4, t6]
noncomputable def blk (k u : Nat) : List Nat → List Nat
  | [w0, w1, w2, w3, w4] => match k with
    | 0 => [max w0 (12 + u), max w1 (12 + u), max w2 (12 + u), max w3 (12 + u), max w4 (12 + u)]
    | 1 => [w0, max w1 (w0 + u), max w2 (w0 + u), max w3 (w0 + u), max w4 (w0 + u)]
    | 2 => [w0, w1, max w2 (w1 + u), max w3 (w1 + u), max w4 (w1 + u)]
    | 3 => [w0, w1, w2, max w3 (w2 + u), max w4 (w2 + u)]
    | _ => [w0, w1, w2, w3, max w4 (w3 + u)]
  | l => l
noncomputable def cstK (k u : Nat) : List Nat := (List.range 5).map fun j => if j = k then 2 - u else 2
noncomputable def fill5 (ws : List Nat) : List Nat := goN 14 12 F5 (goN 14 12 F5 (goN 14 12 F5 (goN 14 12 F5 (goN 14 12 F5 ws))))
theorem mup {a b g : Nat} (h : a ≤ b) : max (max a g) b = max b g := by rw [Nat.max_assoc, Nat.max_comm g b, ← Nat.max_assoc, Nat.max_eq_right h]
theorem mri {a b g : Nat} (h : a ≤ b) : max a (max b g) = max b g := Nat.max_eq_right (Nat.le_trans h (Nat.le_max_left _ _))
theorem u2 {u : Nat} (hu : u = 1 ∨ u = 2) : u ≤ 2 := by rcases hu with rfl | rfl <;> decide
theorem mk2 {a b q u : Nat} (hu : u ≤ 2) (h1 : a ≤ b) (h2 : q ≤ b) : max a (q + u) ≤ b + 2 := Nat.max_le.mpr ⟨gg h1, Nat.add_le_add h2 hu⟩
theorem gm2 {a b g : Nat} (h : a ≤ b) : a ≤ max b g + 2 := gg (Nat.le_trans h (Nat.le_max_left b g))
theorem blk_ok0 {u w0 w1 w2 w3 w4 : Nat} (hu : u ≤ 2) (h0 : 12 ≤ w0) (h1 : w0 ≤ w1) (h2 : w1 ≤ w2) (h3 : w2 ≤ w3) (h4 : w3 ≤ w4) :
    fill5 (goN 14 12 (cstK 0 u) [w0, w1, w2, w3, w4]) = blk 0 u [w0, w1, w2, w3, w4] := by
  unfold fill5
  have e : goN 14 12 (cstK 0 u) [w0, w1, w2, w3, w4] = [max w0 (12 + u), w1, w2, w3, w4] := by
    show goN 14 12 [2 - u, 2, 2, 2, 2] [w0, w1, w2, w3, w4] = [max w0 (12 + u), w1, w2, w3, w4]
    exact goN_c (sB hu (Nat.add_le_add_right h0 2)) (goN_c (sA (mk2 hu h1 (Nat.le_trans h0 h1)) h1) (goN_c (sA (gg h2) h2) (goN_c (sA (gg h3) h3) (goN_c (sA (gg h4) h4) rfl))))
  rw [e, fil5 (ge12 h0) (Nat.le_trans h0 h1) (Nat.le_trans (Nat.le_trans h0 h1) h2) (Nat.le_trans (Nat.le_trans (Nat.le_trans h0 h1) h2) h3) (Nat.le_trans (Nat.le_trans (Nat.le_trans (Nat.le_trans h0 h1) h2) h3) h4) (mk2 hu h1 (Nat.le_trans h0 h1)) (gg h2) (gg h3) (gg h4)]
  rw [mup h1, mup h2, mup h3, mup h4]
  rfl
theorem blk_ok1 {u w0 w1 w2 w3 w4 : Nat} (hu : u ≤ 2) (h0 : 12 ≤ w0) (h1 : w0 ≤ w1) (h2 : w1 ≤ w2) (h3 : w2 ≤ w3) (h4 : w3 ≤ w4) :
    fill5 (goN 14 12 (cstK 1 u) [w0, w1, w2, w3, w4]) = blk 1 u [w0, w1, w2, w3, w4] := by
  unfold fill5
  have e : goN 14 12 (cstK 1 u) [w0, w1, w2, w3, w4] = [w0, max w1 (w0 + u), w2, w3, w4] := by
    show goN 14 12 [2, 2 - u, 2, 2, 2] [w0, w1, w2, w3, w4] = [w0, max w1 (w0 + u), w2, w3, w4]
    exact goN_c (sA (Nat.add_le_add_right h0 2) h0) (goN_c (sB hu (gg h1)) (goN_c (sA (mk2 hu h2 (Nat.le_trans h1 h2)) h2) (goN_c (sA (gg h3) h3) (goN_c (sA (gg h4) h4) rfl))))
  rw [e, fil5 h0 (ge12 (Nat.le_trans h0 h1)) (Nat.le_trans (Nat.le_trans h0 h1) h2) (Nat.le_trans (Nat.le_trans (Nat.le_trans h0 h1) h2) h3) (Nat.le_trans (Nat.le_trans (Nat.le_trans (Nat.le_trans h0 h1) h2) h3) h4) (gm2 h1) (mk2 hu h2 (Nat.le_trans h1 h2)) (gg h3) (gg h4)]
  rw [mri h1, mup h2, mup h3, mup h4]
  rfl
theorem blk_ok2 {u w0 w1 w2 w3 w4 : Nat} (hu : u ≤ 2) (h0 : 12 ≤ w0) (h1 : w0 ≤ w1) (h2 : w1 ≤ w2) (h3 : w2 ≤ w3) (h4 : w3 ≤ w4) :
    fill5 (goN 14 12 (cstK 2 u) [w0, w1, w2, w3, w4]) = blk 2 u [w0, w1, w2, w3, w4] := by
  unfold fill5
  have e : goN 14 12 (cstK 2 u) [w0, w1, w2, w3, w4] = [w0, w1, max w2 (w1 + u), w3, w4] := by
    show goN 14 12 [2, 2, 2 - u, 2, 2] [w0, w1, w2, w3, w4] = [w0, w1, max w2 (w1 + u), w3, w4]
    exact goN_c (sA (Nat.add_le_add_right h0 2) h0) (goN_c (sA (gg h1) h1) (goN_c (sB hu (gg h2)) (goN_c (sA (mk2 hu h3 (Nat.le_trans h2 h3)) h3) (goN_c (sA (gg h4) h4) rfl))))
  rw [e, fil5 h0 (Nat.le_trans h0 h1) (ge12 (Nat.le_trans (Nat.le_trans h0 h1) h2)) (Nat.le_trans (Nat.le_trans (Nat.le_trans h0 h1) h2) h3) (Nat.le_trans (Nat.le_trans (Nat.le_trans (Nat.le_trans h0 h1) h2) h3) h4) (gg h1) (gm2 h2) (mk2 hu h3 (Nat.le_trans h2 h3)) (gg h4)]
  rw [Nat.max_eq_right h1, mri h2, mup h3, mup h4]
  rfl
theorem blk_ok3 {u w0 w1 w2 w3 w4 : Nat} (hu : u ≤ 2) (h0 : 12 ≤ w0) (h1 : w0 ≤ w1) (h2 : w1 ≤ w2) (h3 : w2 ≤ w3) (h4 : w3 ≤ w4) :
    fill5 (goN 14 12 (cstK 3 u) [w0, w1, w2, w3, w4]) = blk 3 u [w0, w1, w2, w3, w4] := by
  unfold fill5
  have e : goN 14 12 (cstK 3 u) [w0, w1, w2, w3, w4] = [w0, w1, w2, max w3 (w2 + u), w4] := by
    show goN 14 12 [2, 2, 2, 2 - u, 2] [w0, w1, w2, w3, w4] = [w0, w1, w2, max w3 (w2 + u), w4]
    exact goN_c (sA (Nat.add_le_add_right h0 2) h0) (goN_c (sA (gg h1) h1) (goN_c (sA (gg h2) h2) (goN_c (sB hu (gg h3)) (goN_c (sA (mk2 hu h4 (Nat.le_trans h3 h4)) h4) rfl))))
  rw [e, fil5 h0 (Nat.le_trans h0 h1) (Nat.le_trans (Nat.le_trans h0 h1) h2) (ge12 (Nat.le_trans (Nat.le_trans (Nat.le_trans h0 h1) h2) h3)) (Nat.le_trans (Nat.le_trans (Nat.le_trans (Nat.le_trans h0 h1) h2) h3) h4) (gg h1) (gg h2) (gm2 h3) (mk2 hu h4 (Nat.le_trans h3 h4))]
  rw [Nat.max_eq_right h1, Nat.max_eq_right h2, mri h3, mup h4]
  rfl
theorem blk_ok4 {u w0 w1 w2 w3 w4 : Nat} (hu : u ≤ 2) (h0 : 12 ≤ w0) (h1 : w0 ≤ w1) (h2 : w1 ≤ w2) (h3 : w2 ≤ w3) (h4 : w3 ≤ w4) :
    fill5 (goN 14 12 (cstK 4 u) [w0, w1, w2, w3, w4]) = blk 4 u [w0, w1, w2, w3, w4] := by
  unfold fill5
  have e : goN 14 12 (cstK 4 u) [w0, w1, w2, w3, w4] = [w0, w1, w2, w3, max w4 (w3 + u)] := by
    show goN 14 12 [2, 2, 2, 2, 2 - u] [w0, w1, w2, w3, w4] = [w0, w1, w2, w3, max w4 (w3 + u)]
    exact goN_c (sA (Nat.add_le_add_right h0 2) h0) (goN_c (sA (gg h1) h1) (goN_c (sA (gg h2) h2) (goN_c (sA (gg h3) h3) (goN_c (sB hu (gg h4)) rfl))))
  rw [e, fil5 h0 (Nat.le_trans h0 h1) (Nat.le_trans (Nat.le_trans h0 h1) h2) (Nat.le_trans (Nat.le_trans (Nat.le_trans h0 h1) h2) h3) (ge12 (Nat.le_trans (Nat.le_trans (Nat.le_trans (Nat.le_trans h0 h1) h2) h3) h4)) (gg h1) (gg h2) (gg h3) (gm2 h4)]
  rw [Nat.max_eq_right h1, Nat.max_eq_right h2, Nat.max_eq_right h3, mri h4]
  rfl
theorem blk_ok {k u w0 w1 w2 w3 w4 : Nat} (hk : k < 5) (hu : u = 1 ∨ u = 2) (h0 : 12 ≤ w0) (h1 : w0 ≤ w1) (h2 : w1 ≤ w2) (h3 : w2 ≤ w3) (h4 : w3 ≤ w4) :
    fill5 (goN 14 12 (cstK k u) [w0, w1, w2, w3, w4]) = blk k u [w0, w1, w2, w3, w4] := by
  rcases (show k = 0 ∨ k = 1 ∨ k = 2 ∨ k = 3 ∨ k = 4 by omega) with rfl | rfl | rfl | rfl | rfl
  · exact blk_ok0 (u2 hu) h0 h1 h2 h3 h4
  · exact blk_ok1 (u2 hu) h0 h1 h2 h3 h4
  · exact blk_ok2 (u2 hu) h0 h1 h2 h3 h4
  · exact blk_ok3 (u2 hu) h0 h1 h2 h3 h4
  · exact blk_ok4 (u2 hu) h0 h1 h2 h3 h4
end Mine
end
section
open PySem PySem.W PyProof.Rows PySem.Spec PySem.Calls
set_option maxRecDepth 100000
set_option maxHeartbeats 0
namespace Mine
noncomputable def evalT {α : Type} (less : Nat → Nat → Bool) : KasT α → α
  | .ret a => a
  | .ask i j k => evalT less (k (less i j))
noncomputable def gtB (b : List Bool) (k i : Nat) : Bool := b.getD (i * (i - 1) / 2 + k) false
noncomputable def lessB (b : List Bool) (x y : Nat) : Bool := if Nat.blt x y then !gtB b x y else if Nat.blt y x then gtB b y x else false
noncomputable def orderB (b : List Bool) : List Nat := (evalT (lessB b) (kas_sort 5)).toList
noncomputable def transB (b : List Bool) : Bool := (List.range 5).all fun x => (List.range 5).all fun y => (List.range 5).all fun z => !(lessB b x y && lessB b y z) || lessB b x z
noncomputable def hvL (b : List Bool) (t : List Nat) (back : Bool) : Nat → List Nat
  | 0 => []
  | i + 1 => let l := hvL b t back i; l ++ [(2 - t.getD i 0) + ((List.range i).filterMap fun k => if gtB b k i == back then some (l.getD k 0) else none).foldl max 0]
noncomputable def heavyL (b : List Bool) (t : List Nat) (back : Bool) : Nat := (hvL b t back 5).foldl max 0
noncomputable def kus (p t : List Nat) (back : Bool) : List (Nat × Nat) := p.map fun i => (if back then 4 - i else i, 2 - t.getD i 0)
noncomputable def rowW (p t : List Nat) (back : Bool) : List Nat := (kus p t back).foldl (fun w ku => blk ku.1 ku.2 w) [12, 12, 12, 12, 12]
noncomputable def lastW : List Nat → Nat
  | [_, _, _, _, v] => v
  | _ => 0
noncomputable def bools : Nat → List (List Bool)
  | 0 => [[]]
  | n + 1 => (bools n).flatMap fun l => [false :: l, true :: l]
noncomputable def turns : List (List Nat) := (bools 5).map fun l => l.map fun x => if x then 1 else 0
noncomputable def checkL (b : List Bool) (p : List Nat) (t : List Nat) (back : Bool) : Bool := Nat.beq (lastW (rowW p t back)) (12 + heavyL b t back)
noncomputable def checkB (b : List Bool) : Bool := !transB b || (turns.all fun t => checkL b (orderB b) t false && checkL b (orderB b) t true)
theorem bools_split : ∀ (a c : Nat) (l : List Bool), l ∈ bools (a + c) → ∃ p ∈ bools a, ∃ r ∈ bools c, l = p ++ r
  | 0, c, l, h => ⟨[], by simp [bools], l, by simpa using h, rfl⟩
  | a + 1, c, l, h => by
    rw [show a + 1 + c = (a + c) + 1 by (first | lia | omega)] at h
    unfold bools at h
    obtain ⟨m, hm, hl⟩ := List.mem_flatMap.mp h
    obtain ⟨p, hp, r, hr, rfl⟩ := bools_split a c m hm
    have hs : ∀ x : Bool, x :: p ∈ bools (a + 1) := fun x => by
      unfold bools
      refine List.mem_flatMap.mpr ⟨p, hp, ?_⟩
      cases x <;> simp
    simp only [List.mem_cons, List.not_mem_nil, or_false] at hl
    rcases hl with rfl | rfl
    · exact ⟨false :: p, hs false, r, hr, rfl⟩
    · exact ⟨true :: p, hs true, r, hr, rfl⟩
noncomputable def mx (a b : Nat) : Nat := @cond Nat (Nat.ble a b) b a
theorem mx_eq : mx = max := by
  funext a b
  unfold mx
  rw [Nat.max_def]
  cases h : Nat.ble a b with
  | true => rw [if_pos (Nat.le_of_ble_eq_true h)]; rfl
  | false => rw [if_neg (fun q => by rw [Nat.ble_eq_true_of_le q] at h; cases h)]; rfl
noncomputable def nthN (l : List Nat) : Nat → Nat := @List.rec Nat (fun _ => Nat → Nat) (fun _ => nat_lit 0) (fun a _ ih n => @Nat.rec (fun _ => Nat) a (fun m _ => ih m) n) l
noncomputable def nthB (l : List Bool) : Nat → Bool := @List.rec Bool (fun _ => Nat → Bool) (fun _ => false) (fun a _ ih n => @Nat.rec (fun _ => Bool) a (fun m _ => ih m) n) l
theorem nthN_eq (l : List Nat) (n : Nat) : nthN l n = l.getD n 0 := by
  induction l generalizing n with
  | nil => rfl
  | cons a r ih => cases n with
    | zero => rfl
    | succ n => exact ih n
theorem nthB_eq (l : List Bool) (n : Nat) : nthB l n = l.getD n false := by
  induction l generalizing n with
  | nil => rfl
  | cons a r ih => cases n with
    | zero => rfl
    | succ n => exact ih n
noncomputable def eqB (x y : Bool) : Bool := @cond Bool x y (!y)
theorem eqB_eq (x y : Bool) : eqB x y = (x == y) := by cases x <;> cases y <;> rfl
theorem fm (c : Nat → Bool) (f : Nat → Nat) : ∀ (l : List Nat) (a : Nat), (l.filterMap fun k => if c k = true then some (f k) else none).foldl max a = l.foldl (fun a k => @cond Nat (c k) (mx a (f k)) a) a
  | [], _ => rfl
  | k :: l, a => by
    rw [List.filterMap_cons, List.foldl_cons]
    cases h : c k with
    | true => rw [if_pos rfl]; dsimp only; rw [List.foldl_cons, fm c f l, mx_eq]; rfl
    | false => rw [if_neg (by decide)]; dsimp only; rw [fm c f l]; rfl
noncomputable def hvF (b : List Bool) (t : List Nat) (back : Bool) (n : Nat) : List Nat :=
  @Nat.rec (fun _ => List Nat) [] (fun i l => l ++ [Nat.add (Nat.sub (nat_lit 2) (nthN t i)) ((List.range i).foldl (fun a k => @cond Nat (eqB (nthB b (Nat.add (Nat.div (Nat.mul i (Nat.pred i)) (nat_lit 2)) k)) back) (mx a (nthN l k)) a) (nat_lit 0))]) n
theorem hvF_step (b : List Bool) (t : List Nat) (back : Bool) (n : Nat) : hvF b t back (n + 1) = hvF b t back n ++ [Nat.add (Nat.sub (nat_lit 2) (nthN t n)) ((List.range n).foldl (fun a k => @cond Nat (eqB (nthB b (Nat.add (Nat.div (Nat.mul n (Nat.pred n)) (nat_lit 2)) k)) back) (mx a (nthN (hvF b t back n) k)) a) (nat_lit 0))] := rfl
theorem hvF_eq (b : List Bool) (t : List Nat) (back : Bool) : ∀ n, hvF b t back n = hvL b t back n
  | 0 => rfl
  | n + 1 => by
    rw [hvF_step, hvF_eq b t back n]
    show hvL b t back n ++ _ = hvL b t back n ++ _
    rw [fm]
    simp only [nthN_eq, nthB_eq, eqB_eq]
    rfl
noncomputable def rowF (l : List (Nat × Nat)) : Nat → Nat → Nat → Nat → Nat → Nat :=
  @List.rec (Nat × Nat) (fun _ => Nat → Nat → Nat → Nat → Nat → Nat) (fun _ _ _ _ w => w)
    (fun ku _ ih w0 w1 w2 w3 w4 => @Nat.rec (fun _ => Nat) (ih (mx w0 (Nat.add 12 ku.2)) (mx w1 (Nat.add 12 ku.2)) (mx w2 (Nat.add 12 ku.2)) (mx w3 (Nat.add 12 ku.2)) (mx w4 (Nat.add 12 ku.2)))
      (fun k1 _ => @Nat.rec (fun _ => Nat) (ih w0 (mx w1 (Nat.add w0 ku.2)) (mx w2 (Nat.add w0 ku.2)) (mx w3 (Nat.add w0 ku.2)) (mx w4 (Nat.add w0 ku.2)))
        (fun k2 _ => @Nat.rec (fun _ => Nat) (ih w0 w1 (mx w2 (Nat.add w1 ku.2)) (mx w3 (Nat.add w1 ku.2)) (mx w4 (Nat.add w1 ku.2)))
          (fun k3 _ => @Nat.rec (fun _ => Nat) (ih w0 w1 w2 (mx w3 (Nat.add w2 ku.2)) (mx w4 (Nat.add w2 ku.2))) (fun _ _ => ih w0 w1 w2 w3 (mx w4 (Nat.add w3 ku.2))) k3) k2) k1) ku.1) l
theorem rowF_eq : ∀ (l : List (Nat × Nat)) (w0 w1 w2 w3 w4 : Nat), rowF l w0 w1 w2 w3 w4 = lastW (l.foldl (fun w ku => blk ku.1 ku.2 w) [w0, w1, w2, w3, w4])
  | [], _, _, _, _, _ => rfl
  | (k, u) :: l, w0, w1, w2, w3, w4 => by
    rw [List.foldl_cons]
    match k with
    | 0 => exact (rowF_eq l _ _ _ _ _).trans (by rw [mx_eq]; rfl)
    | 1 => exact (rowF_eq l _ _ _ _ _).trans (by rw [mx_eq]; rfl)
    | 2 => exact (rowF_eq l _ _ _ _ _).trans (by rw [mx_eq]; rfl)
    | 3 => exact (rowF_eq l _ _ _ _ _).trans (by rw [mx_eq]; rfl)
    | _ + 4 => exact (rowF_eq l _ _ _ _ _).trans (by rw [mx_eq]; rfl)
noncomputable def checkLF (b : List Bool) (p t : List Nat) (back : Bool) : Bool := Nat.beq (rowF (kus p t back) 12 12 12 12 12) (Nat.add 12 ((hvF b t back 5).foldl mx 0))
theorem checkLF_eq (b : List Bool) (p t : List Nat) (back : Bool) : checkLF b p t back = checkL b p t back := by
  unfold checkLF checkL heavyL rowW
  rw [rowF_eq, hvF_eq, mx_eq]
  rfl
noncomputable def checkF (b : List Bool) : Bool := @cond Bool (transB b) ((fun p => turns.all fun t => @cond Bool (checkLF b p t false) (checkLF b p t true) false) (orderB b)) true
theorem checkF_eq (b : List Bool) : checkF b = checkB b := by
  unfold checkF checkB
  dsimp only
  simp only [checkLF_eq]
  cases transB b with
  | false => rfl
  | true =>
    rw [cond_true, Bool.not_true, Bool.false_or]
    congr 1
    funext t
    cases checkL b (orderB b) t false <;> rfl
theorem okF {r : List Bool} (h : ((bools 5).all fun p => checkF (p ++ r)) = true) : ((bools 5).all fun p => checkB (p ++ r)) = true := by
  simpa only [checkF_eq] using h
theorem chk0 : ((bools 5).all fun p => checkB (p ++ [false, false, false, false, false])) = true := okF (by decide +kernel)
theorem chk1 : ((bools 5).all fun p => checkB (p ++ [false, false, false, false, true])) = true := okF (by decide +kernel)
theorem chk2 : ((bools 5).all fun p => checkB (p ++ [false, false, false, true, false])) = true := okF (by decide +kernel)
theorem chk3 : ((bools 5).all fun p => checkB (p ++ [false, false, false, true, true])) = true := okF (by decide +kernel)
theorem chk4 : ((bools 5).all fun p => checkB (p ++ [false, false, true, false, false])) = true := okF (by decide +kernel)
theorem chk5 : ((bools 5).all fun p => checkB (p ++ [false, false, true, false, true])) = true := okF (by decide +kernel)
theorem chk6 : ((bools 5).all fun p => checkB (p ++ [false, false, true, true, false])) = true := okF (by decide +kernel)
theorem chk7 : ((bools 5).all fun p => checkB (p ++ [false, false, true, true, true])) = true := okF (by decide +kernel)
theorem chk8 : ((bools 5).all fun p => checkB (p ++ [false, true, false, false, false])) = true := okF (by decide +kernel)
theorem chk9 : ((bools 5).all fun p => checkB (p ++ [false, true, false, false, true])) = true := okF (by decide +kernel)
theorem chk10 : ((bools 5).all fun p => checkB (p ++ [false, true, false, true, false])) = true := okF (by decide +kernel)
theorem chk11 : ((bools 5).all fun p => checkB (p ++ [false, true, false, true, true])) = true := okF (by decide +kernel)
theorem chk12 : ((bools 5).all fun p => checkB (p ++ [false, true, true, false, false])) = true := okF (by decide +kernel)
theorem chk13 : ((bools 5).all fun p => checkB (p ++ [false, true, true, false, true])) = true := okF (by decide +kernel)
theorem chk14 : ((bools 5).all fun p => checkB (p ++ [false, true, true, true, false])) = true := okF (by decide +kernel)
theorem chk15 : ((bools 5).all fun p => checkB (p ++ [false, true, true, true, true])) = true := okF (by decide +kernel)
theorem chk16 : ((bools 5).all fun p => checkB (p ++ [true, false, false, false, false])) = true := okF (by decide +kernel)
theorem chk17 : ((bools 5).all fun p => checkB (p ++ [true, false, false, false, true])) = true := okF (by decide +kernel)
theorem chk18 : ((bools 5).all fun p => checkB (p ++ [true, false, false, true, false])) = true := okF (by decide +kernel)
theorem chk19 : ((bools 5).all fun p => checkB (p ++ [true, false, false, true, true])) = true := okF (by decide +kernel)
theorem chk20 : ((bools 5).all fun p => checkB (p ++ [true, false, true, false, false])) = true := okF (by decide +kernel)
theorem chk21 : ((bools 5).all fun p => checkB (p ++ [true, false, true, false, true])) = true := okF (by decide +kernel)
theorem chk22 : ((bools 5).all fun p => checkB (p ++ [true, false, true, true, false])) = true := okF (by decide +kernel)
theorem chk23 : ((bools 5).all fun p => checkB (p ++ [true, false, true, true, true])) = true := okF (by decide +kernel)
theorem chk24 : ((bools 5).all fun p => checkB (p ++ [true, true, false, false, false])) = true := okF (by decide +kernel)
theorem chk25 : ((bools 5).all fun p => checkB (p ++ [true, true, false, false, true])) = true := okF (by decide +kernel)
theorem chk26 : ((bools 5).all fun p => checkB (p ++ [true, true, false, true, false])) = true := okF (by decide +kernel)
theorem chk27 : ((bools 5).all fun p => checkB (p ++ [true, true, false, true, true])) = true := okF (by decide +kernel)
theorem chk28 : ((bools 5).all fun p => checkB (p ++ [true, true, true, false, false])) = true := okF (by decide +kernel)
theorem chk29 : ((bools 5).all fun p => checkB (p ++ [true, true, true, false, true])) = true := okF (by decide +kernel)
theorem chk30 : ((bools 5).all fun p => checkB (p ++ [true, true, true, true, false])) = true := okF (by decide +kernel)
theorem chk31 : ((bools 5).all fun p => checkB (p ++ [true, true, true, true, true])) = true := okF (by decide +kernel)
theorem checkTail : ∀ r ∈ bools 5, ((bools 5).all fun p => checkB (p ++ r)) = true := by
  show ∀ r ∈ [[false, false, false, false, false], [true, false, false, false, false], [false, true, false, false, false], [true, true, false, false, false], [false, false, true, false, false], [true, false, true, false, false], [false, true, true, false, false], [true, true, true, false, false], [false, false, false, true, false], [true, false, false, true, false], [false, true, false, true, false], [true, true, false, true, false], [false, false, true, true, false], [true, false, true, true, false], [false, true, true, true, false], [true, true, true, true, false], [false, false, false, false, true], [true, false, false, false, true], [false, true, false, false, true], [true, true, false, false, true], [false, false, true, false, true], [true, false, true, false, true], [false, true, true, false, true], [true, true, true, false, true], [false, false, false, true, true], [true, false, false, true, true], [false, true, false, true, true], [true, true, false, true, true], [false, false, true, true, true], [true, false, true, true, true], [false, true, true, true, true], [true, true, true, true, true]], ((bools 5).all fun p => checkB (p ++ r)) = true
  exact List.forall_mem_cons.mpr ⟨chk0, List.forall_mem_cons.mpr ⟨chk16, List.forall_mem_cons.mpr ⟨chk8, List.forall_mem_cons.mpr ⟨chk24, List.forall_mem_cons.mpr ⟨chk4, List.forall_mem_cons.mpr ⟨chk20, List.forall_mem_cons.mpr ⟨chk12, List.forall_mem_cons.mpr ⟨chk28, List.forall_mem_cons.mpr ⟨chk2, List.forall_mem_cons.mpr ⟨chk18, List.forall_mem_cons.mpr ⟨chk10, List.forall_mem_cons.mpr ⟨chk26, List.forall_mem_cons.mpr ⟨chk6, List.forall_mem_cons.mpr ⟨chk22, List.forall_mem_cons.mpr ⟨chk14, List.forall_mem_cons.mpr ⟨chk30, List.forall_mem_cons.mpr ⟨chk1, List.forall_mem_cons.mpr ⟨chk17, List.forall_mem_cons.mpr ⟨chk9, List.forall_mem_cons.mpr ⟨chk25, List.forall_mem_cons.mpr ⟨chk5, List.forall_mem_cons.mpr ⟨chk21, List.forall_mem_cons.mpr ⟨chk13, List.forall_mem_cons.mpr ⟨chk29, List.forall_mem_cons.mpr ⟨chk3, List.forall_mem_cons.mpr ⟨chk19, List.forall_mem_cons.mpr ⟨chk11, List.forall_mem_cons.mpr ⟨chk27, List.forall_mem_cons.mpr ⟨chk7, List.forall_mem_cons.mpr ⟨chk23, List.forall_mem_cons.mpr ⟨chk15, List.forall_mem_cons.mpr ⟨chk31, List.forall_mem_nil _⟩⟩⟩⟩⟩⟩⟩⟩⟩⟩⟩⟩⟩⟩⟩⟩⟩⟩⟩⟩⟩⟩⟩⟩⟩⟩⟩⟩⟩⟩⟩⟩
theorem checkAll : (bools 10).all checkB = true := by
  refine List.all_eq_true.mpr fun l hl => ?_
  obtain ⟨p, hp, r, hr, rfl⟩ := bools_split 5 5 l hl
  exact List.all_eq_true.mp (checkTail r hr) p hp
end Mine
end
section
open PySem PySem.W PyProof.Rows PySem.Spec PySem.Calls
set_option maxRecDepth 100000
namespace Mine
noncomputable def foldN (css : List (List Nat)) (ws : List Nat) : List Nat := css.foldl (fun w cs => goN 14 12 cs w) ws
theorem goN_grow (M : Nat) (hM : 12 ≤ M) : ∀ (cs ws : List Nat) (p q : Nat), p ≤ M + 4 → q ≤ M → (∀ w ∈ ws, w ≤ M) → ∀ v ∈ goN p q cs ws, v ≤ M + 2
  | [], _, _, _, _, _, _, v, hv => by simp [goN] at hv
  | _ :: _, [], _, _, _, _, _, v, hv => by simp [goN] at hv
  | c :: cs, w :: ws, p, q, hp, hq, h, v, hv => by
    simp only [goN] at hv
    have hw := h w (.head _)
    have hx : max (p - 2) (max w (q + 2 - c)) ≤ M + 2 := Nat.max_le.mpr ⟨by (first | lia | omega), Nat.max_le.mpr ⟨by (first | lia | omega), by (first | lia | omega)⟩⟩
    rcases List.mem_cons.mp hv with rfl | hv
    · exact hx
    · exact goN_grow M hM cs ws _ _ (by (first | lia | omega)) hw (fun w h' => h w (.tail _ h')) v hv
theorem foldN_grow : ∀ (r : List (List Nat)) (ws : List Nat) (M : Nat), 12 ≤ M → (∀ w ∈ ws, w ≤ M) → ∀ v ∈ foldN r ws, v ≤ M + 2 * r.length
  | [], ws, M, _, h, v, hv => by simpa using h v hv
  | cs :: r, ws, M, hM, h, v, hv => by
    have := foldN_grow r (goN 14 12 cs ws) (M + 2) (by (first | lia | omega)) (goN_grow M hM cs ws 14 12 (by (first | lia | omega)) hM h) v hv
    simp only [List.length_cons]
    (first | lia | omega)
theorem foldN_len : ∀ (r : List (List Nat)) (ws : List Nat), (∀ cs ∈ r, cs.length = ws.length) → (foldN r ws).length = ws.length
  | [], _, _ => rfl
  | cs :: r, ws, h => by
    have e := goN_len cs ws 14 12 (h cs (.head _))
    have := foldN_len r (goN 14 12 cs ws) (fun c hc => by rw [e]; exact h c (.tail _ hc))
    exact this.trans e
theorem lastN_mem : ∀ (l : List Nat) (p : Nat), l ≠ [] → lastN p l ∈ l
  | [], _, h => absurd rfl h
  | [v], _, _ => by simp [lastN]
  | v :: w :: l, _, _ => by
    have := lastN_mem (w :: l) v (by simp)
    simp only [lastN] at this ⊢
    exact List.mem_cons_of_mem _ this
theorem maxAt : ∀ (l : List Nat), l ≠ [] → ∃ m ∈ l, ∀ v ∈ l, v ≤ m
  | [], h => absurd rfl h
  | [v], _ => ⟨v, by simp, by simp⟩
  | v :: w :: l, _ => by
    obtain ⟨m, hm, h⟩ := maxAt (w :: l) (by simp)
    by_cases hv : v ≤ m
    · refine ⟨m, .tail _ hm, fun x hx => ?_⟩
      rcases List.mem_cons.mp hx with rfl | hx
      · exact hv
      · exact h x hx
    · refine ⟨v, .head _, fun x hx => ?_⟩
      rcases List.mem_cons.mp hx with rfl | hx
      · exact Nat.le_refl _
      · have := h x hx; (first | lia | omega)
theorem goN_first {c w : Nat} {cs ws : List Nat} : ∃ v ∈ goN 14 12 (c :: cs) (w :: ws), 12 ≤ v :=
  ⟨max (14 - 2) (max w (12 + 2 - c)), by simp [goN], Nat.le_max_left _ _⟩
theorem runN_fold (mc : Nat) : ∀ (css : List (List Nat)) (n : Nat) (ws : List Nat), ws ≠ [] → (∀ cs ∈ css, cs.length = ws.length) →
    2 * (n + css.length) + 12 ≤ mc + lastN 14 (foldN css ws) → runN mc css n ws = some (foldN css ws)
  | [], _, _, _, _, _ => rfl
  | cs :: r, n, ws, hn, hl, h => by
    have hc := hl cs (.head _)
    have e := goN_len cs ws 14 12 hc
    have hlen : ws.length ≠ 0 := fun h => hn (List.length_eq_zero_iff.mp h)
    have hn' : goN 14 12 cs ws ≠ [] := fun h' => hlen (by rw [← e, h']; rfl)
    have hl' : ∀ c ∈ r, c.length = (goN 14 12 cs ws).length := fun c hc => by rw [e]; exact hl c (.tail _ hc)
    obtain ⟨m, hm, hmx⟩ := maxAt _ hn'
    have h12 : 12 ≤ m := by
      cases cs with
      | nil => simp at hc; (first | lia | omega)
      | cons c cs =>
        cases ws with
        | nil => simp at hlen
        | cons w ws =>
          obtain ⟨v, hv, h12⟩ := goN_first (c := c) (w := w) (cs := cs) (ws := ws)
          have := hmx v hv
          (first | lia | omega)
    have hF : foldN (cs :: r) ws = foldN r (goN 14 12 cs ws) := rfl
    have hfl := foldN_len r _ hl'
    have hne : foldN r (goN 14 12 cs ws) ≠ [] := fun h' => by
      rw [h'] at hfl
      simp at hfl
      (first | lia | omega)
    have hg := foldN_grow r _ m h12 hmx _ (lastN_mem (foldN r (goN 14 12 cs ws)) 14 hne)
    rw [hF] at h ⊢
    simp only [List.length_cons] at h
    have ih := runN_fold mc r (n + 1) (goN 14 12 cs ws) hn' hl' (by (first | lia | omega))
    unfold runN
    rw [if_pos, ih]
    exact List.any_eq_true.mpr ⟨m, hm, Nat.ble_eq_true_of_le (by (first | lia | omega))⟩
end Mine
end
section
open PySem PySem.W PyProof.Rows PySem.Spec PySem.Calls
set_option maxRecDepth 100000
namespace Mine
noncomputable def Mono5 (ws : List Nat) : Prop := ∃ w0 w1 w2 w3 w4, ws = [w0, w1, w2, w3, w4] ∧ 12 ≤ w0 ∧ w0 ≤ w1 ∧ w1 ≤ w2 ∧ w2 ≤ w3 ∧ w3 ≤ w4
theorem mx_mono {a b g : Nat} (h : a ≤ b) : max a g ≤ max b g := Nat.max_le.mpr ⟨Nat.le_trans h (Nat.le_max_left _ _), Nat.le_max_right _ _⟩
theorem mx_r {a b g : Nat} (h : a ≤ b) : a ≤ max b g := Nat.le_trans h (Nat.le_max_left _ _)
theorem blk_mono {k u : Nat} {ws : List Nat} (hk : k < 5) (h : Mono5 ws) : Mono5 (blk k u ws) := by
  obtain ⟨w0, w1, w2, w3, w4, rfl, h0, h1, h2, h3, h4⟩ := h
  rcases (show k = 0 ∨ k = 1 ∨ k = 2 ∨ k = 3 ∨ k = 4 by (first | lia | omega)) with rfl | rfl | rfl | rfl | rfl
  · exact ⟨_, _, _, _, _, rfl, mx_r h0, mx_mono h1, mx_mono h2, mx_mono h3, mx_mono h4⟩
  · exact ⟨_, _, _, _, _, rfl, h0, mx_r h1, mx_mono h2, mx_mono h3, mx_mono h4⟩
  · exact ⟨_, _, _, _, _, rfl, h0, h1, mx_r h2, mx_mono h3, mx_mono h4⟩
  · exact ⟨_, _, _, _, _, rfl, h0, h1, h2, mx_r h3, mx_mono h4⟩
  · exact ⟨_, _, _, _, _, rfl, h0, h1, h2, h3, mx_r h4⟩
noncomputable def blkC (ku : Nat × Nat) : List (List Nat) := [cstK ku.1 ku.2, F5, F5, F5, F5, F5]
theorem foldN_blk {k u : Nat} {ws : List Nat} (hk : k < 5) (hu : u = 1 ∨ u = 2) (h : Mono5 ws) : foldN (blkC (k, u)) ws = blk k u ws := by
  obtain ⟨w0, w1, w2, w3, w4, rfl, h0, h1, h2, h3, h4⟩ := h
  exact blk_ok hk hu h0 h1 h2 h3 h4
theorem foldN_app (a b : List (List Nat)) (ws : List Nat) : foldN (a ++ b) ws = foldN b (foldN a ws) := List.foldl_append
theorem foldN_blocks : ∀ (l : List (Nat × Nat)) (ws : List Nat), Mono5 ws → (∀ ku ∈ l, ku.1 < 5 ∧ (ku.2 = 1 ∨ ku.2 = 2)) →
    foldN (l.flatMap blkC) ws = l.foldl (fun w ku => blk ku.1 ku.2 w) ws
  | [], _, _, _ => rfl
  | ku :: l, ws, h, hl => by
    obtain ⟨hk, hu⟩ := hl ku (.head _)
    rw [List.flatMap_cons, foldN_app, foldN_blk hk hu h, foldN_blocks l _ (blk_mono hk h) (fun x hx => hl x (.tail _ hx))]
    rfl
theorem first_blk : ∀ k, k < 5 → ∀ u, u = 1 ∨ u = 2 → foldN ([F5, F5, F5, F5] ++ blkC (k, u)) [10, 8, 6, 4, 2] = blk k u [12, 12, 12, 12, 12] := by
  intro k hk u hu
  rcases (show k = 0 ∨ k = 1 ∨ k = 2 ∨ k = 3 ∨ k = 4 by (first | lia | omega)) with rfl | rfl | rfl | rfl | rfl <;> rcases hu with rfl | rfl <;> decide +kernel
theorem foldN_all {ku : Nat × Nat} {l : List (Nat × Nat)} (hl : ∀ x ∈ ku :: l, x.1 < 5 ∧ (x.2 = 1 ∨ x.2 = 2)) :
    foldN ([F5, F5, F5, F5] ++ (ku :: l).flatMap blkC) [10, 8, 6, 4, 2] = (ku :: l).foldl (fun w ku => blk ku.1 ku.2 w) [12, 12, 12, 12, 12] := by
  obtain ⟨hk, hu⟩ := hl ku (.head _)
  rw [List.flatMap_cons, ← List.append_assoc, foldN_app, first_blk _ hk _ hu, foldN_blocks l _ (blk_mono hk ⟨12, 12, 12, 12, 12, rfl, by decide, by decide, by decide, by decide, by decide⟩) (fun x hx => hl x (.tail _ hx))]
  rfl
end Mine
end
section
open PySem PySem.W PyProof.Rows PySem.Spec PySem.Calls
set_option maxRecDepth 100000
namespace Mine
theorem strip_mid {a0 a1 a2 a3 a4 : Nat} {B : List Nat} {Bh Bl : List Nat} (h0 : a0 ≠ 95) (h4 : a4 ≠ 95) (hB : B = 95 :: Bh) (hR : B.reverse = 95 :: Bl) :
    (let s := stripPre (45 :: ([a0, a1, a2, a3, a4] ++ [46])) (45 :: (B ++ [46])); stripPre s.1.reverse s.2.reverse) = ([a4, a3, a2, a1, a0], B.reverse) := by
  have e : stripPre (45 :: ([a0, a1, a2, a3, a4] ++ [46])) (45 :: (B ++ [46])) = ([a0, a1, a2, a3, a4] ++ [46], B ++ [46]) := by
    rw [hB]
    simp [stripPre, h0]
  rw [e]
  show stripPre ([a0, a1, a2, a3, a4] ++ [46]).reverse (B ++ [46]).reverse = _
  rw [List.reverse_append, List.reverse_append, hR]
  simp [stripPre, h4]
theorem strip_mid' {a0 a1 a2 a3 a4 : Nat} {B : List Nat} {Bh Bl : List Nat} (h0 : a0 ≠ 95) (h4 : a4 ≠ 95) (hB : B = 95 :: Bh) (hR : B.reverse = 95 :: Bl) :
    (let s := stripPre (45 :: (B ++ [46])) (45 :: ([a0, a1, a2, a3, a4] ++ [46])); stripPre s.1.reverse s.2.reverse) = (B.reverse, [a4, a3, a2, a1, a0]) := by
  have e : stripPre (45 :: (B ++ [46])) (45 :: ([a0, a1, a2, a3, a4] ++ [46])) = (B ++ [46], [a0, a1, a2, a3, a4] ++ [46]) := by
    rw [hB]
    simp [stripPre, Ne.symm h0]
  rw [e]
  show stripPre (B ++ [46]).reverse ([a0, a1, a2, a3, a4] ++ [46]).reverse = _
  rw [List.reverse_append, List.reverse_append, hR]
  simp [stripPre, Ne.symm h4]
theorem lev_mid {a0 a1 a2 a3 a4 : Nat} {B : List Nat} {Bh Bl : List Nat} (h0 : a0 ≠ 95) (h4 : a4 ≠ 95) (hB : B = 95 :: Bh) (hR : B.reverse = 95 :: Bl) (hl : B.length = 34) (mc : Int) :
    lev (45 :: ([a0, a1, a2, a3, a4] ++ [46])) (45 :: (B ++ [46])) mc = levTail [a0, a1, a2, a3, a4] B mc ∧
    lev (45 :: (B ++ [46])) (45 :: ([a0, a1, a2, a3, a4] ++ [46])) mc = levTail [a0, a1, a2, a3, a4] B mc := by
  have hn : ¬ (45 :: ([a0, a1, a2, a3, a4] ++ [46]) = 45 :: (B ++ [46])) := by
    rw [hB]
    simp [h0]
  have e1 := strip_mid (a1 := a1) (a2 := a2) (a3 := a3) h0 h4 hB hR
  have e2 := strip_mid' (a1 := a1) (a2 := a2) (a3 := a3) h0 h4 hB hR
  simp only at e1 e2
  constructor
  · unfold lev
    rw [if_neg hn]
    simp only [e1]
    unfold levStr
    rw [List.reverse_reverse]
    simp [hl]
  · unfold lev
    rw [if_neg (fun h => hn h.symm)]
    simp only [e2]
    unfold levStr
    rw [List.reverse_reverse]
    simp [hl]
noncomputable def lowN (c : Nat) : Nat := if Nat.ble 65 c && Nat.ble c 90 then c + 32 else c
noncomputable def costT (b c : Nat) : Nat := if Nat.beq b c then 0 else if Nat.beq (lowN b) (lowN c) then 1 else 2
noncomputable def ALPH : List Nat := [45, 95, 97, 66, 99, 101, 90, 65, 98, 67, 69, 122]
theorem cost_all : ∀ b ∈ ALPH, ∀ c ∈ ALPH, cost b c = (costT b c : Int) := by decide +kernel
theorem costT_two (b c : Nat) : costT b c ≤ 2 := by
  unfold costT
  split
  · (first | lia | omega)
  · split <;> (first | lia | omega)
noncomputable def DistIs (D : Int) (f : Int → Int) : Prop := (∀ mc, D ≤ mc → f mc = D) ∧ ∀ mc, mc < D → mc < f mc
theorem tail_dist {A B : List Nat} {W : Nat} (hA : ∀ a ∈ A, a ∈ ALPH) (hB : ∀ b ∈ B, b ∈ ALPH) (hA5 : A.length = 5) (hB34 : B.length = 34)
    (hW : lastN 14 (foldN (B.map fun b => A.map (costT b)) [10, 8, 6, 4, 2]) = W) (hW22 : W ≤ 22) : DistIs (80 - (W : Int)) (levTail A B) := by
  have hc : ∀ b ∈ B, A.map (cost b) = (A.map (costT b)).map (fun (c : Nat) => (c : Int)) ∧ ∀ c ∈ A.map (costT b), c ≤ 2 := by
    intro b hb
    refine ⟨?_, ?_⟩
    · rw [List.map_map]
      exact List.map_congr_left fun a ha => cost_all b (hB b hb) a (hA a ha)
    · intro c hc
      obtain ⟨a, _, rfl⟩ := List.mem_map.mp hc
      exact costT_two b a
  have hrow : row0 A.length = rowN 0 [10, 8, 6, 4, 2] := by rw [hA5]; decide
  have hrun := runN_fold (80 - W) (B.map fun b => A.map (costT b)) 0 [10, 8, 6, 4, 2] (by simp) (by
    intro cs hcs
    obtain ⟨b, _, rfl⟩ := List.mem_map.mp hcs
    simpa using hA5) (by rw [hW]; simp [hB34]; (first | lia | omega))
  have ho := outer_run A (fun b => A.map (costT b)) (80 - W) B 0 [10, 8, 6, 4, 2] _ 0 hc (by simp [hA5]) (by decide) hrun
  rw [hW] at ho
  have hne : ¬ B = [] := fun h => by rw [h] at hB34; simp at hB34
  rw [if_neg hne] at ho
  have ho' : outer A ((80 - W : Nat) : Int) B 0 (row0 A.length) 0 = 80 - (W : Int) := by
    rw [hrow, ho]
    (first | lia | omega)
  constructor
  · intro mc h
    unfold levTail
    rw [if_neg (by (first | lia | omega))]
    rw [outer_up (mc := ((80 - W : Nat) : Int)) (by (first | lia | omega)) B 0 _ 0 (by rw [ho']; (first | lia | omega))]
    exact ho'
  · intro mc h
    unfold levTail
    split
    · (first | lia | omega)
    · exact outer_low (mc := ((80 - W : Nat) : Int)) (by (first | lia | omega)) B 0 _ 0 (by rw [ho']; (first | lia | omega)) (by rw [ho']; (first | lia | omega))
end Mine
end
section
open PySem PySem.W PyProof.Rows PySem.Spec PySem.Calls
set_option maxRecDepth 100000
namespace Mine
noncomputable def SG : List Nat := [97, 66, 99, 101, 90]
noncomputable def SW : List Nat := [97, 66, 99, 101, 90, 65, 98, 67, 69, 122]
noncomputable def rowL (t : List Nat) : List Nat := (List.range 5).map fun i => SW.getD (i + 5 * t.getD i 0) 0
noncomputable def rowOf (t : List Nat) (back : Bool) : List Nat := if back then (rowL t).reverse else rowL t
noncomputable def midL (p : List Nat) : List Nat := [95, 95, 95, 95] ++ p.flatMap fun i => [SG.getD i 0, 45, 95, 95, 95, 95]
noncomputable def apartL (p : List Nat) : List Nat := (p.flatMap fun i => [45, 95, 95, 95, 95, SG.getD i 0]) ++ [45, 95, 95, 95, 95, 46]
theorem apart_mid0 : ∀ p : List Nat, (p.flatMap fun i => [45, 95, 95, 95, 95, SG.getD i 0]) ++ [45, 95, 95, 95, 95] = 45 :: midL p
  | [] => rfl
  | i :: p => by
    have ih := apart_mid0 p
    unfold midL at ih ⊢
    rw [List.flatMap_cons, List.append_assoc, ih, List.flatMap_cons]
    rfl
theorem apart_mid (p : List Nat) : apartL p = 45 :: (midL p ++ [46]) := by
  have e : apartL p = ((p.flatMap fun i => [45, 95, 95, 95, 95, SG.getD i 0]) ++ [45, 95, 95, 95, 95]) ++ [46] := by
    unfold apartL
    rw [List.append_assoc]
    rfl
  rw [e, apart_mid0]
  rfl
theorem cells_all : ∀ t ∈ turns, ∀ back ∈ [false, true], ∀ i ∈ List.range 5, (rowOf t back).map (costT (SG.getD i 0)) = cstK (if back then 4 - i else i) (2 - t.getD i 0) := by decide +kernel
theorem fills_all : ∀ t ∈ turns, ∀ back ∈ [false, true], (rowOf t back).map (costT 45) = F5 ∧ (rowOf t back).map (costT 95) = F5 := by decide +kernel
theorem row_alph : ∀ t ∈ turns, ∀ back ∈ [false, true], (∀ a ∈ rowOf t back, a ∈ ALPH ∧ a ≠ 95) ∧ (rowOf t back).length = 5 := by decide +kernel
theorem turn_ok : ∀ t ∈ turns, ∀ i ∈ List.range 5, 2 - t.getD i 0 = 1 ∨ 2 - t.getD i 0 = 2 := by decide +kernel
theorem SG_alph : ∀ i ∈ List.range 5, SG.getD i 0 ∈ ALPH := by decide +kernel
theorem order_ok : ((bools 10).all fun b => Nat.beq (orderB b).length 5 && (orderB b).all fun i => Nat.blt i 5) = true := by decide +kernel
theorem back_mem (back : Bool) : back ∈ [false, true] := by cases back <;> simp
theorem mid_map {t : List Nat} {back : Bool} (ht : t ∈ turns) : ∀ p : List Nat, (∀ i ∈ p, i < 5) →
    (p.flatMap fun i => [SG.getD i 0, 45, 95, 95, 95, 95]).map (fun b => (rowOf t back).map (costT b)) = (kus p t back).flatMap blkC
  | [], _ => rfl
  | i :: p, h => by
    have ih := mid_map ht p (fun i hi => h i (.tail _ hi)) (back := back)
    have e : kus (i :: p) t back = (if back then 4 - i else i, 2 - t.getD i 0) :: kus p t back := rfl
    rw [List.flatMap_cons, List.map_append, ih, e, List.flatMap_cons]
    have hc := cells_all t ht back (back_mem back) i (List.mem_range.mpr (h i (.head _)))
    obtain ⟨h45, h95⟩ := fills_all t ht back (back_mem back)
    simp only [List.map_cons, List.map_nil, hc, h45, h95]
    rfl
theorem mid_map' {t : List Nat} {back : Bool} (ht : t ∈ turns) (p : List Nat) (h : ∀ i ∈ p, i < 5) :
    (midL p).map (fun b => (rowOf t back).map (costT b)) = [F5, F5, F5, F5] ++ (kus p t back).flatMap blkC := by
  obtain ⟨h45, h95⟩ := fills_all t ht back (back_mem back)
  unfold midL
  rw [List.map_append, mid_map ht p h]
  simp only [List.map_cons, List.map_nil, h95]
theorem mid_rev : ∀ p : List Nat, ∃ Bl, (midL p).reverse = 95 :: Bl := by
  intro p
  rcases p.eq_nil_or_concat with rfl | ⟨q, i, rfl⟩
  · exact ⟨_, rfl⟩
  · have e : (midL (q.concat i)).reverse = [SG.getD i 0, 45, 95, 95, 95, 95].reverse ++ (midL q).reverse := by
      unfold midL
      rw [List.concat_eq_append, List.flatMap_append, ← List.append_assoc, List.reverse_append]
      rfl
    exact ⟨[95, 95, 95, 45, SG.getD i 0] ++ (midL q).reverse, by rw [e]; rfl⟩
theorem mid_len : ∀ p : List Nat, (p.flatMap fun i => [SG.getD i 0, 45, 95, 95, 95, 95]).length = 6 * p.length
  | [] => rfl
  | i :: p => by
    rw [List.flatMap_cons, List.length_append, mid_len p]
    simp
    (first | lia | omega)
theorem mid_alph : ∀ p : List Nat, (∀ i ∈ p, i < 5) → ∀ x ∈ midL p, x ∈ ALPH := by
  intro p h x hx
  unfold midL at hx
  rcases List.mem_append.mp hx with hx | hx
  · simp at hx
    subst hx
    decide
  · obtain ⟨i, hi, hx⟩ := List.mem_flatMap.mp hx
    rcases List.mem_cons.mp hx with rfl | hx
    · exact SG_alph i (List.mem_range.mpr (h i hi))
    · simp at hx
      rcases hx with rfl | rfl <;> decide
theorem blk_last {k u : Nat} {ws : List Nat} (hk : k < 5) (hu : u ≤ 2) (h : Mono5 ws) : lastW (blk k u ws) ≤ lastW ws + 2 := by
  refine hideG ?_
  intro Cg hCg
  obtain ⟨w0, w1, w2, w3, w4, rfl, h0, h1, h2, h3, h4⟩ := h
  refine hCg ?_
  clear hCg Cg
  rcases (show k = 0 ∨ k = 1 ∨ k = 2 ∨ k = 3 ∨ k = 4 by (first | lia | omega)) with rfl | rfl | rfl | rfl | rfl
  · exact Nat.max_le.mpr ⟨Nat.le_add_right _ _, (by (first | lia | omega) : 12 + u ≤ w4 + 2)⟩
  · exact Nat.max_le.mpr ⟨Nat.le_add_right _ _, (by (first | lia | omega) : w0 + u ≤ w4 + 2)⟩
  · exact Nat.max_le.mpr ⟨Nat.le_add_right _ _, (by (first | lia | omega) : w1 + u ≤ w4 + 2)⟩
  · exact Nat.max_le.mpr ⟨Nat.le_add_right _ _, (by (first | lia | omega) : w2 + u ≤ w4 + 2)⟩
  · exact Nat.max_le.mpr ⟨Nat.le_add_right _ _, (by (first | lia | omega) : w3 + u ≤ w4 + 2)⟩
theorem fold_last : ∀ (l : List (Nat × Nat)) (ws : List Nat), Mono5 ws → (∀ ku ∈ l, ku.1 < 5 ∧ (ku.2 = 1 ∨ ku.2 = 2)) →
    Mono5 (l.foldl (fun w ku => blk ku.1 ku.2 w) ws) ∧ lastW (l.foldl (fun w ku => blk ku.1 ku.2 w) ws) ≤ lastW ws + 2 * l.length
  | [], ws, h, _ => ⟨h, by simp⟩
  | ku :: l, ws, h, hl => by
    obtain ⟨hk, hu⟩ := hl ku (.head _)
    obtain ⟨h1, h2⟩ := fold_last l (blk ku.1 ku.2 ws) (blk_mono hk h) (fun x hx => hl x (.tail _ hx))
    have h3 := blk_last (k := ku.1) (u := ku.2) hk (by (first | lia | omega)) h
    refine ⟨h1, ?_⟩
    simp only [List.foldl_cons, List.length_cons]
    (first | lia | omega)
theorem last_eq {ws : List Nat} (h : Mono5 ws) : lastN 14 ws = lastW ws := by
  refine hideG ?_
  intro Cg hCg
  obtain ⟨w0, w1, w2, w3, w4, rfl, _⟩ := h
  refine hCg ?_
  clear hCg Cg
  rfl
theorem cons_of_len {l : List Nat} {n : Nat} (h : l.length = n + 1) : ∃ a l', l = a :: l' ∧ l'.length = n := by
  cases l with
  | nil => cases h
  | cons a l => exact ⟨a, l, rfl, Nat.succ.inj h⟩
theorem row_five {l : List Nat} (h : l.length = 5) : ∃ a b c d e, l = [a, b, c, d, e] := by
  obtain ⟨a, l1, e1, h1⟩ := cons_of_len h
  obtain ⟨b, l2, e2, h2⟩ := cons_of_len h1
  obtain ⟨c, l3, e3, h3⟩ := cons_of_len h2
  obtain ⟨d, l4, e4, h4⟩ := cons_of_len h3
  obtain ⟨e, l5, e5, h5⟩ := cons_of_len h4
  rw [e1, e2, e3, e4, e5, List.eq_nil_of_length_eq_zero h5]
  exact ⟨a, b, c, d, e, rfl⟩
theorem dist_law {b : List Bool} {t : List Nat} (back : Bool) (hb : b ∈ bools 10) (hT : transB b = true) (ht : t ∈ turns) :
    DistIs (68 - (heavyL b t back : Int)) (lev (45 :: (rowOf t back ++ [46])) (apartL (orderB b))) ∧
    DistIs (68 - (heavyL b t back : Int)) (lev (apartL (orderB b)) (45 :: (rowOf t back ++ [46]))) := by
  have hchk := List.all_eq_true.mp checkAll b hb
  have ho := List.all_eq_true.mp order_ok b hb
  simp only [Bool.and_eq_true] at ho
  have hp5 : (orderB b).length = 5 := Nat.eq_of_beq_eq_true ho.1
  have hp : ∀ i ∈ orderB b, i < 5 := fun i hi => by
    have := List.all_eq_true.mp ho.2 i hi
    have h5 : i ≤ 4 := by simpa [Nat.blt] using this
    (first | lia | omega)
  have hW : lastW (rowW (orderB b) t back) = 12 + heavyL b t back := by
    unfold checkB at hchk
    rw [hT] at hchk
    simp only [Bool.not_true, Bool.false_or] at hchk
    have := List.all_eq_true.mp hchk t ht
    simp only [Bool.and_eq_true] at this
    cases back
    · exact Nat.eq_of_beq_eq_true this.1
    · exact Nat.eq_of_beq_eq_true this.2
  have hk : ∀ ku ∈ kus (orderB b) t back, ku.1 < 5 ∧ (ku.2 = 1 ∨ ku.2 = 2) := by
    intro ku hku
    obtain ⟨i, hi, rfl⟩ := List.mem_map.mp hku
    have := hp i hi
    refine ⟨?_, turn_ok t ht i (List.mem_range.mpr this)⟩
    show (if back then 4 - i else i) < 5
    split <;> (first | lia | omega)
  obtain ⟨hM, hL⟩ := fold_last (kus (orderB b) t back) [12, 12, 12, 12, 12] ⟨12, 12, 12, 12, 12, rfl, by decide, by decide, by decide, by decide, by decide⟩ hk
  have hkl : (kus (orderB b) t back).length = 5 := by unfold kus; rw [List.length_map, hp5]
  have hF : foldN ((midL (orderB b)).map fun x => (rowOf t back).map (costT x)) [10, 8, 6, 4, 2] = rowW (orderB b) t back := by
    rw [mid_map' ht (orderB b) hp]
    unfold rowW
    cases hku : kus (orderB b) t back with
    | nil => rw [hku] at hkl; simp at hkl
    | cons ku l => exact foldN_all (by rw [← hku]; exact hk)
  obtain ⟨hra, hrl⟩ := row_alph t ht back (back_mem back)
  obtain ⟨Bl, hBl⟩ := mid_rev (orderB b)
  have hlen : (midL (orderB b)).length = 34 := by
    unfold midL
    rw [List.length_append, mid_len, hp5]
    rfl
  have hlw : lastW [12, 12, 12, 12, 12] = 12 := rfl
  have hWr : lastW (rowW (orderB b) t back) ≤ 22 := by
    have := hL
    rw [hkl, hlw] at this
    exact this
  have hd := tail_dist (A := rowOf t back) (B := midL (orderB b)) (W := 12 + heavyL b t back) (fun a ha => (hra a ha).1) (mid_alph _ hp) hrl hlen
    (by rw [hF, ← hW]; exact last_eq hM) (by (first | lia | omega))
  refine hideG ?_
  intro Cg hCg
  obtain ⟨a0, a1, a2, a3, a4, ha⟩ := row_five hrl
  refine hCg ?_
  clear hCg Cg
  rw [ha] at hra hd ⊢
  have e : (80 - ((12 + heavyL b t back : Nat) : Int)) = 68 - (heavyL b t back : Int) := by (first | lia | omega)
  rw [e] at hd
  have hm := fun mc => lev_mid (a1 := a1) (a2 := a2) (a3 := a3) (B := midL (orderB b)) (hra a0 (by simp)).2 (hra a4 (by simp)).2 rfl hBl hlen mc
  rw [apart_mid]
  have e1 : lev (45 :: ([a0, a1, a2, a3, a4] ++ [46])) (45 :: (midL (orderB b) ++ [46])) = levTail [a0, a1, a2, a3, a4] (midL (orderB b)) := funext fun mc => (hm mc).1
  have e2 : lev (45 :: (midL (orderB b) ++ [46])) (45 :: ([a0, a1, a2, a3, a4] ++ [46])) = levTail [a0, a1, a2, a3, a4] (midL (orderB b)) := funext fun mc => (hm mc).2
  rw [e1, e2]
  exact ⟨hd, hd⟩
end Mine
end
section
open PySem PySem.W PyProof.Rows PySem.Spec PySem.Calls
set_option maxRecDepth 100000
set_option maxHeartbeats 4000000
namespace Mine
theorem owner_filter : Manifest.owners.lookup (String.ofList ['r', 'e', 't', 'l', 'i', 'f'].reverse) = some Manifest.sig_filter := by kernel_rfl
theorem slot_filter_next : Slot "filter" "__next__" "filter.__next__" :=
  .of (owner := "filter") (n := "__next__") (by rw [typeLookup_type, builtinLookup_eq_fast]; kernel_rfl) (by decide +kernel) (by decide +kernel) (by decide +kernel)
    (by first | exact .inl (by decide +kernel) | exact .inr (by decide +kernel)) (by rw [isSubtype_type]; kernel_rfl)
theorem entry_filter_next : entryFor table "filter.__next__" = some Builtin.«filter.__next__» := entryFor_of_tree (by kernel_rfl)
theorem args_filter_next_1 (a : Value) : argsOk "filter.__next__" ⟨[a], []⟩ := by
  unfold argsOk; rw [signature?_of (id := "filter.__next__") (n := ['_', '_', 't', 'x', 'e', 'n', '_', '_']) (o := ['r', 'e', 't', 'l', 'i', 'f']) (by kernel_rfl) owner_filter]; kernel_rfl
theorem slot_filter_iter : Slot "filter" "__iter__" "filter.__iter__" :=
  .of (owner := "filter") (n := "__iter__") (by rw [typeLookup_type, builtinLookup_eq_fast]; kernel_rfl) (by decide +kernel) (by decide +kernel) (by decide +kernel)
    (by first | exact .inl (by decide +kernel) | exact .inr (by decide +kernel)) (by rw [isSubtype_type]; kernel_rfl)
theorem entry_filter_iter : entryFor table "filter.__iter__" = some Builtin.«dict_keyiterator.__iter__» :=
  entryFor_alias (id' := "dict_keyiterator.__iter__") (by kernel_rfl) rfl (by decide +kernel) (by kernel_rfl)
theorem args_filter_iter_1 (a : Value) : argsOk "filter.__iter__" ⟨[a], []⟩ := by
  unfold argsOk; rw [signature?_of (id := "filter.__iter__") (n := ['_', '_', 'r', 'e', 't', 'i', '_', '_']) (o := ['r', 'e', 't', 'l', 'i', 'f']) (by kernel_rfl) owner_filter]; kernel_rfl
noncomputable def FiltIt (h : Heap) (I T : Addr) : Prop := ∃ o, h.get? I = some o ∧ o.cls = .type "filter" ∧ o.data = .fields #[.builtin "len", .ref T]
theorem FiltIt.typeIs {s : Shared} {I T} (x : FiltIt s.heap I T) : s.TypeIs (.ref I) "filter" := let ⟨o, ho, hc, _⟩ := x; ⟨o, ho, hc⟩
theorem FiltIt.at {h h' : Heap} {I T} (x : FiltIt h I T) (e : ∀ o, h.get? I = some o → h'.get? I = some o) : FiltIt h' I T := let ⟨o, ho, r⟩ := x; ⟨o, e o ho, r⟩
section
variable {prog : Program} {w : World} {A : Around} {E : Value → Shared → Prop} {s : Shared}
theorem special_tuple_item {it t : Addr} {i : Nat} {items} {x : Value} {Q : Option Value → Shared → Prop} (hit : s.heap.IsTupleIter it t i)
    (ht : s.heap.IsTuple t items) (hx : items[i]? = some x)
    (hQ : ∀ h', h'.IsTupleIter it t (i + 1) → Heap.SameBut it s.heap h' → Q (some x) { s with heap := h' }) :
    wpAny (model prog w) A (callSpecial? (.ref it) "__next__") Q E s := by
  obtain ⟨o, ho, hc, hd⟩ := id hit
  obtain ⟨ol, hol, _, nl, hdl⟩ := ht
  refine wpAny_callSpecial?_slot (name := Str.ofString "__next__") hit.typeIs F.slot_tuple_iterator_next
    (wpAny_call_entry F.slot_tuple_iterator_next hit.typeIs F.entry_tuple_iterator_next ?_ (F.args_tuple_iterator_next_1 _))
  show wpAny _ _ (field (.ref it) 0 >>= _) _ _ s
  refine wpAny_bind (wpAny_field ho hd (x := .ref t) rfl ?_)
  show wpAny _ _ (if (Value.ref t == Value.none) = true then _ else _) _ _ s
  rw [if_neg (show ¬ ((Value.ref t == Value.none) = true) from Bool.false_ne_true)]
  show wpAny _ _ (field (.ref it) 1 >>= _) _ _ s
  refine wpAny_bind (wpAny_field ho hd (x := .int i 0) rfl ?_)
  show wpAny _ _ (seqItems? (.ref t) >>= _) _ _ s
  refine wpAny_bind (wpAny_seqItems hol hdl ?_)
  simp only [Int.toNat_natCast, hx]
  refine wpAny_bind (wpAny_setField ho hd (by simp) (wpAny_pure ⟨x, rfl, hQ _ ?_ (Heap.SameBut.update ..)⟩))
  exact ⟨_, Heap.get?_update_self _ ho (Obj.isFreed_of_fields (Obj.data_mapFields hd _)), (Obj.cls_mapFields ..).trans hc, by
    rw [Obj.data_mapFields hd]; simp [rawInt]⟩
theorem special_tuple_end {it t : Addr} {i : Nat} {items} {Q : Option Value → Shared → Prop} (hh : A.handled = none)
    (hit : s.heap.IsTupleIter it t i) (ht : s.heap.IsTuple t items) (hx : items[i]? = none)
    (hE : ∀ h' e, Heap.ExtBut it s.heap h' → (∃ o, h'.get? e = some o ∧ o.cls = .type "StopIteration") → E (.ref e) { s with heap := h' }) :
    wpAny (model prog w) A (callSpecial? (.ref it) "__next__") Q E s := by
  obtain ⟨o, ho, hc, hd⟩ := id hit
  obtain ⟨ol, hol, _, nl, hdl⟩ := ht
  refine wpAny_callSpecial?_slot (name := Str.ofString "__next__") hit.typeIs F.slot_tuple_iterator_next
    (wpAny_call_entry F.slot_tuple_iterator_next hit.typeIs F.entry_tuple_iterator_next ?_ (F.args_tuple_iterator_next_1 _))
  show wpAny _ _ (field (.ref it) 0 >>= _) _ _ s
  refine wpAny_bind (wpAny_field ho hd (x := .ref t) rfl ?_)
  show wpAny _ _ (if (Value.ref t == Value.none) = true then _ else _) _ _ s
  rw [if_neg (show ¬ ((Value.ref t == Value.none) = true) from Bool.false_ne_true)]
  show wpAny _ _ (field (.ref it) 1 >>= _) _ _ s
  refine wpAny_bind (wpAny_field ho hd (x := .int i 0) rfl ?_)
  show wpAny _ _ (seqItems? (.ref t) >>= _) _ _ s
  refine wpAny_bind (wpAny_seqItems hol hdl ?_)
  simp only [Int.toNat_natCast, hx]
  refine wpAny_bind (wpAny_rule (wpAny_bind (wpAny_setField ho hd (by simp) ?_)))
  show wpAny _ _ (newExc (.type "StopIteration") [] >>= _) _ _ _
  refine wpAny_bind ?_
  simp only [newExc, newTuple]
  refine wpAny_bind (wpAny_newObj_type ?_ (by size_fits))
  refine wpAny_bind (m := firstArgMember _ _) (wpAny_of_eq (a := Value.none) (by first | rfl | (simp only [firstArgMember]; rfl)) ?_)
  refine wpAny_newObj_type ?_ (by size_fits)
  simp only [raiseNew]
  refine wpAny_bind (wpAny_handled ?_)
  first | rw [show A.in1.handled = none from hh] | rw [hh]
  refine wpAny_bind (wpAny_pure (wpAny_throw ?_))
  exact hE _ _ (((Heap.SameBut.update ..).extBut.push _).push _) ⟨_, Heap.get?_push_size _ rfl, rfl⟩
end
end Mine
end
section
open PySem PySem.W PyProof.Rows PySem.Spec PySem.Calls
set_option maxRecDepth 100000
set_option maxHeartbeats 4000000
namespace Mine
theorem plain_filter_next : plainId "filter.__next__" = true := by decide +kernel
section
variable {prog : Program} {w : World} {A : Around} {E : Value → Shared → Prop} {s : Shared}
noncomputable def nextAt (ts : List Str) (i : Nat) : Option Nat := ((List.range' i (ts.length - i)).find? fun j => (ts.getD j Str.empty).length != 0)
theorem nextAt_end {ts : List Str} {i : Nat} (h : ts.length ≤ i) : nextAt ts i = none := by
  unfold nextAt
  rw [show ts.length - i = 0 by (first | lia | omega)]
  rfl
theorem nextAt_step {ts : List Str} {i : Nat} (h : i < ts.length) : nextAt ts i = if ((ts.getD i Str.empty).length != 0) = true then some i else nextAt ts (i + 1) := by
  unfold nextAt
  rw [show ts.length - i = (ts.length - (i + 1)) + 1 by (first | lia | omega), List.range'_succ, List.find?_cons]
  cases ((ts.getD i Str.empty).length != 0) <;> rfl
theorem filt_body {I T t : Addr} {vs : List Value} {ts : List Str} (hne : I ≠ T) (hnt : t ≠ T) (hh : A.handled = none) (hv : StrsAre vs ts) (hsm : ∀ x ∈ ts, (x.length : Int) < 9223372036854775808) : ∀ (k i : Nat) (s : Shared) (R : Result → Shared → Prop), ts.length - i = k → i ≤ ts.length →
    FiltIt s.heap I T → s.heap.IsTupleIter T t i → s.heap.IsTuple t vs.toArray →
    (∀ j h' tk x u, nextAt ts i = some j → j < ts.length → i ≤ j → ts[j]? = some x → vs[j]? = some (.str x u) → h'.IsTupleIter T t (j + 1) → Heap.SameBut T s.heap h' → R (.ok (.ret (.str x u))) { s with heap := h', toks := tk }) →
    (∀ h' tk e, nextAt ts i = none → Heap.ExtBut T s.heap h' → (∃ o, h'.get? e = some o ∧ o.cls = .type "StopIteration") → R (.error (.ref e)) { s with heap := h', toks := tk }) →
    wpAny (model prog w) A.in1 (Builtin.«filter.__next__» ⟨[.ref I], []⟩) (fun fin s' => match fin with | .done f => R (.ok f) s' | .again c' => c'.quiet = true ∧ codeAny (model prog w) A c' R s') (fun e s' => R (.error e) s') s := by
  intro k
  induction k with
  | zero =>
    intro i s R hk hi F H U hQ hE
    obtain ⟨o, ho, hc, hd⟩ := id F
    show wpAny _ _ (field (.ref I) 0 >>= _) _ _ s
    refine wpAny_bind (wpAny_field ho hd (x := .builtin "len") rfl ?_)
    show wpAny _ _ (field (.ref I) 1 >>= _) _ _ s
    refine wpAny_bind (wpAny_field ho hd (x := .ref T) rfl ?_)
    refine wpAny_bind (special_tuple_end hh H U (by simp [hv.length]; (first | lia | omega)) fun h' e he hx => ?_)
    exact hE h' s.toks e (nextAt_end (by (first | lia | omega))) he hx
  | succ k ih =>
    intro i s R hk hi F H U hQ hE
    have hlt : i < ts.length := by (first | lia | omega)
    obtain ⟨u, hu⟩ := hv.get i ts[i] (List.getElem?_eq_getElem hlt)
    have hg : ts.getD i Str.empty = ts[i] := by simp [List.getD_eq_getElem?_getD, hlt]
    obtain ⟨o, ho, hc, hd⟩ := id F
    show wpAny _ _ (field (.ref I) 0 >>= _) _ _ s
    refine wpAny_bind (wpAny_field ho hd (x := .builtin "len") rfl ?_)
    show wpAny _ _ (field (.ref I) 1 >>= _) _ _ s
    refine wpAny_bind (wpAny_field ho hd (x := .ref T) rfl ?_)
    refine wpAny_bind (special_tuple_item H U (x := .str ts[i] u) (by simpa using hu) fun h₁ H₁ hs₁ => ?_)
    refine wpAny_bind (wpAny_holding ?_)
    show wpAny _ _ (call (.builtin "len") [.str ts[i] u] >>= _) _ _ _
    refine wpAny_bind (PyProof.Rows.SBL.len (hsm _ (List.getElem_mem hlt)) ?_)
    refine wpAny_holding ?_
    refine P.truthy_int ?_
    have H' : h₁.IsTupleIter T t (i + 1) := H₁
    have hs' : Heap.SameBut T s.heap h₁ := hs₁
    have hst := nextAt_step hlt
    rw [hg] at hst
    by_cases hz : ts[i].length = 0
    · have e1 : ((((ts[i].length : Nat) : Int)) != 0) = false := by rw [hz]; rfl
      have e2 : (ts[i].length != 0) = false := by rw [hz]; rfl
      rw [e2, if_neg (by decide)] at hst
      rw [e1, if_neg (by decide)]
      refine wpAny_pure ⟨plainId_quiet plain_filter_next _, ?_⟩
      refine codeAny_builtin entry_filter_next ?_
      rw [Around.under_plainId plain_filter_next _]
      refine ih (i + 1) _ R (by (first | lia | omega)) (by (first | lia | omega)) (F.at fun o e => hs'.extBut I o hne e) H' (U.extBut hs'.extBut hnt) ?_ ?_
      · intro j h' tk x u hj hjl hij hx hvj Hj hsj
        exact hQ j h' tk x u (hst.trans hj) hjl (by (first | lia | omega)) hx hvj Hj (hs'.trans hsj)
      · intro h' tk e hj he hx
        exact hE h' tk e (hst.trans hj) (fun b o hb ho => he b o hb (hs'.extBut b o hb ho)) hx
    · have e1 : ((((ts[i].length : Nat) : Int)) != 0) = true := by simpa using hz
      have e2 : (ts[i].length != 0) = true := by simpa using hz
      rw [e2, if_pos rfl] at hst
      rw [e1, if_pos rfl]
      refine wpAny_pure ?_
      exact hQ i h₁ _ ts[i] u hst hlt (Nat.le_refl _) (List.getElem?_eq_getElem hlt) hu H' hs'
end
end Mine
end
section
open PySem PySem.W PyProof.Rows PySem.Spec PySem.Calls
set_option maxRecDepth 100000
set_option maxHeartbeats 4000000
namespace Mine
theorem slot_filter_init : Slot "filter" "__init__" "object.__init__" :=
  .of (owner := "object") (n := "__init__") (by rw [typeLookup_type, builtinLookup_eq_fast]; kernel_rfl) (by decide +kernel) (by decide +kernel) (by decide +kernel)
    (by first | exact .inl (by decide +kernel) | exact .inr (by decide +kernel)) (by rw [isSubtype_type]; kernel_rfl)
theorem mro_filter : mroOf (.type "filter") = pure [.type "filter", .type "object"] := by rw [mroOf_type]; kernel_rfl
theorem lookup_filter_new : typeLookup (.type "filter") "__new__" = pure (some (.builtin "filter.__new__")) := by rw [typeLookup_type, builtinLookup_eq_fast]; kernel_rfl
theorem called_filter : TypeCalled "filter" "filter.__new__" "object.__init__" :=
  ⟨by decide +kernel, by decide +kernel, ⟨_, _, mro_filter⟩, madeBy_type mro_filter lookup_filter_new (by decide +kernel), by decide +kernel, by rw [isSubtype_type]; kernel_rfl, slot_filter_init⟩
theorem typeCall_filter_2 (a b : Value) : checkTypeCall "filter" ⟨[a, b], []⟩ = pure () := by kernel_rfl
theorem newCall_filter_2 (a b : Value) : checkBuiltinCall "filter.__new__" ⟨[.type "filter", a, b], []⟩ = pure () := by kernel_rfl
theorem entry_filter_new : entryFor table "filter.__new__" = some Builtin.«filter.__new__» := entryFor_of_tree (by kernel_rfl)
theorem sub_filter : isSubtype (.type "filter") (.type "filter") = pure true := by rw [isSubtype_type]; kernel_rfl
noncomputable abbrev filtH (h : Heap) (t : Addr) : Heap := (h.push { cls := .type "tuple_iterator", data := .fields #[.ref t, .int 0 0] }).push { cls := .type "filter", data := .fields #[.builtin "len", .ref h.objs.size] }
theorem meets_filter_new (t : Addr) (xs : Array Value) :
    Meets (Builtin.«filter.__new__» ⟨[.type "filter", .builtin "len", .ref t], []⟩) (fun _ R s => s.heap.IsTuple t xs ∧
      R (.ok (.ret (.ref (s.heap.push { cls := .type "tuple_iterator", data := .fields #[.ref t, .int 0 0] }).objs.size))) { s with heap := filtH s.heap t }) :=
  .of_wp fun prog w A R s h => by
    obtain ⟨hp, g, d, tk, os⟩ := s; obtain ⟨hl1, h⟩ := h
    have hsub := sub_filter
    have hL1 : Heap.IsTuple (Shared.heap ⟨hp, g, d, tk, os⟩) t xs := hl1
    wp_walk using wpAny_pyIter_tuple hL1
    exact ⟨_, rfl, h⟩
section
variable {prog : Program} {w : World} {A : Around} {E : Value → Shared → Prop} {s : Shared}
theorem call_filter {t : Addr} {xs : Array Value} {Q : Value → Shared → Prop} (hl : s.heap.IsTuple t xs)
    (h : ∀ h', FiltIt h' (s.heap.objs.size + 1) s.heap.objs.size → h'.IsTupleIter s.heap.objs.size t 0 → h'.objs.size = s.heap.objs.size + 2 →
      (∀ c o, s.heap.get? c = some o → h'.get? c = some o) → Q (.ref (s.heap.objs.size + 1)) { s with heap := h' }) :
    wpAny (model prog w) A (call (.type "filter") [.builtin "len", .ref t]) Q E s := by
  refine callType_new called_filter (by decide) (typeCall_filter_2 _ _) (newCall_filter_2 _ _) (fun obj => F.args_object_init_3 obj _ _) entry_filter_new
    (meets_filter_new t xs) ⟨hl, ?_⟩
  have z1 : (s.heap.push { cls := .type "tuple_iterator", data := .fields #[.ref t, .int 0 0] }).objs.size = s.heap.objs.size + 1 := Heap.size_push ..
  have z2 : (filtH s.heap t).objs.size = s.heap.objs.size + 2 := by rw [Heap.size_push, z1]
  have g2 : (filtH s.heap t).get? (s.heap.push { cls := .type "tuple_iterator", data := .fields #[.ref t, .int 0 0] }).objs.size = some _ := Heap.get?_push_size _ rfl
  have g1 : (filtH s.heap t).get? s.heap.objs.size = some _ := Heap.get?_push_of_some _ (Heap.get?_push_size _ rfl)
  show _ ∧ _
  rw [z1] at g2
  rw [z1]
  exact ⟨⟨_, g2, rfl⟩, h _ ⟨_, g2, rfl, rfl⟩ ⟨_, g1, rfl, rfl⟩ z2 fun c o x => Heap.get?_push_of_some _ (Heap.get?_push_of_some _ x)⟩
theorem filt_call {I T t : Addr} {vs : List Value} {ts : List Str} {i : Nat} {R : Result → Shared → Prop} (hne : I ≠ T) (hnt : t ≠ T) (hh : A.handled = none) (hv : StrsAre vs ts) (hsm : ∀ x ∈ ts, (x.length : Int) < 9223372036854775808) (hi : i ≤ ts.length)
    (F : FiltIt s.heap I T) (H : s.heap.IsTupleIter T t i) (U : s.heap.IsTuple t vs.toArray)
    (hQ : ∀ j h' tk x u, nextAt ts i = some j → j < ts.length → i ≤ j → ts[j]? = some x → vs[j]? = some (.str x u) → h'.IsTupleIter T t (j + 1) → Heap.SameBut T s.heap h' → R (.ok (.ret (.str x u))) { s with heap := h', toks := tk })
    (hE : ∀ h' tk e, nextAt ts i = none → Heap.ExtBut T s.heap h' → (∃ o, h'.get? e = some o ∧ o.cls = .type "StopIteration") → R (.error (.ref e)) { s with heap := h', toks := tk }) :
    codeAny (model prog w) A (.call (.builtin "filter.__next__") ⟨[.ref I], []⟩) R s :=
  codeAny_call_builtin slot_filter_next.plain entry_filter_next (slot_filter_next.check _ _ _ _ _ _ _ _ F.typeIs (args_filter_next_1 _) (filt_body hne hnt hh hv hsm _ i s R rfl hi F H U hQ hE))
theorem filt_next {I T t : Addr} {vs : List Value} {ts : List Str} {i : Nat} {Q : Option Value → Shared → Prop} (hne : I ≠ T) (hnt : t ≠ T) (hh : A.handled = none) (hv : StrsAre vs ts) (hsm : ∀ x ∈ ts, (x.length : Int) < 9223372036854775808) (hi : i ≤ ts.length)
    (F : FiltIt s.heap I T) (H : s.heap.IsTupleIter T t i) (U : s.heap.IsTuple t vs.toArray)
    (hQ : ∀ j h' tk x u, nextAt ts i = some j → j < ts.length → i ≤ j → ts[j]? = some x → vs[j]? = some (.str x u) → h'.IsTupleIter T t (j + 1) → Heap.SameBut T s.heap h' → Q (some (.str x u)) { s with heap := h', toks := tk })
    (hE : ∀ h' tk, nextAt ts i = none → Heap.ExtBut T s.heap h' → Q none { s with heap := h', toks := tk }) : wpAny (model prog w) A (pyNext (.ref I)) Q E s := by
  unfold pyNext
  refine wpAny_bind (wpAny_attempt (wpAny_callSpecial?_slot (name := Str.ofString "__next__") F.typeIs slot_filter_next
    (wpAny_call (filt_call hne hnt hh hv hsm hi F H U ?_ ?_))))
  · intro j h' tk x u h1 h2 h3 h4 h5 h6 h7
    exact wpAny_pure (hQ j h' tk x u h1 h2 h3 h4 h5 h6 h7)
  · intro h' tk e h1 h2 ⟨o, ho, hc⟩
    refine wpAny_bind (wpAny_isInstance (T := "StopIteration") (b := true) ⟨o, ho, hc⟩ isSubtype_stop ?_)
    exact wpAny_pure (hE h' tk h1 h2)
theorem filt_iter {I T : Addr} {Q : Value → Shared → Prop} (F : FiltIt s.heap I T) (h : Q (.ref I) s) : wpAny (model prog w) A (pyIter (.ref I)) Q E s := by
  refine wpAny_pyIter_slot F.typeIs slot_filter_iter (wpAny_call_entry slot_filter_iter F.typeIs entry_filter_iter ?_ (args_filter_iter_1 _))
  show wpAny _ _ (ret (.ref I)) _ _ s
  exact wpAny_pure ⟨_, rfl, "filter", _, F.typeIs, slot_filter_next.lookup, h⟩
end
noncomputable def fullOf (ts : List Str) : List Str := ts.filter fun x => x.length != 0
theorem next_some {ts : List Str} : ∀ {k i j : Nat}, ts.length - i = k → nextAt ts i = some j → fullOf (ts.drop i) = ts.getD j Str.empty :: fullOf (ts.drop (j + 1)) := by
  intro k
  induction k with
  | zero =>
    intro i j hk h
    rw [nextAt_end (by omega)] at h
    cases h
  | succ k ih =>
    intro i j hk h
    have hlt : i < ts.length := by omega
    rw [nextAt_step hlt] at h
    have hg : ts.getD i Str.empty = ts[i] := by simp [List.getD_eq_getElem?_getD, hlt]
    rw [List.drop_eq_getElem_cons hlt]
    unfold fullOf at ih ⊢
    rw [List.filter_cons]
    rw [hg] at h
    by_cases hz : ((ts[i]).length != 0) = true
    · rw [if_pos hz] at h
      rw [if_pos hz]
      cases h
      rw [hg]
    · rw [if_neg hz] at h
      rw [if_neg hz]
      exact ih (by omega) h
theorem next_none {ts : List Str} : ∀ {k i : Nat}, ts.length - i = k → nextAt ts i = none → fullOf (ts.drop i) = [] := by
  intro k
  induction k with
  | zero =>
    intro i hk h
    rw [List.drop_of_length_le (by omega)]
    rfl
  | succ k ih =>
    intro i hk h
    have hlt : i < ts.length := by omega
    rw [nextAt_step hlt] at h
    have hg : ts.getD i Str.empty = ts[i] := by simp [List.getD_eq_getElem?_getD, hlt]
    rw [List.drop_eq_getElem_cons hlt]
    unfold fullOf at ih ⊢
    rw [List.filter_cons]
    rw [hg] at h
    by_cases hz : ((ts[i]).length != 0) = true
    · rw [if_pos hz] at h
      cases h
    · rw [if_neg hz] at h
      rw [if_neg hz]
      exact ih (by omega) h
theorem Walks.filter {prog : Program} {w : World} {A : Around} (hh : A.handled = none) (I T t : Addr) (hne : I ≠ T) (hnt : t ≠ T) {vs : List Value} {ts : List Str} (hv : StrsAre vs ts) (hsm : ∀ x ∈ ts, (x.length : Int) < 9223372036854775808) :
    Walks prog w A I [I, T, t] [T] (fullOf ts).length (fun i v => ∃ x u, (fullOf ts)[i]? = some x ∧ v = .str x u)
      (fun i h => FiltIt h I T ∧ h.IsTuple t vs.toArray ∧ ∃ p, p ≤ ts.length ∧ h.IsTupleIter T t p ∧ fullOf (ts.drop p) = (fullOf ts).drop i) where
  sub := fun b hb => by simp at hb; simp [hb]
  frame := fun i h h' st hk => by
    obtain ⟨F, U, p, hp, H, e⟩ := st
    refine ⟨F.at fun o e => hk I (by simp) o e, ?_, p, hp, ?_, e⟩
    · obtain ⟨o, ho, r⟩ := U
      exact ⟨o, hk t (by simp) o ho, r⟩
    · obtain ⟨o, ho, r⟩ := H
      exact ⟨o, hk T (by simp) o ho, r⟩
  item := fun i s Q E hi st hQ => by
    obtain ⟨F, U, p, hp, H, e⟩ := st
    refine filt_next hne hnt hh hv hsm hp F H U ?_ ?_
    · intro j h' tk x u h1 h2 h3 h4 h5 h6 h7
      have q := next_some rfl h1
      rw [e] at q
      have hx : ts.getD j Str.empty = x := by simp [List.getD_eq_getElem?_getD, h4]
      rw [hx, List.drop_eq_getElem_cons hi] at q
      have q1 := (List.cons.inj q).1
      have q2 := (List.cons.inj q).2
      refine hQ _ h' tk ⟨x, u, by rw [List.getElem?_eq_getElem hi, q1], rfl⟩ ⟨F.at fun o e => h7.extBut I o hne e, U.extBut h7.extBut hnt, j + 1, by omega, h6, q2.symm⟩ fun b o hb e => h7.extBut b o (fun h => hb (by simp [h])) e
    · intro h' tk h1 h2
      have q := next_none rfl h1
      rw [e] at q
      have := List.drop_eq_nil_iff.mp q
      omega
  done := fun s Q E st hQ => by
    obtain ⟨F, U, p, hp, H, e⟩ := st
    rw [List.drop_length] at e
    refine filt_next hne hnt hh hv hsm hp F H U ?_ ?_
    · intro j h' tk x u h1 h2 h3 h4 h5 h6 h7
      have q := next_some rfl h1
      rw [e] at q
      cases q
    · intro h' tk h1 h2
      exact hQ h' tk fun b o hb e => h2 b o (fun h => hb (by simp [h])) e
  self := fun i s Q E st hQ => filt_iter st.1 hQ
end Mine
end
section
open PySem PySem.W PyProof.Rows PySem.Spec PySem.Calls
set_option maxRecDepth 100000
set_option maxHeartbeats 4000000
namespace Mine
section
variable {prog : Program} {w : World} {A : Around} {E : Value → Shared → Prop} {s : Shared} {h₁ h₀ : Heap} {c P L : Addr} {ps : Array Value} {m mg : Str → Option Value} {bm : Addr} {ob : Obj}
theorem genCode {M : Model} {env : Env} {pos : Pos} {q : Str} {scope : Scope} {Q : Value → Shared → Prop} (hc : env.code = .ref c) (B : Based h₁ h₀ c P ps) (F : Fr h₀ L s.heap m)
    (hQ : ∀ code h' tk more, Based h₁ (regrown h₀ P (ps ++ more)) c P (ps ++ more) → Fr (regrown h₀ P (ps ++ more)) L h' m → Heap.ExtBut P s.heap h' → s.heap.objs.size ≤ h'.objs.size → Q code { s with heap := h', toks := tk }) :
    wpAny M A (genexprCode env pos q scope) Q E s := by
  cases hnf : codeAmong pos ps.toList with
  | none =>
    refine wpAny_genexprCodeX hc (B.codeAt F) (B.tabAt F) hnf fun c' h' tk hx hge hlt hcode _ htab _ => ?_
    obtain ⟨B', F'⟩ := B.grow F hx hcode htab
    exact hQ _ h' tk _ B' F' hx (Nat.le_trans hge (Nat.le_of_lt hlt))
  | some cv =>
    refine hideG ?_
    intro Cg hCg
    obtain ⟨o, vs, file, tf, flags, tg, inF, text, tt, op, ho, hd, h11, h2, h7, h9, h10, hop, hpd, htr, hne⟩ := B.codeAt F
    refine hCg ?_
    clear hCg Cg
    unfold genexprCode codeAt
    rw [hc, if_neg (show ¬ ((Value.ref c == Value.none) = true) from Bool.false_ne_true)]
    refine wpAny_bind (wpAny_fieldsOf ho hd ?_)
    rw [h11]
    refine wpAny_bind (wpAny_fieldsOf hop hpd ?_)
    rw [hnf]
    obtain ⟨B', F'⟩ := B.grow (more := #[]) F (Heap.ExtBut.refl _ _) (by simpa using B.codeAt F) (by simpa using B.tabAt F)
    exact wpAny_pure (hQ cv s.heap s.toks #[] B' F' (Heap.ExtBut.refl _ _) (Nat.le_refl _))
theorem stripElt {env : Env} {scope : Scope} {C : Addr} {code : Value} {a : Str} {t : Tok} {m₂ : Str → Option Value} {p1 p2 p3 : Pos} {A' : Around} {E' : Value → Shared → Prop} {u : Shared}
    (hline : (p2.endLine == p3.line) = true) (hk : scope.kind = .function) (hl : (genEnv scope [] C code builtinsNs env).kindOf "x" = some .local) (hn : u.heap.Ns C m₂) (hm : m₂ "x" = some (.str a t)) (hsz : a.length ≤ sizeLine) :
    wpAny (model prog w) A' (eval (.Call (.Attribute (.Name "x" p1) "strip" p2) [] [] p3) (genEnv scope [] C code builtinsNs env)) (fun y s₃ => (∃ t', y = .str (Txt.strip a) t') ∧ Keeps u s₃) E' u := by
  refine Call_method0 (by rfl) hline ?_
  refine wpAny_Name (wpAny_loadName_local hk hl hn hm ?_) (by decide)
  exact SBL.strip (fun t' k _ => ⟨⟨t', rfl⟩, u.heap, k, rfl, fun _ _ e => e⟩) hsz
theorem genStrip {env : Env} {iter : Expr} {px p1 p2 p3 pos : Pos} {scope : Scope} {Q : Value → Shared → Prop} {vs : List Value} {ts : List Str} {K : Addr}
    (B : Based h₁ h₀ c P ps) (M : BMod h₀ env.globals mg bm ob) (hcode : env.code = .ref c) (hh : A.handled = none) (hco : scope.isCoroutine = false) (hclos : closureFor scope env = pure [])
    (hcell : ∀ y ∈ scope.names, y.2 ≠ .cell) (h0 : scope.names.lookup (".0" : Str) = some NameKind.local) (hx : scope.names.lookup ("x" : Str) = some NameKind.local) (hkind : scope.kind = .function) (hroom : A.depth < recursionLimit)
    (hline : (p2.endLine == p3.line) = true) (hv : StrsAre vs ts) (hsm : ∀ x ∈ ts, x.length ≤ sizeLine) (hs : ∀ x, genFold iter env x = pure x)
    (h : wpAny (model prog w) A (eval iter env) (fun xv s₁ => ∃ I T t, xv = .ref I ∧ FiltIt s₁.heap I T ∧ s₁.heap.IsTupleIter T t 0 ∧ s₁.heap.IsTuple t vs.toArray ∧ I ≠ T ∧ t ≠ T ∧ K < T ∧ L ≤ K ∧ Fr h₀ L s₁.heap m ∧ AllBare s₁.gens ∧ s₁.heap.NoLimit ∧
      ∀ a s₅ more, Based h₁ (regrown h₀ P (ps ++ more)) c P (ps ++ more) → Fr (regrown h₀ P (ps ++ more)) L s₅.heap m → AllBare s₅.gens → s₅.os = s₁.os →
        Gen prog w A K a (fullOf ts).length (fun j y => ∃ x u, (fullOf ts)[j]? = some x ∧ y = .str (Txt.strip x) u) s₅ → Q (.ref a) s₅) E s) :
    wpAny (model prog w) A (eval (.GeneratorExp (.Call (.Attribute (.Name "x" p1) "strip" p2) [] [] p3) [⟨.Name "x" px, iter, [], 0⟩] scope pos) env) Q E s := by
  refine wpAny_GeneratorExp_walksQD hh hco hclos hcell h0 hx hkind hroom (wpAny_mono h (fun xv s₁ g => ?_) fun _ _ e => e) hs
  refine hideG ?_
  intro Cg hCg
  obtain ⟨I, T, t, rfl, hF, hT, hU, hne, hnt, hKT, hLK, F₁, G₁, hlim, hQ⟩ := g
  refine hCg ?_
  clear hCg Cg
  have hsm' : ∀ x ∈ ts, (x.length : Int) < 9223372036854775808 := fun x hx => by
    have := hsm x hx
    have e : sizeLine ≤ 9223372036854775807 := by decide
    omega
  have tI : ∃ o, s₁.heap.get? I = some o ∧ o.cls = .type "filter" := let ⟨o, ho, hc, _⟩ := hF; ⟨o, ho, hc⟩
  have tT : ∃ o, s₁.heap.get? T = some o ∧ o.cls = .type "tuple_iterator" := let ⟨o, ho, hc, _⟩ := hT; ⟨o, ho, hc⟩
  have tt : ∃ o, s₁.heap.get? t = some o ∧ o.cls = .type "tuple" := let ⟨o, ho, hc, _⟩ := hU; ⟨o, ho, hc⟩
  have notP : ∀ (b : Addr) (n : String), (∃ o, s₁.heap.get? b = some o ∧ o.cls = .type n) → b ≠ P := fun b n ⟨o, ho, hc⟩ e => by
    rw [e, (B.tabAt F₁).2] at ho
    cases ho
    cases hc
  have lt : ∀ (b : Addr) (n : String), (∃ o, s₁.heap.get? b = some o ∧ o.cls = .type n) → b < s₁.heap.objs.size := fun b n ⟨o, ho, _⟩ => Heap.lt_size ho
  have hcP : cStatics ≠ P := fun e => by
    obtain ⟨_, hns, _⟩ := hlim
    refine hideG ?_
    intro Cg hCg
    obtain ⟨o, es, ep, ho, hd, _⟩ := hns
    refine hCg ?_
    clear hCg Cg
    rw [e, (B.tabAt F₁).2] at ho
    cases ho
    cases hd
  have hcT : cStatics ≠ T := fun e => by
    refine hideG ?_
    intro Cg hCg
    obtain ⟨o, ho, hc, hd⟩ := hT
    refine hCg ?_
    clear hCg Cg
    obtain ⟨_, hns, _⟩ := hlim
    refine hideG ?_
    intro Cg hCg
    obtain ⟨o', es, ep, ho', hd', _⟩ := hns
    refine hCg ?_
    clear hCg Cg
    rw [← e, ho'] at ho
    cases ho
    rw [hd'] at hd
    cases hd
  refine filt_iter hF ⟨hlim, genCode hcode B F₁ fun code h₃ tk₃ more B₃ F₃ hx₃ hsz => ?_⟩
  have M₃ : BMod h₃ env.globals mg bm ob := (M.keeps F₁.keep).extBut (B.tabAt F₁) hx₃
  have hl₃ : h₃.NoLimit := hlim.extBut hx₃ hcP
  refine wpAny_builtinsFor M₃.ns M₃.name M₃.ne M₃.obj M₃.cls M₃.dict M₃.data ?_
  have W₀ := fun (A' : Around) (hA : A'.handled = none) => Walks.filter (prog := prog) (w := w) hA I T t hne hnt hv hsm'
  refine ⟨I, [I, T, t], [T], (fullOf ts).length, _, _, fun _ => true, fun i y => ∃ x u, (fullOf ts)[i]? = some x ∧ y = .str (Txt.strip x) u, rfl, W₀, (W₀ A hh).frame 0 _ _ ⟨hF, hU, 0, Nat.zero_le _, hT, rfl⟩ (fun b hb o e => hx₃ b o (fun q => ?_) e), ?_, hl₃, ?_, ?_, ?_⟩
  · subst q
    rcases List.mem_cons.mp hb with e | hb
    · exact notP I _ tI e.symm
    · rcases List.mem_cons.mp hb with e | hb
      · exact notP T _ tT e.symm
      · exact notP t _ tt (List.mem_singleton.mp hb).symm
  · intro b hb
    refine Nat.lt_of_lt_of_le ?_ hsz
    rcases List.mem_cons.mp hb with rfl | hb
    · exact lt _ _ tI
    · rcases List.mem_cons.mp hb with rfl | hb
      · exact lt _ _ tT
      · exact List.mem_singleton.mp hb ▸ lt _ _ tt
  · intro hm
    exact hcT (List.mem_singleton.mp hm)
  · intro href _
    refine ⟨fun A' E' i v s₂ m₂ _ _ _ _ _ _ _ => ?_, fun A' E' i v s₂ m₂ _ _ _ hp _ hn hm _ => ?_⟩
    · exact wpAny_pure ⟨rfl, s₂.heap, s₂.toks, rfl, fun _ _ e => e⟩
    · refine hideG ?_
      intro Cg hCg
      obtain ⟨x, u, hx', rfl⟩ := hp
      refine hCg ?_
      clear hCg Cg
      have hmem : x ∈ ts := (List.mem_filter.mp (List.mem_of_getElem? hx')).1
      refine wpAny_mono (stripElt hline hkind (by simp [genEnv, Env.kindOf, hx]) hn hm (hsm x hmem)) (fun y s₃ g => ⟨?_, g.2⟩) fun _ _ e => e
      obtain ⟨⟨t', rfl⟩, _⟩ := g
      exact ⟨x, t', hx', rfl⟩
  · intro a h₅ tk gs hgb hag hsz₅ hk₅ W hat
    have hpass : passing (fun _ => true) (fullOf ts).length 0 = List.range (fullOf ts).length := by simp [passing]
    have hkT : K < h₃.objs.size := Nat.lt_of_lt_of_le (Nat.lt_trans hKT (lt _ _ tT)) hsz
    rw [hpass, List.length_range] at W
    refine hQ a _ more B₃ (F₃.keeps hk₅) (G₁.push hgb) rfl (Gen.imp ⟨_, _, _, _, W, hat, fun i s' st => st.1.typeIs, List.mem_cons_self, ?_, ?_⟩ fun j y hy => ?_)
    · intro b hb
      show b < h₅.objs.size
      rw [hsz₅]
      rcases List.mem_cons.mp hb with rfl | hb
      · exact Nat.lt_succ_self _
      · rcases List.mem_cons.mp hb with rfl | hb
        · exact Nat.lt_succ_of_lt hag
        · exact Nat.lt_succ_of_lt (Nat.lt_trans (List.mem_range.mp hb) hag)
    · intro b hb
      rcases List.mem_cons.mp hb with rfl | hb
      · exact hkT
      · exact List.mem_singleton.mp hb ▸ hKT
    · refine hideG ?_
      intro Cg hCg
      obtain ⟨i, hi, x, u, hx', hy'⟩ := hy
      refine hCg ?_
      clear hCg Cg
      have : i = j := by
        have q := List.getElem?_eq_some_iff.mp hi
        simpa using q.2.symm
      exact ⟨x, u, this ▸ hx', hy'⟩
end
end Mine
end
section
open PySem PySem.W PyProof.Rows PySem.Spec PySem.Calls
set_option maxRecDepth 100000
set_option maxHeartbeats 4000000
namespace Mine
theorem bindStar {M : Model} {A : Around} {E : Value → Shared → Prop} {s : Shared} {fd : FuncData} {vs : List Value} {a : Arg} {Q : List (Str × Value) → Shared → Prop} (hp : fd.params = ⟨[], [], some a, [], [], none, []⟩) (hd : fd.defaults = .none) (hsz : vs.length ≤ 1000)
    (h : Q [(a.arg, .ref s.heap.objs.size)] { s with heap := s.heap.push { cls := .type "tuple", data := .seq vs.toArray } }) : wpAny M A (bindArgs fd ⟨vs, []⟩) Q E s := by
  obtain ⟨n, q, p, b, sc, gl, clo, df, kd, dc, pm, an, cd, ct, bt⟩ := fd
  dsimp only at hp hd
  subst hp hd
  have key : bindArgs ⟨n, q, ⟨[], [], some a, [], [], none, []⟩, b, sc, gl, clo, .none, kd, dc, pm, an, cd, ct, bt⟩ ⟨vs, []⟩ = (newObj (.type "tuple") (.seq vs.toArray) >>= fun t => pure [(a.arg, t)]) := by cases vs <;> rfl
  rw [key]
  refine wpAny_bind (wpAny_newObj_type (wpAny_pure h) ?_)
  show vs.toArray.size ≤ sizeLine
  have : 1000 ≤ sizeLine := by decide
  simp
  omega
section
variable {w : World} {mean : ExcName → Option Value} {mg mb : Str → Option Value} {dp un : Nat} {gd : Option (List Code)} {cn : Str} {cs : Scope} {a : Addr} {ccd : Value} {cl : List (Str × Addr)} {outer : List Env} {A₀ : Around} {base h₀ : Heap} {L : Addr} {m : Str → Option Value} {s : Shared} {Q E : Value → Shared → Prop} {news : List (Addr × Obj)}
    {name qual : Str} {body : List Stmt} {scope : Scope} {kV doc pm cdv ct oc : Value} {an od : Option Addr} {osl : Array (Option Value)} {f : Addr} {vs : List Value} {ar : Arg}
theorem callStar (S : Site w mean mg mb cs outer A₀ base h₀ L m s news)
    (ho : (hd.heap_1 w.params).lookup f = some ⟨oc, od, .func (fnOf name qual ⟨[], [], some ar, [], [], none, []⟩ body scope .none kV doc pm an cdv ct), osl⟩) (hcd : codeIn (hd.heap_1 w.params) cdv qual = true) (hroom : dp < recursionLimit)
    (hsz : vs.length ≤ 1000) (hloc : scope.names.lookup ar.arg = some .local)
    (hco : scope.isCoroutine = false) (hgen : scope.isGenerator = false) (hk : scope.kind = .function) (hcell : ∀ x ∈ scope.names, x.2 ≠ .cell)
    (h : ∀ g D L' h₁, D = s.heap.objs.size → g = s.heap.push { cls := .type "tuple", data := .seq vs.toArray } → Fr g L' h₁ (mp [(ar.arg, .ref D)]) →
      wpAny (model PG w) ((ktrTop dp un gd cn cs L a ccd cl outer).deeper (envOf qual scope L' f cdv)) (execs body (envOf qual scope L' f cdv))
        (fun fl s' => Q (match fl with | .ret v => v | _ => .none) s') (fun _ _ => False) { s with heap := h₁, toks := s.toks + 1 }) :
    wpAny (model PG w) (ktrTop dp un gd cn cs L a ccd cl outer) (call (.ref f) vs) Q E s := by
  have X := S.X.keeps S.F.keep
  refine wpAny_call (codeAny_call_function (fd := fnOf name qual ⟨[], [], some ar, [], [], none, []⟩ body scope .none kV doc pm an cdv ct) (body := body) hroom (X _ _ ho) rfl hco hgen rfl (codeRec_of X hcd) ?_)
  refine bindStar (a := ar) rfl rfl hsz ?_
  have hlim : (s.heap.push { cls := .type "tuple", data := .seq vs.toArray }).NoLimit := (S.T.nolimit.keeps S.F.keep).push _
  refine wpAny_newFunctionEnv hcell (by rintro y hy; rw [List.mem_singleton.mp hy]; exact hloc) (fun h₁ hns hsb => ⟨hlim.fresh _ hsb, ?_⟩) hk
  refine codeAny_func (wpAny_mono (h _ _ _ h₁ rfl rfl ⟨?_, fun b o e => hsb.extBut b o (Nat.ne_of_lt (Heap.lt_size e)) (Heap.get?_push_of_some _ e), Nat.le_refl _⟩) (fun _ _ q => q) fun _ _ q => q.elim)
  rw [← lookup_mp]
  exact hns
end
end Mine
end
section
open PySem PySem.Builtin PySem.Builtin.Str
set_option maxRecDepth 100000
set_option maxHeartbeats 4000000
namespace Mine
noncomputable def rpL (y z : List Nat) : Nat → List Nat → List Nat
  | 0, l => l
  | _ + 1, [] => []
  | n + 1, k :: r => if (k :: r).take y.length = y then z ++ rpL y z n ((k :: r).drop y.length) else k :: rpL y z n r
theorem rpL_fuel {y z : List Nat} (hy : 1 ≤ y.length) : ∀ (n m : Nat) (l : List Nat), l.length ≤ n → l.length ≤ m → rpL y z n l = rpL y z m l := by
  intro n
  induction n with
  | zero =>
    intro m l h1 h2
    have : l = [] := List.length_eq_zero_iff.mp (by (first | lia | omega))
    subst this
    cases m <;> rfl
  | succ n ih =>
    intro m l h1 h2
    cases l with
    | nil => cases m <;> rfl
    | cons k r =>
      cases m with
      | zero => simp at h2
      | succ m =>
        simp only [List.length_cons] at h1 h2
        simp only [rpL]
        rw [ih m r (by (first | lia | omega)) (by (first | lia | omega)), ih m ((k :: r).drop y.length) (by simp; (first | lia | omega)) (by simp; (first | lia | omega))]
noncomputable def rp (y z l : List Nat) : List Nat := rpL y z l.length l
theorem rp_nil (y z : List Nat) : rp y z [] = [] := rfl
theorem rp_cons {y z : List Nat} (hy : 1 ≤ y.length) (k : Nat) (r : List Nat) : rp y z (k :: r) = if (k :: r).take y.length = y then z ++ rp y z ((k :: r).drop y.length) else k :: rp y z r := by
  unfold rp
  rw [List.length_cons]
  simp only [rpL]
  rw [rpL_fuel hy r.length ((k :: r).drop y.length).length ((k :: r).drop y.length) (by simp; (first | lia | omega)) (Nat.le_refl _)]
theorem rp_len {y z : List Nat} (hy : 1 ≤ y.length) (hz : z.length ≤ y.length) : ∀ (n : Nat) (l : List Nat), l.length ≤ n → (rp y z l).length ≤ l.length := by
  intro n
  induction n with
  | zero =>
    intro l h
    have : l = [] := List.length_eq_zero_iff.mp (by (first | lia | omega))
    subst this
    exact Nat.le_refl _
  | succ n ih =>
    intro l h
    cases l with
    | nil => exact Nat.le_refl _
    | cons k r =>
      rw [rp_cons hy]
      simp only [List.length_cons] at h
      split
      · rename_i e
        have e' := congrArg List.length e
        rw [List.length_take] at e'
        have := ih ((k :: r).drop y.length) (by simp; (first | lia | omega))
        rw [List.length_append]
        simp only [List.length_drop, List.length_cons] at this e' ⊢
        (first | lia | omega)
      · have := ih r (by (first | lia | omega))
        simp only [List.length_cons]
        (first | lia | omega)
theorem rp_gap (x y : Str) (z : List Nat) (hy : 1 ≤ y.length) : ∀ (d a : Nat), a + d ≤ x.length → (∀ k, a ≤ k → k < a + d → ¬ StrLaws.At x y x.length k) →
    rp y.cps.toList z (x.cps.toList.drop a) = (x.cps.toList.drop a).take d ++ rp y.cps.toList z (x.cps.toList.drop (a + d)) := by
  have hyl : y.cps.toList.length = y.length := by simp [Str.length]
  have hxl : x.cps.toList.length = x.length := by simp [Str.length]
  intro d
  induction d with
  | zero => intro a _ _; simp
  | succ d ih =>
    intro a hle hno
    have hlt : a < x.cps.toList.length := by (first | lia | omega)
    rw [List.drop_eq_getElem_cons hlt, rp_cons (by (first | lia | omega)), ← List.drop_eq_getElem_cons hlt, if_neg ?_, ih (a + 1) (by (first | lia | omega)) fun k h1 h2 => hno k (by (first | lia | omega)) (by (first | lia | omega))]
    · rw [List.drop_eq_getElem_cons hlt, List.take_succ_cons, List.cons_append, show a + 1 + d = a + (d + 1) by (first | lia | omega)]
    · intro e
      refine hno a (Nat.le_refl _) (by (first | lia | omega)) ⟨?_, ?_⟩
      · have e' := congrArg List.length e
        rw [List.length_take, List.length_drop] at e'
        (first | lia | omega)
      · rw [StrLaws.subAt_eq]
        rw [hyl] at e
        exact beq_iff_eq.mpr e
theorem rp_chain (x y z : Str) (hy : 1 ≤ y.length) : ∀ (cuts : List Nat) (a f : Nat), a ≤ x.length → StrLaws.ChainG x y x.length a cuts f → (∀ k, f ≤ k → ¬ StrLaws.At x y x.length k) →
    (Str.join z (StrLaws.partsFrom x y.length a cuts)).cps.toList = rp y.cps.toList z.cps.toList (x.cps.toList.drop a)
  | [], a, f, ha, h, hf => by
    have e : f = a := h
    subst e
    have hxl : x.cps.toList.length = x.length := by simp [Str.length]
    rw [rp_gap x y z.cps.toList hy (x.length - f) f (by (first | lia | omega)) fun k h1 _ => hf k h1]
    show (strSub x f x.length).cps.toList = _
    rw [StrLaws.strSub_toList, show f + (x.length - f) = x.length by (first | lia | omega), List.drop_of_length_le (l := x.cps.toList) (i := x.length) (by (first | lia | omega)), rp_nil, List.append_nil]
  | c :: r, a, f, ha, h, hf => by
    obtain ⟨h1, h2, h3, h4⟩ := h
    obtain ⟨p, q, e⟩ := StrLaws.partsFrom_ne x y.length (c + y.length) r
    have ih := rp_chain x y z hy r (c + y.length) f h2.1 h4 hf
    have hyl : y.cps.toList.length = y.length := by simp [Str.length]
    have hxl : x.cps.toList.length = x.length := by simp [Str.length]
    show (Str.join z (strSub x a c :: StrLaws.partsFrom x y.length (c + y.length) r)).cps.toList = _
    rw [e] at ih ⊢
    show (strSub x a c ++ z ++ Str.join z (p :: q)).cps.toList = _
    simp only [Str.cps_append, Array.toList_append]
    rw [ih, StrLaws.strSub_toList]
    have h2' := h2.1
    have h2'' := h2.2
    rw [StrLaws.subAt_eq] at h2''
    have hm := beq_iff_eq.mp h2''
    rw [rp_gap x y z.cps.toList hy (c - a) a (by (first | lia | omega)) fun k k1 k2 => h3 k k1 (by (first | lia | omega)), show a + (c - a) = c by (first | lia | omega)]
    have hlt : c < x.cps.toList.length := by (first | lia | omega)
    conv => rhs; rhs; rw [List.drop_eq_getElem_cons hlt]
    rw [rp_cons (by (first | lia | omega)), ← List.drop_eq_getElem_cons hlt, if_pos (by rw [hyl]; exact hm), List.drop_drop, hyl, List.append_assoc]
theorem replace_rp (x y z : Str) (hy : 1 ≤ y.length) : (Txt.replace x y z).cps.toList = rp y.cps.toList z.cps.toList x.cps.toList := by
  obtain ⟨f, h, hf⟩ := StrLaws.occ_tight x y hy
  have q := rp_chain x y z hy _ 0 f (Nat.zero_le _) h hf
  rw [List.drop_zero] at q
  rw [← q]
  unfold Txt.replace
  have h0 : (y.length == 0) = false := by simp; (first | lia | omega)
  rw [h0, Bool.false_and, Bool.or_false]
  cases he : (occurrences x y 0 x.length (x.length + 1)).isEmpty
  · rw [if_neg Bool.false_ne_true, StrLaws.glued_eq_join, StrLaws.partsBetween_eq]
  · rw [if_pos rfl]
    have : occurrences x y 0 x.length (x.length + 1) = [] := List.isEmpty_iff.mp he
    rw [this]
    show _ = (strSub x 0 x.length).cps.toList
    rw [StrLaws.sub_whole]
theorem len_repl (x y z : Str) (hy : 1 ≤ y.length) (hz : z.length ≤ y.length) : (Txt.replace x y z).length ≤ x.length := by
  have e := replace_rp x y z hy
  have h := rp_len (y := y.cps.toList) (z := z.cps.toList) (by simpa [Str.length] using hy) (by simpa [Str.length] using hz) _ x.cps.toList (Nat.le_refl _)
  rw [← e] at h
  simpa [Str.length] using h
end Mine
end
section
open PySem PySem.Builtin PySem.Builtin.Str
set_option maxRecDepth 100000
set_option maxHeartbeats 4000000
namespace Mine
noncomputable def sqf : Bool → List Nat → List Nat
  | _, [] => []
  | p, k :: r => if k = 45 then (if p = true then sqf true r else 45 :: sqf true r) else k :: sqf false r
noncomputable abbrev rd (l : List Nat) : List Nat := rp [45, 45] [45] l
theorem rd_two (r : List Nat) : rd (45 :: 45 :: r) = 45 :: rd r := by
  unfold rd
  rw [rp_cons (by decide), if_pos (by rfl)]
  rfl
theorem rd_one {k : Nat} {r : List Nat} (h : ¬ (k = 45 ∧ r.head? = some 45)) : rd (k :: r) = k :: rd r := by
  unfold rd
  rw [rp_cons (by decide), if_neg]
  intro e
  refine h ?_
  cases r with
  | nil => simp at e
  | cons k' r' => simpa using e
theorem sq_rd : ∀ (n : Nat) (l : List Nat) (p : Bool), l.length ≤ n → sqf p (rd l) = sqf p l := by
  intro n
  induction n with
  | zero =>
    intro l p h
    have : l = [] := List.length_eq_zero_iff.mp (by (first | lia | omega))
    subst this
    rfl
  | succ n ih =>
    intro l p h
    cases l with
    | nil => rfl
    | cons k r =>
      simp only [List.length_cons] at h
      by_cases hd : k = 45 ∧ r.head? = some 45
      · obtain ⟨rfl, h2⟩ := hd
        cases r with
        | nil => cases h2
        | cons k' r' =>
          have : k' = 45 := by simpa using h2
          subst this
          rw [rd_two]
          simp only [List.length_cons] at h
          simp only [sqf, if_true]
          rw [ih r' true (by (first | lia | omega))]
      · rw [rd_one hd]
        simp only [sqf]
        rw [ih r true (by (first | lia | omega)), ih r false (by (first | lia | omega))]
theorem rd_dich : ∀ (n : Nat) (l : List Nat), l.length ≤ n → (rd l).length < l.length ∨ (rd l = l ∧ sqf false l = l ∧ (l.head? ≠ some 45 → sqf true l = l)) := by
  intro n
  induction n with
  | zero =>
    intro l h
    have : l = [] := List.length_eq_zero_iff.mp (by (first | lia | omega))
    subst this
    exact .inr ⟨rfl, rfl, fun _ => rfl⟩
  | succ n ih =>
    intro l h
    cases l with
    | nil => exact .inr ⟨rfl, rfl, fun _ => rfl⟩
    | cons k r =>
      simp only [List.length_cons] at h
      by_cases hd : k = 45 ∧ r.head? = some 45
      · obtain ⟨rfl, h2⟩ := hd
        cases r with
        | nil => cases h2
        | cons k' r' =>
          have : k' = 45 := by simpa using h2
          subst this
          rw [rd_two]
          have := rp_len (y := [45, 45]) (z := [45]) (by decide) (by decide) r'.length r' (Nat.le_refl _)
          simp only [List.length_cons]
          exact .inl (by show (rp [45, 45] [45] r').length + 1 < _; (first | lia | omega))
      · rw [rd_one hd]
        rcases ih r (by (first | lia | omega)) with q | ⟨q1, q2, q3⟩
        · exact .inl (by simp only [List.length_cons]; (first | lia | omega))
        · refine .inr ⟨by rw [q1], ?_, ?_⟩
          · by_cases hk : k = 45
            · have : r.head? ≠ some 45 := fun e => hd ⟨hk, e⟩
              simp only [sqf, if_pos hk, Bool.false_eq_true, if_false]
              rw [q3 this, hk]
            · simp only [sqf, if_neg hk]
              rw [q2]
          · intro hh
            have hk : ¬ k = 45 := fun e => hh (by rw [e]; rfl)
            simp only [sqf, if_neg hk]
            rw [q2]
theorem repl_dd (x : Str) : (Txt.replace x (Str.ofString "--") (Str.ofString "-")).cps.toList = rd x.cps.toList := replace_rp x _ _ (by decide)
theorem sq_fix (x : Str) (h : (Txt.replace x (Str.ofString "--") (Str.ofString "-") == x) = true) : sqf false x.cps.toList = x.cps.toList := by
  have e := congrArg (fun y : Str => y.cps.toList) (eq_of_beq h)
  simp only [repl_dd] at e
  rcases rd_dich _ x.cps.toList (Nat.le_refl _) with q | q
  · rw [e] at q
    exact absurd q (Nat.lt_irrefl _)
  · exact q.2.1
theorem sq_less (x : Str) (h : (Txt.replace x (Str.ofString "--") (Str.ofString "-") == x) = false) : (Txt.replace x (Str.ofString "--") (Str.ofString "-")).length < x.length ∧ sqf false (Txt.replace x (Str.ofString "--") (Str.ofString "-")).cps.toList = sqf false x.cps.toList := by
  refine ⟨?_, by rw [repl_dd]; exact sq_rd _ _ _ (Nat.le_refl _)⟩
  rcases rd_dich _ x.cps.toList (Nat.le_refl _) with q | q
  · rw [← repl_dd] at q
    simpa [Str.length] using q
  · exfalso
    rw [← repl_dd] at q
    have : Txt.replace x (Str.ofString "--") (Str.ofString "-") = x := Str.ext' (Array.toList_inj.mp q.1)
    rw [this] at h
    simp at h
noncomputable def trimR (l : List Nat) : List Nat := (l.reverse.dropWhile (· == 45)).reverse
theorem trimR_drop {l : List Nat} (h : l.getLast? = some 45) : trimR l = trimR l.dropLast := by
  unfold trimR
  obtain ⟨k, hk⟩ : ∃ k, l = k ++ [45] := List.getLast?_eq_some_iff.mp h
  subst hk
  simp
theorem trimR_stop {l : List Nat} (h : l.getLast? ≠ some 45) : trimR l = l := by
  unfold trimR
  cases hr : l.reverse with
  | nil =>
    have : l = [] := by simpa using hr
    rw [this]; rfl
  | cons k r =>
    have hk : ¬ k = 45 := by
      intro e
      refine h ?_
      have : l = r.reverse ++ [k] := by
        have := congrArg List.reverse hr
        simpa using this
      rw [this, e]
      simp
    rw [List.dropWhile_cons_of_neg (by simpa using hk), ← hr, List.reverse_reverse]
end Mine
end
section
open PySem PySem.Builtin PySem.Builtin.Str
set_option maxRecDepth 100000
set_option maxHeartbeats 4000000
namespace Mine
theorem of_toList (y : Str) : y = ofL y.cps.toList := by
  refine Str.ext' (Array.toList_inj.mp ?_)
  rw [ofL_cps]
theorem trim_item {y : Str} (h : (y.length : Int) ≠ 0) (b : Bool) (e : (Txt.item y (-1) == Str.ofString "-") = b) : (y.cps.toList.getLast? = some 45) ↔ b = true := by
  have hl : 0 < y.cps.toList.length := by
    have : y.cps.toList.length = y.length := by simp [Str.length]
    omega
  have q := item_back hl
  rw [← of_toList, show (-((0 : Nat) : Int) - 1) = -1 from by decide] at q
  rw [q] at e
  generalize y.cps.toList = l at *
  have hne : l.reverse ≠ [] := by intro e; rw [List.reverse_eq_nil_iff] at e; rw [e] at hl; exact absurd hl (Nat.lt_irrefl _)
  obtain ⟨k, r, hk⟩ := List.exists_cons_of_ne_nil hne
  have hlast : l.getLast? = some k := by
    rw [← List.head?_reverse, hk]
    rfl
  rw [hk] at e
  rw [hlast]
  have e2 : (k :: r).getD 0 0 = k := rfl
  rw [e2] at e
  constructor
  · intro h1
    have : k = 45 := Option.some.inj h1
    subst this
    rw [← e]
    rfl
  · intro h1
    rw [h1] at e
    have := congrArg (fun z : Str => z.cps.toList) (eq_of_beq e)
    rw [show (ofL [k]).cps.toList = [k] from by simp [ofL_cps]] at this
    have h2 : (Str.ofString "-").cps.toList = [45] := by rfl
    rw [h2] at this
    rw [(List.cons.inj this).1]
theorem trim_step {y : Str} (h : (y.length : Int) ≠ 0) (e : (Txt.item y (-1) == Str.ofString "-") = true) : (Txt.slice y none (some (-1))).length < y.length ∧ trimR (Txt.slice y none (some (-1))).cps.toList = trimR y.cps.toList := by
  have hl : 1 ≤ y.cps.toList.length := by
    have : y.cps.toList.length = y.length := by simp [Str.length]
    omega
  have q := slice_upto (q := 1) (by decide) hl
  rw [← of_toList, show (-((1 : Nat) : Int)) = -1 from by decide] at q
  have hlast := (trim_item h true e).mpr rfl
  rw [q]
  have hy : y.length = y.cps.toList.length := by simp [Str.length]
  have hd : y.cps.toList.take (y.cps.toList.length - 1) = y.cps.toList.dropLast := (List.dropLast_eq_take ..).symm
  constructor
  · rw [ofL_len, hy]
    simp only [List.length_take]
    omega
  · rw [ofL_cps, hd]
    exact (trimR_drop hlast).symm
theorem trim_stop {y : Str} (h : (y.length : Int) ≠ 0) (e : (Txt.item y (-1) == Str.ofString "-") = false) : y.cps.toList = trimR y.cps.toList :=
  (trimR_stop fun h1 => by have := (trim_item h false e).mp h1; cases this).symm
theorem trim_nil {y : Str} (h : (y.length : Int) = 0) : y.cps.toList = trimR y.cps.toList := by
  have : y.cps.toList = [] := by
    have : y.cps.toList.length = y.length := by simp [Str.length]
    exact List.length_eq_zero_iff.mp (by omega)
  rw [this]
  rfl
end Mine
end
section
open PySem PySem.W PyProof.Rows PySem.Spec PySem.Calls
set_option maxRecDepth 100000
set_option maxHeartbeats 0
namespace Mine
theorem top0 {mean mg mb} {h : Heap} (T : Top VFull LFull mean mg mb h) : Top VW LS mean mg mb h where
  g := T.g
  b := T.b
  nolimit := T.nolimit
  nodigits := T.nodigits
  fn := fun d hd => nomatch hd
  own := fun o ho => nomatch ho
  const := fun x d e => nomatch e
  free := fun x h1 h2 _ _ _ => by
    unfold LS at h2
    simp only [List.mem_append, not_or] at h2
    exact T.free x h1 h2.1 h2.2.1 h2.2.2.1 h2.2.2.2
  builtins := T.builtins
  tab := fun d hd => nomatch hd
  bmain := T.bmain
  seer := fun _ => T.seer (by decide +kernel)
theorem top0_regrown {mean mg mb} {h₁ h₀ : Heap} {c P : Addr} {ps ps' : Array Value} (B : Based h₁ h₀ c P ps) (T : Top VW LS mean mg mb h₀) : Top VW LS mean mg mb (regrown h₀ P ps') where
  g := LGe.ns_regrown B T.g
  b := LGe.ns_regrown B T.b
  nolimit := by
    obtain ⟨mc, h1, h2⟩ := T.nolimit
    exact ⟨mc, LGe.ns_regrown B h1, h2⟩
  nodigits := by
    obtain ⟨mc, h1, h2⟩ := T.nodigits
    exact ⟨mc, LGe.ns_regrown B h1, h2⟩
  fn := fun d hd => nomatch hd
  own := fun o ho => nomatch ho
  const := fun x d e => nomatch e
  free := T.free
  builtins := T.builtins
  tab := fun d hd => nomatch hd
  bmain := by
    obtain ⟨bm, ob, h1, h2, h3, h4, h5, h6⟩ := T.bmain
    exact ⟨bm, ob, h1, h2, (Heap.get?_update_other _ _ (Ne.symm (B.ne_of_cls h3 (by rw [h4]; simp)))).trans h3, h4, h5, h6⟩
  seer := fun hi => by
    have S := T.seer hi
    have up := regrown_other h₀ P ps'
    exact ⟨(let ⟨mc, a, b⟩ := S.statics; ⟨mc, LGe.ns_regrown B a, b⟩), (let ⟨mc, a, b⟩ := S.mods; ⟨mc, LGe.ns_regrown B a, b⟩), (let ⟨mc, a, b⟩ := S.imp; ⟨mc, LGe.ns_regrown B a, b⟩),
      (let ⟨mg', bm, ob, a, b, c', d, f⟩ := S.main; ⟨mg', bm, ob, LGe.ns_regrown B a, b, up _ ob (B.ne_of_cls c' (by rw [d]; simp)) c', d, f⟩)⟩
theorem hd_classed (P : Params) : ((hd.heap_1 P).all fun p => (match p.2.cls with | .none => false | _ => true) || p.1 == cStatics || p.1 == mainGlobals) = true := by
  with_unfolding_all rfl
theorem kb_hd (P : Params) : kb_classed (hd.heap_1 P) = true := by
  refine List.all_eq_true.mpr fun p hp => ?_
  have q := List.all_eq_true.mp (hd_classed P) p hp
  simp only [Bool.or_eq_true, decide_eq_true_eq] at q ⊢
  rcases q with (q | q) | q
  · refine .inl (.inl fun e => ?_)
    rw [e] at q
    cases q
  · exact .inl (.inr q)
  · exact .inr q
end Mine
end
section
open PySem PySem.W PyProof.Rows PySem.Spec PySem.Calls
set_option maxRecDepth 100000
set_option maxHeartbeats 0
set_option pp.maxSteps 6000
namespace Mine
theorem cv_map {h₀ h : Heap} {L : Addr} {t v : Str} {a b c : Option Value} {r : Str → Option Value} (F : Fr h₀ L h (fun y => if y = t then a else if y = v then b else if y = v then c else r y)) : Fr h₀ L h (fun y => if y = t then a else if y = v then b else r y) := by
  have e : (fun y => if y = t then a else if y = v then b else if y = v then c else r y) = (fun y => if y = t then a else if y = v then b else r y) := by
    funext y
    by_cases e1 : y = t <;> by_cases e2 : y = v <;> simp [e1, e2]
  rw [e] at F
  exact F
theorem fr_map {h₀ h : Heap} {L : Addr} {m m' : Str → Option Value} (F : Fr h₀ L h m) (e : ∀ y, m y = m' y) : Fr h₀ L h m' := (funext e : m = m') ▸ F
noncomputable def stageTab : List (PyData × PyData) :=
  [(PyData.str { cps := #[100, 101, 118] }, PyData.int 10),
      (PyData.str { cps := #[97, 108, 112, 104, 97] }, PyData.int 20), (PyData.str { cps := #[97] }, PyData.int 20),
      (PyData.str { cps := #[98, 101, 116, 97] }, PyData.int 30), (PyData.str { cps := #[98] }, PyData.int 30),
      (PyData.str { cps := #[99] }, PyData.int 40), (PyData.str { cps := #[82, 67] }, PyData.int 50),
      (PyData.str { cps := #[114, 99] }, PyData.int 50), (PyData.str { cps := #[112, 108] }, PyData.int 200),
      (PyData.str { cps := #[112] }, PyData.int 200)]
noncomputable def stageOf (p : List Nat) : Int := match (Spec.lookup (PyData.str (ofL p)) stageTab).getD (PyData.int 0) with | .int n => n | _ => 0
theorem stage_int (p : List Nat) : (Spec.lookup (PyData.str (ofL p)) stageTab).getD (PyData.int 0) = PyData.int (stageOf p) := by
  unfold stageOf
  have : ∀ (k : PyData) (l : List (PyData × PyData)), (∀ q ∈ l, ∃ n, q.2 = PyData.int n) → ∃ n, (Spec.lookup k l).getD (PyData.int 0) = PyData.int n := by
    intro k l
    induction l with
    | nil => intro _; exact ⟨0, rfl⟩
    | cons q l ih =>
      intro h
      obtain ⟨a, b⟩ := q
      unfold Spec.lookup
      split
      · obtain ⟨n, e⟩ := h (a, b) (.head _)
        exact ⟨n, by simp at e; simp [e]⟩
      · exact ih fun q hq => h q (.tail _ hq)
  obtain ⟨n, e⟩ := this (PyData.str (ofL p)) stageTab (by
    intro q hq
    unfold stageTab at hq
    simp only [List.mem_cons, List.not_mem_nil, or_false] at hq
    rcases hq with rfl | rfl | rfl | rfl | rfl | rfl | rfl | rfl | rfl | rfl <;> exact ⟨_, rfl⟩)
  rw [e]
noncomputable def partOf (p : List Nat) : Int × It := match PySem.intText? (ofL p) with | some n => (100, .i n) | none => (stageOf p, .s p)
noncomputable def itsOf (p : List Nat) : List It := if (Builtin.Str.occurrences (Str.ofString "._+-") (ofL p) 0 (Str.ofString "._+-").length 1).isEmpty then [.i (partOf p).1, (partOf p).2] else []
noncomputable def cmpVer (X : List Nat) : List It := (RE.pieces X).flatMap itsOf
noncomputable def mR (R : Addr) (u : Str → Option Value) : Str → Option Value := fun y => if y = Str.ofString "result" then some (.ref R) else u y
theorem mR_of {R : Addr} {m : Str → Option Value} (h : m (Str.ofString "result") = some (.ref R)) : m = mR R m := by
  funext y
  unfold mR
  by_cases e : y = Str.ofString "result"
  · rw [if_pos e, e, h]
  · rw [if_neg e]
theorem c_cmp {w : World} {mean mg mb} (X : List Nat) (t1 : Tok) (hx : X.length ≤ 100) (hc : ∀ c ∈ X, c < 128) (news : List (Addr × Obj)) :
   CtrT w mean mg mb 58 2 20 news [.str (ofL X) t1] (fun r tl => ∃ (R : Addr) (rs : List Value) (c : Nat), r = .ref R ∧ tl = [(R, W.listOf rs.toArray c)] ∧ ItsAre rs (cmpVer X) ∧ ∀ q ∈ news, q.1 < R) := by
  refine fillIt ?_
  k_fill
  intro _
  intro dp un gd cn cs a ccd cl A₀ base h₀ L m s Q E S hdp hun hret
  refine hideG ?_
  intro Cg hCg
  obtain ⟨B0, F0, X0, N0, T0, hk0⟩ := id S
  refine hCg ?_
  clear hCg Cg
  refine' callBodyT [(Str.ofString "version", .str (ofL X) t1)] [(Str.ofString "version", .str (ofL X) t1)] S ?ho ?hcd ?hr ?hb ?hl ?c2 ?c3 ?c4 ?c5 ?hrb hret ?_
  (((case ho => k_is); (case hcd => k_is); (case hr => omega); (case hb => exact BindsTo.of_eq rfl); (case hl => exact locs rfl); (case c2 => exact rfl); (case c3 => exact rfl); (case c4 => exact rfl); (case c5 => decide); (case hrb => rfl); k_whole))
  clear F0 N0 B0 S
  intro L' oL h₁ hC hFs hnL F' N'
  refine wpC_execs_consA ?_
  (repeat' ((fail_if_success (with_reducible show wpAny _ _ (PySem.exec (PySem.Stmt.While _ _ _ _) _) _ _ _)); (fail_if_success (with_reducible show wpAny _ _ (PySem.exec (PySem.Stmt.For _ _ _ _ _) _) _ _ _)); (fail_if_success (with_reducible show wpAny _ _ (PySem.pyIter _) _ _ _)); (fail_if_success (with_reducible show Kept _)); (fail_if_success (with_reducible show InvEndN _ _ _ _ _ _ _)); (first | (k_unfold; (try dsimp only)) | (k_end; wrow_close) | (with_reducible ((with_reducible show wpAny _ _ (call (Value.type _) [Value.str _ _, Value.int 10 _]) _ _ _); (refine call_text2 (by assumption) (by assumption) ?_); (try dsimp only))) | (with_reducible ((with_reducible show wpAny _ _ (call (Value.builtin _) [Value.ref 50, Value.str (ofL _) _]) _ _ _); (refine r_resplit ‹Fr _ _ _ _› ‹News _ _ _ _› (by assumption) (by assumption) ?_); (intro _ _ _ _ _ _ _ _); (try dsimp only))) | (with_reducible ((with_reducible show wpAny _ _ (getMethod (Value.ref 50) _ _) _ _ _); (refine r_getsplit ‹Fr _ _ _ _› (by assumption) ?_); (try dsimp only))) | walk1 | (dsimp only; walk1) | (leave1; walk_say "STEP leave1"; try dsimp only))))
  refine wpC_execs_consA ?_
  (repeat' ((fail_if_success (with_reducible show wpAny _ _ (PySem.exec (PySem.Stmt.While _ _ _ _) _) _ _ _)); (fail_if_success (with_reducible show wpAny _ _ (PySem.exec (PySem.Stmt.For _ _ _ _ _) _) _ _ _)); (fail_if_success (with_reducible show wpAny _ _ (PySem.pyIter _) _ _ _)); (fail_if_success (with_reducible show Kept _)); (fail_if_success (with_reducible show InvEndN _ _ _ _ _ _ _)); (first | (k_unfold; (try dsimp only)) | (k_end; wrow_close) | (with_reducible ((with_reducible show wpAny _ _ (call (Value.type _) [Value.str _ _, Value.int 10 _]) _ _ _); (refine call_text2 (by assumption) (by assumption) ?_); (try dsimp only))) | (with_reducible ((with_reducible show wpAny _ _ (call (Value.builtin _) [Value.ref 50, Value.str (ofL _) _]) _ _ _); (refine r_resplit ‹Fr _ _ _ _› ‹News _ _ _ _› (by assumption) (by assumption) ?_); (intro _ _ _ _ _ _ _ _); (try dsimp only))) | (with_reducible ((with_reducible show wpAny _ _ (getMethod (Value.ref 50) _ _) _ _ _); (refine r_getsplit ‹Fr _ _ _ _› (by assumption) ?_); (try dsimp only))) | walk1 | (dsimp only; walk1) | (leave1; walk_say "STEP leave1"; try dsimp only))))
  refine wpC_execs_cons ?_
  refine wpC_For ?_ (by intro _; rfl)
  have hx2 : X.length ≤ 1000 := by omega
  (repeat' ((fail_if_success (with_reducible show wpAny _ _ (PySem.exec (PySem.Stmt.While _ _ _ _) _) _ _ _)); (fail_if_success (with_reducible show wpAny _ _ (PySem.exec (PySem.Stmt.For _ _ _ _ _) _) _ _ _)); (fail_if_success (with_reducible show wpAny _ _ (PySem.pyIter _) _ _ _)); (fail_if_success (with_reducible show Kept _)); (fail_if_success (with_reducible show InvEndN _ _ _ _ _ _ _)); (first | (k_unfold; (try dsimp only)) | (k_end; wrow_close) | (with_reducible ((with_reducible show wpAny _ _ (call (Value.type _) [Value.str _ _, Value.int 10 _]) _ _ _); (refine call_text2 (by assumption) (by assumption) ?_); (try dsimp only))) | (with_reducible ((with_reducible show wpAny _ _ (call (Value.builtin _) [Value.ref 50, Value.str (ofL _) _]) _ _ _); (refine r_resplit ‹Fr _ _ _ _› ‹News _ _ _ _› (by assumption) (by assumption) ?_); (intro _ _ _ _ _ _ _ _); (try dsimp only))) | (with_reducible ((with_reducible show wpAny _ _ (getMethod (Value.ref 50) _ _) _ _ _); (refine r_getsplit ‹Fr _ _ _ _› (by assumption) ?_); (try dsimp only))) | walk1 | (dsimp only; walk1) | (leave1; walk_say "STEP leave1"; try dsimp only))))
  rename Fr _ _ _ _ => F1
  rename News _ _ _ _ => N1
  rename (StrsAre _ _) => hS
  rename_i R _ lR _ _ _ D _ _ vs lD
  have hRL : R ≠ L := Nat.ne_of_gt (lR (L, oL) (List.mem_append_right _ (.head _)))
  have hDL : D ≠ L := Nat.ne_of_gt (lD (L, oL) (.tail _ (List.mem_append_right _ (.head _))))
  have hRD : R < D := lD _ (.head _)
  refine forC rfl F1 N1 (fun i m₁ nx => Kept (∃ (rs : List Value) (c : Nat) (sl : Array (Option Value)), nx = (R, W.listOf rs.toArray c) :: (news ++ [(L, { oL with slots := sl })]) ∧ m₁ (Str.ofString "result") = some (.ref R) ∧ ItsAre rs (((RE.pieces X).take i).flatMap itsOf) ∧ rs.length ≤ 2 * i)) (Kept.of ⟨[], _, oL.slots, rfl, rfl, .nil, Nat.zero_le _⟩) ?turn ?done (by intro _ _; rfl)
  case turn =>
    clear F1 N1
    intro it i v m₁ nx h₂ tk₂ o hni hv hJ hne F2 N2
    have hitL : it ≠ L := fun q => hni (L, oL) (.tail _ (List.mem_append_right _ (.head _))) q.symm
    have hRit : R ≠ it := hni _ (.head _)
    refine hideG ?_
    intro Cg hCg
    obtain ⟨rs, c, sl, rfl, hm, hrs, hrl⟩ := hJ
    refine hCg ?_
    clear hCg Cg
    refine hideG ?_
    intro Cg hCg
    obtain ⟨y, ty, rfl, hy⟩ := hS.item _ _ hv
    refine hCg ?_
    clear hCg Cg
    rw [mR_of hm] at F2
    unfold mR at F2
    obtain ⟨p, hp, rfl⟩ : ∃ p, (RE.pieces X)[i]? = some p ∧ ofL p = y := by simpa using hy
    have htk : ((RE.pieces X).take (i + 1)).flatMap itsOf = ((RE.pieces X).take i).flatMap itsOf ++ itsOf p := by
      rw [List.take_succ, hp]
      simp
    have hi : i < 4 * 100 + 7 := by
      have h1 := pieces_len X
      have h2 := (List.getElem?_eq_some_iff.mp hp).1
      omega
    have hp := List.mem_of_getElem? hp
    dsimp only
    (repeat' ((fail_if_success (with_reducible show wpAny _ _ (PySem.exec (PySem.Stmt.While _ _ _ _) _) _ _ _)); (fail_if_success (with_reducible show wpAny _ _ (PySem.exec (PySem.Stmt.For _ _ _ _ _) _) _ _ _)); (fail_if_success (with_reducible show wpAny _ _ (PySem.pyIter _) _ _ _)); (fail_if_success (with_reducible show Kept _)); (fail_if_success (with_reducible show InvEndN _ _ _ _ _ _ _)); (first | (k_unfold; (try dsimp only)) | (k_end; wrow_close) | (with_reducible ((with_reducible show wpAny _ _ (call (Value.type _) [Value.str _ _, Value.int 10 _]) _ _ _); (refine call_text2 (by assumption) (by assumption) ?_); (try dsimp only))) | (with_reducible ((with_reducible show wpAny _ _ (call (Value.builtin _) [Value.ref 50, Value.str (ofL _) _]) _ _ _); (refine r_resplit ‹Fr _ _ _ _› ‹News _ _ _ _› (by assumption) (by assumption) ?_); (intro _ _ _ _ _ _ _ _); (try dsimp only))) | (with_reducible ((with_reducible show wpAny _ _ (getMethod (Value.ref 50) _ _) _ _ _); (refine r_getsplit ‹Fr _ _ _ _› (by assumption) ?_); (try dsimp only))) | walk1 | (dsimp only; walk1) | (leave1; walk_say "STEP leave1"; try dsimp only))))
    dsimp only
    refine wpC_execs_cons ?_
    refine wpC_If ?_
    (repeat' ((fail_if_success (with_reducible show wpAny _ _ (PySem.exec (PySem.Stmt.While _ _ _ _) _) _ _ _)); (fail_if_success (with_reducible show wpAny _ _ (PySem.exec (PySem.Stmt.For _ _ _ _ _) _) _ _ _)); (fail_if_success (with_reducible show wpAny _ _ (PySem.pyIter _) _ _ _)); (fail_if_success (with_reducible show Kept _)); (fail_if_success (with_reducible show InvEndN _ _ _ _ _ _ _)); (first | (k_unfold; (try dsimp only)) | (k_end; wrow_close) | (with_reducible ((with_reducible show wpAny _ _ (call (Value.type _) [Value.str _ _, Value.int 10 _]) _ _ _); (refine call_text2 (by assumption) (by assumption) ?_); (try dsimp only))) | (with_reducible ((with_reducible show wpAny _ _ (call (Value.builtin _) [Value.ref 50, Value.str (ofL _) _]) _ _ _); (refine r_resplit ‹Fr _ _ _ _› ‹News _ _ _ _› (by assumption) (by assumption) ?_); (intro _ _ _ _ _ _ _ _); (try dsimp only))) | (with_reducible ((with_reducible show wpAny _ _ (getMethod (Value.ref 50) _ _) _ _ _); (refine r_getsplit ‹Fr _ _ _ _› (by assumption) ?_); (try dsimp only))) | walk1 | (dsimp only; walk1) | (leave1; walk_say "STEP leave1"; try dsimp only))))
    rotate_left
    · refine wpC_execs_nil ?_
      dsimp only
      refine wpC_execs_nil ?_
      rename Fr _ _ _ _ => F3
      rename News _ _ _ _ => N3
      rename (_ = false) => hb
      refine Turned.intro ((R, W.listOf rs.toArray c) :: (news ++ [(L, ({ oL with slots := sl } : Obj))])) F3 N3 (fun p hp => hp) ?_ ⟨rs, c, sl, rfl, rfl, ?_, by omega⟩
      · intro q hq
        exact .inl (hne q hq)
      · have e0 : itsOf p = [] := by unfold itsOf; rw [hb]; rfl
        rw [htk, e0, List.append_nil]
        exact hrs
    rename ((Builtin.Str.occurrences _ _ _ _ _).isEmpty = true) => hb
    dsimp only
    obtain ⟨hpl, hpc⟩ := pieces_of hp
    have hp1 : (ofL p).length ≤ 640 := by rw [ofL_len]; omega
    have hp2 : (reprText (ofL p)).length ≤ sizeLine := piece_repr (fun c h => hc c (hpc c h)) (by omega)
    refine wpC_execs_cons ?_
    refine wpC_mono (Q := fun f s' => Kept (∃ (T : Int) (x : It) (tt : Tok) (vv : Value) (h₃ : Heap) (tk₃ : Nat) (sl₃ : Array (Option Value)), f = Flow.next ∧ s' = { s with heap := h₃, toks := tk₃ } ∧ partOf p = (T, x) ∧ ItIs vv x ∧
      Fr h₀ L' h₃ (fun y => if y = Str.ofString "t" then some (.int T tt) else if y = Str.ofString "v" then some vv else if y = Str.ofString "result" then some (.ref R) else m₁ y) ∧ News h₀ L' h₃ ((it, o) :: (D, W.listOf vs.toArray 0) :: (R, W.listOf rs.toArray c) :: (news ++ [(L, { oL with slots := sl₃ })])))) (E := fun _ _ => False) ?tryy ?rest (fun _ _ e => e)
    case rest =>
      intro f s' hRg
      refine hideG ?_
      intro Cg hCg
      obtain ⟨T, x, tt, vv, h₃, tk₃, sl₃, rfl, rfl, hpart, hvv, F3, N3⟩ := hRg
      refine hCg ?_
      clear hCg Cg
      dsimp only
      refine wpC_of_any ?_
      (repeat' ((fail_if_success (with_reducible show wpAny _ _ (PySem.exec (PySem.Stmt.While _ _ _ _) _) _ _ _)); (fail_if_success (with_reducible show wpAny _ _ (PySem.exec (PySem.Stmt.For _ _ _ _ _) _) _ _ _)); (fail_if_success (with_reducible show wpAny _ _ (PySem.pyIter _) _ _ _)); (fail_if_success (with_reducible show Kept _)); (fail_if_success (with_reducible show InvEndN _ _ _ _ _ _ _)); (first | (k_unfold; (try dsimp only)) | (k_end; wrow_close) | (with_reducible ((with_reducible show wpAny _ _ (call (Value.type _) [Value.str _ _, Value.int 10 _]) _ _ _); (refine call_text2 (by assumption) (by assumption) ?_); (try dsimp only))) | (with_reducible ((with_reducible show wpAny _ _ (call (Value.builtin _) [Value.ref 50, Value.str (ofL _) _]) _ _ _); (refine r_resplit ‹Fr _ _ _ _› ‹News _ _ _ _› (by assumption) (by assumption) ?_); (intro _ _ _ _ _ _ _ _); (try dsimp only))) | (with_reducible ((with_reducible show wpAny _ _ (getMethod (Value.ref 50) _ _) _ _ _); (refine r_getsplit ‹Fr _ _ _ _› (by assumption) ?_); (try dsimp only))) | walk1 | (dsimp only; walk1) | (leave1; walk_say "STEP leave1"; try dsimp only))))
      rename Fr _ _ _ _ => F4
      rename News _ _ _ _ => N4
      rename_i D' _ lD'
      have hno : ∀ q ∈ news ++ [(L, ({ oL with slots := sl₃ } : Obj))], q.1 ≠ R := by
        intro q hq
        rcases List.mem_append.mp hq with hq | hq
        · exact Nat.ne_of_lt (lR q (List.mem_append_left _ hq))
        · rw [List.mem_singleton.mp hq]; exact hRL.symm
      refine kup_extend (l := rs ++ [.int T tt, vv]) F4 N4 (.head _) rfl (by simp) (Upd.tail (Nat.ne_of_gt lD'.2.2.1) (Upd.tail (fun q => hRit q.symm) (Upd.tail (Nat.ne_of_gt hRD) (Upd.head hno)))) ?_ ?_ ?_ ?_
      · refine extend_door ?_
        rw [sizeLine_eq]; simp; omega
      · rw [sizeLine_eq]; simp; omega
      · rw [sizeLine_eq]; simp; omega
      intro h6 F6 N6
      (repeat' ((fail_if_success (with_reducible show wpAny _ _ (PySem.exec (PySem.Stmt.While _ _ _ _) _) _ _ _)); (fail_if_success (with_reducible show wpAny _ _ (PySem.exec (PySem.Stmt.For _ _ _ _ _) _) _ _ _)); (fail_if_success (with_reducible show wpAny _ _ (PySem.pyIter _) _ _ _)); (fail_if_success (with_reducible show Kept _)); (fail_if_success (with_reducible show InvEndN _ _ _ _ _ _ _)); (first | (k_unfold; (try dsimp only)) | (k_end; wrow_close) | (with_reducible ((with_reducible show wpAny _ _ (call (Value.type _) [Value.str _ _, Value.int 10 _]) _ _ _); (refine call_text2 (by assumption) (by assumption) ?_); (try dsimp only))) | (with_reducible ((with_reducible show wpAny _ _ (call (Value.builtin _) [Value.ref 50, Value.str (ofL _) _]) _ _ _); (refine r_resplit ‹Fr _ _ _ _› ‹News _ _ _ _› (by assumption) (by assumption) ?_); (intro _ _ _ _ _ _ _ _); (try dsimp only))) | (with_reducible ((with_reducible show wpAny _ _ (getMethod (Value.ref 50) _ _) _ _ _); (refine r_getsplit ‹Fr _ _ _ _› (by assumption) ?_); (try dsimp only))) | walk1 | (dsimp only; walk1) | (leave1; walk_say "STEP leave1"; try dsimp only))))
      refine wpC_execs_nil ?_
      refine Turned.intro ((R, W.listOf (rs ++ [.int T tt, vv]).toArray (c + 1)) :: (news ++ [(L, ({ oL with slots := sl₃ } : Obj))])) F6 N6 (fun p hp => .tail _ hp) ?_ ⟨_, _, sl₃, rfl, rfl, ?_, by simp; omega⟩
      · intro q hq
        rcases List.mem_cons.mp hq with rfl | hq
        · exact .inr (by simp)
        · rcases List.mem_append.mp hq with hq | hq
          · exact .inl (hni q (.tail _ (List.mem_append_left _ hq)))
          · rw [List.mem_singleton.mp hq]; exact .inl hitL.symm
      · have e0 : itsOf p = [.i T, x] := by unfold itsOf; rw [hb, if_pos rfl, hpart]
        rw [htk, e0]
        exact hrs.append (.cons (.i _ _) (.cons hvv .nil))
    refine wpC_Try_except ?_
    cases hn : PySem.intText? (ofL p) with
    | some n =>
      refine wpC_of_any ?_
      (repeat' ((fail_if_success (with_reducible show wpAny _ _ (PySem.exec (PySem.Stmt.While _ _ _ _) _) _ _ _)); (fail_if_success (with_reducible show wpAny _ _ (PySem.exec (PySem.Stmt.For _ _ _ _ _) _) _ _ _)); (fail_if_success (with_reducible show wpAny _ _ (PySem.pyIter _) _ _ _)); (fail_if_success (with_reducible show Kept _)); (fail_if_success (with_reducible show InvEndN _ _ _ _ _ _ _)); (first | (k_unfold; (try dsimp only)) | (k_end; wrow_close) | (with_reducible ((with_reducible show wpAny _ _ (call (Value.type _) [Value.str _ _, Value.int 10 _]) _ _ _); (refine call_text2 (by assumption) (by assumption) ?_); (try dsimp only))) | (with_reducible ((with_reducible show wpAny _ _ (call (Value.builtin _) [Value.ref 50, Value.str (ofL _) _]) _ _ _); (refine r_resplit ‹Fr _ _ _ _› ‹News _ _ _ _› (by assumption) (by assumption) ?_); (intro _ _ _ _ _ _ _ _); (try dsimp only))) | (with_reducible ((with_reducible show wpAny _ _ (getMethod (Value.ref 50) _ _) _ _ _); (refine r_getsplit ‹Fr _ _ _ _› (by assumption) ?_); (try dsimp only))) | walk1 | (dsimp only; walk1) | (leave1; walk_say "STEP leave1"; try dsimp only))))
      rename Fr _ _ _ _ => F3
      rename News _ _ _ _ => N3
      refine Kept.of ⟨100, .i n, _, _, _, _, sl, rfl, rfl, by unfold partOf; rw [hn], .i _ _, cv_map F3, N3⟩
    | none =>
      refine wpC_execs_cons ?_
      refine wpC_Assign_Name ?_ (by rfl)
      refine wpC_Call_Name2 ?_ (by rfl)
      (repeat' ((fail_if_success (with_reducible show wpAny _ _ (PySem.exec (PySem.Stmt.While _ _ _ _) _) _ _ _)); (fail_if_success (with_reducible show wpAny _ _ (PySem.exec (PySem.Stmt.For _ _ _ _ _) _) _ _ _)); (fail_if_success (with_reducible show wpAny _ _ (PySem.pyIter _) _ _ _)); (fail_if_success (with_reducible show Kept _)); (fail_if_success (with_reducible show InvEndN _ _ _ _ _ _ _)); (first | (k_unfold; (try dsimp only)) | (k_end; wrow_close) | (with_reducible ((with_reducible show wpAny _ _ (call (Value.type _) [Value.str _ _, Value.int 10 _]) _ _ _); (refine call_text2 (by assumption) (by assumption) ?_); (try dsimp only))) | (with_reducible ((with_reducible show wpAny _ _ (call (Value.builtin _) [Value.ref 50, Value.str (ofL _) _]) _ _ _); (refine r_resplit ‹Fr _ _ _ _› ‹News _ _ _ _› (by assumption) (by assumption) ?_); (intro _ _ _ _ _ _ _ _); (try dsimp only))) | (with_reducible ((with_reducible show wpAny _ _ (getMethod (Value.ref 50) _ _) _ _ _); (refine r_getsplit ‹Fr _ _ _ _› (by assumption) ?_); (try dsimp only))) | walk1 | (dsimp only; walk1) | (leave1; walk_say "STEP leave1"; try dsimp only))))
      refine wpC_callWith_type rfl ?_
      refine Calls.evalArgs_plain ?_
      refine Calls.spliced_cons ?_
      (repeat' ((fail_if_success (with_reducible show wpAny _ _ (PySem.exec (PySem.Stmt.While _ _ _ _) _) _ _ _)); (fail_if_success (with_reducible show wpAny _ _ (PySem.exec (PySem.Stmt.For _ _ _ _ _) _) _ _ _)); (fail_if_success (with_reducible show wpAny _ _ (PySem.pyIter _) _ _ _)); (fail_if_success (with_reducible show Kept _)); (fail_if_success (with_reducible show InvEndN _ _ _ _ _ _ _)); (first | (k_unfold; (try dsimp only)) | (k_end; wrow_close) | (with_reducible ((with_reducible show wpAny _ _ (call (Value.type _) [Value.str _ _, Value.int 10 _]) _ _ _); (refine call_text2 (by assumption) (by assumption) ?_); (try dsimp only))) | (with_reducible ((with_reducible show wpAny _ _ (call (Value.builtin _) [Value.ref 50, Value.str (ofL _) _]) _ _ _); (refine r_resplit ‹Fr _ _ _ _› ‹News _ _ _ _› (by assumption) (by assumption) ?_); (intro _ _ _ _ _ _ _ _); (try dsimp only))) | (with_reducible ((with_reducible show wpAny _ _ (getMethod (Value.ref 50) _ _) _ _ _); (refine r_getsplit ‹Fr _ _ _ _› (by assumption) ?_); (try dsimp only))) | walk1 | (dsimp only; walk1) | (leave1; walk_say "STEP leave1"; try dsimp only))))
      refine Calls.spliced_cons ?_
      (repeat' ((fail_if_success (with_reducible show wpAny _ _ (PySem.exec (PySem.Stmt.While _ _ _ _) _) _ _ _)); (fail_if_success (with_reducible show wpAny _ _ (PySem.exec (PySem.Stmt.For _ _ _ _ _) _) _ _ _)); (fail_if_success (with_reducible show wpAny _ _ (PySem.pyIter _) _ _ _)); (fail_if_success (with_reducible show Kept _)); (fail_if_success (with_reducible show InvEndN _ _ _ _ _ _ _)); (first | (k_unfold; (try dsimp only)) | (k_end; wrow_close) | (with_reducible ((with_reducible show wpAny _ _ (call (Value.type _) [Value.str _ _, Value.int 10 _]) _ _ _); (refine call_text2 (by assumption) (by assumption) ?_); (try dsimp only))) | (with_reducible ((with_reducible show wpAny _ _ (call (Value.builtin _) [Value.ref 50, Value.str (ofL _) _]) _ _ _); (refine r_resplit ‹Fr _ _ _ _› ‹News _ _ _ _› (by assumption) (by assumption) ?_); (intro _ _ _ _ _ _ _ _); (try dsimp only))) | (with_reducible ((with_reducible show wpAny _ _ (getMethod (Value.ref 50) _ _) _ _ _); (refine r_getsplit ‹Fr _ _ _ _› (by assumption) ?_); (try dsimp only))) | walk1 | (dsimp only; walk1) | (leave1; walk_say "STEP leave1"; try dsimp only))))
      refine Calls.spliced_nil ?_
      refine call_text_bad hn hp1 ?hh hp2 ?_
      case hh => rfl
      rename Fr _ _ _ _ => F3
      rename News _ _ _ _ => N3
      intro h' tk' e args hM
      dsimp only at hM ⊢
      refine TLg.noted_new1 (new := (it, o) :: (D, W.listOf vs.toArray 0) :: (R, W.listOf rs.toArray c) :: news) (by rfl) (show TI.Frs _ [(L, { oL with slots := sl })] from hFs) hM.newExc F3 N3 (TLgL.allNe_of (List.forall_mem_cons.mpr ⟨hitL, List.forall_mem_cons.mpr ⟨hDL, List.forall_mem_cons.mpr ⟨hRL, hnL⟩⟩⟩)) ?_
      intro h4 sl4 Fs4 H4
      refine TT.HeldNA.land H4 (fun h5 H5 => ?_)
      refine TT.clause_hitTN H5 T0 (k := fun h6 F6 N6 => ?_)
      (repeat' ((fail_if_success (with_reducible show wpAny _ _ (PySem.exec (PySem.Stmt.While _ _ _ _) _) _ _ _)); (fail_if_success (with_reducible show wpAny _ _ (PySem.exec (PySem.Stmt.For _ _ _ _ _) _) _ _ _)); (fail_if_success (with_reducible show wpAny _ _ (PySem.pyIter _) _ _ _)); (fail_if_success (with_reducible show Kept _)); (fail_if_success (with_reducible show InvEndN _ _ _ _ _ _ _)); (first | (k_unfold; (try dsimp only)) | (k_end; wrow_close) | (with_reducible ((with_reducible show wpAny _ _ (call (Value.type _) [Value.str _ _, Value.int 10 _]) _ _ _); (refine call_text2 (by assumption) (by assumption) ?_); (try dsimp only))) | (with_reducible ((with_reducible show wpAny _ _ (call (Value.builtin _) [Value.ref 50, Value.str (ofL _) _]) _ _ _); (refine r_resplit ‹Fr _ _ _ _› ‹News _ _ _ _› (by assumption) (by assumption) ?_); (intro _ _ _ _ _ _ _ _); (try dsimp only))) | (with_reducible ((with_reducible show wpAny _ _ (getMethod (Value.ref 50) _ _) _ _ _); (refine r_getsplit ‹Fr _ _ _ _› (by assumption) ?_); (try dsimp only))) | walk1 | (dsimp only; walk1) | (leave1; walk_say "STEP leave1"; try dsimp only))))
      rename Fr _ _ _ _ => F7
      rename News _ _ _ _ => N7
      rename PyProof.V.Flat _ _ => hv7
      have hv7 := (show PyProof.V.Flat _ ((Spec.lookup (PyData.str (ofL p)) stageTab).getD (PyData.int 0)) from hv7)
      rw [stage_int] at hv7
      obtain ⟨t7, rfl⟩ := PyProof.V.Flat.int_inv hv7
      refine Kept.of ⟨stageOf p, .s p, t7, _, _, _, sl4, rfl, rfl, by unfold partOf; rw [hn], .s _ _, F7, N7⟩
  case done =>
    clear F1 N1
    intro m₁ nx h₂ tk₂ hJ F2 N2
    refine hideG ?_
    intro Cg hCg
    obtain ⟨rs, c, sl, rfl, hm, hrs, hrl⟩ := hJ
    refine hCg ?_
    clear hCg Cg
    rw [mR_of hm] at F2
    unfold mR at F2
    dsimp only
    (repeat' ((fail_if_success (with_reducible show wpAny _ _ (PySem.exec (PySem.Stmt.While _ _ _ _) _) _ _ _)); (fail_if_success (with_reducible show wpAny _ _ (PySem.exec (PySem.Stmt.For _ _ _ _ _) _) _ _ _)); (fail_if_success (with_reducible show wpAny _ _ (PySem.pyIter _) _ _ _)); (fail_if_success (with_reducible show Kept _)); (fail_if_success (with_reducible show InvEndN _ _ _ _ _ _ _)); (first | (k_unfold; (try dsimp only)) | (k_end; wrow_close) | (with_reducible ((with_reducible show wpAny _ _ (call (Value.type _) [Value.str _ _, Value.int 10 _]) _ _ _); (refine call_text2 (by assumption) (by assumption) ?_); (try dsimp only))) | (with_reducible ((with_reducible show wpAny _ _ (call (Value.builtin _) [Value.ref 50, Value.str (ofL _) _]) _ _ _); (refine r_resplit ‹Fr _ _ _ _› ‹News _ _ _ _› (by assumption) (by assumption) ?_); (intro _ _ _ _ _ _ _ _); (try dsimp only))) | (with_reducible ((with_reducible show wpAny _ _ (getMethod (Value.ref 50) _ _) _ _ _); (refine r_getsplit ‹Fr _ _ _ _› (by assumption) ?_); (try dsimp only))) | walk1 | (dsimp only; walk1) | (leave1; walk_say "STEP leave1"; try dsimp only))))
    refine wpC_of_any ?_
    (repeat' ((fail_if_success (with_reducible show wpAny _ _ (PySem.exec (PySem.Stmt.While _ _ _ _) _) _ _ _)); (fail_if_success (with_reducible show wpAny _ _ (PySem.exec (PySem.Stmt.For _ _ _ _ _) _) _ _ _)); (fail_if_success (with_reducible show wpAny _ _ (PySem.pyIter _) _ _ _)); (fail_if_success (with_reducible show Kept _)); (fail_if_success (with_reducible show InvEndN _ _ _ _ _ _ _)); (first | (k_unfold; (try dsimp only)) | (k_end; wrow_close) | (with_reducible ((with_reducible show wpAny _ _ (call (Value.type _) [Value.str _ _, Value.int 10 _]) _ _ _); (refine call_text2 (by assumption) (by assumption) ?_); (try dsimp only))) | (with_reducible ((with_reducible show wpAny _ _ (call (Value.builtin _) [Value.ref 50, Value.str (ofL _) _]) _ _ _); (refine r_resplit ‹Fr _ _ _ _› ‹News _ _ _ _› (by assumption) (by assumption) ?_); (intro _ _ _ _ _ _ _ _); (try dsimp only))) | (with_reducible ((with_reducible show wpAny _ _ (getMethod (Value.ref 50) _ _) _ _ _); (refine r_getsplit ‹Fr _ _ _ _› (by assumption) ?_); (try dsimp only))) | walk1 | (dsimp only; walk1) | (leave1; walk_say "STEP leave1"; try dsimp only))))
    dsimp only
    refine CameT.ret [(R, W.listOf rs.toArray c)] sl F2 N2 (fun p hp => .tail _ hp) (List.forall_mem_cons.mpr ⟨hRL, List.forall_mem_nil _⟩) ⟨R, rs, c, rfl, rfl, ?_, fun q hq => lR q (List.mem_append_left _ hq)⟩
    have : (RE.pieces X).take vs.length = RE.pieces X := by
      rw [hS.len_eq, List.length_map, List.take_length]
    rw [this] at hrs
    exact hrs
end Mine
end
section
open PySem PySem.W PyProof.Rows PySem.Spec PySem.Calls
set_option maxRecDepth 100000
set_option maxHeartbeats 0
set_option pp.maxSteps 4000
namespace Mine
noncomputable def relTab : List (List Nat × Int) := [([], 100), ([100,101,118], 10), ([97,108,112,104,97], 20), ([97], 20), ([98,101,116,97], 30), ([98], 30), ([99], 40), ([114,99], 50), ([82,67], 50), ([112], 200), ([112,108], 200), ([82,99], 0)]
noncomputable def gapTab : List (List Nat) := [[], [46], [45], [95, 43]]
noncomputable def relS1 (hn : Nat) : Str := if (hn : Int) < 3 then Str.ofString (toString (hn : Int)) else Str.ofString ""
noncomputable def relS2 (W G : List Nat) : Str := if (ofL W == Str.ofString "") = true then Str.ofString "." ++ ofL G else ofL G ++ ofL W
noncomputable def relS3 (nn : Nat) (z : Int) (G : List Nat) : Str := if (nn : Int) < 12 then Txt.mul (Str.ofString "0") z ++ Str.ofString (toString (nn : Int)) else ofL G
theorem fmod_nat (d : Int) (n : Nat) (h : 0 < n) : ∃ k : Nat, d.fmod n = (k : Int) ∧ k < n := by
  have h1 := Int.fmod_nonneg_of_pos d (b := (n : Int)) (by omega)
  have h2 := Int.fmod_lt_of_pos d (b := (n : Int)) (by omega)
  exact ⟨(d.fmod n).toNat, by omega, by omega⟩
section
variable {prog : Program} {w : World} {A : Around} {E : Value → Shared → Prop} {s : Shared} {h₀ : Heap} {L : Addr} {m : Str → Option Value} {news : List (Addr × Obj)} {Q : Value → Shared → Prop}
theorem r_menu {value slice : Expr} {l : Addr} {vs : List Value} {c k : Nat} {x : Int} {u : Tok} {v : Value} (N : News h₀ L s.heap news) (hm : (l, W.listOf vs.toArray c) ∈ news) (hx : x = (k : Int)) (hk : vs[k]? = some v) (hl : vs.length ≤ 1000) (h : Q v s)
    (hs : subscripted slice false (.ref l) (.int x u) = operate [.ref l, .int x u] (getItem (.ref l) (.int x u))) 
    (ht : ∀ r, letTemporaryGo value (.ref l) r = pure ()) :
    wpAny (model prog w) A (subscriptTail value slice (.ref l) (.int x u)) Q E s := by
  subst hx
  have hlt := (List.getElem?_eq_some_iff.mp hk).1
  have hI : s.heap.IsList l vs.toArray := ⟨_, (N _ hm).1, rfl, c, rfl⟩
  exact tail_any hI.typeIs slot_list_getitem.lookup (wpAny_getItem_list hI (by omega) (by omega) (by simpa using hk) h) hs
end
noncomputable def relWord (d : Int) : List Nat := (relTab.getD ((d.fdiv 4).fmod 12).toNat ([], 0)).1
noncomputable def relRank (d : Int) : Int := (relTab.getD ((d.fdiv 4).fmod 12).toNat ([], 0)).2
noncomputable def relGap (d : Int) : List Nat := gapTab.getD ((d.fdiv 624).fmod 4).toNat []
noncomputable def relText (d : Int) : Str := (relS1 (d.fmod 4).toNat ++ relS2 (relWord d) (relGap d)) ++ relS3 ((d.fdiv 48).fmod 13).toNat ((d.fdiv 2496).fmod 2) (relGap d)
noncomputable def relParts (d : Int) : List It := (if (d.fmod 4).toNat < 3 then [.i 100, .i (d.fmod 4).toNat] else []) ++ (if relWord d = [] then [] else [.i (relRank d), .s (relWord d)]) ++ (if ((d.fdiv 48).fmod 13).toNat < 12 then [.i 100, .i ((d.fdiv 48).fmod 13).toNat] else [])
theorem allLt_mem {d : Addr} : ∀ {l : List (Addr × Obj)}, AllLt d l → ∀ p ∈ l, p.1 < d
  | [], _, p, hp => nomatch hp
  | _ :: _, h, p, hp => by
    rcases List.mem_cons.mp hp with rfl | hp
    · exact h.1
    · exact allLt_mem h.2 p hp
noncomputable def itV : Value → It
  | .int n _ => .i n
  | .str x _ => .s x.cps.toList
  | _ => .i 0
noncomputable def isItV : Value → Bool
  | .int .. => true
  | .str .. => true
  | _ => false
theorem itsV : ∀ {vs : List Value}, vs.all isItV = true → ItsAre vs (vs.map itV)
  | [], _ => .nil
  | v :: vs, h => by
    rw [List.all_cons, Bool.and_eq_true] at h
    refine .cons ?_ (itsV h.2)
    cases v with
    | int n t => exact .i n t
    | str x t =>
      have : ofL x.cps.toList = x := (ofL_of x).symm
      have z := ItIs.s x.cps.toList t
      rw [this] at z
      exact z
    | _ => exact absurd h.1 (by simp [isItV])
noncomputable def RelPost (news : List (Addr × Obj)) (x : Str) (xs : List It) (r : Value) (tl : List (Addr × Obj)) : Prop :=
  ∃ (a p : Addr) (t : Tok) (vs : List Value) (c : Nat), r = .ref a ∧ tl = [(a, { cls := .type "tuple", data := .seq #[.str x t, .ref p] }), (p, W.listOf vs.toArray c)] ∧ ItsAre vs xs ∧ (∀ q ∈ news, q.1 < p) ∧ p < a
theorem rel_ret {g : Heap} {L' : Addr} {s : Shared} {news others : List (Addr × Obj)} {x X : Str} {XS : List It} {D0 D1 : Addr} {h : Heap} {tk : Nat} {t : Tok} {m' : Str → Option Value} {vs : List Value} {c : Nat}
    (F : Fr g L' h m') (N : News g L' h ((D0, { cls := .type "tuple", data := .seq #[.str x t, .ref D1] }) :: (D1, W.listOf vs.toArray c) :: others)) (ho : ∀ p ∈ news, p ∈ others) (hi : vs.all isItV = true) (h1 : ∀ q ∈ news, q.1 < D1) (h2 : D1 < D0) (hx : x = X) (hxs : vs.map itV = XS) :
    Kept (Came g L' s news (RelPost news X XS) (.ret (.ref D0)) { s with heap := h, toks := tk }) := by
  subst hx hxs
  refine Came.ret_drop [(D0, { cls := .type "tuple", data := .seq #[.str x t, .ref D1] }), (D1, W.listOf vs.toArray c)] F N ?_ ⟨D0, D1, t, vs, c, rfl, rfl, itsV hi, h1, h2⟩
  intro p hp
  rcases List.mem_cons.mp hp with rfl | hp
  · exact .head _
  · rcases List.mem_cons.mp hp with rfl | hp
    · exact .tail _ (.head _)
    · exact .tail _ (.tail _ (ho p hp))
noncomputable def relPs : List (Str × Int) := [(Str.ofString "", 100), (Str.ofString "dev", 10), (Str.ofString "alpha", 20), (Str.ofString "a", 20), (Str.ofString "beta", 30), (Str.ofString "b", 30), (Str.ofString "c", 40), (Str.ofString "rc", 50), (Str.ofString "RC", 50), (Str.ofString "p", 200), (Str.ofString "pl", 200), (Str.ofString "Rc", 0)]
theorem relPs_eq : relPs = relTab.map fun p => (ofL p.1, p.2) := by decide +kernel
theorem rel_at {k : Nat} (h : k < 12) : relPs[k]? = some (ofL (relTab.getD k ([], 0)).1, (relTab.getD k ([], 0)).2) := by
  have hl : k < relTab.length := h
  rw [relPs_eq]
  rw [List.getElem?_map, List.getElem?_eq_getElem hl, List.getD_eq_getElem?_getD, List.getElem?_eq_getElem hl]
  rfl
theorem c_rel {w : World} {mean mg mb} (d : Int) (t1 : Tok) (news : List (Addr × Obj)) :
   Ctr w mean mg mb 72 2 20 news [.int d t1] (RelPost news (relText d) (relParts d)) := by
  refine fillIt ?_
  k_fill
  intro _
  intro dp un gd cn cs a ccd cl outer A₀ base h₀ L m s Q E S hdp hun hret
  obtain ⟨B0, F0, X0, N0, T0, hk0⟩ := id S
  refine' callBody [(Str.ofString "drawn", .int d t1)] [(Str.ofString "drawn", .int d t1)] S ?ho ?hcd ?hr ?hb ?hl ?c2 ?c3 ?c4 ?c5 ?hrb hret ?_
  (((case ho => k_is); (case hcd => k_is); (case hr => omega); (case hb => exact BindsTo.of_eq rfl); (case hl => exact locs rfl); (case c2 => exact rfl); (case c3 => exact rfl); (case c4 => exact rfl); (case c5 => decide); (case hrb => rfl); k_whole))
  clear F0 N0 B0 X0 T0 S hret
  intro g L' h₁ F' N' B' X' T'
  with_reducible refine seqH (fun s' => ∃ (k : Nat) (t2 t3 : Tok) (h : Heap) (tk : Nat), s' = { s with heap := h, toks := tk } ∧ k < 12 ∧ (d.fdiv 4).fmod 12 = (k : Int) ∧
    Fr g L' h (mp [(Str.ofString "drawn", .int d t1), (Str.ofString "word", .str (ofL (relTab.getD k ([], 0)).1) t2), (Str.ofString "rank", .int (relTab.getD k ([], 0)).2 t3)]) ∧ News g L' h news) ?one ?rest
  case one =>
    intro Qh hQh
    (repeat' ((fail_if_success (with_reducible show wpAny _ _ (PySem.exec (PySem.Stmt.While _ _ _ _) _) _ _ _)); (fail_if_success (with_reducible show wpAny _ _ (PySem.exec (PySem.Stmt.For _ _ _ _ _) _) _ _ _)); (fail_if_success (with_reducible show wpAny _ _ (PySem.pyIter _) _ _ _)); (fail_if_success (with_reducible show Kept _)); (fail_if_success (with_reducible show InvEndN _ _ _ _ _ _ _)); (first | (k_unfold; (try dsimp only)) | (k_end; wrow_close) | (with_reducible ((with_reducible show wpAny _ _ (PySem.eval (PySem.Expr.List (PySem.Expr.Tuple _ _ _ :: _) _) _) _ _ _); refine List_ (disp (ps := relPs) (by unfold relPs; repeat constructor) ‹Fr _ _ _ _› ‹News _ _ _ _› ?_); (intro _ _ _ _ _ _ _ _); (try dsimp only))) | walk1 | (dsimp only; walk1) | (leave1; walk_say "STEP leave1"; try dsimp only))))
    obtain ⟨k, hk, hk12⟩ := fmod_nat (d.fdiv 4) 12 (by decide)
    rename Fr _ _ _ _ => F0
    rename News _ _ _ _ => N0
    rename PairsAre _ _ _ => hP
    refine newList_K F0 N0 (fun D0 h1 F1 N1 lD0 => ?_) (by rw [hP.1]; decide)
    clear F0 N0
    (repeat' ((fail_if_success (with_reducible show wpAny _ _ (PySem.exec (PySem.Stmt.While _ _ _ _) _) _ _ _)); (fail_if_success (with_reducible show wpAny _ _ (PySem.exec (PySem.Stmt.For _ _ _ _ _) _) _ _ _)); (fail_if_success (with_reducible show wpAny _ _ (PySem.pyIter _) _ _ _)); (fail_if_success (with_reducible show Kept _)); (fail_if_success (with_reducible show InvEndN _ _ _ _ _ _ _)); (first | (k_unfold; (try dsimp only)) | (k_end; wrow_close) | (with_reducible ((with_reducible show wpAny _ _ (PySem.eval (PySem.Expr.List (PySem.Expr.Tuple _ _ _ :: _) _) _) _ _ _); refine List_ (disp (ps := relPs) (by unfold relPs; repeat constructor) ‹Fr _ _ _ _› ‹News _ _ _ _› ?_); (intro _ _ _ _ _ _ _ _); (try dsimp only))) | walk1 | (dsimp only; walk1) | (leave1; walk_say "STEP leave1"; try dsimp only))))
    obtain ⟨T, t2, t3, hv, hT⟩ := hP.2 k _ (rel_at hk12)
    refine r_menu N1 (.head _) hk hv (by rw [hP.1]; decide) ?_ (by with_unfolding_all rfl) (by intro _; with_unfolding_all rfl)
    rename (∀ p ∈ news, p ∈ _) => hsub
    have N2 : News g L' _ ((T, { cls := .type "tuple", data := .seq #[.str (ofL (relTab.getD k ([], 0)).1) t2, .int (relTab.getD k ([], 0)).2 t3] }) :: news) :=
      List.forall_mem_cons.mpr ⟨N1 _ (.tail _ hT), fun p hp => N1 p (.tail _ (hsub p hp))⟩
    clear N1
    (repeat' ((fail_if_success (with_reducible show wpAny _ _ (PySem.exec (PySem.Stmt.While _ _ _ _) _) _ _ _)); (fail_if_success (with_reducible show wpAny _ _ (PySem.exec (PySem.Stmt.For _ _ _ _ _) _) _ _ _)); (fail_if_success (with_reducible show wpAny _ _ (PySem.pyIter _) _ _ _)); (fail_if_success (with_reducible show Kept _)); (fail_if_success (with_reducible show InvEndN _ _ _ _ _ _ _)); (first | (k_unfold; (try dsimp only)) | (k_end; wrow_close) | (with_reducible ((with_reducible show wpAny _ _ (PySem.eval (PySem.Expr.List (PySem.Expr.Tuple _ _ _ :: _) _) _) _ _ _); refine List_ (disp (ps := relPs) (by unfold relPs; repeat constructor) ‹Fr _ _ _ _› ‹News _ _ _ _› ?_); (intro _ _ _ _ _ _ _ _); (try dsimp only))) | walk1 | (dsimp only; walk1) | (leave1; walk_say "STEP leave1"; try dsimp only))))
    rename Fr _ _ _ _ => F3
    rename News _ _ _ _ => N3
    simp only [mp_setp] at F3
    exact hQh _ ⟨_, _, _, _, _, rfl, hk12, hk, F3, fun p hp => N3 p (.tail _ hp)⟩
  case rest =>
    rintro s' ⟨k, t2, t3, h2, tk2, rfl, hk12, hk, F2, N2⟩
    clear F' N'
    have hW : (ofL (relTab.getD k ([], 0)).1).length ≤ 5 := by
      rw [ofL_len]
      have : ∀ k : Fin 12, (relTab.getD k.val ([], 0)).1.length ≤ 5 := by decide
      exact this ⟨k, hk12⟩
    generalize hWk : (relTab.getD k ([], 0)).1 = W at F2 hW
    generalize hrk : (relTab.getD k ([], 0)).2 = rk at F2
    obtain ⟨hn, hhn, hh4⟩ := fmod_nat d 4 (by decide)
    obtain ⟨nn, hnn, hn13⟩ := fmod_nat (d.fdiv 48) 13 (by decide)
    obtain ⟨j, hj, hj4⟩ := fmod_nat (d.fdiv 624) 4 (by decide)
    obtain ⟨z, hz, hz2⟩ := fmod_nat (d.fdiv 2496) 2 (by decide)
    with_reducible refine seqH (fun s' => ∃ (t4 : Tok) (h : Heap) (tk : Nat), s' = { s with heap := h, toks := tk } ∧
      Fr g L' h (mp [(Str.ofString "drawn", .int d t1), (Str.ofString "word", .str (ofL W) t2), (Str.ofString "rank", .int rk t3), (Str.ofString "head", .int (hn : Int) t4)]) ∧ News g L' h news) ?two ?rest2
    case two =>
      intro Qh hQh
      (repeat' ((fail_if_success (with_reducible show wpAny _ _ (PySem.exec (PySem.Stmt.While _ _ _ _) _) _ _ _)); (fail_if_success (with_reducible show wpAny _ _ (PySem.exec (PySem.Stmt.For _ _ _ _ _) _) _ _ _)); (fail_if_success (with_reducible show wpAny _ _ (PySem.pyIter _) _ _ _)); (fail_if_success (with_reducible show Kept _)); (fail_if_success (with_reducible show InvEndN _ _ _ _ _ _ _)); (first | (k_unfold; (try dsimp only)) | (k_end; wrow_close) | (with_reducible ((with_reducible show wpAny _ _ (PySem.eval (PySem.Expr.List (PySem.Expr.Tuple _ _ _ :: _) _) _) _ _ _); refine List_ (disp (ps := relPs) (by unfold relPs; repeat constructor) ‹Fr _ _ _ _› ‹News _ _ _ _› ?_); (intro _ _ _ _ _ _ _ _); (try dsimp only))) | walk1 | (dsimp only; walk1) | (leave1; walk_say "STEP leave1"; try dsimp only))))
      rename Fr _ _ _ _ => F3
      rename News _ _ _ _ => N3
      rw [show d.fmod 4 = (hn : Int) from hhn] at F3
      simp only [mp_setp] at F3
      exact hQh _ ⟨_, _, _, rfl, F3, N3⟩
    rintro s' ⟨t4, h3, tk3, rfl, F3, N3⟩
    clear F2 N2
    with_reducible refine seqH (fun s' => ∃ (t5 : Tok) (h : Heap) (tk : Nat), s' = { s with heap := h, toks := tk } ∧
      Fr g L' h (mp [(Str.ofString "drawn", .int d t1), (Str.ofString "word", .str (ofL W) t2), (Str.ofString "rank", .int rk t3), (Str.ofString "head", .int (hn : Int) t4), (Str.ofString "number", .int (nn : Int) t5)]) ∧ News g L' h news) ?three ?rest3
    case three =>
      intro Qh hQh
      (repeat' ((fail_if_success (with_reducible show wpAny _ _ (PySem.exec (PySem.Stmt.While _ _ _ _) _) _ _ _)); (fail_if_success (with_reducible show wpAny _ _ (PySem.exec (PySem.Stmt.For _ _ _ _ _) _) _ _ _)); (fail_if_success (with_reducible show wpAny _ _ (PySem.pyIter _) _ _ _)); (fail_if_success (with_reducible show Kept _)); (fail_if_success (with_reducible show InvEndN _ _ _ _ _ _ _)); (first | (k_unfold; (try dsimp only)) | (k_end; wrow_close) | (with_reducible ((with_reducible show wpAny _ _ (PySem.eval (PySem.Expr.List (PySem.Expr.Tuple _ _ _ :: _) _) _) _ _ _); refine List_ (disp (ps := relPs) (by unfold relPs; repeat constructor) ‹Fr _ _ _ _› ‹News _ _ _ _› ?_); (intro _ _ _ _ _ _ _ _); (try dsimp only))) | walk1 | (dsimp only; walk1) | (leave1; walk_say "STEP leave1"; try dsimp only))))
      rename Fr _ _ _ _ => F4
      rename News _ _ _ _ => N4
      rw [show (d.fdiv 48).fmod 13 = (nn : Int) from hnn] at F4
      simp only [mp_setp] at F4
      exact hQh _ ⟨_, _, _, rfl, F4, N4⟩
    rintro s' ⟨t5, h4, tk4, rfl, F4, N4⟩
    clear F3 N3
    with_reducible refine seqH (fun s' => ∃ (t6 : Tok) (h : Heap) (tk : Nat), s' = { s with heap := h, toks := tk } ∧
      Fr g L' h (mp [(Str.ofString "drawn", .int d t1), (Str.ofString "word", .str (ofL W) t2), (Str.ofString "rank", .int rk t3), (Str.ofString "head", .int (hn : Int) t4), (Str.ofString "number", .int (nn : Int) t5), (Str.ofString "gap", .str (ofL (gapTab.getD j [])) t6)]) ∧ News g L' h news) ?four ?rest4
    case four =>
      intro Qh hQh
      (repeat' ((fail_if_success (with_reducible show wpAny _ _ (PySem.exec (PySem.Stmt.While _ _ _ _) _) _ _ _)); (fail_if_success (with_reducible show wpAny _ _ (PySem.exec (PySem.Stmt.For _ _ _ _ _) _) _ _ _)); (fail_if_success (with_reducible show wpAny _ _ (PySem.pyIter _) _ _ _)); (fail_if_success (with_reducible show Kept _)); (fail_if_success (with_reducible show InvEndN _ _ _ _ _ _ _)); (first | (k_unfold; (try dsimp only)) | (k_end; wrow_close) | (with_reducible ((with_reducible show wpAny _ _ (PySem.eval (PySem.Expr.List (PySem.Expr.Tuple _ _ _ :: _) _) _) _ _ _); refine List_ (disp (ps := relPs) (by unfold relPs; repeat constructor) ‹Fr _ _ _ _› ‹News _ _ _ _› ?_); (intro _ _ _ _ _ _ _ _); (try dsimp only))) | walk1 | (dsimp only; walk1) | (leave1; walk_say "STEP leave1"; try dsimp only))))
      rename News _ _ _ _ => N1
      rcases (show j = 0 ∨ j = 1 ∨ j = 2 ∨ j = 3 by omega) with rfl | rfl | rfl | rfl
      all_goals
        refine r_menu N1 (.head _) hj rfl (by simp) ?_ (by with_unfolding_all rfl) (by intro _; with_unfolding_all rfl)
        (repeat' ((fail_if_success (with_reducible show wpAny _ _ (PySem.exec (PySem.Stmt.While _ _ _ _) _) _ _ _)); (fail_if_success (with_reducible show wpAny _ _ (PySem.exec (PySem.Stmt.For _ _ _ _ _) _) _ _ _)); (fail_if_success (with_reducible show wpAny _ _ (PySem.pyIter _) _ _ _)); (fail_if_success (with_reducible show Kept _)); (fail_if_success (with_reducible show InvEndN _ _ _ _ _ _ _)); (first | (k_unfold; (try dsimp only)) | (k_end; wrow_close) | (with_reducible ((with_reducible show wpAny _ _ (PySem.eval (PySem.Expr.List (PySem.Expr.Tuple _ _ _ :: _) _) _) _ _ _); refine List_ (disp (ps := relPs) (by unfold relPs; repeat constructor) ‹Fr _ _ _ _› ‹News _ _ _ _› ?_); (intro _ _ _ _ _ _ _ _); (try dsimp only))) | walk1 | (dsimp only; walk1) | (leave1; walk_say "STEP leave1"; try dsimp only))))
        rename Fr _ _ _ _ => F3
        rename News _ _ _ _ => N3
        simp only [mp_setp] at F3
        refine hQh _ ⟨_, _, _, rfl, F3, fun p hp => N3 p ?_⟩
        repeat (first | exact hp | apply List.mem_cons_of_mem)
    rintro s' ⟨t6, h5, tk5, rfl, F5, N5⟩
    clear F4 N4
    have hG : (ofL (gapTab.getD j [])).length ≤ 2 := by
      rw [ofL_len]
      have : ∀ k : Fin 4, (gapTab.getD k.val []).length ≤ 2 := by decide
      exact this ⟨j, hj4⟩
    generalize hGj : gapTab.getD j [] = G at F5 hG
    have hz0 : (d.fdiv 2496).fmod 2 = (z : Int) := hz
    have hm : (Txt.mul (Str.ofString "0") ((d.fdiv 2496).fmod 2)).length ≤ 1 := by
      rw [hz0]
      rcases (show z = 0 ∨ z = 1 by omega) with rfl | rfl <;> decide +kernel
    have hh20 : (Str.ofString (toString (hn : Int))).length ≤ 1 := by
      rcases (show hn = 0 ∨ hn = 1 ∨ hn = 2 ∨ hn = 3 by omega) with rfl | rfl | rfl | rfl <;> decide +kernel
    have hn20 : (Str.ofString (toString (nn : Int))).length ≤ 2 := by
      have : ∀ k : Fin 13, (Str.ofString (toString (k.val : Int))).length ≤ 2 := by decide +kernel
      exact this ⟨nn, hn13⟩
    with_reducible refine seqH (fun s' => ∃ (x : Str) (tx : Tok) (h : Heap) (tk : Nat), s' = { s with heap := h, toks := tk } ∧ x = relS1 hn ∧ Fr g L' h (mp [(Str.ofString "drawn", .int d t1), (Str.ofString "word", .str (ofL W) t2), (Str.ofString "rank", .int rk t3), (Str.ofString "head", .int (hn : Int) t4), (Str.ofString "number", .int (nn : Int) t5), (Str.ofString "gap", .str (ofL G) t6), (Str.ofString "text", .str x tx)]) ∧ News g L' h news) ?st5 ?re5
    case st5 =>
      intro Qh hQh
      (repeat' ((fail_if_success (with_reducible show wpAny _ _ (PySem.exec (PySem.Stmt.While _ _ _ _) _) _ _ _)); (fail_if_success (with_reducible show wpAny _ _ (PySem.exec (PySem.Stmt.For _ _ _ _ _) _) _ _ _)); (fail_if_success (with_reducible show wpAny _ _ (PySem.pyIter _) _ _ _)); (fail_if_success (with_reducible show Kept _)); (fail_if_success (with_reducible show InvEndN _ _ _ _ _ _ _)); (first | (k_unfold; (try dsimp only)) | (k_end; wrow_close) | (with_reducible ((with_reducible show wpAny _ _ (PySem.eval (PySem.Expr.List (PySem.Expr.Tuple _ _ _ :: _) _) _) _ _ _); refine List_ (disp (ps := relPs) (by unfold relPs; repeat constructor) ‹Fr _ _ _ _› ‹News _ _ _ _› ?_); (intro _ _ _ _ _ _ _ _); (try dsimp only))) | walk1 | (dsimp only; walk1) | (leave1; walk_say "STEP leave1"; try dsimp only))))
      all_goals
        rename Fr _ _ _ _ => F8
        skip
        simp only [mp_setp] at F8
        refine hQh _ ⟨_, _, _, _, rfl, ?_, F8, (by with_reducible assumption)⟩
      all_goals first
        | (unfold relS1; rw [if_pos (by first | assumption | omega)])
        | (unfold relS1; rw [if_neg (by first | assumption | omega)])
        | (unfold relS1; simp_all)
    rintro s' ⟨x5, tx5, hp5, tk5, rfl, hx5, F15, M5⟩
    have hl5 : x5.length ≤ 1 := by
      rw [hx5]; unfold relS1; split
      · exact hh20
      · decide
    clear F5 N5
    with_reducible refine seqH (fun s' => ∃ (x : Str) (tx : Tok) (h : Heap) (tk : Nat), s' = { s with heap := h, toks := tk } ∧ x = x5 ++ relS2 W G ∧ Fr g L' h (mp [(Str.ofString "drawn", .int d t1), (Str.ofString "word", .str (ofL W) t2), (Str.ofString "rank", .int rk t3), (Str.ofString "head", .int (hn : Int) t4), (Str.ofString "number", .int (nn : Int) t5), (Str.ofString "gap", .str (ofL G) t6), (Str.ofString "text", .str x tx)]) ∧ News g L' h news) ?st6 ?re6
    case st6 =>
      intro Qh hQh
      (repeat' ((fail_if_success (with_reducible show wpAny _ _ (PySem.exec (PySem.Stmt.While _ _ _ _) _) _ _ _)); (fail_if_success (with_reducible show wpAny _ _ (PySem.exec (PySem.Stmt.For _ _ _ _ _) _) _ _ _)); (fail_if_success (with_reducible show wpAny _ _ (PySem.pyIter _) _ _ _)); (fail_if_success (with_reducible show Kept _)); (fail_if_success (with_reducible show InvEndN _ _ _ _ _ _ _)); (first | (k_unfold; (try dsimp only)) | (k_end; wrow_close) | (with_reducible ((with_reducible show wpAny _ _ (PySem.eval (PySem.Expr.List (PySem.Expr.Tuple _ _ _ :: _) _) _) _ _ _); refine List_ (disp (ps := relPs) (by unfold relPs; repeat constructor) ‹Fr _ _ _ _› ‹News _ _ _ _› ?_); (intro _ _ _ _ _ _ _ _); (try dsimp only))) | walk1 | (dsimp only; walk1) | (leave1; walk_say "STEP leave1"; try dsimp only))))
      all_goals
        rename Fr _ _ _ _ => F8
        skip
        simp only [mp_setp] at F8
        refine hQh _ ⟨_, _, _, _, rfl, ?_, F8, (by with_reducible assumption)⟩
      all_goals first
        | (unfold relS2; rw [if_pos (by first | assumption | omega)])
        | (unfold relS2; rw [if_neg (by first | assumption | omega)])
        | (unfold relS2; simp_all)
    rintro s' ⟨x6, tx6, hp6, tk6, rfl, hx6, F16, M6⟩
    have hl6 : x6.length ≤ 10 := by
      rw [hx6]; unfold relS2; split <;> (simp only [Str.length_append]; have : (Str.ofString ".").length = 1 := by decide
                                         omega)
    clear F15 M5
    with_reducible refine seqH (fun s' => ∃ (x : Str) (tx : Tok) (h : Heap) (tk : Nat), s' = { s with heap := h, toks := tk } ∧ x = x6 ++ relS3 nn ((d.fdiv 2496).fmod 2) G ∧ Fr g L' h (mp [(Str.ofString "drawn", .int d t1), (Str.ofString "word", .str (ofL W) t2), (Str.ofString "rank", .int rk t3), (Str.ofString "head", .int (hn : Int) t4), (Str.ofString "number", .int (nn : Int) t5), (Str.ofString "gap", .str (ofL G) t6), (Str.ofString "text", .str x tx)]) ∧ News g L' h news) ?st7 ?re7
    case st7 =>
      intro Qh hQh
      (repeat' ((fail_if_success (with_reducible show wpAny _ _ (PySem.exec (PySem.Stmt.While _ _ _ _) _) _ _ _)); (fail_if_success (with_reducible show wpAny _ _ (PySem.exec (PySem.Stmt.For _ _ _ _ _) _) _ _ _)); (fail_if_success (with_reducible show wpAny _ _ (PySem.pyIter _) _ _ _)); (fail_if_success (with_reducible show Kept _)); (fail_if_success (with_reducible show InvEndN _ _ _ _ _ _ _)); (first | (k_unfold; (try dsimp only)) | (k_end; wrow_close) | (with_reducible ((with_reducible show wpAny _ _ (PySem.eval (PySem.Expr.List (PySem.Expr.Tuple _ _ _ :: _) _) _) _ _ _); refine List_ (disp (ps := relPs) (by unfold relPs; repeat constructor) ‹Fr _ _ _ _› ‹News _ _ _ _› ?_); (intro _ _ _ _ _ _ _ _); (try dsimp only))) | walk1 | (dsimp only; walk1) | (leave1; walk_say "STEP leave1"; try dsimp only))))
      all_goals
        rename Fr _ _ _ _ => F8
        skip
        simp only [mp_setp] at F8
        refine hQh _ ⟨_, _, _, _, rfl, ?_, F8, (by with_reducible assumption)⟩
      all_goals first
        | (unfold relS3; rw [if_pos (by first | assumption | omega)])
        | (unfold relS3; rw [if_neg (by first | assumption | omega)])
        | (unfold relS3; simp_all)
    rintro s' ⟨x7, tx7, hp7, tk7, rfl, hx7, F17, M7⟩
    clear F16 M6
    have hhn' : d.fmod 4 = (hn : Int) := hhn
    have hnn' : (d.fdiv 48).fmod 13 = (nn : Int) := hnn
    have hk' : (d.fdiv 4).fmod 12 = (k : Int) := hk
    have hj' : (d.fdiv 624).fmod 4 = (j : Int) := hj
    have hX : x7 = relText d := by
      rw [hx7, hx6, hx5]
      unfold relText relWord relGap
      rw [hhn', hnn', hk', hj']
      simp only [Int.toNat_natCast]
      rw [hWk, hGj]
    have hP : relParts d = (if hn < 3 then [.i 100, .i hn] else []) ++ (if W = [] then [] else [.i rk, .s W]) ++ (if nn < 12 then [.i 100, .i nn] else []) := by
      unfold relParts relWord relRank
      rw [hhn', hnn', hk']
      simp only [Int.toNat_natCast]
      rw [hWk, hrk]
    have hWe : (ofL W != Str.ofString "") = true → W ≠ [] := by
      rintro h rfl
      revert h
      decide
    have hWn : (ofL W != Str.ofString "") = false → W = [] := by
      intro h
      have := (bne_eq_false_iff_eq).mp h
      exact ofL_inj (this.trans (by rfl))
    clear hx5 hx6 hx7 hWk hrk hGj hhn hnn hk hj hz hz0 hm hhn' hnn' hk' hj'
    (repeat' ((fail_if_success (with_reducible show wpAny _ _ (PySem.exec (PySem.Stmt.While _ _ _ _) _) _ _ _)); (fail_if_success (with_reducible show wpAny _ _ (PySem.exec (PySem.Stmt.For _ _ _ _ _) _) _ _ _)); (fail_if_success (with_reducible show wpAny _ _ (PySem.pyIter _) _ _ _)); (fail_if_success (with_reducible show Kept _)); (fail_if_success (with_reducible show InvEndN _ _ _ _ _ _ _)); (first | (k_unfold; (try dsimp only)) | (k_end; wrow_close) | (with_reducible ((with_reducible show wpAny _ _ (PySem.eval (PySem.Expr.List (PySem.Expr.Tuple _ _ _ :: _) _) _) _ _ _); refine List_ (disp (ps := relPs) (by unfold relPs; repeat constructor) ‹Fr _ _ _ _› ‹News _ _ _ _› ?_); (intro _ _ _ _ _ _ _ _); (try dsimp only))) | walk1 | (dsimp only; walk1) | (leave1; walk_say "STEP leave1"; try dsimp only))))
    all_goals
      rename_i D1 _ lD1 D0 _ F9 N9 lD0
      refine rel_ret F9 N9 ?drop rfl ?lt1 lD0.1 hX ?xs
      case drop => intro p hp; repeat (first | exact hp | apply List.mem_cons_of_mem)
      case lt1 =>
        refine allLt_mem ?_
        first | exact lD1 | exact lD1.2 | exact lD1.2.2 | exact lD1.2.2.2 | exact lD1.2.2.2.2 | exact lD1.2.2.2.2.2 | exact lD1.2.2.2.2.2.2
      case xs =>
        rw [hP]
        clear hP hX
        first | rw [if_pos (show hn < 3 by omega)] | rw [if_neg (show ¬ hn < 3 by omega)]
        first | rw [if_pos (show nn < 12 by omega)] | rw [if_neg (show ¬ nn < 12 by omega)]
        first | rw [if_neg (hWe (by assumption))] | rw [if_pos (hWn (by assumption))]
        simp [itV, ofL_cps]
end Mine
end
section
open PySem PySem.W PyProof.Rows PySem.Spec PySem.Calls
set_option maxRecDepth 100000
set_option maxHeartbeats 0
namespace Mine
noncomputable def hnL (hn : Nat) : List Nat := if hn < 3 then [48 + hn] else []
noncomputable def wdL (W G : List Nat) : List Nat := if W = [] then 46 :: G else G ++ W
noncomputable def nnD (nn : Nat) : List Nat := if nn < 10 then [48 + nn] else [49, 38 + nn]
noncomputable def nnL (nn z : Nat) (G : List Nat) : List Nat := if nn < 12 then List.replicate z 48 ++ nnD nn else G
noncomputable def txtOf (hn k nn j z : Nat) : List Nat := hnL hn ++ wdL (relTab.getD k ([], 0)).1 (gapTab.getD j []) ++ nnL nn z (gapTab.getD j [])
noncomputable def prtOf (hn k nn : Nat) : List It := (if hn < 3 then [.i 100, .i hn] else []) ++ (if (relTab.getD k ([], 0)).1 = [] then [] else [.i (relTab.getD k ([], 0)).2, .s (relTab.getD k ([], 0)).1]) ++ (if nn < 12 then [.i 100, .i nn] else [])
noncomputable def tokTab : List (List Nat × List It) :=
  [([], []), ([46], []), ([45], []), ([95], []), ([43], [])] ++ (relTab.tail.map fun q => (q.1, [It.i q.2, It.s q.1])) ++
  ((List.range 2).flatMap fun z => (List.range 12).map fun nn => (List.replicate z 48 ++ nnD nn, [It.i 100, It.i nn]))
theorem tok_ok : tokTab.all (fun q => decide (itsOf q.1 = q.2)) = true := by decide +kernel
noncomputable def lookT (p : List Nat) : Option (List It) := tokTab.lookup p
theorem lookT_ok {p : List Nat} {v : List It} (h : lookT p = some v) : itsOf p = v := by
  have : ∀ l : List (List Nat × List It), l.all (fun q => decide (itsOf q.1 = q.2)) = true → l.lookup p = some v → itsOf p = v := by
    intro l
    induction l with
    | nil => intro _ h; cases h
    | cons q l ih =>
      obtain ⟨a, b⟩ := q
      intro ha h
      rw [List.all_cons, Bool.and_eq_true] at ha
      rw [List.lookup_cons] at h
      by_cases e : p = a
      · subst e
        simp at h
        subst h
        simpa using ha.1
      · have : (p == a) = false := by simpa using e
        rw [this] at h
        exact ih ha.2 h
  exact this tokTab tok_ok h
noncomputable def allT : List (List Nat) → Option (List It)
  | [] => some []
  | p :: ps => match lookT p, allT ps with
    | some a, some b => some (a ++ b)
    | _, _ => none
theorem allT_ok : ∀ {ps : List (List Nat)} {v : List It}, allT ps = some v → ps.flatMap itsOf = v
  | [], v, h => by cases h; rfl
  | p :: ps, v, h => by
    unfold allT at h
    cases h1 : lookT p with
    | none => rw [h1] at h; cases h
    | some a =>
      cases h2 : allT ps with
      | none => rw [h1, h2] at h; cases h
      | some b =>
        rw [h1, h2] at h
        cases h
        rw [List.flatMap_cons, lookT_ok h1, allT_ok h2]
noncomputable def okOne (hn k nn j z : Nat) : Bool := decide (allT (piecesL (2 * (txtOf hn k nn j z).length + 3) (txtOf hn k nn j z)) = some (prtOf hn k nn))
noncomputable def okK (k : Nat) : Bool := (List.range 4).all (fun hn => (List.range 4).all fun j => (List.range 2).all (fun z => (List.range 13).all fun nn => okOne hn k nn j z))
theorem ok0 : okK 0 = true := by decide +kernel
theorem ok1 : okK 1 = true := by decide +kernel
theorem ok2 : okK 2 = true := by decide +kernel
theorem ok3 : okK 3 = true := by decide +kernel
theorem ok4 : okK 4 = true := by decide +kernel
theorem ok5 : okK 5 = true := by decide +kernel
theorem ok6 : okK 6 = true := by decide +kernel
theorem ok7 : okK 7 = true := by decide +kernel
theorem ok8 : okK 8 = true := by decide +kernel
theorem ok9 : okK 9 = true := by decide +kernel
theorem ok10 : okK 10 = true := by decide +kernel
theorem ok11 : okK 11 = true := by decide +kernel
theorem okAll {hn k nn j z : Nat} (h1 : hn < 4) (h2 : k < 12) (h3 : nn < 13) (h4 : j < 4) (h5 : z < 2) : cmpVer (txtOf hn k nn j z) = prtOf hn k nn := by
  have hk : okK k = true := by
    rcases (show k = 0 ∨ k = 1 ∨ k = 2 ∨ k = 3 ∨ k = 4 ∨ k = 5 ∨ k = 6 ∨ k = 7 ∨ k = 8 ∨ k = 9 ∨ k = 10 ∨ k = 11 by (first | lia | omega)) with rfl | rfl | rfl | rfl | rfl | rfl | rfl | rfl | rfl | rfl | rfl | rfl
    · exact ok0
    · exact ok1
    · exact ok2
    · exact ok3
    · exact ok4
    · exact ok5
    · exact ok6
    · exact ok7
    · exact ok8
    · exact ok9
    · exact ok10
    · exact ok11
  unfold okK at hk
  have a1 := List.all_eq_true.mp hk hn (List.mem_range.mpr h1)
  have a2 := List.all_eq_true.mp a1 j (List.mem_range.mpr h4)
  have a3 := List.all_eq_true.mp a2 z (List.mem_range.mpr h5)
  have a4 := List.all_eq_true.mp a3 nn (List.mem_range.mpr h3)
  unfold okOne at a4
  have a5 := allT_ok (of_decide_eq_true a4)
  unfold cmpVer
  rw [pieces_list]
  exact a5
theorem cps_app (a b : Str) : (a ++ b).cps.toList = a.cps.toList ++ b.cps.toList := by
  show (a.cps ++ b.cps).toList = _
  simp
theorem s1_list {hn : Nat} (h : hn < 4) : (relS1 hn).cps.toList = hnL hn := by
  have : ∀ k : Fin 4, (relS1 k.val).cps.toList = hnL k.val := by decide +kernel
  exact this ⟨hn, h⟩
theorem s2_list (W G : List Nat) : (relS2 W G).cps.toList = wdL W G := by
  unfold relS2 wdL
  by_cases h : W = []
  · subst h
    rw [if_pos (by decide), if_pos rfl, cps_app, ofL_cps]
    rfl
  · have : ¬ (ofL W == Str.ofString "") = true := by
      intro q
      exact h (ofL_inj ((beq_iff_eq.mp q).trans (by rfl)))
    rw [if_neg this, if_neg h, cps_app, ofL_cps, ofL_cps]
theorem s3_list {nn z : Nat} (h : nn < 13) (h2 : z < 2) (G : List Nat) : (relS3 nn (z : Int) G).cps.toList = nnL nn z G := by
  by_cases hlt : nn < 12
  · unfold relS3 nnL
    rw [if_pos (by (first | lia | omega)), if_pos hlt]
    have : ∀ (k : Fin 12) (y : Fin 2), (Txt.mul (Str.ofString "0") ((y.val : Nat) : Int) ++ Str.ofString (toString ((k.val : Nat) : Int))).cps.toList = List.replicate y.val 48 ++ nnD k.val := by decide +kernel
    exact this ⟨nn, hlt⟩ ⟨z, h2⟩
  · unfold relS3 nnL
    rw [if_neg (by (first | lia | omega)), if_neg hlt, ofL_cps]
theorem toNat_lt (d : Int) (n : Nat) (h : 0 < n) : (d.fmod n).toNat < n ∧ d.fmod n = ((d.fmod n).toNat : Int) := by
  obtain ⟨k, e, hk⟩ := fmod_nat d n h
  rw [e]
  exact ⟨by simpa using hk, by simp⟩
theorem relText_list (d : Int) : (relText d).cps.toList = txtOf (d.fmod 4).toNat ((d.fdiv 4).fmod 12).toNat ((d.fdiv 48).fmod 13).toNat ((d.fdiv 624).fmod 4).toNat ((d.fdiv 2496).fmod 2).toNat := by
  unfold relText txtOf
  have b1 : (d.fmod 4).toNat < 4 := (toNat_lt d 4 (by decide)).1
  rw [cps_app, cps_app, s1_list b1, s2_list]
  have e := (toNat_lt (d.fdiv 2496) 2 (by decide)).2
  have e : (d.fdiv 2496).fmod 2 = (((d.fdiv 2496).fmod 2).toNat : Int) := e
  rw [show relS3 ((d.fdiv 48).fmod 13).toNat ((d.fdiv 2496).fmod 2) (relGap d) = relS3 ((d.fdiv 48).fmod 13).toNat ((((d.fdiv 2496).fmod 2).toNat : Nat) : Int) (relGap d) by rw [← e]]
  have b3 : ((d.fdiv 48).fmod 13).toNat < 13 := (toNat_lt (d.fdiv 48) 13 (by decide)).1
  have b5 : ((d.fdiv 2496).fmod 2).toNat < 2 := (toNat_lt (d.fdiv 2496) 2 (by decide)).1
  rw [s3_list b3 b5]
  rfl
theorem rel_law (d : Int) : cmpVer (relText d).cps.toList = relParts d := by
  have b1 : (d.fmod 4).toNat < 4 := (toNat_lt d 4 (by decide)).1
  have b2 : ((d.fdiv 4).fmod 12).toNat < 12 := (toNat_lt (d.fdiv 4) 12 (by decide)).1
  have b3 : ((d.fdiv 48).fmod 13).toNat < 13 := (toNat_lt (d.fdiv 48) 13 (by decide)).1
  have b4 : ((d.fdiv 624).fmod 4).toNat < 4 := (toNat_lt (d.fdiv 624) 4 (by decide)).1
  have b5 : ((d.fdiv 2496).fmod 2).toNat < 2 := (toNat_lt (d.fdiv 2496) 2 (by decide)).1
  rw [relText_list, okAll b1 b2 b3 b4 b5]
  rfl
noncomputable def short (l : List Nat) (n : Nat) : Bool := decide (l.length ≤ n) && l.all (· < 128)
theorem short_app {a b : List Nat} {m n : Nat} (h1 : short a m = true) (h2 : short b n = true) : short (a ++ b) (m + n) = true := by
  unfold short at *
  simp only [Bool.and_eq_true, decide_eq_true_eq, List.all_append, List.length_append] at *
  exact ⟨by (first | lia | omega), h1.2, h2.2⟩
theorem relText_short (d : Int) : (relText d).cps.toList.length ≤ 20 ∧ ∀ c ∈ (relText d).cps.toList, c < 128 := by
  rw [relText_list]
  unfold txtOf
  have h1 : short (hnL (d.fmod 4).toNat) 1 = true := by
    have : ∀ k : Fin 4, short (hnL k.val) 1 = true := by decide
    exact this ⟨_, (toNat_lt d 4 (by decide)).1⟩
  have h2 : short (wdL (relTab.getD ((d.fdiv 4).fmod 12).toNat ([], 0)).1 (gapTab.getD ((d.fdiv 624).fmod 4).toNat [])) 9 = true := by
    have : ∀ (k : Fin 12) (j : Fin 4), short (wdL (relTab.getD k.val ([], 0)).1 (gapTab.getD j.val [])) 9 = true := by decide +kernel
    exact this ⟨_, (toNat_lt (d.fdiv 4) 12 (by decide)).1⟩ ⟨_, (toNat_lt (d.fdiv 624) 4 (by decide)).1⟩
  have h3 : short (nnL ((d.fdiv 48).fmod 13).toNat ((d.fdiv 2496).fmod 2).toNat (gapTab.getD ((d.fdiv 624).fmod 4).toNat [])) 9 = true := by
    have : ∀ (k : Fin 13) (z : Fin 2) (j : Fin 4), short (nnL k.val z.val (gapTab.getD j.val [])) 9 = true := by decide +kernel
    exact this ⟨_, (toNat_lt (d.fdiv 48) 13 (by decide)).1⟩ ⟨_, (toNat_lt (d.fdiv 2496) 2 (by decide)).1⟩ ⟨_, (toNat_lt (d.fdiv 624) 4 (by decide)).1⟩
  have h := short_app (short_app h1 h2) h3
  unfold short at h
  simp only [Bool.and_eq_true, decide_eq_true_eq, List.all_eq_true] at h
  exact ⟨by (first | lia | omega), h.2⟩
end Mine
end
section
open PySem PySem.W PyProof.Rows PySem.Spec PySem.Calls
set_option maxRecDepth 100000
set_option maxHeartbeats 0
set_option pp.maxSteps 6000
namespace Mine
noncomputable def num5 (ns : List Int) : List Int := List.take 5 (List.take 5 ns ++ [481, 2929, 1373, 1681, 2488])
theorem num5_len (ns : List Int) : (num5 ns).length = 5 := by simp [num5]
noncomputable def L0 (L sa : Addr) (oT : Obj) (ns : List Int) (m : Str → Option Value) (news : List (Addr × Obj)) : Prop :=
  ∃ (D T1 D1 L1 : Addr) (tz : Tok) (ws : List Value) (o' : Obj), m = mp [(Str.ofString "script", .ref sa), (Str.ofString "size", .int ns.length tz), (Str.ofString "told", .ref T1), (Str.ofString "due", .ref D1), (Str.ofString "lists", .ref L1)] ∧
    news = [(L1, W.listOf #[] 0), (D1, W.listOf #[] 0), (T1, W.listOf #[] 0), (D, W.listOf ws.toArray 0), (L + 1 + 1, oT), (L + 1, o')] ∧ o'.data = .cell (some (.ref D)) ∧ IntsAre ws (num5 ns) ∧ L + 1 + 1 < D ∧ D < T1 ∧ T1 < D1 ∧ D1 < L1
theorem law0 {w : World} {mean mg mb} {h₀ : Heap} {L a sa : Addr} {cd : Value} {s : Shared} {vs : List Value} {ns : List Int} {oT oN : Obj} (F : Fr h₀ L s.heap (mp [(Str.ofString "script", .ref sa)])) (N : News h₀ L s.heap [(L + 1 + 1, oT), (L + 1, oN)]) (dT : oT.data = .cell none) (dN : oN.data = .cell none)
   (X : (hd.heap_1 w.params).In h₀) (T : Top VW LS mean mg mb h₀) (hl : h₀.IsList sa vs.toArray) (hi : IntsAre vs ns) (hn : ns.length ≤ 63) :
   wpAny (model PG w) (lawA L a cd) (execs (lawBody.take 5) (lawEnv L a cd)) (fun f s' => Kept (f = .next ∧ LSt h₀ L s (L0 L sa oT ns) s')) (fun _ _ => False) s := by
  have hvs : vs.length ≤ 63 := by rw [hi.length]; exact hn
  refine fillIt ?_
  k_fill
  intro _
  ((unfold lawA lawEnv lawBody lawScope lawDef PySem.Challenge.pw_pu0021_01; dsimp only [bodyOf, scopeOf, List.getLast!, List.getLast, List.drop, List.take, Option.getD, List.getD, List.getElem?_cons_zero, List.getElem?_cons_succ]))
  obtain ⟨hp, g, d, tk, os⟩ := s
  dsimp only at F N
  (repeat' ((fail_if_success (with_reducible show wpAny _ _ (PySem.exec (PySem.Stmt.While _ _ _ _) _) _ _ _)); (fail_if_success (with_reducible show wpAny _ _ (PySem.exec (PySem.Stmt.For _ _ _ _ _) _) _ _ _)); (fail_if_success (with_reducible show wpAny _ _ (PySem.pyIter _) _ _ _)); (fail_if_success (with_reducible show Kept _)); (fail_if_success (with_reducible show InvEndN _ _ _ _ _ _ _)); (first | (k_unfold; (try dsimp only)) | (k_end; wrow_close) | walk1 | (dsimp only; walk1) | (leave1; walk_say "STEP leave1"; try dsimp only))))
  rename_i D ws _ hI _ _ l1 _ o' d' _ T1 _ l2 _ _ D1 _ l3 _ _ L1 _ l4 _ F9 N9
  simp only [mp_setp] at F9
  refine Kept.of ⟨rfl, LSt.intro F9 (fun p hp => N9 p ?_) ⟨D, T1, D1, L1, _, ws, o', rfl, rfl, d', hI, l1.2.2.2.1, l2.1, l3.1, l4.1⟩⟩
  simp only [List.mem_cons, List.not_mem_nil, or_false] at hp ⊢
  rcases hp with rfl | rfl | rfl | rfl | rfl | rfl <;> simp
end Mine
end
section
open PySem PySem.W PyProof.Rows PySem.Spec PySem.Calls
set_option maxRecDepth 100000
set_option maxHeartbeats 0
set_option pp.maxSteps 6000
namespace Mine
theorem useL {w : World} {mean : ExcName → Option Value} {mg mb : Str → Option Value} {f : Addr} {D U : Nat} {news : List (Addr × Obj)} {vs : List Value} {Post : Value → List (Addr × Obj) → Prop} (C : Ctr w mean mg mb f D U news vs Post)
    {dp un : Nat} {gd : Option (List Code)} {cn : Str} {cs : Scope} {L a : Addr} {ccd : Value} {cl : List (Str × Addr)} {h₀ : Heap} {m : Str → Option Value} {s : Shared} {Q E : Value → Shared → Prop}
    (hk : cs.kind = .function) (F : Fr h₀ L s.heap m) (X : (hd.heap_1 w.params).In h₀) (N : News h₀ L s.heap news) (T : Top VW LS mean mg mb h₀) (hd : dp + D < recursionLimit) (hu : un + U < cLine)
    (h : ∀ (r : Value) (tl : List (Addr × Obj)) (h' : Heap) (tk' : Nat), Fr h₀ L h' m → News h₀ L h' (tl ++ news) → Post r tl → Q r { s with heap := h', toks := tk' }) :
    wpAny (model PG w) (ktrTop dp un gd cn cs L a ccd cl []) (call (.ref f) vs) Q E s := C dp un gd cn cs a ccd cl [] callerA h₀ h₀ L m s Q E ⟨below_caller h₀, F, X, N, T, hk⟩ hd hu h
theorem useLT {w : World} {mean : ExcName → Option Value} {mg mb : Str → Option Value} {f : Addr} {D U : Nat} {news : List (Addr × Obj)} {vs : List Value} {Post : Value → List (Addr × Obj) → Prop} (C : CtrT w mean mg mb f D U news vs Post)
    {dp un : Nat} {gd : Option (List Code)} {cn : Str} {cs : Scope} {L a : Addr} {ccd : Value} {cl : List (Str × Addr)} {h₀ : Heap} {m : Str → Option Value} {s : Shared} {Q E : Value → Shared → Prop}
    (hk : cs.kind = .function) (F : Fr h₀ L s.heap m) (X : (hd.heap_1 w.params).In h₀) (N : News h₀ L s.heap news) (T : Top VW LS mean mg mb h₀) (hd : dp + D < recursionLimit) (hu : un + U < cLine)
    (h : ∀ (r : Value) (tl : List (Addr × Obj)) (h' : Heap) (tk' : Nat), Fr h₀ L h' m → News h₀ L h' (tl ++ news) → Post r tl → Q r { s with heap := h', toks := tk' }) :
    wpC (model PG w) (ktrTop dp un gd cn cs L a ccd cl []) (call (.ref f) vs) Q E s := C dp un gd cn cs a ccd cl callerA h₀ h₀ L m s Q E ⟨below_caller h₀, F, X, N, T, hk⟩ hd hu h
theorem seqCA {M : Model} {A : Around} {env : Env} {st : Stmt} {rest : List Stmt} {Q : Flow → Shared → Prop} {E : Value → Shared → Prop} {s : Shared} (P : Shared → Prop)
    (h1 : wpAny M A (exec st env) (fun f s' => Kept (f = .next ∧ P s')) (fun _ _ => False) s) (h2 : ∀ s', P s' → wpC M A (execs rest env) Q E s') : wpC M A (execs (st :: rest) env) Q E s := by
  refine wpC_execs_consA (wpAny_mono h1 (fun f s' h => ?_) fun _ _ e => e.elim)
  obtain ⟨rfl, h⟩ := h
  exact h2 s' h
structure Blk where
  P : Nat
  R : Nat
  T : Nat
  D : Nat
  pv : List Value
  rv : List Value
  cp : Nat
  cr : Nat
  ct : Nat
  cd : Nat
  t1 : Tok
  t2 : Tok
noncomputable def Blk.objs (k : Nat) (b : Blk) : List (Addr × Obj) := [(b.P, W.listOf b.pv.toArray b.cp), (b.R, W.listOf b.rv.toArray b.cr), (b.T, W.listOf (List.toArray [.ref b.R, .int (k : Int) b.t1]) b.ct), (b.D, W.listOf (List.toArray [.ref b.P, .int (k : Int) b.t2]) b.cd)]
noncomputable def blkObjs : Nat → List Blk → List (Addr × Obj)
  | _, [] => []
  | k, b :: r => b.objs k ++ blkObjs (k + 1) r
theorem blkObjs_snoc : ∀ (l : List Blk) (k : Nat) (b : Blk), blkObjs k (l ++ [b]) = blkObjs k l ++ b.objs (k + l.length)
  | [], k, b => by simp [blkObjs]
  | c :: r, k, b => by
    show c.objs k ++ blkObjs (k + 1) (r ++ [b]) = _
    rw [blkObjs_snoc r (k + 1) b, List.length_cons, show k + 1 + r.length = k + (r.length + 1) by omega]
    show _ = (c.objs k ++ blkObjs (k + 1) r) ++ _
    rw [List.append_assoc]
noncomputable def Inc : Nat → List Blk → Prop
  | _, [] => True
  | lo, b :: r => lo < b.P ∧ b.P < b.R ∧ b.R < b.T ∧ b.T < b.D ∧ Inc b.D r
theorem Inc.snoc : ∀ {l : List Blk} {lo k : Nat} {b : Blk}, Inc lo l → lo < b.P → (∀ p ∈ blkObjs k l, p.1 < b.P) → b.P < b.R → b.R < b.T → b.T < b.D → Inc lo (l ++ [b])
  | [], _, _, _, _, h, _, h1, h2, h3 => ⟨h, h1, h2, h3, trivial⟩
  | c :: r, lo, k, b, hi, h, ha, h1, h2, h3 => by
    refine hideG ?_
    intro Cg hCg
    obtain ⟨a1, a2, a3, a4, a5⟩ := hi
    refine hCg ?_
    clear hCg Cg
    refine ⟨a1, a2, a3, a4, Inc.snoc a5 (k := k + 1) (ha (c.D, _) (List.mem_append_left _ (.tail _ (.tail _ (.tail _ (.head _)))))) (fun p hp => ha p (List.mem_append_right _ hp)) h1 h2 h3⟩
theorem Inc.above : ∀ {l : List Blk} {lo k : Nat}, Inc lo l → ∀ p ∈ blkObjs k l, lo < p.1
  | [], _, _, _, p, hp => nomatch hp
  | b :: r, lo, k, hi, p, hp => by
    refine hideG ?_
    intro Cg hCg
    obtain ⟨a1, a2, a3, a4, a5⟩ := hi
    refine hCg ?_
    clear hCg Cg
    rcases List.mem_append.mp hp with hp | hp
    · simp only [Blk.objs, List.mem_cons, List.not_mem_nil, or_false] at hp
      rcases hp with rfl | rfl | rfl | rfl <;> dsimp only <;> omega
    · have q := Inc.above a5 p hp
      have q : @LT.lt Nat _ b.D p.1 := q
      show @LT.lt Nat _ lo p.1
      omega
noncomputable def mJ (sa T1 D1 L1 : Addr) (n : Int) (tz : Tok) (u : Str → Option Value) : Str → Option Value := fun y => if y = Str.ofString "script" then some (.ref sa) else if y = Str.ofString "size" then some (.int n tz) else if y = Str.ofString "told" then some (.ref T1) else if y = Str.ofString "due" then some (.ref D1) else if y = Str.ofString "lists" then some (.ref L1) else u y
theorem mJ_of {sa T1 D1 L1 : Addr} {n : Int} {tz : Tok} {m : Str → Option Value} (h1 : m (Str.ofString "script") = some (.ref sa)) (h2 : m (Str.ofString "size") = some (.int n tz)) (h3 : m (Str.ofString "told") = some (.ref T1)) (h4 : m (Str.ofString "due") = some (.ref D1)) (h5 : m (Str.ofString "lists") = some (.ref L1)) : m = mJ sa T1 D1 L1 n tz m := by
  funext y
  unfold mJ
  by_cases e1 : y = Str.ofString "script"
  · rw [if_pos e1, e1, h1]
  rw [if_neg e1]
  by_cases e2 : y = Str.ofString "size"
  · rw [if_pos e2, e2, h2]
  rw [if_neg e2]
  by_cases e3 : y = Str.ofString "told"
  · rw [if_pos e3, e3, h3]
  rw [if_neg e3]
  by_cases e4 : y = Str.ofString "due"
  · rw [if_pos e4, e4, h4]
  rw [if_neg e4]
  by_cases e5 : y = Str.ofString "lists"
  · rw [if_pos e5, e5, h5]
  rw [if_neg e5]
noncomputable def mK (sa T1 D1 L1 : Addr) (n : Int) (tz : Tok) (x : Str) (tx : Tok) (p : Addr) (i : Int) (ti : Tok) (u : Str → Option Value) : Str → Option Value := fun y => if y = Str.ofString "text" then some (.str x tx) else if y = Str.ofString "parts" then some (.ref p) else if y = Str.ofString "at" then some (.int i ti) else if y = Str.ofString "script" then some (.ref sa) else if y = Str.ofString "size" then some (.int n tz) else if y = Str.ofString "told" then some (.ref T1) else if y = Str.ofString "due" then some (.ref D1) else if y = Str.ofString "lists" then some (.ref L1) else u y
theorem mK_of {sa T1 D1 L1 p : Addr} {n i : Int} {tz tx ti : Tok} {x : Str} {m : Str → Option Value} (h1 : m (Str.ofString "script") = some (.ref sa)) (h2 : m (Str.ofString "size") = some (.int n tz)) (h3 : m (Str.ofString "told") = some (.ref T1)) (h4 : m (Str.ofString "due") = some (.ref D1)) (h5 : m (Str.ofString "lists") = some (.ref L1))
    (h6 : m (Str.ofString "text") = some (.str x tx)) (h7 : m (Str.ofString "parts") = some (.ref p)) (h8 : m (Str.ofString "at") = some (.int i ti)) : m = mK sa T1 D1 L1 n tz x tx p i ti m := by
  have hJ := mJ_of h1 h2 h3 h4 h5
  funext y
  unfold mK
  by_cases e1 : y = Str.ofString "text"
  · rw [if_pos e1, e1, h6]
  rw [if_neg e1]
  by_cases e2 : y = Str.ofString "parts"
  · rw [if_pos e2, e2, h7]
  rw [if_neg e2]
  by_cases e3 : y = Str.ofString "at"
  · rw [if_pos e3, e3, h8]
  rw [if_neg e3]
  exact congrFun hJ y
theorem fr_mK {sa T1 D1 L1 p L : Addr} {n i : Int} {tz tx ti : Tok} {x : Str} {m : Str → Option Value} {h₀ h : Heap} (F : Fr h₀ L h m) (h1 : m (Str.ofString "script") = some (.ref sa)) (h2 : m (Str.ofString "size") = some (.int n tz)) (h3 : m (Str.ofString "told") = some (.ref T1)) (h4 : m (Str.ofString "due") = some (.ref D1)) (h5 : m (Str.ofString "lists") = some (.ref L1))
    (h6 : m (Str.ofString "text") = some (.str x tx)) (h7 : m (Str.ofString "parts") = some (.ref p)) (h8 : m (Str.ofString "at") = some (.int i ti)) : Fr h₀ L h (mK sa T1 D1 L1 n tz x tx p i ti m) := by
  rw [← mK_of h1 h2 h3 h4 h5 h6 h7 h8]
  exact F
noncomputable def LJ (L L1 D1 T1 D : Addr) (ws : List Value) (oT o' : Obj) (ns : List Int) (sa : Addr) (tz : Tok) (i : Nat) (m : Str → Option Value) (nx : List (Addr × Obj)) : Prop :=
  ∃ (bl : List Blk) (cl cd ct : Nat), nx = (L1, W.listOf (bl.map fun b => Value.ref b.P).toArray cl) :: (D1, W.listOf (bl.map fun b => Value.ref b.D).toArray cd) :: (T1, W.listOf (bl.map fun b => Value.ref b.T).toArray ct) :: (D, W.listOf ws.toArray 0) :: (L + 1 + 1, oT) :: (L + 1, o') :: blkObjs 0 bl ∧ bl.length = i ∧
    (∀ k b, bl[k]? = some b → ItsAre b.pv (relParts ((num5 ns).getD k 0)) ∧ ItsAre b.rv (relParts ((num5 ns).getD k 0))) ∧ Inc L1 bl ∧
    m (Str.ofString "script") = some (.ref sa) ∧ m (Str.ofString "size") = some (.int ns.length tz) ∧ m (Str.ofString "told") = some (.ref T1) ∧ m (Str.ofString "due") = some (.ref D1) ∧ m (Str.ofString "lists") = some (.ref L1)
theorem law1 {w : World} {mean mg mb} {h₀ : Heap} {L a sa D T1 D1 L1 : Addr} {cd : Value} {s : Shared} {ns : List Int} {tz : Tok} {ws : List Value} {oT o' : Obj} (F : Fr h₀ L s.heap (mp [(Str.ofString "script", .ref sa), (Str.ofString "size", .int ns.length tz), (Str.ofString "told", .ref T1), (Str.ofString "due", .ref D1), (Str.ofString "lists", .ref L1)]))
   (N : News h₀ L s.heap [(L1, W.listOf #[] 0), (D1, W.listOf #[] 0), (T1, W.listOf #[] 0), (D, W.listOf ws.toArray 0), (L + 1 + 1, oT), (L + 1, o')]) (dT : oT.data = .cell none) (dN : o'.data = .cell (some (.ref D)))
   (X : (hd.heap_1 w.params).In h₀) (T : Top VW LS mean mg mb h₀) (hi : IntsAre ws (num5 ns)) (hn : ns.length ≤ 63) (lD : L + 1 + 1 < D) (lT : D < T1) (lDT : T1 < D1) (lL : D1 < L1) {Q : Flow → Shared → Prop}
   (hQ : ∀ s', LSt h₀ L s (LJ L L1 D1 T1 D ws oT o' ns sa tz 5) s' → wpAny (model PG w) (lawA L a cd) (execs (lawBody.drop 6) (lawEnv L a cd)) Q (fun _ _ => False) s') :
   wpC (model PG w) (lawA L a cd) (execs (lawBody.drop 5) (lawEnv L a cd)) Q (fun _ _ => False) s := by
  have hws : ws.length = 5 := by rw [hi.length]; exact num5_len ns
  revert hQ
  refine fillIt ?_
  k_fill
  intro _
  ((unfold lawA lawEnv lawBody lawScope lawDef PySem.Challenge.pw_pu0021_01; dsimp only [bodyOf, scopeOf, List.getLast!, List.getLast, List.drop, List.take, Option.getD, List.getD, List.getElem?_cons_zero, List.getElem?_cons_succ]))
  intro hQ
  refine hideG ?_
  intro Cg hCg
  obtain ⟨hp, gs, dr, tk0, os0⟩ := s
  refine hCg ?_
  clear hCg Cg
  dsimp only at F N
  refine wpC_execs_cons ?_
  refine wpC_For ?_ (by intro _; rfl)
  (repeat' ((fail_if_success (with_reducible show wpAny _ _ (PySem.exec (PySem.Stmt.While _ _ _ _) _) _ _ _)); (fail_if_success (with_reducible show wpAny _ _ (PySem.exec (PySem.Stmt.For _ _ _ _ _) _) _ _ _)); (fail_if_success (with_reducible show wpAny _ _ (PySem.pyIter _) _ _ _)); (fail_if_success (with_reducible show Kept _)); (fail_if_success (with_reducible show InvEndN _ _ _ _ _ _ _)); (first | (k_unfold; (try dsimp only)) | (k_end; wrow_close) | (with_reducible ((with_reducible show wpAny _ _ (subscriptTail _ _ (Value.ref _) (Value.int _ _)) _ _ _); refine r_item' ‹News _ _ _ _› (by ((repeat (first | assumption | exact List.Mem.head _ | apply List.mem_cons_of_mem | apply List.mem_append_left)))) rfl (by assumption) (by omega) ?_ (by with_unfolding_all rfl); (try dsimp only))) | walk1 | ((with_reducible show wpAny _ _ (subscriptTail _ _ (Value.ref _) (Value.int _ _)) _ _ _); refine r_item' ‹News _ _ _ _› (by ((repeat (first | assumption | exact List.Mem.head _ | apply List.mem_cons_of_mem | apply List.mem_append_left)))) rfl (by assumption) (by omega) ?_ (by with_unfolding_all rfl); (try dsimp only)) | (dsimp only; walk1) | (leave1; walk_say "STEP leave1"; try dsimp only))))
  rename Fr _ _ _ _ => F5
  rename News _ _ _ _ => N5
  refine forRangeC (n := 5) rfl F5 N5 (by assumption) (small01 (by omega)) (size01 _) (LJ L L1 D1 T1 D ws oT o' ns sa tz) ⟨[], 0, 0, 0, rfl, rfl, fun k b h => by simp at h, trivial, rfl, rfl, rfl, rfl, rfl⟩ ?turn ?done (by intro _ _; rfl)
  case done =>
    clear F5 N5
    intro m₁ nx h₂ tk₂ hJ F2 N2
    dsimp only
    (repeat' ((fail_if_success (with_reducible show wpAny _ _ (PySem.exec (PySem.Stmt.While _ _ _ _) _) _ _ _)); (fail_if_success (with_reducible show wpAny _ _ (PySem.exec (PySem.Stmt.For _ _ _ _ _) _) _ _ _)); (fail_if_success (with_reducible show wpAny _ _ (PySem.pyIter _) _ _ _)); (fail_if_success (with_reducible show Kept _)); (fail_if_success (with_reducible show InvEndN _ _ _ _ _ _ _)); (first | (k_unfold; (try dsimp only)) | (k_end; wrow_close) | (with_reducible ((with_reducible show wpAny _ _ (subscriptTail _ _ (Value.ref _) (Value.int _ _)) _ _ _); refine r_item' ‹News _ _ _ _› (by ((repeat (first | assumption | exact List.Mem.head _ | apply List.mem_cons_of_mem | apply List.mem_append_left)))) rfl (by assumption) (by omega) ?_ (by with_unfolding_all rfl); (try dsimp only))) | walk1 | ((with_reducible show wpAny _ _ (subscriptTail _ _ (Value.ref _) (Value.int _ _)) _ _ _); refine r_item' ‹News _ _ _ _› (by ((repeat (first | assumption | exact List.Mem.head _ | apply List.mem_cons_of_mem | apply List.mem_append_left)))) rfl (by assumption) (by omega) ?_ (by with_unfolding_all rfl); (try dsimp only)) | (dsimp only; walk1) | (leave1; walk_say "STEP leave1"; try dsimp only))))
    (try dsimp only)
    exact wpC_of_any (hQ _ (LSt.intro F2 N2 hJ))
  case turn =>
    clear F5 N5 hQ
    intro it i m₁ nx h₂ tk₂ o hni hi hJ hne F2 N2
    refine hideG ?_
    intro Cg hCg
    obtain ⟨bl, cl, cd', ct, rfl, hbl, hgood, hinc, e1, e2, e3, e4, e5⟩ := hJ
    refine hCg ?_
    clear hCg Cg
    rw [mJ_of e1 e2 e3 e4 e5] at F2
    unfold mJ at F2
    obtain ⟨d, hdd⟩ : ∃ d, (num5 ns)[i]? = some d := ⟨_, List.getElem?_eq_getElem (by rw [num5_len]; exact hi)⟩
    obtain ⟨td, hwd⟩ := IntsAre.get ‹IntsAre ws (num5 ns)› i d hdd
    (try dsimp only)
    (repeat' ((fail_if_success (with_reducible show wpAny _ _ (PySem.exec (PySem.Stmt.While _ _ _ _) _) _ _ _)); (fail_if_success (with_reducible show wpAny _ _ (PySem.exec (PySem.Stmt.For _ _ _ _ _) _) _ _ _)); (fail_if_success (with_reducible show wpAny _ _ (PySem.pyIter _) _ _ _)); (fail_if_success (with_reducible show Kept _)); (fail_if_success (with_reducible show InvEndN _ _ _ _ _ _ _)); (first | (k_unfold; (try dsimp only)) | (k_end; wrow_close) | (with_reducible ((with_reducible show wpAny _ _ (subscriptTail _ _ (Value.ref _) (Value.int _ _)) _ _ _); refine r_item' ‹News _ _ _ _› (by ((repeat (first | assumption | exact List.Mem.head _ | apply List.mem_cons_of_mem | apply List.mem_append_left)))) rfl (by assumption) (by omega) ?_ (by with_unfolding_all rfl); (try dsimp only))) | walk1 | ((with_reducible show wpAny _ _ (subscriptTail _ _ (Value.ref _) (Value.int _ _)) _ _ _); refine r_item' ‹News _ _ _ _› (by ((repeat (first | assumption | exact List.Mem.head _ | apply List.mem_cons_of_mem | apply List.mem_append_left)))) rfl (by assumption) (by omega) ?_ (by with_unfolding_all rfl); (try dsimp only)) | (dsimp only; walk1) | (leave1; walk_say "STEP leave1"; try dsimp only))))
    (try dsimp only)
    rename Fr _ _ _ _ => F2
    rename News _ _ _ _ => N2
    have edd : (num5 ns).getD i 0 = d := by rw [List.getD_eq_getElem?_getD, hdd]; rfl
    refine seqCA (fun s' => ∃ (h : Heap) (tk : Nat) (p : Addr) (t : Tok) (vs : List Value) (c : Nat) (u : Str → Option Value), s' = ⟨h, gs, dr, tk, os0⟩ ∧ ItsAre vs (relParts d) ∧ (∀ q ∈ (it, o) :: (L1, W.listOf (bl.map fun b => Value.ref b.P).toArray cl) :: (D1, W.listOf (bl.map fun b => Value.ref b.D).toArray cd') :: (T1, W.listOf (bl.map fun b => Value.ref b.T).toArray ct) :: (D, W.listOf ws.toArray 0) :: (L + 1 + 1, oT) :: (L + 1, o') :: blkObjs 0 bl, q.1 < p) ∧
      Fr h₀ L h (mK sa T1 D1 L1 ns.length tz (ofL (relText d).cps.toList) t p i tk₂ u) ∧ News h₀ L h ((p, W.listOf vs.toArray c) :: (it, o) :: (L1, W.listOf (bl.map fun b => Value.ref b.P).toArray cl) :: (D1, W.listOf (bl.map fun b => Value.ref b.D).toArray cd') :: (T1, W.listOf (bl.map fun b => Value.ref b.T).toArray ct) :: (D, W.listOf ws.toArray 0) :: (L + 1 + 1, oT) :: (L + 1, o') :: blkObjs 0 bl)) ?_ ?_
    · (repeat' ((fail_if_success (with_reducible show wpAny _ _ (PySem.exec (PySem.Stmt.While _ _ _ _) _) _ _ _)); (fail_if_success (with_reducible show wpAny _ _ (PySem.exec (PySem.Stmt.For _ _ _ _ _) _) _ _ _)); (fail_if_success (with_reducible show wpAny _ _ (PySem.pyIter _) _ _ _)); (fail_if_success (with_reducible show Kept _)); (fail_if_success (with_reducible show InvEndN _ _ _ _ _ _ _)); (first | (k_unfold; (try dsimp only)) | (k_end; wrow_close) | (with_reducible ((with_reducible show wpAny _ _ (subscriptTail _ _ (Value.ref _) (Value.int _ _)) _ _ _); refine r_item' ‹News _ _ _ _› (by ((repeat (first | assumption | exact List.Mem.head _ | apply List.mem_cons_of_mem | apply List.mem_append_left)))) rfl (by assumption) (by omega) ?_ (by with_unfolding_all rfl); (try dsimp only))) | walk1 | ((with_reducible show wpAny _ _ (subscriptTail _ _ (Value.ref _) (Value.int _ _)) _ _ _); refine r_item' ‹News _ _ _ _› (by ((repeat (first | assumption | exact List.Mem.head _ | apply List.mem_cons_of_mem | apply List.mem_append_left)))) rfl (by assumption) (by omega) ?_ (by with_unfolding_all rfl); (try dsimp only)) | (dsimp only; walk1) | (leave1; walk_say "STEP leave1"; try dsimp only))))
      rename Fr _ _ _ _ => fF
      rename News _ _ _ _ => nN
      rw [show (num5 ns).getD ((i : Int)).toNat 0 = d from edd]
      refine useL (c_rel _ _ _) rfl fF (by assumption) nN (by assumption) (by decide) (by decide) ?_
      intro _ _ _ _ fF2 nN2 hRg
      refine hideG ?_
      intro Cg hCg
      obtain ⟨_, p, _, vs, c, hE1, hE2, hItsR, hFresh, hPA⟩ := hRg
      refine hCg ?_
      clear hCg Cg
      subst hE1
      subst hE2
      simp only [List.cons_append, List.nil_append] at nN2
      rw [ofL_of (relText d)] at nN2
      (repeat' ((fail_if_success (with_reducible show wpAny _ _ (PySem.exec (PySem.Stmt.While _ _ _ _) _) _ _ _)); (fail_if_success (with_reducible show wpAny _ _ (PySem.exec (PySem.Stmt.For _ _ _ _ _) _) _ _ _)); (fail_if_success (with_reducible show wpAny _ _ (PySem.pyIter _) _ _ _)); (fail_if_success (with_reducible show Kept _)); (fail_if_success (with_reducible show InvEndN _ _ _ _ _ _ _)); (first | (k_unfold; (try dsimp only)) | (k_end; wrow_close) | (with_reducible ((with_reducible show wpAny _ _ (subscriptTail _ _ (Value.ref _) (Value.int _ _)) _ _ _); refine r_item' ‹News _ _ _ _› (by ((repeat (first | assumption | exact List.Mem.head _ | apply List.mem_cons_of_mem | apply List.mem_append_left)))) rfl (by assumption) (by omega) ?_ (by with_unfolding_all rfl); (try dsimp only))) | walk1 | ((with_reducible show wpAny _ _ (subscriptTail _ _ (Value.ref _) (Value.int _ _)) _ _ _); refine r_item' ‹News _ _ _ _› (by ((repeat (first | assumption | exact List.Mem.head _ | apply List.mem_cons_of_mem | apply List.mem_append_left)))) rfl (by assumption) (by omega) ?_ (by with_unfolding_all rfl); (try dsimp only)) | (dsimp only; walk1) | (leave1; walk_say "STEP leave1"; try dsimp only))))
      rename Fr _ _ _ _ => F9
      rename News _ _ _ _ => N9
      exact Kept.of ⟨trivial, _, _, p, _, vs, c, _, rfl, hItsR, hFresh, fr_mK F9 rfl rfl rfl rfl rfl rfl rfl rfl, fun q hq => N9 q (.tail _ hq)⟩
    intro s' hRg
    refine hideG ?_
    intro Cg hCg
    obtain ⟨h3, tk3, p, tx, pv, cp, u, rfl, hItsR, hFresh, F3, N3⟩ := hRg
    refine hCg ?_
    clear hCg Cg
    clear F2 N2
    unfold mK at F3
    refine wpC_execs_cons ?_
    refine wpC_Expr ?_ (by rfl) (by rfl)
    refine wpC_Call_append rfl rfl rfl rfl ?_
    (((fail_if_success (with_reducible show wpAny _ _ (PySem.exec (PySem.Stmt.While _ _ _ _) _) _ _ _)); (fail_if_success (with_reducible show wpAny _ _ (PySem.exec (PySem.Stmt.For _ _ _ _ _) _) _ _ _)); (fail_if_success (with_reducible show wpAny _ _ (PySem.pyIter _) _ _ _)); (fail_if_success (with_reducible show Kept _)); (fail_if_success (with_reducible show InvEndN _ _ _ _ _ _ _)); (first | (k_unfold; (try dsimp only)) | (k_end; wrow_close) | (with_reducible ((with_reducible show wpAny _ _ (subscriptTail _ _ (Value.ref _) (Value.int _ _)) _ _ _); refine r_item' ‹News _ _ _ _› (by ((repeat (first | assumption | exact List.Mem.head _ | apply List.mem_cons_of_mem | apply List.mem_append_left)))) rfl (by assumption) (by omega) ?_ (by with_unfolding_all rfl); (try dsimp only))) | walk1 | ((with_reducible show wpAny _ _ (subscriptTail _ _ (Value.ref _) (Value.int _ _)) _ _ _); refine r_item' ‹News _ _ _ _› (by ((repeat (first | assumption | exact List.Mem.head _ | apply List.mem_cons_of_mem | apply List.mem_append_left)))) rfl (by assumption) (by omega) ?_ (by with_unfolding_all rfl); (try dsimp only)) | (dsimp only; walk1) | (leave1; walk_say "STEP leave1"; try dsimp only))))
    have nT := (N3 (T1, W.listOf (bl.map fun b => Value.ref b.T).toArray ct) (by ((repeat (first | assumption | exact List.Mem.head _ | apply List.mem_cons_of_mem | apply List.mem_append_left))))).1
    refine ⟨T1, _, rfl, ⟨_, _, nT, rfl, rfl, rfl⟩, ?_⟩
    refine wpC_List ?_
    refine wpC_spliced_cons ?_
    refine wpC_Call_Name1 ?_ (by rfl)
    (((fail_if_success (with_reducible show wpAny _ _ (PySem.exec (PySem.Stmt.While _ _ _ _) _) _ _ _)); (fail_if_success (with_reducible show wpAny _ _ (PySem.exec (PySem.Stmt.For _ _ _ _ _) _) _ _ _)); (fail_if_success (with_reducible show wpAny _ _ (PySem.pyIter _) _ _ _)); (fail_if_success (with_reducible show Kept _)); (fail_if_success (with_reducible show InvEndN _ _ _ _ _ _ _)); (first | (k_unfold; (try dsimp only)) | (k_end; wrow_close) | (with_reducible ((with_reducible show wpAny _ _ (subscriptTail _ _ (Value.ref _) (Value.int _ _)) _ _ _); refine r_item' ‹News _ _ _ _› (by ((repeat (first | assumption | exact List.Mem.head _ | apply List.mem_cons_of_mem | apply List.mem_append_left)))) rfl (by assumption) (by omega) ?_ (by with_unfolding_all rfl); (try dsimp only))) | walk1 | ((with_reducible show wpAny _ _ (subscriptTail _ _ (Value.ref _) (Value.int _ _)) _ _ _); refine r_item' ‹News _ _ _ _› (by ((repeat (first | assumption | exact List.Mem.head _ | apply List.mem_cons_of_mem | apply List.mem_append_left)))) rfl (by assumption) (by omega) ?_ (by with_unfolding_all rfl); (try dsimp only)) | (dsimp only; walk1) | (leave1; walk_say "STEP leave1"; try dsimp only))))
    have X3 := X.keeps F3.keep
    obtain ⟨o58, fd58, q58, z58⟩ : ∃ ob fd, (hd.heap_1 w.params).lookup 58 = some ob ∧ ob.data = .func fd := ⟨_, _, by k_is, rfl⟩
    refine wpC_callWith_function (o := o58) (fd := fd58) ?_
    refine Calls.evalArgs_plain (Calls.spliced_cons ?_)
    (((fail_if_success (with_reducible show wpAny _ _ (PySem.exec (PySem.Stmt.While _ _ _ _) _) _ _ _)); (fail_if_success (with_reducible show wpAny _ _ (PySem.exec (PySem.Stmt.For _ _ _ _ _) _) _ _ _)); (fail_if_success (with_reducible show wpAny _ _ (PySem.pyIter _) _ _ _)); (fail_if_success (with_reducible show Kept _)); (fail_if_success (with_reducible show InvEndN _ _ _ _ _ _ _)); (first | (k_unfold; (try dsimp only)) | (k_end; wrow_close) | (with_reducible ((with_reducible show wpAny _ _ (subscriptTail _ _ (Value.ref _) (Value.int _ _)) _ _ _); refine r_item' ‹News _ _ _ _› (by ((repeat (first | assumption | exact List.Mem.head _ | apply List.mem_cons_of_mem | apply List.mem_append_left)))) rfl (by assumption) (by omega) ?_ (by with_unfolding_all rfl); (try dsimp only))) | walk1 | ((with_reducible show wpAny _ _ (subscriptTail _ _ (Value.ref _) (Value.int _ _)) _ _ _); refine r_item' ‹News _ _ _ _› (by ((repeat (first | assumption | exact List.Mem.head _ | apply List.mem_cons_of_mem | apply List.mem_append_left)))) rfl (by assumption) (by omega) ?_ (by with_unfolding_all rfl); (try dsimp only)) | (dsimp only; walk1) | (leave1; walk_say "STEP leave1"; try dsimp only))))
    refine Calls.spliced_nil ?_
    refine ⟨⟨X3 _ _ q58, z58⟩, ?_⟩
    obtain ⟨r1, r2⟩ := relText_short d
    refine useLT (c_cmp (relText d).cps.toList tx (by omega) r2 _) rfl F3 (by assumption) N3 (by assumption) (by decide) (by decide) ?_
    intro _ _ h4 tk4 F4 N4 hRg
    refine hideG ?_
    intro Cg hCg
    obtain ⟨R, rv, cr, rfl, rfl, hItsV, hFrR⟩ := hRg
    refine hCg ?_
    clear hCg Cg
    simp only [List.cons_append, List.nil_append] at N4
    rw [rel_law] at hItsV
    clear F3 N3 X3 nT
    (repeat' ((fail_if_success (with_reducible show wpAny _ _ (call (Value.builtin "list.append") _) _ _ _)); (fail_if_success (with_reducible show wpAny _ _ (PySem.exec (PySem.Stmt.For _ _ _ _ _) _) _ _ _)); (fail_if_success (with_reducible show Kept _)); (first | (k_unfold; (try dsimp only)) | (k_end; wrow_close) | (with_reducible ((with_reducible show wpAny _ _ (subscriptTail _ _ (Value.ref _) (Value.int _ _)) _ _ _); refine r_item' ‹News _ _ _ _› (by ((repeat (first | assumption | exact List.Mem.head _ | apply List.mem_cons_of_mem | apply List.mem_append_left)))) rfl (by assumption) (by omega) ?_ (by with_unfolding_all rfl); (try dsimp only))) | walk1 | ((with_reducible show wpAny _ _ (subscriptTail _ _ (Value.ref _) (Value.int _ _)) _ _ _); refine r_item' ‹News _ _ _ _› (by ((repeat (first | assumption | exact List.Mem.head _ | apply List.mem_cons_of_mem | apply List.mem_append_left)))) rfl (by assumption) (by omega) ?_ (by with_unfolding_all rfl); (try dsimp only)) | (dsimp only; walk1) | (leave1; walk_say "STEP leave1"; try dsimp only))))
    rename Fr _ _ _ _ => F5
    rename News _ _ _ _ => N5
    rename_i TT _ lTT
    have hB : ∀ q ∈ blkObjs 0 bl, @LT.lt Nat _ L1 q.1 := hinc.above
    have hp1 : ∀ q ∈ blkObjs 0 bl, @LT.lt Nat _ q.1 p := fun q hq => hFresh q (.tail _ (.tail _ (.tail _ (.tail _ (.tail _ (.tail _ (.tail _ hq)))))))
    have i1 : @LT.lt Nat _ L1 it := hni _ (.head _)
    have i2 : @LT.lt Nat _ it p := hFresh _ (.head _)
    have i3 : @LT.lt Nat _ p R := hFrR _ (.head _)
    have i4 : @LT.lt Nat _ R TT := lTT.1
    have j1 : @LT.lt Nat _ D T1 := lT
    have j2 : @LT.lt Nat _ T1 D1 := lDT
    have j3 : @LT.lt Nat _ D1 L1 := lL
    have j4 : @LT.lt Nat _ (L + 1 + 1) D := lD
    have hTT : ∀ q ∈ (D, W.listOf ws.toArray 0) :: (L + 1 + 1, oT) :: (L + 1, o') :: blkObjs 0 bl, q.1 ≠ T1 := List.forall_mem_cons.mpr ⟨Nat.ne_of_lt j1, List.forall_mem_cons.mpr ⟨Nat.ne_of_lt (by omega), List.forall_mem_cons.mpr ⟨Nat.ne_of_lt (by omega), fun q hq => Nat.ne_of_gt (Nat.lt_trans (by omega) (hB q hq))⟩⟩⟩
    refine r_append F5 N5 (UpdF.tail (Nat.ne_of_gt (by omega)) (UpdF.tail (Nat.ne_of_gt (by omega)) (UpdF.tail (Nat.ne_of_gt (by omega)) (UpdF.tail (Nat.ne_of_gt (by omega)) (UpdF.tail (Nat.ne_of_gt (by omega)) (UpdF.tail (Nat.ne_of_gt (by omega)) (UpdF.head hTT))))))) (by simp; omega) ?_
    intro h6 F6 N6
    (try dsimp only at N6)
    clear F5 N5
    (try dsimp only)
    refine wpC_of_any ?_
    (repeat' ((fail_if_success (with_reducible show wpAny _ _ (call (Value.builtin "list.append") _) _ _ _)); (fail_if_success (with_reducible show wpAny _ _ (PySem.exec (PySem.Stmt.For _ _ _ _ _) _) _ _ _)); (fail_if_success (with_reducible show Kept _)); (first | (k_unfold; (try dsimp only)) | (k_end; wrow_close) | (with_reducible ((with_reducible show wpAny _ _ (subscriptTail _ _ (Value.ref _) (Value.int _ _)) _ _ _); refine r_item' ‹News _ _ _ _› (by ((repeat (first | assumption | exact List.Mem.head _ | apply List.mem_cons_of_mem | apply List.mem_append_left)))) rfl (by assumption) (by omega) ?_ (by with_unfolding_all rfl); (try dsimp only))) | walk1 | ((with_reducible show wpAny _ _ (subscriptTail _ _ (Value.ref _) (Value.int _ _)) _ _ _); refine r_item' ‹News _ _ _ _› (by ((repeat (first | assumption | exact List.Mem.head _ | apply List.mem_cons_of_mem | apply List.mem_append_left)))) rfl (by assumption) (by omega) ?_ (by with_unfolding_all rfl); (try dsimp only)) | (dsimp only; walk1) | (leave1; walk_say "STEP leave1"; try dsimp only))))
    rename Fr _ _ _ _ => F7
    rename News _ _ _ _ => N7
    rename_i DD _ lDD
    have i5 : @LT.lt Nat _ TT DD := lDD.1
    have hDD : ∀ q ∈ (T1, W.listOf (bl.map (fun b => Value.ref b.T) ++ [Value.ref TT]).toArray (ct + 1)) :: (D, W.listOf ws.toArray 0) :: (L + 1 + 1, oT) :: (L + 1, o') :: blkObjs 0 bl, q.1 ≠ D1 := List.forall_mem_cons.mpr ⟨Nat.ne_of_lt j2, List.forall_mem_cons.mpr ⟨Nat.ne_of_lt (by omega), List.forall_mem_cons.mpr ⟨Nat.ne_of_lt (by omega), List.forall_mem_cons.mpr ⟨Nat.ne_of_lt (by omega), fun q hq => Nat.ne_of_gt (Nat.lt_trans (by omega) (hB q hq))⟩⟩⟩⟩
    refine r_append F7 N7 (UpdF.tail (Nat.ne_of_gt (by omega)) (UpdF.tail (Nat.ne_of_gt (by omega)) (UpdF.tail (Nat.ne_of_gt (by omega)) (UpdF.tail (Nat.ne_of_gt (by omega)) (UpdF.tail (Nat.ne_of_gt (by omega)) (UpdF.tail (Nat.ne_of_gt (by omega)) (UpdF.head hDD))))))) (by simp; omega) ?_
    intro h8 F8 N8
    clear F7 N7
    (try dsimp only at N8)
    (repeat' ((fail_if_success (with_reducible show wpAny _ _ (call (Value.builtin "list.append") _) _ _ _)); (fail_if_success (with_reducible show wpAny _ _ (PySem.exec (PySem.Stmt.For _ _ _ _ _) _) _ _ _)); (fail_if_success (with_reducible show Kept _)); (first | (k_unfold; (try dsimp only)) | (k_end; wrow_close) | (with_reducible ((with_reducible show wpAny _ _ (subscriptTail _ _ (Value.ref _) (Value.int _ _)) _ _ _); refine r_item' ‹News _ _ _ _› (by ((repeat (first | assumption | exact List.Mem.head _ | apply List.mem_cons_of_mem | apply List.mem_append_left)))) rfl (by assumption) (by omega) ?_ (by with_unfolding_all rfl); (try dsimp only))) | walk1 | ((with_reducible show wpAny _ _ (subscriptTail _ _ (Value.ref _) (Value.int _ _)) _ _ _); refine r_item' ‹News _ _ _ _› (by ((repeat (first | assumption | exact List.Mem.head _ | apply List.mem_cons_of_mem | apply List.mem_append_left)))) rfl (by assumption) (by omega) ?_ (by with_unfolding_all rfl); (try dsimp only)) | (dsimp only; walk1) | (leave1; walk_say "STEP leave1"; try dsimp only))))
    rename Fr _ _ _ _ => F9
    rename News _ _ _ _ => N9
    have hLL : ∀ q ∈ (D1, W.listOf (bl.map (fun b => Value.ref b.D) ++ [Value.ref DD]).toArray (cd' + 1)) :: (T1, W.listOf (bl.map (fun b => Value.ref b.T) ++ [Value.ref TT]).toArray (ct + 1)) :: (D, W.listOf ws.toArray 0) :: (L + 1 + 1, oT) :: (L + 1, o') :: blkObjs 0 bl, q.1 ≠ L1 := List.forall_mem_cons.mpr ⟨Nat.ne_of_lt j3, List.forall_mem_cons.mpr ⟨Nat.ne_of_lt (by omega), List.forall_mem_cons.mpr ⟨Nat.ne_of_lt (by omega), List.forall_mem_cons.mpr ⟨Nat.ne_of_lt (by omega), List.forall_mem_cons.mpr ⟨Nat.ne_of_lt (by omega), fun q hq => Nat.ne_of_gt (hB q hq)⟩⟩⟩⟩⟩
    refine r_append F9 N9 (UpdF.tail (Nat.ne_of_gt (by omega)) (UpdF.tail (Nat.ne_of_gt (by omega)) (UpdF.tail (Nat.ne_of_gt (by omega)) (UpdF.tail (Nat.ne_of_gt (by omega)) (UpdF.tail (Nat.ne_of_gt (by omega)) (UpdF.head hLL)))))) (by simp; omega) ?_
    intro h10 F10 N10
    clear F9 N9
    (try dsimp only at N10)
    (repeat' ((fail_if_success (with_reducible show wpAny _ _ (call (Value.builtin "list.append") _) _ _ _)); (fail_if_success (with_reducible show wpAny _ _ (PySem.exec (PySem.Stmt.For _ _ _ _ _) _) _ _ _)); (fail_if_success (with_reducible show Kept _)); (first | (k_unfold; (try dsimp only)) | (k_end; wrow_close) | (with_reducible ((with_reducible show wpAny _ _ (subscriptTail _ _ (Value.ref _) (Value.int _ _)) _ _ _); refine r_item' ‹News _ _ _ _› (by ((repeat (first | assumption | exact List.Mem.head _ | apply List.mem_cons_of_mem | apply List.mem_append_left)))) rfl (by assumption) (by omega) ?_ (by with_unfolding_all rfl); (try dsimp only))) | walk1 | ((with_reducible show wpAny _ _ (subscriptTail _ _ (Value.ref _) (Value.int _ _)) _ _ _); refine r_item' ‹News _ _ _ _› (by ((repeat (first | assumption | exact List.Mem.head _ | apply List.mem_cons_of_mem | apply List.mem_append_left)))) rfl (by assumption) (by omega) ?_ (by with_unfolding_all rfl); (try dsimp only)) | (dsimp only; walk1) | (leave1; walk_say "STEP leave1"; try dsimp only))))
    have e : blkObjs 0 (bl ++ [⟨p, R, TT, DD, pv, rv, cp, cr, 0, 0, tk₂, tk₂⟩]) = blkObjs 0 bl ++ Blk.objs i ⟨p, R, TT, DD, pv, rv, cp, cr, 0, 0, tk₂, tk₂⟩ := by rw [blkObjs_snoc, hbl, Nat.zero_add]
    refine TurnedR.intro _ F10 N10 (fun q hq => ?_) (fun q hq => ?_) ⟨bl ++ [⟨p, R, TT, DD, pv, rv, cp, cr, 0, 0, tk₂, tk₂⟩], cl + 1, cd' + 1, ct + 1, rfl, by simp [hbl], ?_, hinc.snoc (k := 0) (show @LT.lt Nat _ L1 p by omega) hp1 i3 i4 i5, rfl, rfl, rfl, rfl, rfl⟩
    · revert q
      rw [e]
      simp only [List.map_append, List.map_cons, List.map_nil, Blk.objs]
      repeat (refine List.forall_mem_cons.mpr ⟨(by repeat (first | exact List.Mem.head _ | apply List.Mem.tail)), ?_⟩)
      refine List.forall_mem_append.mpr ⟨fun q h => (by repeat (first | exact h | apply List.Mem.tail)), ?_⟩
      repeat (refine List.forall_mem_cons.mpr ⟨(by repeat (first | exact List.Mem.head _ | apply List.Mem.tail)), ?_⟩)
      exact List.forall_mem_nil _
    · left
      revert q
      rw [e]
      simp only [List.map_append, List.map_cons, List.map_nil, Blk.objs]
      exact List.forall_mem_cons.mpr ⟨Nat.ne_of_lt i1, List.forall_mem_cons.mpr ⟨Nat.ne_of_lt (Nat.lt_trans j3 i1), List.forall_mem_cons.mpr ⟨Nat.ne_of_lt (Nat.lt_trans j2 (Nat.lt_trans j3 i1)), List.forall_mem_cons.mpr ⟨Nat.ne_of_lt (Nat.lt_trans j1 (Nat.lt_trans j2 (Nat.lt_trans j3 i1))), List.forall_mem_cons.mpr ⟨Nat.ne_of_lt (Nat.lt_trans j4 (Nat.lt_trans j1 (Nat.lt_trans j2 (Nat.lt_trans j3 i1)))), List.forall_mem_cons.mpr ⟨Nat.ne_of_lt (Nat.lt_trans (Nat.lt_succ_self _) (Nat.lt_trans j4 (Nat.lt_trans j1 (Nat.lt_trans j2 (Nat.lt_trans j3 i1))))),
        List.forall_mem_append.mpr ⟨fun q h => hne q (.tail _ (.tail _ (.tail _ (.tail _ (.tail _ (.tail _ h)))))), List.forall_mem_cons.mpr ⟨Nat.ne_of_gt i2, List.forall_mem_cons.mpr ⟨Nat.ne_of_gt (Nat.lt_trans i2 i3), List.forall_mem_cons.mpr ⟨Nat.ne_of_gt (Nat.lt_trans i2 (Nat.lt_trans i3 i4)), List.forall_mem_cons.mpr ⟨Nat.ne_of_gt (Nat.lt_trans i2 (Nat.lt_trans i3 (Nat.lt_trans i4 i5))), List.forall_mem_nil _⟩⟩⟩⟩⟩⟩⟩⟩⟩⟩⟩
    · intro k b hb
      by_cases hk : k < bl.length
      · rw [List.getElem?_append_left hk] at hb
        exact hgood k b hb
      · have hk' : k = i := by
          have := (List.getElem?_eq_some_iff.mp hb).1
          simp at this
          omega
        subst hk'
        rw [List.getElem?_append_right (by omega), hbl, Nat.sub_self] at hb
        cases hb
        rw [edd]
        exact ⟨hItsR, hItsV⟩
end Mine
end
section
open PySem PySem.W PyProof.Rows PySem.Spec PySem.Calls
set_option maxRecDepth 100000
set_option maxHeartbeats 0
set_option pp.maxSteps 4000
namespace Mine
theorem off1_mem {D : Addr} : ∀ {l : List (Addr × Obj)}, PyProof.Rows.LCg.Off1 D l → ∀ p ∈ l, p.1 ≠ D
  | [], _, _, h => nomatch h
  | _ :: _, h, p, hp => by
    rcases List.mem_cons.mp hp with rfl | hp
    · exact h.1
    · exact off1_mem h.2 p hp
theorem newsNe {news : List (Addr × Obj)} {L' c : Nat} (h : ∀ p ∈ news, p.1 < L') (hc : L' ≤ c) : ∀ p ∈ news, p.1 ≠ c := fun p hp => Nat.ne_of_lt (Nat.lt_of_lt_of_le (h p hp) hc)
noncomputable def hvSums (P5 : List (List It)) (W5 : List Int) (back : Int) : Nat → List Int
  | 0 => []
  | i + 1 => hvSums P5 W5 back i ++ [W5.getD i 0 + ((List.range i).filterMap fun k => if (ltI (P5.getD i []) (P5.getD k []) == (back == 1)) = true then some ((hvSums P5 W5 back i).getD k 0) else none).foldl max 0]
noncomputable def heavy (P5 : List (List It)) (W5 : List Int) (back : Int) : Int := (hvSums P5 W5 back 5).tail.foldl max ((hvSums P5 W5 back 5).headD 0)
noncomputable def mW (wa : Addr) (u : Str → Option Value) : Str → Option Value := fun y => if y = Str.ofString "weights" then some (.ref wa) else u y
theorem mW_of {wa : Addr} {m : Str → Option Value} (h : m (Str.ofString "weights") = some (.ref wa)) : m = mW wa m := by
  funext y
  unfold mW
  by_cases e : y = Str.ofString "weights"
  · rw [if_pos e, e, h]
  · rw [if_neg e]
noncomputable def HVJ (news : List (Addr × Obj)) (L' wa : Addr) (oB oC : Obj) (P5 : List (List It)) (W5 : List Int) (back : Int) (i : Nat) (m₁ : Str → Option Value) (nx : List (Addr × Obj)) : Prop :=
  ∃ (S : Addr) (svs : List Value) (sc : Nat) (oat osm : Obj) (va : Option Value), nx = (S, W.listOf svs.toArray sc) :: (L' + 1 + 1 + 1 + 1, oat) :: (L' + 1 + 1 + 1, osm) :: (L' + 1 + 1, oB) :: (L' + 1, oC) :: news ∧ osm.data = .cell (some (.ref S)) ∧ oat.data = .cell va ∧
    IntsAre svs (hvSums P5 W5 back i) ∧ svs.length = i ∧ L' + 1 + 1 + 1 + 1 < S ∧ L' + 1 + 1 + 1 < S ∧ m₁ (Str.ofString "weights") = some (.ref wa)
theorem c_heavy {w : World} {mean mg mb} (la wa : Addr) (ls ws : List Value) (cl' cw : Nat) (P5 : List (List It)) (W5 : List Int) (back : Int) (t1 : Tok) (news : List (Addr × Obj))
   (hla : (la, W.listOf ls.toArray cl') ∈ news) (hwa : (wa, W.listOf ws.toArray cw) ∈ news) (hls : ls.length = 5) (hW : IntsAre ws W5) (hl2 : W5.length = 5)
   (hP : ∀ i v, ls[i]? = some v → ∃ a vs c, v = .ref a ∧ (a, W.listOf vs.toArray c) ∈ news ∧ ItsAre vs (P5.getD i [])) (hb : back = 0 ∨ back = 1) (hC : ∀ i j, i < 5 → j < 5 → Comp (P5.getD i []) (P5.getD j []) = true) :
   Ctr w mean mg mb 77 2 20 news [.ref la, .ref wa, .int back t1] (fun r tl => tl = [] ∧ ∃ t, r = .int (heavy P5 W5 back) t) := by
  refine fillIt ?_
  k_fill
  intro _
  intro dp un gd cn cs a ccd cl outer A₀ base h₀ L m s Q E S hdp hun hret
  refine hideG ?_
  intro Cg hCg
  obtain ⟨B0, F0, X0, N0, T0, hk0⟩ := id S
  refine hCg ?_
  clear hCg Cg
  refine' callCells [(Str.ofString "lists", .ref la), (Str.ofString "weights", .ref wa), (Str.ofString "back", .int back t1)] S ?ho ?hcd ?hr ?hb ?hkd ?hnd ?c2 ?c3 ?c4 hret ?_
  case ho => k_is
  case hcd => k_is
  case hr => omega
  case hb => exact BindsTo.of_eq rfl
  case hkd => exact rfl
  case hnd => decide +kernel
  case c2 => exact rfl
  case c3 => exact rfl
  case c4 => exact rfl
  clear F0 N0 B0 X0 T0 S hret
  intro g L' h₁ tk cells F' N' Y' B' X' T' l1
  refine hideG ?_
  intro Cg hCg
  obtain ⟨oA, oS, oB, oC, hE, dA, dS, dB, dC⟩ := CellsAre.four Y'
  refine hCg ?_
  clear hCg Cg
  subst hE
  have dB : oB.data = .cell (some (.int back t1)) := dB
  have dC : oC.data = .cell (some (.ref la)) := dC
  have dS : oS.data = .cell none := dS
  have dA : oA.data = .cell none := dA
  try simp only [List.cons_append, List.nil_append] at N'
  have hws : ws.length = 5 := by rw [hW.length]; exact hl2
  (repeat' ((fail_if_success (with_reducible show wpAny _ _ (PySem.exec (PySem.Stmt.While _ _ _ _) _) _ _ _)); (fail_if_success (with_reducible show wpAny _ _ (PySem.exec (PySem.Stmt.For _ _ _ _ _) _) _ _ _)); (fail_if_success (with_reducible show wpAny _ _ (PySem.pyIter _) _ _ _)); (fail_if_success (with_reducible show Kept _)); (fail_if_success (with_reducible show InvEndN _ _ _ _ _ _ _)); (first | (k_unfold; (try dsimp only)) | (k_end; wrow_close) | (with_reducible ((with_reducible show wpAny _ _ (call (Value.builtin _) [Value.ref _]) _ _ _); refine r_len (n := 5) ‹News _ _ _ _› (by ((repeat (first | assumption | exact List.Mem.head _ | apply List.mem_cons_of_mem | apply List.mem_append_left)))) (by assumption) (by decide) ?_; (try dsimp only))) | (with_reducible ((with_reducible show wpAny _ _ (PySem.storeName _ _ _) _ _ _); (refine storeX_C ‹Fr _ _ _ _› ‹News _ _ _ _› (by rfl) (by ((first | exact (UpdF.head (by ((repeat (first | exact newsNe (by assumption) (by omega) | exact List.forall_mem_nil _ | refine List.forall_mem_cons.mpr ⟨(by k_ne), ?_⟩))))) | exact (UpdF.tail (by k_ne) (UpdF.head (by ((repeat (first | exact newsNe (by assumption) (by omega) | exact List.forall_mem_nil _ | refine List.forall_mem_cons.mpr ⟨(by k_ne), ?_⟩)))))) | exact (UpdF.tail (by k_ne) (UpdF.tail (by k_ne) (UpdF.head (by ((repeat (first | exact newsNe (by assumption) (by omega) | exact List.forall_mem_nil _ | refine List.forall_mem_cons.mpr ⟨(by k_ne), ?_⟩))))))) | exact (UpdF.tail (by k_ne) (UpdF.tail (by k_ne) (UpdF.tail (by k_ne) (UpdF.head (by ((repeat (first | exact newsNe (by assumption) (by omega) | exact List.forall_mem_nil _ | refine List.forall_mem_cons.mpr ⟨(by k_ne), ?_⟩)))))))) | exact (UpdF.tail (by k_ne) (UpdF.tail (by k_ne) (UpdF.tail (by k_ne) (UpdF.tail (by k_ne) (UpdF.head (by ((repeat (first | exact newsNe (by assumption) (by omega) | exact List.forall_mem_nil _ | refine List.forall_mem_cons.mpr ⟨(by k_ne), ?_⟩)))))))))))) (by assumption) ?_); intro _ _ _ _ _; (try dsimp only))) | (with_reducible ((with_reducible show wpAny _ _ (call (Value.builtin _) [Value.ref _]) _ _ _); refine kso_max ‹Fr _ _ _ _› ‹News _ _ _ _› (isListN ‹News _ _ _ _› (by ((repeat (first | assumption | exact List.Mem.head _ | apply List.mem_cons_of_mem | apply List.mem_append_left))))) (IntsAre.append (IntsAre.cons _ _ IntsAre.nil) (by assumption)) (by simp) rfl ?_; intro _ _ _ _ _ _ _ _; (try dsimp only))) | (with_reducible ((with_reducible show wpAny _ _ (binaryOp _ (Value.ref _) (Value.ref _)) _ _ _); refine r_add (vs := [_]) ‹Fr _ _ _ _› ‹News _ _ _ _› (by ((repeat (first | assumption | exact List.Mem.head _ | apply List.mem_cons_of_mem | apply List.mem_append_left)))) (by ((repeat (first | assumption | exact List.Mem.head _ | apply List.mem_cons_of_mem | apply List.mem_append_left)))) (by simp; omega) ?_; intro _ _ _ _ l1; k_lt l1; (try dsimp only))) | (with_reducible ((with_reducible show wpAny _ _ (compareOp _ (Value.ref _) (Value.ref _)) _ _ _); refine rich_ord true ‹News _ _ _ _› (by ((repeat (first | assumption | exact List.Mem.head _ | apply List.mem_cons_of_mem | apply List.mem_append_left)))) (by ((repeat (first | assumption | exact List.Mem.head _ | apply List.mem_cons_of_mem | apply List.mem_append_left)))) (by assumption) (by assumption) (by assumption) (by units_room) ?_; (try dsimp only))) | (with_reducible ((with_reducible show wpAny _ _ (subscriptTail _ _ (Value.ref _) (Value.int _ _)) _ _ _); refine r_item' ‹News _ _ _ _› (by ((repeat (first | assumption | exact List.Mem.head _ | apply List.mem_cons_of_mem | apply List.mem_append_left)))) rfl (by assumption) (by omega) ?_ (by with_unfolding_all rfl); (try dsimp only))) | ((with_reducible show wpAny _ _ (PySem.storeName _ _ _) _ _ _); (refine storeX_C ‹Fr _ _ _ _› ‹News _ _ _ _› (by rfl) (by ((first | exact (UpdF.head (by ((repeat (first | exact newsNe (by assumption) (by omega) | exact List.forall_mem_nil _ | refine List.forall_mem_cons.mpr ⟨(by k_ne), ?_⟩))))) | exact (UpdF.tail (by k_ne) (UpdF.head (by ((repeat (first | exact newsNe (by assumption) (by omega) | exact List.forall_mem_nil _ | refine List.forall_mem_cons.mpr ⟨(by k_ne), ?_⟩)))))) | exact (UpdF.tail (by k_ne) (UpdF.tail (by k_ne) (UpdF.head (by ((repeat (first | exact newsNe (by assumption) (by omega) | exact List.forall_mem_nil _ | refine List.forall_mem_cons.mpr ⟨(by k_ne), ?_⟩))))))) | exact (UpdF.tail (by k_ne) (UpdF.tail (by k_ne) (UpdF.tail (by k_ne) (UpdF.head (by ((repeat (first | exact newsNe (by assumption) (by omega) | exact List.forall_mem_nil _ | refine List.forall_mem_cons.mpr ⟨(by k_ne), ?_⟩)))))))) | exact (UpdF.tail (by k_ne) (UpdF.tail (by k_ne) (UpdF.tail (by k_ne) (UpdF.tail (by k_ne) (UpdF.head (by ((repeat (first | exact newsNe (by assumption) (by omega) | exact List.forall_mem_nil _ | refine List.forall_mem_cons.mpr ⟨(by k_ne), ?_⟩)))))))))))) (by assumption) ?_); intro _ _ _ _ _; (try dsimp only)) | ((with_reducible show wpAny _ _ (binaryOp _ (Value.ref _) (Value.ref _)) _ _ _); refine r_add (vs := [_]) ‹Fr _ _ _ _› ‹News _ _ _ _› (by ((repeat (first | assumption | exact List.Mem.head _ | apply List.mem_cons_of_mem | apply List.mem_append_left)))) (by ((repeat (first | assumption | exact List.Mem.head _ | apply List.mem_cons_of_mem | apply List.mem_append_left)))) (by simp; omega) ?_; intro _ _ _ _ l1; k_lt l1; (try dsimp only)) | ((with_reducible show wpAny _ _ (compareOp _ (Value.ref _) (Value.ref _)) _ _ _); refine rich_ord true ‹News _ _ _ _› (by ((repeat (first | assumption | exact List.Mem.head _ | apply List.mem_cons_of_mem | apply List.mem_append_left)))) (by ((repeat (first | assumption | exact List.Mem.head _ | apply List.mem_cons_of_mem | apply List.mem_append_left)))) (by assumption) (by assumption) (by assumption) (by units_room) ?_; (try dsimp only)) | walk1 | ((with_reducible show wpAny _ _ (PySem.storeName _ _ _) _ _ _); (refine storeX_C ‹Fr _ _ _ _› ‹News _ _ _ _› (by rfl) (by ((first | exact (UpdF.head (by ((repeat (first | exact newsNe (by assumption) (by omega) | exact List.forall_mem_nil _ | refine List.forall_mem_cons.mpr ⟨(by k_ne), ?_⟩))))) | exact (UpdF.tail (by k_ne) (UpdF.head (by ((repeat (first | exact newsNe (by assumption) (by omega) | exact List.forall_mem_nil _ | refine List.forall_mem_cons.mpr ⟨(by k_ne), ?_⟩)))))) | exact (UpdF.tail (by k_ne) (UpdF.tail (by k_ne) (UpdF.head (by ((repeat (first | exact newsNe (by assumption) (by omega) | exact List.forall_mem_nil _ | refine List.forall_mem_cons.mpr ⟨(by k_ne), ?_⟩))))))) | exact (UpdF.tail (by k_ne) (UpdF.tail (by k_ne) (UpdF.tail (by k_ne) (UpdF.head (by ((repeat (first | exact newsNe (by assumption) (by omega) | exact List.forall_mem_nil _ | refine List.forall_mem_cons.mpr ⟨(by k_ne), ?_⟩)))))))) | exact (UpdF.tail (by k_ne) (UpdF.tail (by k_ne) (UpdF.tail (by k_ne) (UpdF.tail (by k_ne) (UpdF.head (by ((repeat (first | exact newsNe (by assumption) (by omega) | exact List.forall_mem_nil _ | refine List.forall_mem_cons.mpr ⟨(by k_ne), ?_⟩)))))))))))) (by assumption) ?_); intro _ _ _ _ _; (try dsimp only)) | ((with_reducible show wpAny _ _ (subscriptTail _ _ (Value.ref _) (Value.int _ _)) _ _ _); refine r_item' ‹News _ _ _ _› (by ((repeat (first | assumption | exact List.Mem.head _ | apply List.mem_cons_of_mem | apply List.mem_append_left)))) rfl (by assumption) (by omega) ?_ (by with_unfolding_all rfl); (try dsimp only)) | (dsimp only; walk1) | (leave1; walk_say "STEP leave1"; try dsimp only))))
  refine wpAny_For ?_
  (repeat' ((fail_if_success (with_reducible show wpAny _ _ (PySem.exec (PySem.Stmt.While _ _ _ _) _) _ _ _)); (fail_if_success (with_reducible show wpAny _ _ (PySem.exec (PySem.Stmt.For _ _ _ _ _) _) _ _ _)); (fail_if_success (with_reducible show wpAny _ _ (PySem.pyIter _) _ _ _)); (fail_if_success (with_reducible show Kept _)); (fail_if_success (with_reducible show InvEndN _ _ _ _ _ _ _)); (first | (k_unfold; (try dsimp only)) | (k_end; wrow_close) | (with_reducible ((with_reducible show wpAny _ _ (call (Value.builtin _) [Value.ref _]) _ _ _); refine r_len (n := 5) ‹News _ _ _ _› (by ((repeat (first | assumption | exact List.Mem.head _ | apply List.mem_cons_of_mem | apply List.mem_append_left)))) (by assumption) (by decide) ?_; (try dsimp only))) | (with_reducible ((with_reducible show wpAny _ _ (PySem.storeName _ _ _) _ _ _); (refine storeX_C ‹Fr _ _ _ _› ‹News _ _ _ _› (by rfl) (by ((first | exact (UpdF.head (by ((repeat (first | exact newsNe (by assumption) (by omega) | exact List.forall_mem_nil _ | refine List.forall_mem_cons.mpr ⟨(by k_ne), ?_⟩))))) | exact (UpdF.tail (by k_ne) (UpdF.head (by ((repeat (first | exact newsNe (by assumption) (by omega) | exact List.forall_mem_nil _ | refine List.forall_mem_cons.mpr ⟨(by k_ne), ?_⟩)))))) | exact (UpdF.tail (by k_ne) (UpdF.tail (by k_ne) (UpdF.head (by ((repeat (first | exact newsNe (by assumption) (by omega) | exact List.forall_mem_nil _ | refine List.forall_mem_cons.mpr ⟨(by k_ne), ?_⟩))))))) | exact (UpdF.tail (by k_ne) (UpdF.tail (by k_ne) (UpdF.tail (by k_ne) (UpdF.head (by ((repeat (first | exact newsNe (by assumption) (by omega) | exact List.forall_mem_nil _ | refine List.forall_mem_cons.mpr ⟨(by k_ne), ?_⟩)))))))) | exact (UpdF.tail (by k_ne) (UpdF.tail (by k_ne) (UpdF.tail (by k_ne) (UpdF.tail (by k_ne) (UpdF.head (by ((repeat (first | exact newsNe (by assumption) (by omega) | exact List.forall_mem_nil _ | refine List.forall_mem_cons.mpr ⟨(by k_ne), ?_⟩)))))))))))) (by assumption) ?_); intro _ _ _ _ _; (try dsimp only))) | (with_reducible ((with_reducible show wpAny _ _ (call (Value.builtin _) [Value.ref _]) _ _ _); refine kso_max ‹Fr _ _ _ _› ‹News _ _ _ _› (isListN ‹News _ _ _ _› (by ((repeat (first | assumption | exact List.Mem.head _ | apply List.mem_cons_of_mem | apply List.mem_append_left))))) (IntsAre.append (IntsAre.cons _ _ IntsAre.nil) (by assumption)) (by simp) rfl ?_; intro _ _ _ _ _ _ _ _; (try dsimp only))) | (with_reducible ((with_reducible show wpAny _ _ (binaryOp _ (Value.ref _) (Value.ref _)) _ _ _); refine r_add (vs := [_]) ‹Fr _ _ _ _› ‹News _ _ _ _› (by ((repeat (first | assumption | exact List.Mem.head _ | apply List.mem_cons_of_mem | apply List.mem_append_left)))) (by ((repeat (first | assumption | exact List.Mem.head _ | apply List.mem_cons_of_mem | apply List.mem_append_left)))) (by simp; omega) ?_; intro _ _ _ _ l1; k_lt l1; (try dsimp only))) | (with_reducible ((with_reducible show wpAny _ _ (compareOp _ (Value.ref _) (Value.ref _)) _ _ _); refine rich_ord true ‹News _ _ _ _› (by ((repeat (first | assumption | exact List.Mem.head _ | apply List.mem_cons_of_mem | apply List.mem_append_left)))) (by ((repeat (first | assumption | exact List.Mem.head _ | apply List.mem_cons_of_mem | apply List.mem_append_left)))) (by assumption) (by assumption) (by assumption) (by units_room) ?_; (try dsimp only))) | (with_reducible ((with_reducible show wpAny _ _ (subscriptTail _ _ (Value.ref _) (Value.int _ _)) _ _ _); refine r_item' ‹News _ _ _ _› (by ((repeat (first | assumption | exact List.Mem.head _ | apply List.mem_cons_of_mem | apply List.mem_append_left)))) rfl (by assumption) (by omega) ?_ (by with_unfolding_all rfl); (try dsimp only))) | ((with_reducible show wpAny _ _ (PySem.storeName _ _ _) _ _ _); (refine storeX_C ‹Fr _ _ _ _› ‹News _ _ _ _› (by rfl) (by ((first | exact (UpdF.head (by ((repeat (first | exact newsNe (by assumption) (by omega) | exact List.forall_mem_nil _ | refine List.forall_mem_cons.mpr ⟨(by k_ne), ?_⟩))))) | exact (UpdF.tail (by k_ne) (UpdF.head (by ((repeat (first | exact newsNe (by assumption) (by omega) | exact List.forall_mem_nil _ | refine List.forall_mem_cons.mpr ⟨(by k_ne), ?_⟩)))))) | exact (UpdF.tail (by k_ne) (UpdF.tail (by k_ne) (UpdF.head (by ((repeat (first | exact newsNe (by assumption) (by omega) | exact List.forall_mem_nil _ | refine List.forall_mem_cons.mpr ⟨(by k_ne), ?_⟩))))))) | exact (UpdF.tail (by k_ne) (UpdF.tail (by k_ne) (UpdF.tail (by k_ne) (UpdF.head (by ((repeat (first | exact newsNe (by assumption) (by omega) | exact List.forall_mem_nil _ | refine List.forall_mem_cons.mpr ⟨(by k_ne), ?_⟩)))))))) | exact (UpdF.tail (by k_ne) (UpdF.tail (by k_ne) (UpdF.tail (by k_ne) (UpdF.tail (by k_ne) (UpdF.head (by ((repeat (first | exact newsNe (by assumption) (by omega) | exact List.forall_mem_nil _ | refine List.forall_mem_cons.mpr ⟨(by k_ne), ?_⟩)))))))))))) (by assumption) ?_); intro _ _ _ _ _; (try dsimp only)) | ((with_reducible show wpAny _ _ (binaryOp _ (Value.ref _) (Value.ref _)) _ _ _); refine r_add (vs := [_]) ‹Fr _ _ _ _› ‹News _ _ _ _› (by ((repeat (first | assumption | exact List.Mem.head _ | apply List.mem_cons_of_mem | apply List.mem_append_left)))) (by ((repeat (first | assumption | exact List.Mem.head _ | apply List.mem_cons_of_mem | apply List.mem_append_left)))) (by simp; omega) ?_; intro _ _ _ _ l1; k_lt l1; (try dsimp only)) | ((with_reducible show wpAny _ _ (compareOp _ (Value.ref _) (Value.ref _)) _ _ _); refine rich_ord true ‹News _ _ _ _› (by ((repeat (first | assumption | exact List.Mem.head _ | apply List.mem_cons_of_mem | apply List.mem_append_left)))) (by ((repeat (first | assumption | exact List.Mem.head _ | apply List.mem_cons_of_mem | apply List.mem_append_left)))) (by assumption) (by assumption) (by assumption) (by units_room) ?_; (try dsimp only)) | walk1 | ((with_reducible show wpAny _ _ (PySem.storeName _ _ _) _ _ _); (refine storeX_C ‹Fr _ _ _ _› ‹News _ _ _ _› (by rfl) (by ((first | exact (UpdF.head (by ((repeat (first | exact newsNe (by assumption) (by omega) | exact List.forall_mem_nil _ | refine List.forall_mem_cons.mpr ⟨(by k_ne), ?_⟩))))) | exact (UpdF.tail (by k_ne) (UpdF.head (by ((repeat (first | exact newsNe (by assumption) (by omega) | exact List.forall_mem_nil _ | refine List.forall_mem_cons.mpr ⟨(by k_ne), ?_⟩)))))) | exact (UpdF.tail (by k_ne) (UpdF.tail (by k_ne) (UpdF.head (by ((repeat (first | exact newsNe (by assumption) (by omega) | exact List.forall_mem_nil _ | refine List.forall_mem_cons.mpr ⟨(by k_ne), ?_⟩))))))) | exact (UpdF.tail (by k_ne) (UpdF.tail (by k_ne) (UpdF.tail (by k_ne) (UpdF.head (by ((repeat (first | exact newsNe (by assumption) (by omega) | exact List.forall_mem_nil _ | refine List.forall_mem_cons.mpr ⟨(by k_ne), ?_⟩)))))))) | exact (UpdF.tail (by k_ne) (UpdF.tail (by k_ne) (UpdF.tail (by k_ne) (UpdF.tail (by k_ne) (UpdF.head (by ((repeat (first | exact newsNe (by assumption) (by omega) | exact List.forall_mem_nil _ | refine List.forall_mem_cons.mpr ⟨(by k_ne), ?_⟩)))))))))))) (by assumption) ?_); intro _ _ _ _ _; (try dsimp only)) | ((with_reducible show wpAny _ _ (subscriptTail _ _ (Value.ref _) (Value.int _ _)) _ _ _); refine r_item' ‹News _ _ _ _› (by ((repeat (first | assumption | exact List.Mem.head _ | apply List.mem_cons_of_mem | apply List.mem_append_left)))) rfl (by assumption) (by omega) ?_ (by with_unfolding_all rfl); (try dsimp only)) | (dsimp only; walk1) | (leave1; walk_say "STEP leave1"; try dsimp only))))
  rename_i S0 _ _ _ lS _ o5 _ _ d5 _ _ _ _ _ hR F5 N5 _
  refine forRangeA (n := 5) (nx₀ := (S0, W.listOf #[] 0) :: (L' + 1 + 1 + 1 + 1, oA) :: (L' + 1 + 1 + 1, o5) :: (L' + 1 + 1, oB) :: (L' + 1, oC) :: news) rfl F5 N5 hR (small01 (by omega)) (size01 _) (HVJ news L' wa oB oC P5 W5 back) ⟨S0, [], 0, oA, o5, none, rfl, d5, dA, .nil, rfl, lS.1, lS.2.1, rfl⟩ ?turn ?done (by intro _ _; rfl)
  case turn =>
    clear F5 N5 hR
    intro it i m₁ nx h₂ tk₂ o hni hi hJ hne F2 N2
    refine hideG ?_
    intro Cg hCg
    obtain ⟨S, svs, sc, oat, osm, va, rfl, dsm, dat, hsv, hsl, lS1, lS2, hm⟩ := hJ
    refine hCg ?_
    clear hCg Cg
    have q0 : @Ne Nat S it := hne _ (.head _)
    have q1 : @Ne Nat (L' + 1 + 1 + 1 + 1) it := hne _ (.tail _ (.head _))
    have q2 : @Ne Nat (L' + 1 + 1 + 1) it := hne _ (.tail _ (.tail _ (.head _)))
    have q3 : @Ne Nat (L' + 1 + 1) it := hne _ (.tail _ (.tail _ (.tail _ (.head _))))
    have q4 : @Ne Nat (L' + 1) it := hne _ (.tail _ (.tail _ (.tail _ (.tail _ (.head _)))))
    have lS1 : @LT.lt Nat _ (L' + 1 + 1 + 1 + 1) S := lS1
    rw [mW_of hm] at F2
    unfold mW at F2
    dsimp only
    refine wpAny_assign_Name ?_
    ((with_reducible show wpAny _ _ (PySem.storeName _ _ _) _ _ _); (refine storeX_C ‹Fr _ _ _ _› ‹News _ _ _ _› (by rfl) (by ((first | exact (UpdF.head (by ((repeat (first | exact newsNe (by assumption) (by omega) | exact List.forall_mem_nil _ | refine List.forall_mem_cons.mpr ⟨(by k_ne), ?_⟩))))) | exact (UpdF.tail (by k_ne) (UpdF.head (by ((repeat (first | exact newsNe (by assumption) (by omega) | exact List.forall_mem_nil _ | refine List.forall_mem_cons.mpr ⟨(by k_ne), ?_⟩)))))) | exact (UpdF.tail (by k_ne) (UpdF.tail (by k_ne) (UpdF.head (by ((repeat (first | exact newsNe (by assumption) (by omega) | exact List.forall_mem_nil _ | refine List.forall_mem_cons.mpr ⟨(by k_ne), ?_⟩))))))) | exact (UpdF.tail (by k_ne) (UpdF.tail (by k_ne) (UpdF.tail (by k_ne) (UpdF.head (by ((repeat (first | exact newsNe (by assumption) (by omega) | exact List.forall_mem_nil _ | refine List.forall_mem_cons.mpr ⟨(by k_ne), ?_⟩)))))))) | exact (UpdF.tail (by k_ne) (UpdF.tail (by k_ne) (UpdF.tail (by k_ne) (UpdF.tail (by k_ne) (UpdF.head (by ((repeat (first | exact newsNe (by assumption) (by omega) | exact List.forall_mem_nil _ | refine List.forall_mem_cons.mpr ⟨(by k_ne), ?_⟩)))))))))))) (by assumption) ?_); intro _ _ _ _ _; (try dsimp only))
    rename Fr _ _ _ _ => F3
    rename News _ _ _ _ => N3
    rename_i o6 d6
    with_reducible refine seqA (fun s' => ∃ (B : Addr) (bvs : List Value) (bc : Nat) (h : Heap) (tk : Nat), s' = { s with heap := h, toks := tk } ∧ IntsAre bvs ((List.range i).filterMap fun k => if (ltI (P5.getD i []) (P5.getD k []) == (back == 1)) = true then some ((hvSums P5 W5 back i).getD k 0) else none) ∧ bvs.length ≤ i ∧
      Fr g L' h (fun y => if y = Str.ofString "before" then some (.ref B) else if y = Str.ofString "weights" then some (.ref wa) else m₁ y) ∧
      News g L' h ((B, W.listOf bvs.toArray bc) :: (it, o) :: (S, W.listOf svs.toArray sc) :: (L' + 1 + 1 + 1 + 1, o6) :: (L' + 1 + 1 + 1, osm) :: (L' + 1 + 1, oB) :: (L' + 1, oC) :: news) ∧ (∀ p ∈ (it, o) :: (S, W.listOf svs.toArray sc) :: (L' + 1 + 1 + 1 + 1, o6) :: (L' + 1 + 1 + 1, osm) :: (L' + 1 + 1, oB) :: (L' + 1, oC) :: news, p.1 ≠ B)) ?comp ?rest
    case comp =>
      refine PyProof.Rows.LCt.Assign_ListComp_T (F₀ := F3) rfl (by rfl) (by rfl) (by decide) (by rfl) (by decide) (by rfl) (by rfl) (by rfl) ?_
      with_reducible refine wpAny_mono (Q := fun xv s₁ => Kept (∃ (r : Addr) (t u v : Tok) (h : Heap) (tk : Nat), xv = .ref r ∧ s₁ = { s with heap := h, toks := tk } ∧ IsRange h r 0 (i : Int) 1 t u v ∧ Fr g L' h (fun y => if y = Str.ofString "weights" then some (.ref wa) else m₁ y) ∧
        News g L' h ((it, o) :: (S, W.listOf svs.toArray sc) :: (L' + 1 + 1 + 1 + 1, o6) :: (L' + 1 + 1 + 1, osm) :: (L' + 1 + 1, oB) :: (L' + 1, oC) :: news))) (E := fun _ _ => False) ?ev ?src (fun _ _ e => e)
      case ev =>
        (repeat' ((fail_if_success (with_reducible show wpAny _ _ (PySem.exec (PySem.Stmt.While _ _ _ _) _) _ _ _)); (fail_if_success (with_reducible show wpAny _ _ (PySem.exec (PySem.Stmt.For _ _ _ _ _) _) _ _ _)); (fail_if_success (with_reducible show wpAny _ _ (PySem.pyIter _) _ _ _)); (fail_if_success (with_reducible show Kept _)); (fail_if_success (with_reducible show InvEndN _ _ _ _ _ _ _)); (first | (k_unfold; (try dsimp only)) | (k_end; wrow_close) | (with_reducible ((with_reducible show wpAny _ _ (call (Value.builtin _) [Value.ref _]) _ _ _); refine r_len (n := 5) ‹News _ _ _ _› (by ((repeat (first | assumption | exact List.Mem.head _ | apply List.mem_cons_of_mem | apply List.mem_append_left)))) (by assumption) (by decide) ?_; (try dsimp only))) | (with_reducible ((with_reducible show wpAny _ _ (PySem.storeName _ _ _) _ _ _); (refine storeX_C ‹Fr _ _ _ _› ‹News _ _ _ _› (by rfl) (by ((first | exact (UpdF.head (by ((repeat (first | exact newsNe (by assumption) (by omega) | exact List.forall_mem_nil _ | refine List.forall_mem_cons.mpr ⟨(by k_ne), ?_⟩))))) | exact (UpdF.tail (by k_ne) (UpdF.head (by ((repeat (first | exact newsNe (by assumption) (by omega) | exact List.forall_mem_nil _ | refine List.forall_mem_cons.mpr ⟨(by k_ne), ?_⟩)))))) | exact (UpdF.tail (by k_ne) (UpdF.tail (by k_ne) (UpdF.head (by ((repeat (first | exact newsNe (by assumption) (by omega) | exact List.forall_mem_nil _ | refine List.forall_mem_cons.mpr ⟨(by k_ne), ?_⟩))))))) | exact (UpdF.tail (by k_ne) (UpdF.tail (by k_ne) (UpdF.tail (by k_ne) (UpdF.head (by ((repeat (first | exact newsNe (by assumption) (by omega) | exact List.forall_mem_nil _ | refine List.forall_mem_cons.mpr ⟨(by k_ne), ?_⟩)))))))) | exact (UpdF.tail (by k_ne) (UpdF.tail (by k_ne) (UpdF.tail (by k_ne) (UpdF.tail (by k_ne) (UpdF.head (by ((repeat (first | exact newsNe (by assumption) (by omega) | exact List.forall_mem_nil _ | refine List.forall_mem_cons.mpr ⟨(by k_ne), ?_⟩)))))))))))) (by assumption) ?_); intro _ _ _ _ _; (try dsimp only))) | (with_reducible ((with_reducible show wpAny _ _ (call (Value.builtin _) [Value.ref _]) _ _ _); refine kso_max ‹Fr _ _ _ _› ‹News _ _ _ _› (isListN ‹News _ _ _ _› (by ((repeat (first | assumption | exact List.Mem.head _ | apply List.mem_cons_of_mem | apply List.mem_append_left))))) (IntsAre.append (IntsAre.cons _ _ IntsAre.nil) (by assumption)) (by simp) rfl ?_; intro _ _ _ _ _ _ _ _; (try dsimp only))) | (with_reducible ((with_reducible show wpAny _ _ (binaryOp _ (Value.ref _) (Value.ref _)) _ _ _); refine r_add (vs := [_]) ‹Fr _ _ _ _› ‹News _ _ _ _› (by ((repeat (first | assumption | exact List.Mem.head _ | apply List.mem_cons_of_mem | apply List.mem_append_left)))) (by ((repeat (first | assumption | exact List.Mem.head _ | apply List.mem_cons_of_mem | apply List.mem_append_left)))) (by simp; omega) ?_; intro _ _ _ _ l1; k_lt l1; (try dsimp only))) | (with_reducible ((with_reducible show wpAny _ _ (compareOp _ (Value.ref _) (Value.ref _)) _ _ _); refine rich_ord true ‹News _ _ _ _› (by ((repeat (first | assumption | exact List.Mem.head _ | apply List.mem_cons_of_mem | apply List.mem_append_left)))) (by ((repeat (first | assumption | exact List.Mem.head _ | apply List.mem_cons_of_mem | apply List.mem_append_left)))) (by assumption) (by assumption) (by assumption) (by units_room) ?_; (try dsimp only))) | (with_reducible ((with_reducible show wpAny _ _ (subscriptTail _ _ (Value.ref _) (Value.int _ _)) _ _ _); refine r_item' ‹News _ _ _ _› (by ((repeat (first | assumption | exact List.Mem.head _ | apply List.mem_cons_of_mem | apply List.mem_append_left)))) rfl (by assumption) (by omega) ?_ (by with_unfolding_all rfl); (try dsimp only))) | ((with_reducible show wpAny _ _ (PySem.storeName _ _ _) _ _ _); (refine storeX_C ‹Fr _ _ _ _› ‹News _ _ _ _› (by rfl) (by ((first | exact (UpdF.head (by ((repeat (first | exact newsNe (by assumption) (by omega) | exact List.forall_mem_nil _ | refine List.forall_mem_cons.mpr ⟨(by k_ne), ?_⟩))))) | exact (UpdF.tail (by k_ne) (UpdF.head (by ((repeat (first | exact newsNe (by assumption) (by omega) | exact List.forall_mem_nil _ | refine List.forall_mem_cons.mpr ⟨(by k_ne), ?_⟩)))))) | exact (UpdF.tail (by k_ne) (UpdF.tail (by k_ne) (UpdF.head (by ((repeat (first | exact newsNe (by assumption) (by omega) | exact List.forall_mem_nil _ | refine List.forall_mem_cons.mpr ⟨(by k_ne), ?_⟩))))))) | exact (UpdF.tail (by k_ne) (UpdF.tail (by k_ne) (UpdF.tail (by k_ne) (UpdF.head (by ((repeat (first | exact newsNe (by assumption) (by omega) | exact List.forall_mem_nil _ | refine List.forall_mem_cons.mpr ⟨(by k_ne), ?_⟩)))))))) | exact (UpdF.tail (by k_ne) (UpdF.tail (by k_ne) (UpdF.tail (by k_ne) (UpdF.tail (by k_ne) (UpdF.head (by ((repeat (first | exact newsNe (by assumption) (by omega) | exact List.forall_mem_nil _ | refine List.forall_mem_cons.mpr ⟨(by k_ne), ?_⟩)))))))))))) (by assumption) ?_); intro _ _ _ _ _; (try dsimp only)) | ((with_reducible show wpAny _ _ (binaryOp _ (Value.ref _) (Value.ref _)) _ _ _); refine r_add (vs := [_]) ‹Fr _ _ _ _› ‹News _ _ _ _› (by ((repeat (first | assumption | exact List.Mem.head _ | apply List.mem_cons_of_mem | apply List.mem_append_left)))) (by ((repeat (first | assumption | exact List.Mem.head _ | apply List.mem_cons_of_mem | apply List.mem_append_left)))) (by simp; omega) ?_; intro _ _ _ _ l1; k_lt l1; (try dsimp only)) | ((with_reducible show wpAny _ _ (compareOp _ (Value.ref _) (Value.ref _)) _ _ _); refine rich_ord true ‹News _ _ _ _› (by ((repeat (first | assumption | exact List.Mem.head _ | apply List.mem_cons_of_mem | apply List.mem_append_left)))) (by ((repeat (first | assumption | exact List.Mem.head _ | apply List.mem_cons_of_mem | apply List.mem_append_left)))) (by assumption) (by assumption) (by assumption) (by units_room) ?_; (try dsimp only)) | walk1 | ((with_reducible show wpAny _ _ (PySem.storeName _ _ _) _ _ _); (refine storeX_C ‹Fr _ _ _ _› ‹News _ _ _ _› (by rfl) (by ((first | exact (UpdF.head (by ((repeat (first | exact newsNe (by assumption) (by omega) | exact List.forall_mem_nil _ | refine List.forall_mem_cons.mpr ⟨(by k_ne), ?_⟩))))) | exact (UpdF.tail (by k_ne) (UpdF.head (by ((repeat (first | exact newsNe (by assumption) (by omega) | exact List.forall_mem_nil _ | refine List.forall_mem_cons.mpr ⟨(by k_ne), ?_⟩)))))) | exact (UpdF.tail (by k_ne) (UpdF.tail (by k_ne) (UpdF.head (by ((repeat (first | exact newsNe (by assumption) (by omega) | exact List.forall_mem_nil _ | refine List.forall_mem_cons.mpr ⟨(by k_ne), ?_⟩))))))) | exact (UpdF.tail (by k_ne) (UpdF.tail (by k_ne) (UpdF.tail (by k_ne) (UpdF.head (by ((repeat (first | exact newsNe (by assumption) (by omega) | exact List.forall_mem_nil _ | refine List.forall_mem_cons.mpr ⟨(by k_ne), ?_⟩)))))))) | exact (UpdF.tail (by k_ne) (UpdF.tail (by k_ne) (UpdF.tail (by k_ne) (UpdF.tail (by k_ne) (UpdF.head (by ((repeat (first | exact newsNe (by assumption) (by omega) | exact List.forall_mem_nil _ | refine List.forall_mem_cons.mpr ⟨(by k_ne), ?_⟩)))))))))))) (by assumption) ?_); intro _ _ _ _ _; (try dsimp only)) | ((with_reducible show wpAny _ _ (subscriptTail _ _ (Value.ref _) (Value.int _ _)) _ _ _); refine r_item' ‹News _ _ _ _› (by ((repeat (first | assumption | exact List.Mem.head _ | apply List.mem_cons_of_mem | apply List.mem_append_left)))) rfl (by assumption) (by omega) ?_ (by with_unfolding_all rfl); (try dsimp only)) | (dsimp only; walk1) | (leave1; walk_say "STEP leave1"; try dsimp only))))
        exact Kept.of ⟨_, _, _, _, _, _, rfl, rfl, by assumption, by assumption, by assumption⟩
      case src =>
        intro xv s₁ hRg
        refine hideG ?_
        intro Cg hCg
        obtain ⟨r, t, u, v, h4, tk4, rfl, rfl, hR4, F4, N4⟩ := hRg
        refine hCg ?_
        clear hCg Cg
        refine PyProof.Rows.LCt.CompSrcT.range (n := i) rfl F4 N4 hR4 (small01 (by omega)) (size01 _) (by rw [sizeLine_eq]; omega) (fun g4 => ?_)
        refine compT_inv (n := i) trivial (fun j ys => ys.length ≤ j ∧ IntsAre ys ((List.range j).filterMap fun k => if (ltI (P5.getD i []) (P5.getD k []) == (back == 1)) = true then some ((hvSums P5 W5 back i).getD k 0) else none)) ?step ?fin i 0 [] (by omega) ⟨Nat.le_refl _, .nil⟩
        case fin =>
          intro ys hJ8
          unfold PyProof.Rows.LCg.FinA
          intro D h9 tk9 F9 N9 off9
          refine Kept.of ⟨rfl, D, ys, ys.length, h9, tk9, rfl, hJ8.2, hJ8.1, F9, N9, ?_⟩
          exact off1_mem off9
        case step =>
          intro j ys v I oI C oCC D m₂ h8 tk8 hj hJ8 hP8 hC8 hm8 F8 N8
          obtain ⟨tv, rfl⟩ := hP8
          rw [show (0 : Int) + (j : Int) = (j : Int) by omega] at hm8
          obtain ⟨a1, v1, c1, hl1, hn1, hi1⟩ := hP i _ (List.getElem?_eq_getElem (show i < ls.length by omega))
          obtain ⟨a2, v2, c2, hl2', hn2, hi2⟩ := hP j _ (List.getElem?_eq_getElem (show j < ls.length by omega))
          have e1 : ls[i]? = some (.ref a1) := by rw [List.getElem?_eq_getElem (show i < ls.length by omega), hl1]
          have e2 : ls[j]? = some (.ref a2) := by rw [List.getElem?_eq_getElem (show j < ls.length by omega), hl2']
          have hcc := hC j i (by omega) (by omega)
          dsimp only
          obtain ⟨ts, e3⟩ := hsv.get j ((hvSums P5 W5 back i).getD j 0) (by
            have : j < (hvSums P5 W5 back i).length := by rw [← hsv.length]; omega
            simp [List.getD_eq_getElem?_getD, List.getElem?_eq_getElem this])
          have hrs : ∀ b, (resLt true (P5.getD j []) (P5.getD i []) == (back == 1)) = b → ((List.range (j + 1)).filterMap fun k => if (ltI (P5.getD i []) (P5.getD k []) == (back == 1)) = true then some ((hvSums P5 W5 back i).getD k 0) else none) =
              ((List.range j).filterMap fun k => if (ltI (P5.getD i []) (P5.getD k []) == (back == 1)) = true then some ((hvSums P5 W5 back i).getD k 0) else none) ++ (if b = true then [(hvSums P5 W5 back i).getD j 0] else []) := by
            intro b hb'
            have hb'' : (ltI (P5.getD i []) (P5.getD j []) == (back == 1)) = b := hb'
            rw [List.range_succ, List.filterMap_append]
            congr 1
            simp only [List.filterMap_cons, List.filterMap_nil]
            rw [hb'']
            cases b <;> rfl
          (repeat' ((fail_if_success (with_reducible show wpAny _ _ (PySem.exec (PySem.Stmt.While _ _ _ _) _) _ _ _)); (fail_if_success (with_reducible show wpAny _ _ (PySem.exec (PySem.Stmt.For _ _ _ _ _) _) _ _ _)); (fail_if_success (with_reducible show wpAny _ _ (PySem.pyIter _) _ _ _)); (fail_if_success (with_reducible show Kept _)); (fail_if_success (with_reducible show InvEndN _ _ _ _ _ _ _)); (first | (k_unfold; (try dsimp only)) | (k_end; wrow_close) | (with_reducible ((with_reducible show wpAny _ _ (call (Value.builtin _) [Value.ref _]) _ _ _); refine r_len (n := 5) ‹News _ _ _ _› (by ((repeat (first | assumption | exact List.Mem.head _ | apply List.mem_cons_of_mem | apply List.mem_append_left)))) (by assumption) (by decide) ?_; (try dsimp only))) | (with_reducible ((with_reducible show wpAny _ _ (PySem.storeName _ _ _) _ _ _); (refine storeX_C ‹Fr _ _ _ _› ‹News _ _ _ _› (by rfl) (by ((first | exact (UpdF.head (by ((repeat (first | exact newsNe (by assumption) (by omega) | exact List.forall_mem_nil _ | refine List.forall_mem_cons.mpr ⟨(by k_ne), ?_⟩))))) | exact (UpdF.tail (by k_ne) (UpdF.head (by ((repeat (first | exact newsNe (by assumption) (by omega) | exact List.forall_mem_nil _ | refine List.forall_mem_cons.mpr ⟨(by k_ne), ?_⟩)))))) | exact (UpdF.tail (by k_ne) (UpdF.tail (by k_ne) (UpdF.head (by ((repeat (first | exact newsNe (by assumption) (by omega) | exact List.forall_mem_nil _ | refine List.forall_mem_cons.mpr ⟨(by k_ne), ?_⟩))))))) | exact (UpdF.tail (by k_ne) (UpdF.tail (by k_ne) (UpdF.tail (by k_ne) (UpdF.head (by ((repeat (first | exact newsNe (by assumption) (by omega) | exact List.forall_mem_nil _ | refine List.forall_mem_cons.mpr ⟨(by k_ne), ?_⟩)))))))) | exact (UpdF.tail (by k_ne) (UpdF.tail (by k_ne) (UpdF.tail (by k_ne) (UpdF.tail (by k_ne) (UpdF.head (by ((repeat (first | exact newsNe (by assumption) (by omega) | exact List.forall_mem_nil _ | refine List.forall_mem_cons.mpr ⟨(by k_ne), ?_⟩)))))))))))) (by assumption) ?_); intro _ _ _ _ _; (try dsimp only))) | (with_reducible ((with_reducible show wpAny _ _ (call (Value.builtin _) [Value.ref _]) _ _ _); refine kso_max ‹Fr _ _ _ _› ‹News _ _ _ _› (isListN ‹News _ _ _ _› (by ((repeat (first | assumption | exact List.Mem.head _ | apply List.mem_cons_of_mem | apply List.mem_append_left))))) (IntsAre.append (IntsAre.cons _ _ IntsAre.nil) (by assumption)) (by simp) rfl ?_; intro _ _ _ _ _ _ _ _; (try dsimp only))) | (with_reducible ((with_reducible show wpAny _ _ (binaryOp _ (Value.ref _) (Value.ref _)) _ _ _); refine r_add (vs := [_]) ‹Fr _ _ _ _› ‹News _ _ _ _› (by ((repeat (first | assumption | exact List.Mem.head _ | apply List.mem_cons_of_mem | apply List.mem_append_left)))) (by ((repeat (first | assumption | exact List.Mem.head _ | apply List.mem_cons_of_mem | apply List.mem_append_left)))) (by simp; omega) ?_; intro _ _ _ _ l1; k_lt l1; (try dsimp only))) | (with_reducible ((with_reducible show wpAny _ _ (compareOp _ (Value.ref _) (Value.ref _)) _ _ _); refine rich_ord true ‹News _ _ _ _› (by ((repeat (first | assumption | exact List.Mem.head _ | apply List.mem_cons_of_mem | apply List.mem_append_left)))) (by ((repeat (first | assumption | exact List.Mem.head _ | apply List.mem_cons_of_mem | apply List.mem_append_left)))) (by assumption) (by assumption) (by assumption) (by units_room) ?_; (try dsimp only))) | (with_reducible ((with_reducible show wpAny _ _ (subscriptTail _ _ (Value.ref _) (Value.int _ _)) _ _ _); refine r_item' ‹News _ _ _ _› (by ((repeat (first | assumption | exact List.Mem.head _ | apply List.mem_cons_of_mem | apply List.mem_append_left)))) rfl (by assumption) (by omega) ?_ (by with_unfolding_all rfl); (try dsimp only))) | ((with_reducible show wpAny _ _ (PySem.storeName _ _ _) _ _ _); (refine storeX_C ‹Fr _ _ _ _› ‹News _ _ _ _› (by rfl) (by ((first | exact (UpdF.head (by ((repeat (first | exact newsNe (by assumption) (by omega) | exact List.forall_mem_nil _ | refine List.forall_mem_cons.mpr ⟨(by k_ne), ?_⟩))))) | exact (UpdF.tail (by k_ne) (UpdF.head (by ((repeat (first | exact newsNe (by assumption) (by omega) | exact List.forall_mem_nil _ | refine List.forall_mem_cons.mpr ⟨(by k_ne), ?_⟩)))))) | exact (UpdF.tail (by k_ne) (UpdF.tail (by k_ne) (UpdF.head (by ((repeat (first | exact newsNe (by assumption) (by omega) | exact List.forall_mem_nil _ | refine List.forall_mem_cons.mpr ⟨(by k_ne), ?_⟩))))))) | exact (UpdF.tail (by k_ne) (UpdF.tail (by k_ne) (UpdF.tail (by k_ne) (UpdF.head (by ((repeat (first | exact newsNe (by assumption) (by omega) | exact List.forall_mem_nil _ | refine List.forall_mem_cons.mpr ⟨(by k_ne), ?_⟩)))))))) | exact (UpdF.tail (by k_ne) (UpdF.tail (by k_ne) (UpdF.tail (by k_ne) (UpdF.tail (by k_ne) (UpdF.head (by ((repeat (first | exact newsNe (by assumption) (by omega) | exact List.forall_mem_nil _ | refine List.forall_mem_cons.mpr ⟨(by k_ne), ?_⟩)))))))))))) (by assumption) ?_); intro _ _ _ _ _; (try dsimp only)) | ((with_reducible show wpAny _ _ (binaryOp _ (Value.ref _) (Value.ref _)) _ _ _); refine r_add (vs := [_]) ‹Fr _ _ _ _› ‹News _ _ _ _› (by ((repeat (first | assumption | exact List.Mem.head _ | apply List.mem_cons_of_mem | apply List.mem_append_left)))) (by ((repeat (first | assumption | exact List.Mem.head _ | apply List.mem_cons_of_mem | apply List.mem_append_left)))) (by simp; omega) ?_; intro _ _ _ _ l1; k_lt l1; (try dsimp only)) | ((with_reducible show wpAny _ _ (compareOp _ (Value.ref _) (Value.ref _)) _ _ _); refine rich_ord true ‹News _ _ _ _› (by ((repeat (first | assumption | exact List.Mem.head _ | apply List.mem_cons_of_mem | apply List.mem_append_left)))) (by ((repeat (first | assumption | exact List.Mem.head _ | apply List.mem_cons_of_mem | apply List.mem_append_left)))) (by assumption) (by assumption) (by assumption) (by units_room) ?_; (try dsimp only)) | walk1 | ((with_reducible show wpAny _ _ (PySem.storeName _ _ _) _ _ _); (refine storeX_C ‹Fr _ _ _ _› ‹News _ _ _ _› (by rfl) (by ((first | exact (UpdF.head (by ((repeat (first | exact newsNe (by assumption) (by omega) | exact List.forall_mem_nil _ | refine List.forall_mem_cons.mpr ⟨(by k_ne), ?_⟩))))) | exact (UpdF.tail (by k_ne) (UpdF.head (by ((repeat (first | exact newsNe (by assumption) (by omega) | exact List.forall_mem_nil _ | refine List.forall_mem_cons.mpr ⟨(by k_ne), ?_⟩)))))) | exact (UpdF.tail (by k_ne) (UpdF.tail (by k_ne) (UpdF.head (by ((repeat (first | exact newsNe (by assumption) (by omega) | exact List.forall_mem_nil _ | refine List.forall_mem_cons.mpr ⟨(by k_ne), ?_⟩))))))) | exact (UpdF.tail (by k_ne) (UpdF.tail (by k_ne) (UpdF.tail (by k_ne) (UpdF.head (by ((repeat (first | exact newsNe (by assumption) (by omega) | exact List.forall_mem_nil _ | refine List.forall_mem_cons.mpr ⟨(by k_ne), ?_⟩)))))))) | exact (UpdF.tail (by k_ne) (UpdF.tail (by k_ne) (UpdF.tail (by k_ne) (UpdF.tail (by k_ne) (UpdF.head (by ((repeat (first | exact newsNe (by assumption) (by omega) | exact List.forall_mem_nil _ | refine List.forall_mem_cons.mpr ⟨(by k_ne), ?_⟩)))))))))))) (by assumption) ?_); intro _ _ _ _ _; (try dsimp only)) | ((with_reducible show wpAny _ _ (subscriptTail _ _ (Value.ref _) (Value.int _ _)) _ _ _); refine r_item' ‹News _ _ _ _› (by ((repeat (first | assumption | exact List.Mem.head _ | apply List.mem_cons_of_mem | apply List.mem_append_left)))) rfl (by assumption) (by omega) ?_ (by with_unfolding_all rfl); (try dsimp only)) | (dsimp only; walk1) | (leave1; walk_say "STEP leave1"; try dsimp only))))
          · rename Fr _ _ _ _ => F9
            rename News _ _ _ _ => N9
            rename (_ = true) => hb'
            refine Took.intro F9 N9 (fun p hp => hp) ⟨by simp; omega, ?_⟩
            rw [hrs _ hb', if_pos rfl]
            exact IntsAre.append hJ8.2 (.cons _ _ .nil)
          · rename Fr _ _ _ _ => F9
            rename News _ _ _ _ => N9
            rename (_ = false) => hb'
            refine Took.intro F9 N9 (fun p hp => hp) ⟨by omega, ?_⟩
            rw [hrs _ hb']
            simpa using hJ8.2
    case rest =>
      intro s' hRg
      refine hideG ?_
      intro Cg hCg
      obtain ⟨B, bvs, bc, h7, tk7, rfl, hbv, hbl, F7, N7, hneB⟩ := hRg
      refine hCg ?_
      clear hCg Cg
      clear F3 N3
      obtain ⟨tw, ew⟩ := hW.get i (W5.getD i 0) (by
        have : i < W5.length := by omega
        simp [List.getD_eq_getElem?_getD, List.getElem?_eq_getElem this])
      have qB : @Ne Nat S B := hneB _ (.tail _ (.head _))
      (repeat' ((fail_if_success (with_reducible show wpAny _ _ (PySem.exec (PySem.Stmt.While _ _ _ _) _) _ _ _)); (fail_if_success (with_reducible show wpAny _ _ (PySem.exec (PySem.Stmt.For _ _ _ _ _) _) _ _ _)); (fail_if_success (with_reducible show wpAny _ _ (PySem.pyIter _) _ _ _)); (fail_if_success (with_reducible show Kept _)); (fail_if_success (with_reducible show InvEndN _ _ _ _ _ _ _)); (first | (k_unfold; (try dsimp only)) | (k_end; wrow_close) | (with_reducible ((with_reducible show wpAny _ _ (call (Value.builtin _) [Value.ref _]) _ _ _); refine r_len (n := 5) ‹News _ _ _ _› (by ((repeat (first | assumption | exact List.Mem.head _ | apply List.mem_cons_of_mem | apply List.mem_append_left)))) (by assumption) (by decide) ?_; (try dsimp only))) | (with_reducible ((with_reducible show wpAny _ _ (PySem.storeName _ _ _) _ _ _); (refine storeX_C ‹Fr _ _ _ _› ‹News _ _ _ _› (by rfl) (by ((first | exact (UpdF.head (by ((repeat (first | exact newsNe (by assumption) (by omega) | exact List.forall_mem_nil _ | refine List.forall_mem_cons.mpr ⟨(by k_ne), ?_⟩))))) | exact (UpdF.tail (by k_ne) (UpdF.head (by ((repeat (first | exact newsNe (by assumption) (by omega) | exact List.forall_mem_nil _ | refine List.forall_mem_cons.mpr ⟨(by k_ne), ?_⟩)))))) | exact (UpdF.tail (by k_ne) (UpdF.tail (by k_ne) (UpdF.head (by ((repeat (first | exact newsNe (by assumption) (by omega) | exact List.forall_mem_nil _ | refine List.forall_mem_cons.mpr ⟨(by k_ne), ?_⟩))))))) | exact (UpdF.tail (by k_ne) (UpdF.tail (by k_ne) (UpdF.tail (by k_ne) (UpdF.head (by ((repeat (first | exact newsNe (by assumption) (by omega) | exact List.forall_mem_nil _ | refine List.forall_mem_cons.mpr ⟨(by k_ne), ?_⟩)))))))) | exact (UpdF.tail (by k_ne) (UpdF.tail (by k_ne) (UpdF.tail (by k_ne) (UpdF.tail (by k_ne) (UpdF.head (by ((repeat (first | exact newsNe (by assumption) (by omega) | exact List.forall_mem_nil _ | refine List.forall_mem_cons.mpr ⟨(by k_ne), ?_⟩)))))))))))) (by assumption) ?_); intro _ _ _ _ _; (try dsimp only))) | (with_reducible ((with_reducible show wpAny _ _ (call (Value.builtin _) [Value.ref _]) _ _ _); refine kso_max ‹Fr _ _ _ _› ‹News _ _ _ _› (isListN ‹News _ _ _ _› (by ((repeat (first | assumption | exact List.Mem.head _ | apply List.mem_cons_of_mem | apply List.mem_append_left))))) (IntsAre.append (IntsAre.cons _ _ IntsAre.nil) (by assumption)) (by simp) rfl ?_; intro _ _ _ _ _ _ _ _; (try dsimp only))) | (with_reducible ((with_reducible show wpAny _ _ (binaryOp _ (Value.ref _) (Value.ref _)) _ _ _); refine r_add (vs := [_]) ‹Fr _ _ _ _› ‹News _ _ _ _› (by ((repeat (first | assumption | exact List.Mem.head _ | apply List.mem_cons_of_mem | apply List.mem_append_left)))) (by ((repeat (first | assumption | exact List.Mem.head _ | apply List.mem_cons_of_mem | apply List.mem_append_left)))) (by simp; omega) ?_; intro _ _ _ _ l1; k_lt l1; (try dsimp only))) | (with_reducible ((with_reducible show wpAny _ _ (compareOp _ (Value.ref _) (Value.ref _)) _ _ _); refine rich_ord true ‹News _ _ _ _› (by ((repeat (first | assumption | exact List.Mem.head _ | apply List.mem_cons_of_mem | apply List.mem_append_left)))) (by ((repeat (first | assumption | exact List.Mem.head _ | apply List.mem_cons_of_mem | apply List.mem_append_left)))) (by assumption) (by assumption) (by assumption) (by units_room) ?_; (try dsimp only))) | (with_reducible ((with_reducible show wpAny _ _ (subscriptTail _ _ (Value.ref _) (Value.int _ _)) _ _ _); refine r_item' ‹News _ _ _ _› (by ((repeat (first | assumption | exact List.Mem.head _ | apply List.mem_cons_of_mem | apply List.mem_append_left)))) rfl (by assumption) (by omega) ?_ (by with_unfolding_all rfl); (try dsimp only))) | ((with_reducible show wpAny _ _ (PySem.storeName _ _ _) _ _ _); (refine storeX_C ‹Fr _ _ _ _› ‹News _ _ _ _› (by rfl) (by ((first | exact (UpdF.head (by ((repeat (first | exact newsNe (by assumption) (by omega) | exact List.forall_mem_nil _ | refine List.forall_mem_cons.mpr ⟨(by k_ne), ?_⟩))))) | exact (UpdF.tail (by k_ne) (UpdF.head (by ((repeat (first | exact newsNe (by assumption) (by omega) | exact List.forall_mem_nil _ | refine List.forall_mem_cons.mpr ⟨(by k_ne), ?_⟩)))))) | exact (UpdF.tail (by k_ne) (UpdF.tail (by k_ne) (UpdF.head (by ((repeat (first | exact newsNe (by assumption) (by omega) | exact List.forall_mem_nil _ | refine List.forall_mem_cons.mpr ⟨(by k_ne), ?_⟩))))))) | exact (UpdF.tail (by k_ne) (UpdF.tail (by k_ne) (UpdF.tail (by k_ne) (UpdF.head (by ((repeat (first | exact newsNe (by assumption) (by omega) | exact List.forall_mem_nil _ | refine List.forall_mem_cons.mpr ⟨(by k_ne), ?_⟩)))))))) | exact (UpdF.tail (by k_ne) (UpdF.tail (by k_ne) (UpdF.tail (by k_ne) (UpdF.tail (by k_ne) (UpdF.head (by ((repeat (first | exact newsNe (by assumption) (by omega) | exact List.forall_mem_nil _ | refine List.forall_mem_cons.mpr ⟨(by k_ne), ?_⟩)))))))))))) (by assumption) ?_); intro _ _ _ _ _; (try dsimp only)) | ((with_reducible show wpAny _ _ (binaryOp _ (Value.ref _) (Value.ref _)) _ _ _); refine r_add (vs := [_]) ‹Fr _ _ _ _› ‹News _ _ _ _› (by ((repeat (first | assumption | exact List.Mem.head _ | apply List.mem_cons_of_mem | apply List.mem_append_left)))) (by ((repeat (first | assumption | exact List.Mem.head _ | apply List.mem_cons_of_mem | apply List.mem_append_left)))) (by simp; omega) ?_; intro _ _ _ _ l1; k_lt l1; (try dsimp only)) | ((with_reducible show wpAny _ _ (compareOp _ (Value.ref _) (Value.ref _)) _ _ _); refine rich_ord true ‹News _ _ _ _› (by ((repeat (first | assumption | exact List.Mem.head _ | apply List.mem_cons_of_mem | apply List.mem_append_left)))) (by ((repeat (first | assumption | exact List.Mem.head _ | apply List.mem_cons_of_mem | apply List.mem_append_left)))) (by assumption) (by assumption) (by assumption) (by units_room) ?_; (try dsimp only)) | walk1 | ((with_reducible show wpAny _ _ (PySem.storeName _ _ _) _ _ _); (refine storeX_C ‹Fr _ _ _ _› ‹News _ _ _ _› (by rfl) (by ((first | exact (UpdF.head (by ((repeat (first | exact newsNe (by assumption) (by omega) | exact List.forall_mem_nil _ | refine List.forall_mem_cons.mpr ⟨(by k_ne), ?_⟩))))) | exact (UpdF.tail (by k_ne) (UpdF.head (by ((repeat (first | exact newsNe (by assumption) (by omega) | exact List.forall_mem_nil _ | refine List.forall_mem_cons.mpr ⟨(by k_ne), ?_⟩)))))) | exact (UpdF.tail (by k_ne) (UpdF.tail (by k_ne) (UpdF.head (by ((repeat (first | exact newsNe (by assumption) (by omega) | exact List.forall_mem_nil _ | refine List.forall_mem_cons.mpr ⟨(by k_ne), ?_⟩))))))) | exact (UpdF.tail (by k_ne) (UpdF.tail (by k_ne) (UpdF.tail (by k_ne) (UpdF.head (by ((repeat (first | exact newsNe (by assumption) (by omega) | exact List.forall_mem_nil _ | refine List.forall_mem_cons.mpr ⟨(by k_ne), ?_⟩)))))))) | exact (UpdF.tail (by k_ne) (UpdF.tail (by k_ne) (UpdF.tail (by k_ne) (UpdF.tail (by k_ne) (UpdF.head (by ((repeat (first | exact newsNe (by assumption) (by omega) | exact List.forall_mem_nil _ | refine List.forall_mem_cons.mpr ⟨(by k_ne), ?_⟩)))))))))))) (by assumption) ?_); intro _ _ _ _ _; (try dsimp only)) | ((with_reducible show wpAny _ _ (subscriptTail _ _ (Value.ref _) (Value.int _ _)) _ _ _); refine r_item' ‹News _ _ _ _› (by ((repeat (first | assumption | exact List.Mem.head _ | apply List.mem_cons_of_mem | apply List.mem_append_left)))) rfl (by assumption) (by omega) ?_ (by with_unfolding_all rfl); (try dsimp only)) | (dsimp only; walk1) | (leave1; walk_say "STEP leave1"; try dsimp only))))
      rename Fr _ _ _ _ => F9
      rename News _ _ _ _ => N9
      rename_i M0 t0 k0 hM1 hM2
      have hMe : M0 = ((List.range i).filterMap fun k => if (ltI (P5.getD i []) (P5.getD k []) == (back == 1)) = true then some ((hvSums P5 W5 back i).getD k 0) else none).foldl max 0 := max_of hM1 hM2
      have hsl1 := lS1
      refine r_append F9 N9 (by ((first | exact (UpdF.head (by ((repeat (first | exact newsNe (by assumption) (by omega) | exact List.forall_mem_nil _ | refine List.forall_mem_cons.mpr ⟨(by k_ne), ?_⟩))))) | exact (UpdF.tail (by k_ne) (UpdF.head (by ((repeat (first | exact newsNe (by assumption) (by omega) | exact List.forall_mem_nil _ | refine List.forall_mem_cons.mpr ⟨(by k_ne), ?_⟩)))))) | exact (UpdF.tail (by k_ne) (UpdF.tail (by k_ne) (UpdF.head (by ((repeat (first | exact newsNe (by assumption) (by omega) | exact List.forall_mem_nil _ | refine List.forall_mem_cons.mpr ⟨(by k_ne), ?_⟩))))))) | exact (UpdF.tail (by k_ne) (UpdF.tail (by k_ne) (UpdF.tail (by k_ne) (UpdF.head (by ((repeat (first | exact newsNe (by assumption) (by omega) | exact List.forall_mem_nil _ | refine List.forall_mem_cons.mpr ⟨(by k_ne), ?_⟩)))))))) | exact (UpdF.tail (by k_ne) (UpdF.tail (by k_ne) (UpdF.tail (by k_ne) (UpdF.tail (by k_ne) (UpdF.head (by ((repeat (first | exact newsNe (by assumption) (by omega) | exact List.forall_mem_nil _ | refine List.forall_mem_cons.mpr ⟨(by k_ne), ?_⟩)))))))))))) (by omega) ?_
      intro h10 F10 N10
      (repeat' ((fail_if_success (with_reducible show wpAny _ _ (PySem.exec (PySem.Stmt.While _ _ _ _) _) _ _ _)); (fail_if_success (with_reducible show wpAny _ _ (PySem.exec (PySem.Stmt.For _ _ _ _ _) _) _ _ _)); (fail_if_success (with_reducible show wpAny _ _ (PySem.pyIter _) _ _ _)); (fail_if_success (with_reducible show Kept _)); (fail_if_success (with_reducible show InvEndN _ _ _ _ _ _ _)); (first | (k_unfold; (try dsimp only)) | (k_end; wrow_close) | (with_reducible ((with_reducible show wpAny _ _ (call (Value.builtin _) [Value.ref _]) _ _ _); refine r_len (n := 5) ‹News _ _ _ _› (by ((repeat (first | assumption | exact List.Mem.head _ | apply List.mem_cons_of_mem | apply List.mem_append_left)))) (by assumption) (by decide) ?_; (try dsimp only))) | (with_reducible ((with_reducible show wpAny _ _ (PySem.storeName _ _ _) _ _ _); (refine storeX_C ‹Fr _ _ _ _› ‹News _ _ _ _› (by rfl) (by ((first | exact (UpdF.head (by ((repeat (first | exact newsNe (by assumption) (by omega) | exact List.forall_mem_nil _ | refine List.forall_mem_cons.mpr ⟨(by k_ne), ?_⟩))))) | exact (UpdF.tail (by k_ne) (UpdF.head (by ((repeat (first | exact newsNe (by assumption) (by omega) | exact List.forall_mem_nil _ | refine List.forall_mem_cons.mpr ⟨(by k_ne), ?_⟩)))))) | exact (UpdF.tail (by k_ne) (UpdF.tail (by k_ne) (UpdF.head (by ((repeat (first | exact newsNe (by assumption) (by omega) | exact List.forall_mem_nil _ | refine List.forall_mem_cons.mpr ⟨(by k_ne), ?_⟩))))))) | exact (UpdF.tail (by k_ne) (UpdF.tail (by k_ne) (UpdF.tail (by k_ne) (UpdF.head (by ((repeat (first | exact newsNe (by assumption) (by omega) | exact List.forall_mem_nil _ | refine List.forall_mem_cons.mpr ⟨(by k_ne), ?_⟩)))))))) | exact (UpdF.tail (by k_ne) (UpdF.tail (by k_ne) (UpdF.tail (by k_ne) (UpdF.tail (by k_ne) (UpdF.head (by ((repeat (first | exact newsNe (by assumption) (by omega) | exact List.forall_mem_nil _ | refine List.forall_mem_cons.mpr ⟨(by k_ne), ?_⟩)))))))))))) (by assumption) ?_); intro _ _ _ _ _; (try dsimp only))) | (with_reducible ((with_reducible show wpAny _ _ (call (Value.builtin _) [Value.ref _]) _ _ _); refine kso_max ‹Fr _ _ _ _› ‹News _ _ _ _› (isListN ‹News _ _ _ _› (by ((repeat (first | assumption | exact List.Mem.head _ | apply List.mem_cons_of_mem | apply List.mem_append_left))))) (IntsAre.append (IntsAre.cons _ _ IntsAre.nil) (by assumption)) (by simp) rfl ?_; intro _ _ _ _ _ _ _ _; (try dsimp only))) | (with_reducible ((with_reducible show wpAny _ _ (binaryOp _ (Value.ref _) (Value.ref _)) _ _ _); refine r_add (vs := [_]) ‹Fr _ _ _ _› ‹News _ _ _ _› (by ((repeat (first | assumption | exact List.Mem.head _ | apply List.mem_cons_of_mem | apply List.mem_append_left)))) (by ((repeat (first | assumption | exact List.Mem.head _ | apply List.mem_cons_of_mem | apply List.mem_append_left)))) (by simp; omega) ?_; intro _ _ _ _ l1; k_lt l1; (try dsimp only))) | (with_reducible ((with_reducible show wpAny _ _ (compareOp _ (Value.ref _) (Value.ref _)) _ _ _); refine rich_ord true ‹News _ _ _ _› (by ((repeat (first | assumption | exact List.Mem.head _ | apply List.mem_cons_of_mem | apply List.mem_append_left)))) (by ((repeat (first | assumption | exact List.Mem.head _ | apply List.mem_cons_of_mem | apply List.mem_append_left)))) (by assumption) (by assumption) (by assumption) (by units_room) ?_; (try dsimp only))) | (with_reducible ((with_reducible show wpAny _ _ (subscriptTail _ _ (Value.ref _) (Value.int _ _)) _ _ _); refine r_item' ‹News _ _ _ _› (by ((repeat (first | assumption | exact List.Mem.head _ | apply List.mem_cons_of_mem | apply List.mem_append_left)))) rfl (by assumption) (by omega) ?_ (by with_unfolding_all rfl); (try dsimp only))) | ((with_reducible show wpAny _ _ (PySem.storeName _ _ _) _ _ _); (refine storeX_C ‹Fr _ _ _ _› ‹News _ _ _ _› (by rfl) (by ((first | exact (UpdF.head (by ((repeat (first | exact newsNe (by assumption) (by omega) | exact List.forall_mem_nil _ | refine List.forall_mem_cons.mpr ⟨(by k_ne), ?_⟩))))) | exact (UpdF.tail (by k_ne) (UpdF.head (by ((repeat (first | exact newsNe (by assumption) (by omega) | exact List.forall_mem_nil _ | refine List.forall_mem_cons.mpr ⟨(by k_ne), ?_⟩)))))) | exact (UpdF.tail (by k_ne) (UpdF.tail (by k_ne) (UpdF.head (by ((repeat (first | exact newsNe (by assumption) (by omega) | exact List.forall_mem_nil _ | refine List.forall_mem_cons.mpr ⟨(by k_ne), ?_⟩))))))) | exact (UpdF.tail (by k_ne) (UpdF.tail (by k_ne) (UpdF.tail (by k_ne) (UpdF.head (by ((repeat (first | exact newsNe (by assumption) (by omega) | exact List.forall_mem_nil _ | refine List.forall_mem_cons.mpr ⟨(by k_ne), ?_⟩)))))))) | exact (UpdF.tail (by k_ne) (UpdF.tail (by k_ne) (UpdF.tail (by k_ne) (UpdF.tail (by k_ne) (UpdF.head (by ((repeat (first | exact newsNe (by assumption) (by omega) | exact List.forall_mem_nil _ | refine List.forall_mem_cons.mpr ⟨(by k_ne), ?_⟩)))))))))))) (by assumption) ?_); intro _ _ _ _ _; (try dsimp only)) | ((with_reducible show wpAny _ _ (binaryOp _ (Value.ref _) (Value.ref _)) _ _ _); refine r_add (vs := [_]) ‹Fr _ _ _ _› ‹News _ _ _ _› (by ((repeat (first | assumption | exact List.Mem.head _ | apply List.mem_cons_of_mem | apply List.mem_append_left)))) (by ((repeat (first | assumption | exact List.Mem.head _ | apply List.mem_cons_of_mem | apply List.mem_append_left)))) (by simp; omega) ?_; intro _ _ _ _ l1; k_lt l1; (try dsimp only)) | ((with_reducible show wpAny _ _ (compareOp _ (Value.ref _) (Value.ref _)) _ _ _); refine rich_ord true ‹News _ _ _ _› (by ((repeat (first | assumption | exact List.Mem.head _ | apply List.mem_cons_of_mem | apply List.mem_append_left)))) (by ((repeat (first | assumption | exact List.Mem.head _ | apply List.mem_cons_of_mem | apply List.mem_append_left)))) (by assumption) (by assumption) (by assumption) (by units_room) ?_; (try dsimp only)) | walk1 | ((with_reducible show wpAny _ _ (PySem.storeName _ _ _) _ _ _); (refine storeX_C ‹Fr _ _ _ _› ‹News _ _ _ _› (by rfl) (by ((first | exact (UpdF.head (by ((repeat (first | exact newsNe (by assumption) (by omega) | exact List.forall_mem_nil _ | refine List.forall_mem_cons.mpr ⟨(by k_ne), ?_⟩))))) | exact (UpdF.tail (by k_ne) (UpdF.head (by ((repeat (first | exact newsNe (by assumption) (by omega) | exact List.forall_mem_nil _ | refine List.forall_mem_cons.mpr ⟨(by k_ne), ?_⟩)))))) | exact (UpdF.tail (by k_ne) (UpdF.tail (by k_ne) (UpdF.head (by ((repeat (first | exact newsNe (by assumption) (by omega) | exact List.forall_mem_nil _ | refine List.forall_mem_cons.mpr ⟨(by k_ne), ?_⟩))))))) | exact (UpdF.tail (by k_ne) (UpdF.tail (by k_ne) (UpdF.tail (by k_ne) (UpdF.head (by ((repeat (first | exact newsNe (by assumption) (by omega) | exact List.forall_mem_nil _ | refine List.forall_mem_cons.mpr ⟨(by k_ne), ?_⟩)))))))) | exact (UpdF.tail (by k_ne) (UpdF.tail (by k_ne) (UpdF.tail (by k_ne) (UpdF.tail (by k_ne) (UpdF.head (by ((repeat (first | exact newsNe (by assumption) (by omega) | exact List.forall_mem_nil _ | refine List.forall_mem_cons.mpr ⟨(by k_ne), ?_⟩)))))))))))) (by assumption) ?_); intro _ _ _ _ _; (try dsimp only)) | ((with_reducible show wpAny _ _ (subscriptTail _ _ (Value.ref _) (Value.int _ _)) _ _ _); refine r_item' ‹News _ _ _ _› (by ((repeat (first | assumption | exact List.Mem.head _ | apply List.mem_cons_of_mem | apply List.mem_append_left)))) rfl (by assumption) (by omega) ?_ (by with_unfolding_all rfl); (try dsimp only)) | (dsimp only; walk1) | (leave1; walk_say "STEP leave1"; try dsimp only))))
      refine TurnedR.intro _ F10 N10 (fun p hp => ?_) ?_ ⟨S, svs ++ [.int (W5.getD i 0 + M0) k0], sc + 1, o6, osm, _, rfl, dsm, d6, ?_, by simp [hsl], lS1, lS2, rfl⟩
      · rcases List.mem_cons.mp hp with rfl | hp
        · exact .tail _ (.tail _ (.tail _ (.head _)))
        · exact .tail _ (.tail _ (.tail _ (.tail _ hp)))
      · intro p hp
        rcases List.mem_cons.mp hp with rfl | hp
        · exact .inl q0
        · exact .inl (by
            rcases List.mem_cons.mp hp with rfl | hp
            · exact q1
            · exact hne p (.tail _ (.tail _ hp)))
      · show IntsAre _ (hvSums P5 W5 back i ++ [_])
        rw [← hMe]
        exact IntsAre.append hsv (.cons _ _ .nil)
  case done =>
    clear F5 N5 hR
    intro m₁ nx h₂ tk₂ hJ F2 N2
    refine hideG ?_
    intro Cg hCg
    obtain ⟨S, svs, sc, oat, osm, va, rfl, dsm, dat, hsv, hsl, lS1, lS2, hm⟩ := hJ
    refine hCg ?_
    clear hCg Cg
    dsimp only
    (repeat' ((fail_if_success (with_reducible show wpAny _ _ (PySem.exec (PySem.Stmt.While _ _ _ _) _) _ _ _)); (fail_if_success (with_reducible show wpAny _ _ (PySem.exec (PySem.Stmt.For _ _ _ _ _) _) _ _ _)); (fail_if_success (with_reducible show wpAny _ _ (PySem.pyIter _) _ _ _)); (fail_if_success (with_reducible show Kept _)); (fail_if_success (with_reducible show InvEndN _ _ _ _ _ _ _)); (first | (k_unfold; (try dsimp only)) | (k_end; wrow_close) | (with_reducible ((with_reducible show wpAny _ _ (call (Value.builtin _) [Value.ref _]) _ _ _); refine r_len (n := 5) ‹News _ _ _ _› (by ((repeat (first | assumption | exact List.Mem.head _ | apply List.mem_cons_of_mem | apply List.mem_append_left)))) (by assumption) (by decide) ?_; (try dsimp only))) | (with_reducible ((with_reducible show wpAny _ _ (PySem.storeName _ _ _) _ _ _); (refine storeX_C ‹Fr _ _ _ _› ‹News _ _ _ _› (by rfl) (by ((first | exact (UpdF.head (by ((repeat (first | exact newsNe (by assumption) (by omega) | exact List.forall_mem_nil _ | refine List.forall_mem_cons.mpr ⟨(by k_ne), ?_⟩))))) | exact (UpdF.tail (by k_ne) (UpdF.head (by ((repeat (first | exact newsNe (by assumption) (by omega) | exact List.forall_mem_nil _ | refine List.forall_mem_cons.mpr ⟨(by k_ne), ?_⟩)))))) | exact (UpdF.tail (by k_ne) (UpdF.tail (by k_ne) (UpdF.head (by ((repeat (first | exact newsNe (by assumption) (by omega) | exact List.forall_mem_nil _ | refine List.forall_mem_cons.mpr ⟨(by k_ne), ?_⟩))))))) | exact (UpdF.tail (by k_ne) (UpdF.tail (by k_ne) (UpdF.tail (by k_ne) (UpdF.head (by ((repeat (first | exact newsNe (by assumption) (by omega) | exact List.forall_mem_nil _ | refine List.forall_mem_cons.mpr ⟨(by k_ne), ?_⟩)))))))) | exact (UpdF.tail (by k_ne) (UpdF.tail (by k_ne) (UpdF.tail (by k_ne) (UpdF.tail (by k_ne) (UpdF.head (by ((repeat (first | exact newsNe (by assumption) (by omega) | exact List.forall_mem_nil _ | refine List.forall_mem_cons.mpr ⟨(by k_ne), ?_⟩)))))))))))) (by assumption) ?_); intro _ _ _ _ _; (try dsimp only))) | (with_reducible ((with_reducible show wpAny _ _ (call (Value.builtin _) [Value.ref _]) _ _ _); refine kso_max ‹Fr _ _ _ _› ‹News _ _ _ _› (isListN ‹News _ _ _ _› (by ((repeat (first | assumption | exact List.Mem.head _ | apply List.mem_cons_of_mem | apply List.mem_append_left))))) (IntsAre.append (IntsAre.cons _ _ IntsAre.nil) (by assumption)) (by simp) rfl ?_; intro _ _ _ _ _ _ _ _; (try dsimp only))) | (with_reducible ((with_reducible show wpAny _ _ (binaryOp _ (Value.ref _) (Value.ref _)) _ _ _); refine r_add (vs := [_]) ‹Fr _ _ _ _› ‹News _ _ _ _› (by ((repeat (first | assumption | exact List.Mem.head _ | apply List.mem_cons_of_mem | apply List.mem_append_left)))) (by ((repeat (first | assumption | exact List.Mem.head _ | apply List.mem_cons_of_mem | apply List.mem_append_left)))) (by simp; omega) ?_; intro _ _ _ _ l1; k_lt l1; (try dsimp only))) | (with_reducible ((with_reducible show wpAny _ _ (compareOp _ (Value.ref _) (Value.ref _)) _ _ _); refine rich_ord true ‹News _ _ _ _› (by ((repeat (first | assumption | exact List.Mem.head _ | apply List.mem_cons_of_mem | apply List.mem_append_left)))) (by ((repeat (first | assumption | exact List.Mem.head _ | apply List.mem_cons_of_mem | apply List.mem_append_left)))) (by assumption) (by assumption) (by assumption) (by units_room) ?_; (try dsimp only))) | (with_reducible ((with_reducible show wpAny _ _ (subscriptTail _ _ (Value.ref _) (Value.int _ _)) _ _ _); refine r_item' ‹News _ _ _ _› (by ((repeat (first | assumption | exact List.Mem.head _ | apply List.mem_cons_of_mem | apply List.mem_append_left)))) rfl (by assumption) (by omega) ?_ (by with_unfolding_all rfl); (try dsimp only))) | ((with_reducible show wpAny _ _ (PySem.storeName _ _ _) _ _ _); (refine storeX_C ‹Fr _ _ _ _› ‹News _ _ _ _› (by rfl) (by ((first | exact (UpdF.head (by ((repeat (first | exact newsNe (by assumption) (by omega) | exact List.forall_mem_nil _ | refine List.forall_mem_cons.mpr ⟨(by k_ne), ?_⟩))))) | exact (UpdF.tail (by k_ne) (UpdF.head (by ((repeat (first | exact newsNe (by assumption) (by omega) | exact List.forall_mem_nil _ | refine List.forall_mem_cons.mpr ⟨(by k_ne), ?_⟩)))))) | exact (UpdF.tail (by k_ne) (UpdF.tail (by k_ne) (UpdF.head (by ((repeat (first | exact newsNe (by assumption) (by omega) | exact List.forall_mem_nil _ | refine List.forall_mem_cons.mpr ⟨(by k_ne), ?_⟩))))))) | exact (UpdF.tail (by k_ne) (UpdF.tail (by k_ne) (UpdF.tail (by k_ne) (UpdF.head (by ((repeat (first | exact newsNe (by assumption) (by omega) | exact List.forall_mem_nil _ | refine List.forall_mem_cons.mpr ⟨(by k_ne), ?_⟩)))))))) | exact (UpdF.tail (by k_ne) (UpdF.tail (by k_ne) (UpdF.tail (by k_ne) (UpdF.tail (by k_ne) (UpdF.head (by ((repeat (first | exact newsNe (by assumption) (by omega) | exact List.forall_mem_nil _ | refine List.forall_mem_cons.mpr ⟨(by k_ne), ?_⟩)))))))))))) (by assumption) ?_); intro _ _ _ _ _; (try dsimp only)) | ((with_reducible show wpAny _ _ (binaryOp _ (Value.ref _) (Value.ref _)) _ _ _); refine r_add (vs := [_]) ‹Fr _ _ _ _› ‹News _ _ _ _› (by ((repeat (first | assumption | exact List.Mem.head _ | apply List.mem_cons_of_mem | apply List.mem_append_left)))) (by ((repeat (first | assumption | exact List.Mem.head _ | apply List.mem_cons_of_mem | apply List.mem_append_left)))) (by simp; omega) ?_; intro _ _ _ _ l1; k_lt l1; (try dsimp only)) | ((with_reducible show wpAny _ _ (compareOp _ (Value.ref _) (Value.ref _)) _ _ _); refine rich_ord true ‹News _ _ _ _› (by ((repeat (first | assumption | exact List.Mem.head _ | apply List.mem_cons_of_mem | apply List.mem_append_left)))) (by ((repeat (first | assumption | exact List.Mem.head _ | apply List.mem_cons_of_mem | apply List.mem_append_left)))) (by assumption) (by assumption) (by assumption) (by units_room) ?_; (try dsimp only)) | walk1 | ((with_reducible show wpAny _ _ (PySem.storeName _ _ _) _ _ _); (refine storeX_C ‹Fr _ _ _ _› ‹News _ _ _ _› (by rfl) (by ((first | exact (UpdF.head (by ((repeat (first | exact newsNe (by assumption) (by omega) | exact List.forall_mem_nil _ | refine List.forall_mem_cons.mpr ⟨(by k_ne), ?_⟩))))) | exact (UpdF.tail (by k_ne) (UpdF.head (by ((repeat (first | exact newsNe (by assumption) (by omega) | exact List.forall_mem_nil _ | refine List.forall_mem_cons.mpr ⟨(by k_ne), ?_⟩)))))) | exact (UpdF.tail (by k_ne) (UpdF.tail (by k_ne) (UpdF.head (by ((repeat (first | exact newsNe (by assumption) (by omega) | exact List.forall_mem_nil _ | refine List.forall_mem_cons.mpr ⟨(by k_ne), ?_⟩))))))) | exact (UpdF.tail (by k_ne) (UpdF.tail (by k_ne) (UpdF.tail (by k_ne) (UpdF.head (by ((repeat (first | exact newsNe (by assumption) (by omega) | exact List.forall_mem_nil _ | refine List.forall_mem_cons.mpr ⟨(by k_ne), ?_⟩)))))))) | exact (UpdF.tail (by k_ne) (UpdF.tail (by k_ne) (UpdF.tail (by k_ne) (UpdF.tail (by k_ne) (UpdF.head (by ((repeat (first | exact newsNe (by assumption) (by omega) | exact List.forall_mem_nil _ | refine List.forall_mem_cons.mpr ⟨(by k_ne), ?_⟩)))))))))))) (by assumption) ?_); intro _ _ _ _ _; (try dsimp only)) | ((with_reducible show wpAny _ _ (subscriptTail _ _ (Value.ref _) (Value.int _ _)) _ _ _); refine r_item' ‹News _ _ _ _› (by ((repeat (first | assumption | exact List.Mem.head _ | apply List.mem_cons_of_mem | apply List.mem_append_left)))) rfl (by assumption) (by omega) ?_ (by with_unfolding_all rfl); (try dsimp only)) | (dsimp only; walk1) | (leave1; walk_say "STEP leave1"; try dsimp only))))
    rename Fr _ _ _ _ => F9
    rename News _ _ _ _ => N9
    rename_i M0 t0 _ hM1 hM2
    refine Came.ret_drop [] F9 N9 (fun p hp => .tail _ (.tail _ (.tail _ (.tail _ (.tail _ hp))))) ⟨rfl, t0, ?_⟩
    have hne5 : hvSums P5 W5 back 5 ≠ [] := by
      intro q
      have := hsv.length
      rw [q, hsl] at this
      simp at this
    unfold heavy
    cases hq : hvSums P5 W5 back 5 with
    | nil => exact absurd hq hne5
    | cons a l =>
      rw [hq] at hM1 hM2
      rw [max_of hM1 hM2]
      rfl
end Mine
end
section
open PySem PySem.W PyProof.Rows PySem.Spec PySem.Calls
set_option maxRecDepth 100000
namespace Mine
noncomputable def bOf (P : List (List It)) : List Bool := [(0, 1), (0, 2), (1, 2), (0, 3), (1, 3), (2, 3), (0, 4), (1, 4), (2, 4), (3, 4)].map fun (x : Nat × Nat) => ltI (P.getD x.2 []) (P.getD x.1 [])
theorem bools_all : ∀ (n : Nat) (l : List Bool), l.length = n → l ∈ bools n
  | 0, l, h => by
    have := List.length_eq_zero_iff.mp h
    subst this
    simp [bools]
  | n + 1, x :: l, h => by
    have := bools_all n l (by simpa using h)
    unfold bools
    refine List.mem_flatMap.mpr ⟨l, this, ?_⟩
    cases x <;> simp
theorem bOf_mem (P : List (List It)) : bOf P ∈ bools 10 := bools_all 10 _ rfl
theorem gt_bOf (P : List (List It)) : ∀ i, i < 5 → ∀ k, k < i → gtB (bOf P) k i = ltI (P.getD i []) (P.getD k []) := by
  intro i hi k hk
  rcases (show i = 0 ∨ i = 1 ∨ i = 2 ∨ i = 3 ∨ i = 4 by (first | lia | omega)) with rfl | rfl | rfl | rfl | rfl
  · (first | lia | omega)
  · rcases (show k = 0 by (first | lia | omega)) with rfl; rfl
  · rcases (show k = 0 ∨ k = 1 by (first | lia | omega)) with rfl | rfl <;> rfl
  · rcases (show k = 0 ∨ k = 1 ∨ k = 2 by (first | lia | omega)) with rfl | rfl | rfl <;> rfl
  · rcases (show k = 0 ∨ k = 1 ∨ k = 2 ∨ k = 3 by (first | lia | omega)) with rfl | rfl | rfl | rfl <;> rfl
theorem fold_cast : ∀ (l : List Nat) (a : Nat), (l.map fun (x : Nat) => (x : Int)).foldl max (a : Int) = ((l.foldl max a : Nat) : Int)
  | [], _ => rfl
  | x :: l, a => by
    rw [List.map_cons, List.foldl_cons, List.foldl_cons, ← fold_cast l (max a x)]
    congr 1
    (first | lia | omega)
theorem getD_cast (l : List Nat) (k : Nat) : (l.map fun (x : Nat) => (x : Int)).getD k 0 = ((l.getD k 0 : Nat) : Int) := by
  simp only [List.getD_eq_getElem?_getD, List.getElem?_map]
  cases l[k]? <;> rfl
theorem fm_congr {α β : Type} {f g : α → Option β} : ∀ {l : List α}, (∀ x ∈ l, f x = g x) → l.filterMap f = l.filterMap g
  | [], _ => rfl
  | x :: l, h => by
    rw [List.filterMap_cons, List.filterMap_cons, h x (.head _), fm_congr (fun y hy => h y (.tail _ hy))]
theorem hv_eq {P : List (List It)} {t : List Nat} {W : List Int} (back : Bool) (hW : ∀ i, i < 5 → W.getD i 0 = ((2 - t.getD i 0 : Nat) : Int)) :
    ∀ i, i ≤ 5 → hvSums P W (if back then 1 else 0) i = (hvL (bOf P) t back i).map fun (x : Nat) => (x : Int)
  | 0, _ => rfl
  | i + 1, h => by
    have ih := hv_eq (P := P) back hW i (by (first | lia | omega))
    unfold hvSums hvL
    rw [ih, hW i (by (first | lia | omega))]
    simp only [List.map_append, List.map_cons, List.map_nil]
    congr 2
    rw [Int.natCast_add]
    congr 1
    rw [← fold_cast, List.map_filterMap]
    show List.foldl max ((0 : Nat) : Int) _ = _
    congr 1
    apply fm_congr
    intro k hk
    have hk := List.mem_range.mp hk
    rw [gt_bOf P i (by (first | lia | omega)) k hk, getD_cast]
    cases back <;> cases ltI (P.getD i []) (P.getD k []) <;> simp
theorem hvL_len (b : List Bool) (t : List Nat) (back : Bool) : ∀ i, (hvL b t back i).length = i
  | 0 => rfl
  | i + 1 => by simp [hvL, hvL_len b t back i]
theorem heavy_eq {P : List (List It)} {t : List Nat} {W : List Int} (back : Bool) (hW : ∀ i, i < 5 → W.getD i 0 = ((2 - t.getD i 0 : Nat) : Int)) :
    heavy P W (if back then 1 else 0) = ((heavyL (bOf P) t back : Nat) : Int) := by
  unfold heavy heavyL
  rw [hv_eq back hW 5 (by (first | lia | omega))]
  have hl := hvL_len (bOf P) t back 5
  cases hh : hvL (bOf P) t back 5 with
  | nil => rw [hh] at hl; simp at hl
  | cons x l =>
    simp only [List.map_cons, List.tail_cons, List.headD_cons, List.foldl_cons]
    rw [fold_cast, Nat.zero_max]
end Mine
end
section
open PySem PySem.W PyProof.Rows PySem.Spec PySem.Calls
set_option maxRecDepth 100000
namespace Mine
theorem itLt_trans {x y z : It} (h1 : itLt x y = true) (h2 : itLt y z = true) : itLt x z = true := by
  cases x <;> cases y <;> cases z <;> simp [itLt] at h1 h2 ⊢
  · (first | lia | omega)
  · exact List.lt_trans h1 h2
theorem itLt_irr (x : It) : itLt x x = false := by
  cases x <;> simp [itLt]
theorem itLt_tri {x y : It} (hk : kind x y = true) (hn : x ≠ y) : itLt x y = true ∨ itLt y x = true := by
  cases x <;> cases y <;> simp [itLt, kind] at hk hn ⊢
  · (first | lia | omega)
  · rename_i a b
    by_cases h : a < b
    · exact .inl h
    · refine .inr ?_
      rcases List.le_iff_lt_or_eq.mp (List.not_lt.mp h) with h | h
      · exact h
      · exact absurd h.symm hn
theorem ltI_irr : ∀ l : List It, ltI l l = false
  | [] => rfl
  | x :: l => by simp [ltI, ltI_irr l]
theorem ltI_trans : ∀ {x y z : List It}, ltI x y = true → ltI y z = true → ltI x z = true
  | [], [], _, h, _ => by simp [ltI] at h
  | [], _ :: _, [], _, h => by simp [ltI] at h
  | [], _ :: _, _ :: _, _, _ => rfl
  | _ :: _, [], _, h, _ => by simp [ltI] at h
  | _ :: _, _ :: _, [], _, h => by simp [ltI] at h
  | a :: x, b :: y, c :: z, h1, h2 => by
    unfold ltI at h1 h2 ⊢
    by_cases e1 : a = b
    · subst e1
      rw [if_pos rfl] at h1
      by_cases e2 : a = c
      · rw [if_pos e2] at h2 ⊢
        exact ltI_trans h1 h2
      · rw [if_neg e2] at h2 ⊢
        exact h2
    · rw [if_neg e1] at h1
      by_cases e2 : b = c
      · subst e2
        rw [if_neg e1]
        exact h1
      · rw [if_neg e2] at h2
        have := itLt_trans h1 h2
        have hn : a ≠ c := fun e => by
          subst e
          rw [itLt_irr] at this
          cases this
        rw [if_neg hn]
        exact this
theorem ltI_tri : ∀ {x y : List It}, Comp x y = true → x = y ∨ ltI x y = true ∨ ltI y x = true
  | [], [], _ => .inl rfl
  | [], _ :: _, _ => .inr (.inl rfl)
  | _ :: _, [], _ => .inr (.inr rfl)
  | a :: x, b :: y, h => by
    unfold Comp at h
    unfold ltI
    by_cases e : a = b
    · subst e
      rw [if_pos rfl] at h
      simp only [if_true]
      rcases ltI_tri h with h | h | h
      · exact .inl (by rw [h])
      · exact .inr (.inl h)
      · exact .inr (.inr h)
    · rw [if_neg e] at h
      rw [if_neg e, if_neg (Ne.symm e)]
      exact .inr (itLt_tri h e)
theorem less_bOf (P : List (List It)) {x y : Nat} (hx : x < 5) (hy : y < 5) : lessB (bOf P) x y = (if x < y then !ltI (P.getD y []) (P.getD x []) else if y < x then ltI (P.getD x []) (P.getD y []) else false) := by
  unfold lessB
  by_cases h : x < y
  · rw [if_pos h, if_pos (by simp [Nat.blt]; (first | lia | omega)), gt_bOf P y hy x h]
  · rw [if_neg h, if_neg (by simp [Nat.blt]; (first | lia | omega))]
    by_cases h' : y < x
    · rw [if_pos h', if_pos (by simp [Nat.blt]; (first | lia | omega)), gt_bOf P x hx y h']
    · rw [if_neg h', if_neg (by simp [Nat.blt]; (first | lia | omega))]
theorem less_iff (P : List (List It)) (hC : ∀ i j, i < 5 → j < 5 → Comp (P.getD i []) (P.getD j []) = true) {x y : Nat} (hx : x < 5) (hy : y < 5) :
    lessB (bOf P) x y = true ↔ ltI (P.getD x []) (P.getD y []) = true ∨ (P.getD x [] = P.getD y [] ∧ x < y) := by
  rw [less_bOf P hx hy]
  have ht := ltI_tri (hC x y hx hy)
  have has : ∀ {a b : List It}, ltI a b = true → ltI b a = true → False := fun h1 h2 => by
    have := ltI_trans h1 h2
    rw [ltI_irr] at this
    cases this
  by_cases h : x < y
  · rw [if_pos h]
    constructor
    · intro hh
      rcases ht with e | e | e
      · exact .inr ⟨e, h⟩
      · exact .inl e
      · rw [e] at hh; cases hh
    · intro hh
      rcases hh with e | ⟨e, _⟩
      · cases hy : ltI (P.getD y []) (P.getD x []) with
        | false => rfl
        | true => exact (has e hy).elim
      · rw [e, ltI_irr]; rfl
  · rw [if_neg h]
    by_cases h' : y < x
    · rw [if_pos h']
      constructor
      · exact .inl
      · rintro (e | ⟨_, e⟩)
        · exact e
        · (first | lia | omega)
    · rw [if_neg h']
      have : x = y := by (first | lia | omega)
      subst this
      constructor
      · intro h; cases h
      · rintro (e | ⟨_, e⟩)
        · rw [ltI_irr] at e; cases e
        · (first | lia | omega)
theorem trans_bOf (P : List (List It)) (hC : ∀ i j, i < 5 → j < 5 → Comp (P.getD i []) (P.getD j []) = true) : transB (bOf P) = true := by
  unfold transB
  refine List.all_eq_true.mpr fun x hx => List.all_eq_true.mpr fun y hy => List.all_eq_true.mpr fun z hz => ?_
  have hx := List.mem_range.mp hx
  have hy := List.mem_range.mp hy
  have hz := List.mem_range.mp hz
  cases h1 : lessB (bOf P) x y with
  | false => rfl
  | true =>
    cases h2 : lessB (bOf P) y z with
    | false => rfl
    | true =>
      have h3 : lessB (bOf P) x z = true := by
        rw [less_iff P hC hx hy] at h1
        rw [less_iff P hC hy hz] at h2
        rw [less_iff P hC hx hz]
        rcases h1 with h1 | ⟨e1, l1⟩
        · rcases h2 with h2 | ⟨e2, l2⟩
          · exact .inl (ltI_trans h1 h2)
          · rw [← e2]; exact .inl h1
        · rcases h2 with h2 | ⟨e2, l2⟩
          · rw [e1]; exact .inl h2
          · exact .inr ⟨e1.trans e2, by (first | lia | omega)⟩
      rw [h3]
      rfl
end Mine
end
section
open PySem PySem.W PyProof.Rows PySem.Spec PySem.Calls
set_option maxRecDepth 100000
set_option maxHeartbeats 4000000
namespace Mine
inductive Tagged : List It → Prop where
  | nil : Tagged []
  | num (n : Int) {l : List It} : Tagged l → Tagged (.i 100 :: .i n :: l)
  | word (r : Int) (x : List Nat) {l : List It} : r ≠ 100 → Tagged l → Tagged (.i r :: .s x :: l)
theorem Tagged.append {a b : List It} (ha : Tagged a) (hb : Tagged b) : Tagged (a ++ b) := by
  induction ha with
  | nil => exact hb
  | num n _ ih => exact .num n ih
  | word r x h _ ih => exact .word r x h ih
theorem Tagged.comp {a b : List It} (ha : Tagged a) (hb : Tagged b) : Comp a b = true := by
  induction ha generalizing b with
  | nil => cases b <;> rfl
  | num n _ ih =>
    cases hb with
    | nil => rfl
    | num m h =>
      unfold Comp
      rw [if_pos rfl]
      unfold Comp
      by_cases e : It.i n = It.i m
      · rw [if_pos e]; exact ih h
      · rw [if_neg e]; rfl
    | word r x hr h =>
      unfold Comp
      rw [if_neg (fun e => hr (by injection e with e; exact e.symm))]
      rfl
  | word r x hr _ ih =>
    cases hb with
    | nil => rfl
    | num m h =>
      unfold Comp
      rw [if_neg (fun e => hr (by injection e))]
      rfl
    | word r' x' hr' h =>
      unfold Comp
      by_cases e0 : It.i r = It.i r'
      · rw [if_pos e0]
        unfold Comp
        by_cases e : It.s x = It.s x'
        · rw [if_pos e]; exact ih h
        · rw [if_neg e]; rfl
      · rw [if_neg e0]; rfl
theorem rank_ok : ∀ k, k < 12 → ((relTab.getD k ([], 0)).1 = [] ∨ (relTab.getD k ([], 0)).2 ≠ 100) := by decide +kernel
theorem rel_tagged (d : Int) : Tagged (relParts d) := by
  unfold relParts
  have b2 : ((d.fdiv 4).fmod 12).toNat < 12 := (toNat_lt (d.fdiv 4) 12 (by decide)).1
  refine Tagged.append (Tagged.append ?_ ?_) ?_
  · split
    · exact .num _ .nil
    · exact .nil
  · split
    · exact .nil
    · rename_i h
      rcases rank_ok _ b2 with q | q
      · exact absurd q h
      · exact .word _ _ q .nil
  · split
    · exact .num _ .nil
    · exact .nil
theorem rel_comp (d e : Int) : Comp (relParts d) (relParts e) = true := (rel_tagged d).comp (rel_tagged e)
noncomputable def okT {α : Type} : KasT α → Bool
  | .ret _ => true
  | .ask i j k => Nat.blt i 5 && Nat.blt j 5 && !Nat.beq i j && okT (k true) && okT (k false)
theorem ok_sort : okT (kas_sort 5) = true := by decide +kernel
theorem kasWp_eval {α : Type} {less : Nat → Nat → Bool} {cmp : Nat → Nat → (Bool → Shared → Prop) → Shared → Prop} {s : Shared} (hc : ∀ i j (C : Bool → Shared → Prop), i < 5 → j < 5 → i ≠ j → C (less i j) s → cmp i j C s) {Q : α → Shared → Prop} :
    ∀ t : KasT α, okT t = true → Q (evalT less t) s → t.kasWp cmp Q s
  | .ret _, _, h => h
  | .ask i j k, ho, h => by
    simp only [okT, Bool.and_eq_true, Bool.not_eq_true'] at ho
    obtain ⟨⟨⟨⟨h1, h2⟩, h3⟩, h4⟩, h5⟩ := ho
    have hne : i ≠ j := fun e => by
      subst e
      have : Nat.beq i i = true := Nat.beq_refl i
      rw [h3] at this
      cases this
    show cmp i j (fun b s' => (k b).kasWp cmp Q s') s
    refine hc i j _ (by simpa using h1) (by simpa using h2) hne ?_
    have e : evalT less (.ask i j k) = evalT less (k (less i j)) := rfl
    rw [e] at h
    cases hb : less i j with
    | true =>
      rw [hb] at h
      exact kasWp_eval hc (k true) h4 h
    | false =>
      rw [hb] at h
      exact kasWp_eval hc (k false) h5 h
theorem pairLt_less (P : List (List It)) (hC : ∀ i j, i < 5 → j < 5 → Comp (P.getD i []) (P.getD j []) = true) {x y : Nat} (hx : x < 5) (hy : y < 5) : pairLt (P.getD x []) (P.getD y []) (x : Int) (y : Int) = lessB (bOf P) x y := by
  have h := less_iff P hC hx hy
  unfold pairLt
  by_cases e : P.getD x [] = P.getD y []
  · rw [if_pos e]
    rw [e, ltI_irr] at h
    by_cases hxy : x < y
    · have : lessB (bOf P) x y = true := h.mpr (.inr ⟨rfl, hxy⟩)
      rw [this]
      simp [hxy]
    · have : ¬ lessB (bOf P) x y = true := fun q => by
        rcases h.mp q with q | q
        · cases q
        · exact hxy q.2
      rw [Bool.not_eq_true] at this
      rw [this]
      simp [hxy]
  · rw [if_neg e]
    cases hb : ltI (P.getD x []) (P.getD y []) with
    | true => exact (h.mpr (.inl hb)).symm
    | false =>
      have : ¬ lessB (bOf P) x y = true := fun q => by
        rcases h.mp q with q | q
        · rw [hb] at q; cases q
        · exact e q.1
      rw [Bool.not_eq_true] at this
      exact this.symm
end Mine
end
section
open PySem PySem.W PyProof.Rows PySem.Spec PySem.Calls
set_option maxRecDepth 100000
set_option maxHeartbeats 0
set_option pp.maxSteps 6000
namespace Mine
noncomputable def P5 (ns : List Int) : List (List It) := (num5 ns).map relParts
theorem P5_getD {ns : List Int} {k : Nat} (h : k < 5) : (P5 ns).getD k [] = relParts ((num5 ns).getD k 0) := by
  have hl : k < (num5 ns).length := by rw [num5_len]; exact h
  simp [P5, List.getD_eq_getElem?_getD, hl]
theorem P5_comp (ns : List Int) : ∀ i j, i < 5 → j < 5 → Comp ((P5 ns).getD i []) ((P5 ns).getD j []) = true := fun i j hi hj => by
  rw [P5_getD hi, P5_getD hj]
  exact rel_comp _ _
noncomputable def ordOf (ns : List Int) : List Nat := orderB (bOf (P5 ns))
theorem blk_mem : ∀ (l : List Blk) (j k : Nat) (b : Blk), l[k]? = some b → ∀ q ∈ b.objs (j + k), q ∈ blkObjs j l
  | [], _, _, _, h, _, _ => by simp at h
  | c :: r, j, 0, b, h, q, hq => by
    have e : c = b := by simpa using h
    subst e
    exact List.mem_append_left _ hq
  | c :: r, j, k + 1, b, h, q, hq => by
    refine List.mem_append_right _ (blk_mem r (j + 1) k b (by simpa using h) q ?_)
    rw [show j + 1 + k = j + (k + 1) by omega]
    exact hq
theorem Inc.get : ∀ {l : List Blk} {lo : Nat}, Inc lo l → ∀ {k : Nat} {b : Blk}, l[k]? = some b → b.P < b.R ∧ b.R < b.T ∧ b.T < b.D ∧ lo < b.P
  | [], _, _, _, _, h => by simp at h
  | c :: r, lo, ⟨a1, a2, a3, a4, a5⟩, 0, b, h => by
    have e : c = b := by simpa using h
    subst e
    exact ⟨a2, a3, a4, a1⟩
  | c :: r, lo, ⟨a1, a2, a3, a4, a5⟩, k + 1, b, h => by
    refine hideG ?_
    intro Cg hCg
    obtain ⟨b1, b2, b3, b4⟩ := Inc.get a5 (k := k) (by simpa using h)
    refine hCg ?_
    clear hCg Cg
    exact ⟨b1, b2, b3, by omega⟩
theorem Inc.ne2 : ∀ {l : List Blk} {lo : Nat}, Inc lo l → ∀ {i j : Nat} {b c : Blk}, l[i]? = some b → l[j]? = some c → i ≠ j → b.R ≠ c.R ∧ b.P ≠ c.P
  | [], _, _, _, _, _, _, h, _, _ => by simp at h
  | x :: r, lo, ⟨a1, a2, a3, a4, a5⟩, 0, 0, b, c, h, h', hn => absurd rfl hn
  | x :: r, lo, ⟨a1, a2, a3, a4, a5⟩, 0, j + 1, b, c, h, h', hn => by
    have e : x = b := by simpa using h
    subst e
    have := Inc.get a5 (k := j) (by simpa using h')
    omega
  | x :: r, lo, ⟨a1, a2, a3, a4, a5⟩, i + 1, 0, b, c, h, h', hn => by
    have e : x = c := by simpa using h'
    subst e
    have := Inc.get a5 (k := i) (by simpa using h)
    omega
  | x :: r, lo, ⟨a1, a2, a3, a4, a5⟩, i + 1, j + 1, b, c, h, h', hn => Inc.ne2 a5 (by simpa using h) (by simpa using h') (by omega)
theorem Inc.ne {l : List Blk} {lo : Nat} (H : Inc lo l) {i j : Nat} {b c : Blk} (h : l[i]? = some b) (h' : l[j]? = some c) (hn : i ≠ j) : b.R ≠ c.R := (Inc.ne2 H h h' hn).1
theorem Inc.neP {l : List Blk} {lo : Nat} (H : Inc lo l) {i j : Nat} {b c : Blk} (h : l[i]? = some b) (h' : l[j]? = some c) (hn : i ≠ j) : b.P ≠ c.P := (Inc.ne2 H h h' hn).2
theorem order_five (b : List Bool) (h : b ∈ bools 10) : (orderB b).length = 5 ∧ ∀ i ∈ orderB b, i < 5 := by
  have q := List.all_eq_true.mp order_ok b h
  rw [Bool.and_eq_true] at q
  refine ⟨by simpa using q.1, fun i hi => ?_⟩
  have := List.all_eq_true.mp q.2 i hi
  simpa using this
theorem ord_five (ns : List Int) : (ordOf ns).length = 5 ∧ ∀ i ∈ ordOf ns, i < 5 := order_five _ (bOf_mem _)
section
variable {prog : Program} {w : World} {A : Around} {E : Value → Shared → Prop} {s : Shared} {h₀ : Heap} {L : Addr} {m : Str → Option Value} {news : List (Addr × Obj)}
theorem r_sorted {l : Addr} {bl : List Blk} {f rf : Blk → Nat} {ns : List Int} {c : Nat} {Q : Value → Shared → Prop} (F : Fr h₀ L s.heap m) (N : News h₀ L s.heap news) (hl : (l, W.listOf (bl.map fun b => Value.ref (f b)).toArray c) ∈ news) (h5 : bl.length = 5)
    (hun : A.units + 30 < cLine)
    (hb : ∀ (k : Nat) b, bl[k]? = some b → ∃ vs n1 n2 t, (f b, pairObj (rf b) (k : Int) t n1) ∈ news ∧ (rf b, W.listOf vs.toArray n2) ∈ news ∧ ItsAre vs (relParts ((num5 ns).getD k 0)))
    (hR : ∀ (i j : Nat) b c, bl[i]? = some b → bl[j]? = some c → i ≠ j → rf b ≠ rf c)
    (h : ∀ D h' e, Fr h₀ L h' m → News h₀ L h' ((D, W.listOf ((ordOf ns).map fun i => (bl.map fun b => Value.ref (f b)).getD i Value.none).toArray e) :: news) → (∀ q ∈ news, q.1 < D) → Q (.ref D) { s with heap := h' }) :
    wpAny (model prog w) A (call (.builtin "sorted") [.ref l]) Q E s := by
  have hlen : (bl.map fun b => Value.ref (f b)).length = 5 := by simp [h5]
  refine kas_sorted (T := .type "list") F N (isListN N hl) (by omega) (by omega) (fun h1 F1 N1 v hv => ?_) (by rfl) fun D e1 h1 F1 N1 hD => ?_
  · obtain ⟨b, hb1, rfl⟩ := List.mem_map.mp hv
    obtain ⟨k, hk⟩ := List.getElem?_of_mem hb1
    refine hideG ?_
    intro Cg hCg
    obtain ⟨vs, n1, n2, t, m1, _⟩ := hb k b hk
    refine hCg ?_
    clear hCg Cg
    exact fun A Q E s k q => wpAny_typeOf ⟨_, k _ _ (N1 _ m1).1, rfl⟩ q
  · rw [hlen]
    refine kasWp_eval (less := lessB (bOf (P5 ns))) (fun i j C hi hj hij hC => ?_) _ ok_sort ?_
    · obtain ⟨b, hbi⟩ : ∃ b, bl[i]? = some b := ⟨_, List.getElem?_eq_getElem (by omega)⟩
      obtain ⟨c', hbj⟩ : ∃ b, bl[j]? = some b := ⟨_, List.getElem?_eq_getElem (by omega)⟩
      refine hideG ?_
      intro Cg hCg
      obtain ⟨vs1, n1, n1', t1, m1, m1', i1⟩ := hb i b hbi
      refine hCg ?_
      clear hCg Cg
      refine hideG ?_
      intro Cg hCg
      obtain ⟨vs2, n2, n2', t2, m2, m2', i2⟩ := hb j c' hbj
      refine hCg ?_
      clear hCg Cg
      unfold kas_ask
      have e1 : (bl.map fun b => Value.ref (f b)).getD i Value.none = .ref (f b) := by simp [List.getD_eq_getElem?_getD, hbi]
      have e2 : (bl.map fun b => Value.ref (f b)).getD j Value.none = .ref (f c') := by simp [List.getD_eq_getElem?_getD, hbj]
      rw [e1, e2]
      refine pair_lt N1 (.tail _ m1) (.tail _ m2) (.tail _ m1') (.tail _ m2') i1 i2 (rel_comp _ _) (hR i j b c' hbi hbj hij) (by omega) (by show A.units + 1 + 1 + 8 < cLine; omega) ?_
      rw [← P5_getD hi, ← P5_getD hj, pairLt_less (P5 ns) (P5_comp ns) hi hj]
      exact hC
    · exact KasFin.intro F1 N1 (UpdF.head fun q hq => Nat.ne_of_lt (hD q hq)) fun h' c' F' N' => h D h' c' F' N' hD
end
noncomputable def datIt : It → PySem.W.Dat
  | .i n => .int n
  | .s x => .str (ofL x)
theorem its_dat {news : List (Addr × Obj)} {vs : List Value} {xs : List It} (h : ItsAre vs xs) : PySem.W.DatAll news vs (xs.map datIt) := by
  induction h with
  | nil => exact .nil
  | cons a _ ih =>
    refine .cons ?_ ih
    cases a with
    | i n t => exact .int n t
    | s x t => exact .str (ofL x) t
noncomputable def datPair (ns : List Int) (k : Nat) : PySem.W.Dat := .list [.list ((relParts ((num5 ns).getD k 0)).map datIt), .int (k : Int)]
theorem pairs_dat {news : List (Addr × Obj)} {bl : List Blk} {f rf : Blk → Nat} {ns : List Int} (hb : ∀ (k : Nat) b, bl[k]? = some b → ∃ vs n1 n2 t, (f b, pairObj (rf b) (k : Int) t n1) ∈ news ∧ (rf b, W.listOf vs.toArray n2) ∈ news ∧ ItsAre vs (relParts ((num5 ns).getD k 0))) (h5 : bl.length = 5) :
    ∀ (l : List Nat), (∀ i ∈ l, i < 5) → PySem.W.DatAll news (l.map fun i => (bl.map fun b => Value.ref (f b)).getD i Value.none) (l.map (datPair ns))
  | [], _ => .nil
  | k :: r, h => by
    have hk := h k (.head _)
    obtain ⟨b, hbk⟩ : ∃ b, bl[k]? = some b := ⟨_, List.getElem?_eq_getElem (by omega)⟩
    refine hideG ?_
    intro Cg hCg
    obtain ⟨vs, n1, n2, t, m1, m2, i1⟩ := hb k b hbk
    refine hCg ?_
    clear hCg Cg
    have e1 : (bl.map fun b => Value.ref (f b)).getD k Value.none = .ref (f b) := by simp [List.getD_eq_getElem?_getD, hbk]
    rw [List.map_cons, List.map_cons, e1]
    exact .cons (.list m1 (.cons (.list m2 (its_dat i1)) (.cons (.int _ _) .nil))) (pairs_dat hb h5 r fun i hi => h i (.tail _ hi))
theorem word_ok : ∀ k, k < 12 → PyData.strOk (ofL (relTab.getD k ([], 0)).1) = true := by decide +kernel
theorem parts_ok (d : Int) : ∀ x ∈ relParts d, PySem.W.kqdOk 6 (datIt x) = true := by
  intro x hx
  have b2 : ((d.fdiv 4).fmod 12).toNat < 12 := (toNat_lt (d.fdiv 4) 12 (by decide)).1
  unfold relParts at hx
  simp only [List.mem_append] at hx
  rcases hx with (hx | hx) | hx
  · split at hx
    · rcases List.mem_cons.mp hx with rfl | hx
      · rfl
      · rw [List.mem_singleton.mp hx]; rfl
    · cases hx
  · split at hx
    · cases hx
    · rcases List.mem_cons.mp hx with rfl | hx
      · rfl
      · rw [List.mem_singleton.mp hx]
        exact word_ok _ b2
  · split at hx
    · rcases List.mem_cons.mp hx with rfl | hx
      · rfl
      · rw [List.mem_singleton.mp hx]; rfl
    · cases hx
theorem pair_ok (ns : List Int) (k : Nat) : PySem.W.kqdOk 8 (datPair ns k) = true := by
  simp only [datPair, PySem.W.kqdOk, List.all_cons, List.all_nil, Bool.and_true, List.all_map]
  exact List.all_eq_true.mpr fun x hx => parts_ok _ x hx
theorem ne_same {prog : Program} {w : World} {A : Around} {E : Value → Shared → Prop} {s : Shared} {h₀ : Heap} {L a b : Addr} {oa ob : Obj} {xs ys : List Value} {ka kb : Nat} {n₁ n₂ news : List (Addr × Obj)} {ds : List PySem.W.Dat} {Q : Value → Shared → Prop} (N : News h₀ L s.heap news) (ma : (a, oa) ∈ news) (ca : oa.cls = .type "list") (da : oa.data = .seq xs.toArray ka) (Da : PySem.W.DatAll n₁ xs ds) (sa : ∀ p ∈ n₁, p ∈ news)
    (mb : (b, ob) ∈ news) (cb : ob.cls = .type "list") (db : ob.data = .seq ys.toArray kb) (Db : PySem.W.DatAll n₂ ys ds) (sb : ∀ p ∈ n₂, p ∈ news)
    (ha : ∀ d ∈ ds, PySem.W.kqdOk 8 d = true) (hu : A.units + 64 < cLine) (h : Q (.bool false) s) : wpAny (model prog w) A (compareOp .NotEq (.ref a) (.ref b)) Q E s := by
  refine kqd_ne N ma ca da Da sa mb cb db Db sb ha ha hu ?_
  have e : ∀ i : Decidable (ds = ds), (!@decide (ds = ds) i) = false := fun i => by
    cases i with
    | isTrue _ => rfl
    | isFalse h => exact absurd rfl h
  rw [e]
  exact h
noncomputable def L2 (L D : Addr) (ws : List Value) (oT o' : Obj) (ns : List Int) (tz : Tok) (m : Str → Option Value) (nx : List (Addr × Obj)) : Prop :=
  ∃ (A1 L1 : Nat) (bl : List Blk) (ca cl : Nat), nx = (A1, W.listOf ((ordOf ns).map fun i => (bl.map fun b => Value.ref b.T).getD i Value.none).toArray ca) :: (L1, W.listOf (bl.map fun b => Value.ref b.P).toArray cl) :: (D, W.listOf ws.toArray 0) :: (L + 1 + 1, oT) :: (L + 1, o') :: blkObjs 0 bl ∧ bl.length = 5 ∧
    (∀ k b, bl[k]? = some b → ItsAre b.pv (relParts ((num5 ns).getD k 0)) ∧ ItsAre b.rv (relParts ((num5 ns).getD k 0))) ∧ Inc L1 bl ∧ @LT.lt Nat _ D L1 ∧ L1 < A1 ∧ (∀ q ∈ blkObjs 0 bl, @LT.lt Nat _ q.1 A1) ∧
    m (Str.ofString "size") = some (.int ns.length tz) ∧ m (Str.ofString "ages") = some (.ref A1) ∧ m (Str.ofString "lists") = some (.ref L1)
theorem law2 {w : World} {mean mg mb} {h₀ : Heap} {L a sa D T1 D1 L1 : Addr} {cd : Value} {s : Shared} {ns : List Int} {tz : Tok} {ws : List Value} {oT o' : Obj} {m : Str → Option Value} {nx : List (Addr × Obj)} (F : Fr h₀ L s.heap m) (N : News h₀ L s.heap nx) (J : LJ L L1 D1 T1 D ws oT o' ns sa tz 5 m nx)
   (X : (hd.heap_1 w.params).In h₀) (T : Top VW LS mean mg mb h₀) (lD : L + 1 + 1 < D) (lT : D < T1) (lDT : T1 < D1) (lL : D1 < L1) {Q : Flow → Shared → Prop}
   (hQ : ∀ s', LSt h₀ L s (L2 L D ws oT o' ns tz) s' → wpAny (model PG w) (lawA L a cd) (execs (lawBody.drop 8) (lawEnv L a cd)) Q (fun _ _ => False) s') :
   wpAny (model PG w) (lawA L a cd) (execs (lawBody.drop 6) (lawEnv L a cd)) Q (fun _ _ => False) s := by
  revert hQ
  refine fillIt ?_
  k_fill
  intro _
  ((unfold lawA lawEnv lawBody lawScope lawDef PySem.Challenge.pw_pu0021_01; dsimp only [bodyOf, scopeOf, List.getLast!, List.getLast, List.drop, List.take, Option.getD, List.getD, List.getElem?_cons_zero, List.getElem?_cons_succ]))
  intro hQ
  refine hideG ?_
  intro Cg hCg
  obtain ⟨hp, gs, dr, tk0, os0⟩ := s
  refine hCg ?_
  clear hCg Cg
  refine hideG ?_
  intro Cg hCg
  obtain ⟨bl, cl, cd', ct, rfl, hbl, hgood, hinc, e1, e2, e3, e4, e5⟩ := J
  refine hCg ?_
  clear hCg Cg
  rw [mJ_of e1 e2 e3 e4 e5] at F
  unfold mJ at F
  dsimp only at F N
  have hT : ∀ (k : Nat) b, bl[k]? = some b → ∃ vs n1 n2 t, (b.T, pairObj b.R (k : Int) t n1) ∈ blkObjs 0 bl ∧ (b.R, W.listOf vs.toArray n2) ∈ blkObjs 0 bl ∧ ItsAre vs (relParts ((num5 ns).getD k 0)) := fun k b hk => by
    have hm := blk_mem bl 0 k b hk
    rw [Nat.zero_add] at hm
    exact ⟨b.rv, b.ct, b.cr, b.t1, hm _ (.tail _ (.tail _ (.head _))), hm _ (.tail _ (.head _)), (hgood k b hk).2⟩
  have hD : ∀ (k : Nat) b, bl[k]? = some b → ∃ vs n1 n2 t, (b.D, pairObj b.P (k : Int) t n1) ∈ blkObjs 0 bl ∧ (b.P, W.listOf vs.toArray n2) ∈ blkObjs 0 bl ∧ ItsAre vs (relParts ((num5 ns).getD k 0)) := fun k b hk => by
    have hm := blk_mem bl 0 k b hk
    rw [Nat.zero_add] at hm
    exact ⟨b.pv, b.cd, b.cp, b.t2, hm _ (.tail _ (.tail _ (.tail _ (.head _)))), hm _ (.head _), (hgood k b hk).1⟩
  with_reducible refine seqA (fun s' => ∃ (A1 : Nat) (ca tk : Nat) (h : Heap) (u : Str → Option Value), s' = ⟨h, gs, dr, tk, os0⟩ ∧ Fr h₀ L h (fun y => if y = Str.ofString "ages" then some (.ref A1) else mJ sa T1 D1 L1 ns.length tz u y) ∧ (∀ q ∈ (L1, W.listOf (bl.map fun b => Value.ref b.P).toArray cl) :: (D1, W.listOf (bl.map fun b => Value.ref b.D).toArray cd') :: (T1, W.listOf (bl.map fun b => Value.ref b.T).toArray ct) :: (D, W.listOf ws.toArray 0) :: (L + 1 + 1, oT) :: (L + 1, o') :: blkObjs 0 bl, @LT.lt Nat _ q.1 A1) ∧
    News h₀ L h ((A1, W.listOf ((ordOf ns).map fun i => (bl.map fun b => Value.ref b.T).getD i Value.none).toArray ca) :: (L1, W.listOf (bl.map fun b => Value.ref b.P).toArray cl) :: (D1, W.listOf (bl.map fun b => Value.ref b.D).toArray cd') :: (T1, W.listOf (bl.map fun b => Value.ref b.T).toArray ct) :: (D, W.listOf ws.toArray 0) :: (L + 1 + 1, oT) :: (L + 1, o') :: blkObjs 0 bl)) ?sa ?sb
  case sa =>
    (repeat' ((fail_if_success (with_reducible show wpAny _ _ (call (Value.builtin "sorted") _) _ _ _)); (fail_if_success (with_reducible show wpAny _ _ (compareOp _ _ _) _ _ _)); (fail_if_success (with_reducible show wpAny _ _ (PySem.exec (PySem.Stmt.For _ _ _ _ _) _) _ _ _)); (fail_if_success (with_reducible show Kept _)); (first | (k_unfold; (try dsimp only)) | (k_end; wrow_close) | walk1 | (dsimp only; walk1) | (leave1; walk_say "STEP leave1"; try dsimp only))))
    refine r_sorted (ns := ns) (rf := fun b => b.R) F N (by ((repeat (first | assumption | exact List.Mem.head _ | apply List.mem_cons_of_mem | apply List.mem_append_left)))) hbl (by show callerA.units + 3 + 30 < cLine; decide) (fun k b hk => ?_) (fun i j b c hi hj hij => hinc.ne hi hj hij) ?_
    · refine hideG ?_
      intro Cg hCg
      obtain ⟨vs, n1, n2, t, m1, m2, i1⟩ := hT k b hk
      refine hCg ?_
      clear hCg Cg
      exact ⟨vs, n1, n2, t, by ((repeat (first | assumption | exact List.Mem.head _ | apply List.mem_cons_of_mem | apply List.mem_append_left))), by ((repeat (first | assumption | exact List.Mem.head _ | apply List.mem_cons_of_mem | apply List.mem_append_left))), i1⟩
    intro A1 h1 ca F1 N1 hA
    (repeat' ((fail_if_success (with_reducible show wpAny _ _ (call (Value.builtin "sorted") _) _ _ _)); (fail_if_success (with_reducible show wpAny _ _ (compareOp _ _ _) _ _ _)); (fail_if_success (with_reducible show wpAny _ _ (PySem.exec (PySem.Stmt.For _ _ _ _ _) _) _ _ _)); (fail_if_success (with_reducible show Kept _)); (first | (k_unfold; (try dsimp only)) | (k_end; wrow_close) | walk1 | (dsimp only; walk1) | (leave1; walk_say "STEP leave1"; try dsimp only))))
    rename Fr _ _ _ _ => F2
    rename News _ _ _ _ => N2
    exact Kept.of ⟨trivial, A1, ca, _, _, _, rfl, F2, hA, N2⟩
  case sb =>
    intro _ hRg
    refine hideG ?_
    intro Cg hCg
    obtain ⟨A1, ca, tk, h1, u, rfl, F1, hA, N1⟩ := hRg
    refine hCg ?_
    clear hCg Cg
    clear F N
    unfold mJ at F1
    with_reducible refine seqA (LSt h₀ L ⟨hp, gs, dr, tk0, os0⟩ (L2 L D ws oT o' ns tz)) ?_ hQ
    (repeat' ((fail_if_success (with_reducible show wpAny _ _ (call (Value.builtin "sorted") _) _ _ _)); (fail_if_success (with_reducible show wpAny _ _ (compareOp _ _ _) _ _ _)); (fail_if_success (with_reducible show wpAny _ _ (PySem.exec (PySem.Stmt.For _ _ _ _ _) _) _ _ _)); (fail_if_success (with_reducible show Kept _)); (first | (k_unfold; (try dsimp only)) | (k_end; wrow_close) | walk1 | (dsimp only; walk1) | (leave1; walk_say "STEP leave1"; try dsimp only))))
    refine r_sorted (ns := ns) (rf := fun b => b.P) F1 N1 (by ((repeat (first | assumption | exact List.Mem.head _ | apply List.mem_cons_of_mem | apply List.mem_append_left)))) hbl (by show callerA.units + 3 + 30 < cLine; decide) (fun k b hk => ?_) (fun i j b c hi hj hij => hinc.neP hi hj hij) ?_
    · refine hideG ?_
      intro Cg hCg
      obtain ⟨vs, n1, n2, t, m1, m2, i1⟩ := hD k b hk
      refine hCg ?_
      clear hCg Cg
      exact ⟨vs, n1, n2, t, by ((repeat (first | assumption | exact List.Mem.head _ | apply List.mem_cons_of_mem | apply List.mem_append_left))), by ((repeat (first | assumption | exact List.Mem.head _ | apply List.mem_cons_of_mem | apply List.mem_append_left))), i1⟩
    intro B1 h2 cb F2 N2 hB
    clear F1 N1
    (repeat' ((fail_if_success (with_reducible show wpAny _ _ (call (Value.builtin "sorted") _) _ _ _)); (fail_if_success (with_reducible show wpAny _ _ (compareOp _ _ _) _ _ _)); (fail_if_success (with_reducible show wpAny _ _ (PySem.exec (PySem.Stmt.For _ _ _ _ _) _) _ _ _)); (fail_if_success (with_reducible show Kept _)); (first | (k_unfold; (try dsimp only)) | (k_end; wrow_close) | walk1 | (dsimp only; walk1) | (leave1; walk_say "STEP leave1"; try dsimp only))))
    obtain ⟨_, hO⟩ := ord_five ns
    have mem2 : ∀ {q : Addr × Obj}, q ∈ blkObjs 0 bl → q ∈ (B1, W.listOf ((ordOf ns).map fun i => (bl.map fun b => Value.ref b.D).getD i Value.none).toArray cb) :: (A1, W.listOf ((ordOf ns).map fun i => (bl.map fun b => Value.ref b.T).getD i Value.none).toArray ca) :: (L1, W.listOf (bl.map fun b => Value.ref b.P).toArray cl) :: (D1, W.listOf (bl.map fun b => Value.ref b.D).toArray cd') :: (T1, W.listOf (bl.map fun b => Value.ref b.T).toArray ct) :: (D, W.listOf ws.toArray 0) :: (L + 1 + 1, oT) :: (L + 1, o') :: blkObjs 0 bl := fun h => .tail _ (.tail _ (.tail _ (.tail _ (.tail _ (.tail _ (.tail _ (.tail _ h)))))))
    have DT := pairs_dat (news := blkObjs 0 bl) (f := fun b => b.T) (rf := fun b => b.R) (ns := ns) hT hbl (ordOf ns) hO
    have DD := pairs_dat (news := blkObjs 0 bl) (f := fun b => b.D) (rf := fun b => b.P) (ns := ns) hD hbl (ordOf ns) hO
    have hok : ∀ d ∈ (ordOf ns).map (datPair ns), PySem.W.kqdOk 8 d = true := fun d hd => by
      obtain ⟨k, _, rfl⟩ := List.mem_map.mp hd
      exact pair_ok ns k
    refine ne_same N2 (.tail _ (.head _)) rfl rfl DT (fun q hq => mem2 hq) (.head _) rfl rfl DD (fun q hq => mem2 hq) hok (by show callerA.units + 3 + 64 < cLine; decide) ?_
    (repeat' ((fail_if_success (with_reducible show wpAny _ _ (call (Value.builtin "sorted") _) _ _ _)); (fail_if_success (with_reducible show wpAny _ _ (compareOp _ _ _) _ _ _)); (fail_if_success (with_reducible show wpAny _ _ (PySem.exec (PySem.Stmt.For _ _ _ _ _) _) _ _ _)); (fail_if_success (with_reducible show Kept _)); (first | (k_unfold; (try dsimp only)) | (k_end; wrow_close) | walk1 | (dsimp only; walk1) | (leave1; walk_say "STEP leave1"; try dsimp only))))
    rename Fr _ _ _ _ => F3
    rename News _ _ _ _ => N3
    refine Kept.of ⟨rfl, LSt.intro F3 (fun q hq => N3 q ?_) ⟨A1, L1, bl, ca, cl, rfl, hbl, hgood, hinc, Nat.lt_trans lT (Nat.lt_trans lDT lL), hA _ (.head _), fun q hq => hA q (.tail _ (.tail _ (.tail _ (.tail _ (.tail _ (.tail _ hq)))))), rfl, rfl, rfl⟩⟩
    simp only [List.mem_cons] at hq ⊢
    rcases hq with h | h | h | h | h | h <;> simp [h]
end Mine
end
section
open PySem PySem.W PyProof.Rows PySem.Spec PySem.Calls
set_option maxRecDepth 100000
set_option maxHeartbeats 0
set_option pp.maxSteps 6000
namespace Mine
noncomputable def mA (A1 L1 : Nat) (n : Int) (tz : Tok) (u : Str → Option Value) : Str → Option Value := fun y => if y = Str.ofString "ages" then some (.ref A1) else if y = Str.ofString "size" then some (.int n tz) else if y = Str.ofString "lists" then some (.ref L1) else u y
theorem mA_of {A1 L1 : Nat} {n : Int} {tz : Tok} {m : Str → Option Value} (h1 : m (Str.ofString "size") = some (.int n tz)) (h2 : m (Str.ofString "ages") = some (.ref A1)) (h3 : m (Str.ofString "lists") = some (.ref L1)) : m = mA A1 L1 n tz m := by
  funext y
  unfold mA
  by_cases e1 : y = Str.ofString "ages"
  · rw [if_pos e1, e1, h2]
  rw [if_neg e1]
  by_cases e2 : y = Str.ofString "size"
  · rw [if_pos e2, e2, h1]
  rw [if_neg e2]
  by_cases e3 : y = Str.ofString "lists"
  · rw [if_pos e3, e3, h3]
  rw [if_neg e3]
theorem parts_len (d : Int) : (relParts d).length ≤ 6 := by
  unfold relParts
  simp only [List.length_append]
  split <;> split <;> split <;> simp
theorem law3 {w : World} {mean mg mb} {h₀ : Heap} {L a D : Addr} {cd : Value} {s : Shared} {ns : List Int} {tz : Tok} {ws : List Value} {oT o' : Obj} {m : Str → Option Value} {nx : List (Addr × Obj)} (F : Fr h₀ L s.heap m) (N : News h₀ L s.heap nx) (J : L2 L D ws oT o' ns tz m nx)
   (X : (hd.heap_1 w.params).In h₀) (T : Top VW LS mean mg mb h₀) (lD : L + 1 + 1 < D) :
   wpAny (model PG w) (lawA L a cd) (exec (lawBody.getD 8 default) (lawEnv L a cd)) (fun f s' => Kept (f = .next ∧ LSt h₀ L s (L2 L D ws oT o' ns tz) s')) (fun _ _ => False) s := by
  refine fillIt ?_
  k_fill
  intro _
  ((unfold lawA lawEnv lawBody lawScope lawDef PySem.Challenge.pw_pu0021_01; dsimp only [bodyOf, scopeOf, List.getLast!, List.getLast, List.drop, List.take, Option.getD, List.getD, List.getElem?_cons_zero, List.getElem?_cons_succ]))
  refine hideG ?_
  intro Cg hCg
  obtain ⟨hp, gs, dr, tk0, os0⟩ := s
  refine hCg ?_
  clear hCg Cg
  refine hideG ?_
  intro Cg hCg
  obtain ⟨A1, L1, bl, ca, cl, rfl, hbl, hgood, hinc, hDL, hLA, hBA, e1, e2, e3⟩ := J
  refine hCg ?_
  clear hCg Cg
  dsimp only at F N
  refine wpAny_For ?_
  rw [mA_of e1 e2 e3] at F
  unfold mA at F
  (repeat' ((fail_if_success (with_reducible show wpAny _ _ (eval (PySem.Expr.ListComp _ _ _ _) _) _ _ _)); (fail_if_success (with_reducible show wpAny _ _ (compareOp _ _ _) _ _ _)); (fail_if_success (with_reducible show wpAny _ _ (pyIter _) _ _ _)); (fail_if_success (with_reducible show wpAny _ _ (PySem.exec (PySem.Stmt.For _ _ _ _ _) _) _ _ _)); (fail_if_success (with_reducible show Kept _)); (first | (k_unfold; (try dsimp only)) | (k_end; wrow_close) | (with_reducible ((with_reducible show wpAny _ _ (subscriptTail _ _ (Value.ref _) (Value.int _ _)) _ _ _); refine r_item' (k := 0) ‹News _ _ _ _› (by ((repeat (first | assumption | exact List.Mem.head _ | apply List.mem_cons_of_mem | apply List.mem_append_left)))) rfl (by assumption) (by omega) ?_ (by with_unfolding_all rfl); (try dsimp only))) | walk1 | (dsimp only; walk1) | (leave1; walk_say "STEP leave1"; try dsimp only))))
  refine forListA rfl F N (fun i m₁ nx => nx = (L1, W.listOf (bl.map fun b => Value.ref b.P).toArray cl) :: (D, W.listOf ws.toArray 0) :: (L + 1 + 1, oT) :: (L + 1, o') :: blkObjs 0 bl ∧ m₁ (Str.ofString "size") = some (.int ns.length tz) ∧ m₁ (Str.ofString "ages") = some (.ref A1) ∧ m₁ (Str.ofString "lists") = some (.ref L1)) ⟨rfl, rfl, rfl, rfl⟩ ?turn ?done (by intro _ _; rfl)
  case done =>
    clear F N
    rintro m₁ nx h₂ tk₂ ⟨rfl, g1, g2, g3⟩ F2 N2
    dsimp only
    (repeat' ((fail_if_success (with_reducible show wpAny _ _ (eval (PySem.Expr.ListComp _ _ _ _) _) _ _ _)); (fail_if_success (with_reducible show wpAny _ _ (compareOp _ _ _) _ _ _)); (fail_if_success (with_reducible show wpAny _ _ (pyIter _) _ _ _)); (fail_if_success (with_reducible show wpAny _ _ (PySem.exec (PySem.Stmt.For _ _ _ _ _) _) _ _ _)); (fail_if_success (with_reducible show Kept _)); (first | (k_unfold; (try dsimp only)) | (k_end; wrow_close) | (with_reducible ((with_reducible show wpAny _ _ (subscriptTail _ _ (Value.ref _) (Value.int _ _)) _ _ _); refine r_item' (k := 0) ‹News _ _ _ _› (by ((repeat (first | assumption | exact List.Mem.head _ | apply List.mem_cons_of_mem | apply List.mem_append_left)))) rfl (by assumption) (by omega) ?_ (by with_unfolding_all rfl); (try dsimp only))) | walk1 | (dsimp only; walk1) | (leave1; walk_say "STEP leave1"; try dsimp only))))
    exact Kept.of ⟨rfl, LSt.intro F2 N2 ⟨A1, L1, bl, ca, cl, rfl, hbl, hgood, hinc, hDL, hLA, hBA, g1, g2, g3⟩⟩
  case turn =>
    clear F N
    rintro it i v m₁ nx h₂ tk₂ o hni hv ⟨rfl, g1, g2, g3⟩ hne F2 N2
    rw [mA_of g1 g2 g3] at F2
    unfold mA at F2
    obtain ⟨k, hk, rfl⟩ : ∃ k, (ordOf ns)[i]? = some k ∧ (bl.map fun b => Value.ref b.T).getD k Value.none = v := by simpa using hv
    have hk5 := (ord_five ns).2 k (List.mem_of_getElem? hk)
    obtain ⟨b, hbk⟩ : ∃ b, bl[k]? = some b := ⟨_, List.getElem?_eq_getElem (by omega)⟩
    have eT : (bl.map fun b => Value.ref b.T).getD k Value.none = .ref b.T := by simp [List.getD_eq_getElem?_getD, hbk]
    rw [eT]
    have hm := blk_mem bl 0 k b hbk
    rw [Nat.zero_add] at hm
    have mT : (b.T, W.listOf (List.toArray [.ref b.R, .int (k : Int) b.t1]) b.ct) ∈ blkObjs 0 bl := hm _ (.tail _ (.tail _ (.head _)))
    have mR : (b.R, W.listOf b.rv.toArray b.cr) ∈ blkObjs 0 bl := hm _ (.tail _ (.head _))
    have hits := (hgood k b hbk).2
    have z0 : ([.ref b.R, .int (k : Int) b.t1] : List Value)[0]? = some (.ref b.R) := rfl
    have z2 : ([.ref b.R, .int (k : Int) b.t1] : List Value).length ≤ 1000 := by simp
    (repeat' ((fail_if_success (with_reducible show wpAny _ _ (eval (PySem.Expr.ListComp _ _ _ _) _) _ _ _)); (fail_if_success (with_reducible show wpAny _ _ (compareOp _ _ _) _ _ _)); (fail_if_success (with_reducible show wpAny _ _ (pyIter _) _ _ _)); (fail_if_success (with_reducible show wpAny _ _ (PySem.exec (PySem.Stmt.For _ _ _ _ _) _) _ _ _)); (fail_if_success (with_reducible show Kept _)); (first | (k_unfold; (try dsimp only)) | (k_end; wrow_close) | (with_reducible ((with_reducible show wpAny _ _ (subscriptTail _ _ (Value.ref _) (Value.int _ _)) _ _ _); refine r_item' (k := 0) ‹News _ _ _ _› (by ((repeat (first | assumption | exact List.Mem.head _ | apply List.mem_cons_of_mem | apply List.mem_append_left)))) rfl (by assumption) (by omega) ?_ (by with_unfolding_all rfl); (try dsimp only))) | walk1 | (dsimp only; walk1) | (leave1; walk_say "STEP leave1"; try dsimp only))))
    rename Fr _ _ _ _ => F3
    rename News _ _ _ _ => N3
    refine PyProof.Rows.LCt.ListComp_T F3 (by rfl) (by decide) (by rfl) (by decide) (by rfl) ?_
    (repeat' ((fail_if_success (with_reducible show wpAny _ _ (eval (PySem.Expr.ListComp _ _ _ _) _) _ _ _)); (fail_if_success (with_reducible show wpAny _ _ (compareOp _ _ _) _ _ _)); (fail_if_success (with_reducible show wpAny _ _ (pyIter _) _ _ _)); (fail_if_success (with_reducible show wpAny _ _ (PySem.exec (PySem.Stmt.For _ _ _ _ _) _) _ _ _)); (fail_if_success (with_reducible show Kept _)); (first | (k_unfold; (try dsimp only)) | (k_end; wrow_close) | (with_reducible ((with_reducible show wpAny _ _ (subscriptTail _ _ (Value.ref _) (Value.int _ _)) _ _ _); refine r_item' (k := 0) ‹News _ _ _ _› (by ((repeat (first | assumption | exact List.Mem.head _ | apply List.mem_cons_of_mem | apply List.mem_append_left)))) rfl (by assumption) (by omega) ?_ (by with_unfolding_all rfl); (try dsimp only))) | walk1 | (dsimp only; walk1) | (leave1; walk_say "STEP leave1"; try dsimp only))))
    have hsz : b.rv.toArray.size ≤ sizeLine := by
      have q := parts_len ((num5 ns).getD k 0)
      have q2 := hits.length
      have q3 : b.rv.toArray.size = b.rv.length := by simp
      rw [sizeLine_eq, q3]
      omega
    refine PyProof.Rows.LCt.CompSrcT.ledger rfl (by assumption) (by assumption) (by ((repeat (first | assumption | exact List.Mem.head _ | apply List.mem_cons_of_mem | apply List.mem_append_left)))) hsz (fun g4 => ?_)
    refine compT_inv (n := b.rv.toArray.size) (.inr ⟨_, by ((repeat (first | assumption | exact List.Mem.head _ | apply List.mem_cons_of_mem | apply List.mem_append_left))), rfl, _, rfl⟩) (fun j ys => ys = []) ?step ?fin _ 0 [] (by simp) rfl
    case fin =>
      rintro ys rfl
      unfold PyProof.Rows.LCg.FinE
      intro D9 h9 tk9 F9 N9 off9
      (repeat' ((fail_if_success (with_reducible show wpAny _ _ (eval (PySem.Expr.ListComp _ _ _ _) _) _ _ _)); (fail_if_success (with_reducible show wpAny _ _ (compareOp _ _ _) _ _ _)); (fail_if_success (with_reducible show wpAny _ _ (pyIter _) _ _ _)); (fail_if_success (with_reducible show wpAny _ _ (PySem.exec (PySem.Stmt.For _ _ _ _ _) _) _ _ _)); (fail_if_success (with_reducible show Kept _)); (first | (k_unfold; (try dsimp only)) | (k_end; wrow_close) | (with_reducible ((with_reducible show wpAny _ _ (subscriptTail _ _ (Value.ref _) (Value.int _ _)) _ _ _); refine r_item' (k := 0) ‹News _ _ _ _› (by ((repeat (first | assumption | exact List.Mem.head _ | apply List.mem_cons_of_mem | apply List.mem_append_left)))) rfl (by assumption) (by omega) ?_ (by with_unfolding_all rfl); (try dsimp only))) | walk1 | (dsimp only; walk1) | (leave1; walk_say "STEP leave1"; try dsimp only))))
      rename Fr _ _ _ _ => F10
      rename News _ _ _ _ => N10
      refine ne_same (ds := []) N10 (.tail _ (.head _)) rfl rfl (.nil) (fun q hq => hq) (.head _) rfl rfl (.nil) (fun q hq => hq) (fun d hd => nomatch hd) (by show callerA.units + 3 + 64 < cLine; decide) ?_
      (repeat' ((fail_if_success (with_reducible show wpAny _ _ (eval (PySem.Expr.ListComp _ _ _ _) _) _ _ _)); (fail_if_success (with_reducible show wpAny _ _ (compareOp _ _ _) _ _ _)); (fail_if_success (with_reducible show wpAny _ _ (pyIter _) _ _ _)); (fail_if_success (with_reducible show wpAny _ _ (PySem.exec (PySem.Stmt.For _ _ _ _ _) _) _ _ _)); (fail_if_success (with_reducible show Kept _)); (first | (k_unfold; (try dsimp only)) | (k_end; wrow_close) | (with_reducible ((with_reducible show wpAny _ _ (subscriptTail _ _ (Value.ref _) (Value.int _ _)) _ _ _); refine r_item' (k := 0) ‹News _ _ _ _› (by ((repeat (first | assumption | exact List.Mem.head _ | apply List.mem_cons_of_mem | apply List.mem_append_left)))) rfl (by assumption) (by omega) ?_ (by with_unfolding_all rfl); (try dsimp only))) | walk1 | (dsimp only; walk1) | (leave1; walk_say "STEP leave1"; try dsimp only))))
      rename Fr _ _ _ _ => F11
      rename News _ _ _ _ => N11
      refine TurnedL.intro _ F11 N11 (fun q hq => ?_) (fun q hq => .inl (hne q hq)) ⟨rfl, rfl, rfl, rfl⟩
      exact .tail _ (.tail _ hq)
    case step =>
      rintro j ys v I oI C oCC D' m₂ h8 tk8 hj rfl hP8 hC8 hm8 F8 N8
      obtain ⟨x, hx, hvx⟩ := hits.at (by simpa using hP8)
      cases hvx with
      | i n t =>
        (repeat' ((fail_if_success (with_reducible show wpAny _ _ (eval (PySem.Expr.ListComp _ _ _ _) _) _ _ _)); (fail_if_success (with_reducible show wpAny _ _ (compareOp _ _ _) _ _ _)); (fail_if_success (with_reducible show wpAny _ _ (pyIter _) _ _ _)); (fail_if_success (with_reducible show wpAny _ _ (PySem.exec (PySem.Stmt.For _ _ _ _ _) _) _ _ _)); (fail_if_success (with_reducible show Kept _)); (first | (k_unfold; (try dsimp only)) | (k_end; wrow_close) | (with_reducible ((with_reducible show wpAny _ _ (subscriptTail _ _ (Value.ref _) (Value.int _ _)) _ _ _); refine r_item' (k := 0) ‹News _ _ _ _› (by ((repeat (first | assumption | exact List.Mem.head _ | apply List.mem_cons_of_mem | apply List.mem_append_left)))) rfl (by assumption) (by omega) ?_ (by with_unfolding_all rfl); (try dsimp only))) | walk1 | (dsimp only; walk1) | (leave1; walk_say "STEP leave1"; try dsimp only))))
        rename Fr _ _ _ _ => F9
        rename News _ _ _ _ => N9
        exact Took.intro F9 N9 (fun p hp => .tail _ hp) trivial
      | s n t =>
        (repeat' ((fail_if_success (with_reducible show wpAny _ _ (eval (PySem.Expr.ListComp _ _ _ _) _) _ _ _)); (fail_if_success (with_reducible show wpAny _ _ (compareOp _ _ _) _ _ _)); (fail_if_success (with_reducible show wpAny _ _ (pyIter _) _ _ _)); (fail_if_success (with_reducible show wpAny _ _ (PySem.exec (PySem.Stmt.For _ _ _ _ _) _) _ _ _)); (fail_if_success (with_reducible show Kept _)); (first | (k_unfold; (try dsimp only)) | (k_end; wrow_close) | (with_reducible ((with_reducible show wpAny _ _ (subscriptTail _ _ (Value.ref _) (Value.int _ _)) _ _ _); refine r_item' (k := 0) ‹News _ _ _ _› (by ((repeat (first | assumption | exact List.Mem.head _ | apply List.mem_cons_of_mem | apply List.mem_append_left)))) rfl (by assumption) (by omega) ?_ (by with_unfolding_all rfl); (try dsimp only))) | walk1 | (dsimp only; walk1) | (leave1; walk_say "STEP leave1"; try dsimp only))))
        rename Fr _ _ _ _ => F9
        rename News _ _ _ _ => N9
        exact Took.intro F9 N9 (fun p hp => .tail _ hp) trivial
end Mine
end
section
open PySem PySem.W PyProof.Rows PySem.Spec PySem.Calls
set_option maxRecDepth 100000
set_option maxHeartbeats 0
set_option pp.maxSteps 6000
namespace Mine
noncomputable def signs5 (ns : List Int) : List Str := (ordOf ns).map fun k => ofL [SG.getD k 0]
noncomputable def signs6 (ns : List Int) : List Str := signs5 ns ++ [Str.ofString "."]
theorem item_sg : ∀ k : Nat, k < 5 → Txt.item (Str.ofString "aBceZ") (k : Int) = ofL [SG.getD k 0] := by decide +kernel
noncomputable def L3 (L D : Addr) (ws : List Value) (oT o' : Obj) (ns : List Int) (tz : Tok) (m : Str → Option Value) (nx : List (Addr × Obj)) : Prop :=
  ∃ (S1 L1 : Nat) (bl : List Blk) (sv : List Value) (ca cl : Nat), nx = (S1, W.listOf sv.toArray ca) :: (L1, W.listOf (bl.map fun b => Value.ref b.P).toArray cl) :: (D, W.listOf ws.toArray 0) :: (L + 1 + 1, oT) :: (L + 1, o') :: blkObjs 0 bl ∧ bl.length = 5 ∧
    (∀ k b, bl[k]? = some b → ItsAre b.pv (relParts ((num5 ns).getD k 0)) ∧ ItsAre b.rv (relParts ((num5 ns).getD k 0))) ∧ Inc L1 bl ∧ @LT.lt Nat _ D L1 ∧ StrsAre sv (signs6 ns) ∧ (∀ q ∈ (L1, W.listOf (bl.map fun b => Value.ref b.P).toArray cl) :: (D, W.listOf ws.toArray 0) :: (L + 1 + 1, oT) :: (L + 1, o') :: blkObjs 0 bl, @LT.lt Nat _ q.1 S1) ∧
    m (Str.ofString "size") = some (.int ns.length tz) ∧ m (Str.ofString "signs") = some (.ref S1) ∧ m (Str.ofString "lists") = some (.ref L1)
theorem law4 {w : World} {mean mg mb} {h₀ : Heap} {L a D : Addr} {cd : Value} {s : Shared} {ns : List Int} {tz : Tok} {ws : List Value} {oT o' : Obj} {m : Str → Option Value} {nx : List (Addr × Obj)} (F : Fr h₀ L s.heap m) (N : News h₀ L s.heap nx) (J : L2 L D ws oT o' ns tz m nx)
   (X : (hd.heap_1 w.params).In h₀) (T : Top VW LS mean mg mb h₀) (lD : L + 1 + 1 < D) :
   wpAny (model PG w) (lawA L a cd) (exec (lawBody.getD 9 default) (lawEnv L a cd)) (fun f s' => Kept (f = .next ∧ LSt h₀ L s (L3 L D ws oT o' ns tz) s')) (fun _ _ => False) s := by
  refine fillIt ?_
  k_fill
  intro _
  ((unfold lawA lawEnv lawBody lawScope lawDef PySem.Challenge.pw_pu0021_01; dsimp only [bodyOf, scopeOf, List.getLast!, List.getLast, List.drop, List.take, Option.getD, List.getD, List.getElem?_cons_zero, List.getElem?_cons_succ]))
  refine hideG ?_
  intro Cg hCg
  obtain ⟨hp, gs, dr, tk0, os0⟩ := s
  refine hCg ?_
  clear hCg Cg
  refine hideG ?_
  intro Cg hCg
  obtain ⟨A1, L1, bl, ca, cl, rfl, hbl, hgood, hinc, hDL, hLA, hBA, e1, e2, e3⟩ := J
  refine hCg ?_
  clear hCg Cg
  dsimp only at F N
  rw [mA_of e1 e2 e3] at F
  unfold mA at F
  (repeat' ((fail_if_success (with_reducible show wpAny _ _ (eval (PySem.Expr.ListComp _ _ _ _) _) _ _ _)); (fail_if_success (with_reducible show wpAny _ _ (compareOp _ _ _) _ _ _)); (fail_if_success (with_reducible show wpAny _ _ (binaryOp _ (Value.ref _) _) _ _ _)); (fail_if_success (with_reducible show wpAny _ _ (pyIter _) _ _ _)); (fail_if_success (with_reducible show wpAny _ _ (PySem.exec (PySem.Stmt.For _ _ _ _ _) _) _ _ _)); (fail_if_success (with_reducible show Kept _)); (first | (k_unfold; (try dsimp only)) | (k_end; wrow_close) | (with_reducible ((with_reducible show wpAny _ _ (subscriptTail _ _ (Value.ref _) (Value.int _ _)) _ _ _); refine r_item' (k := 1) ‹News _ _ _ _› (by ((repeat (first | assumption | exact List.Mem.head _ | apply List.mem_cons_of_mem | apply List.mem_append_left)))) rfl (by assumption) (by omega) ?_ (by with_unfolding_all rfl); (try dsimp only))) | walk1 | (dsimp only; walk1) | (leave1; walk_say "STEP leave1"; try dsimp only))))
  refine PyProof.Rows.LCg.ListComp_U F (by rfl) (by decide) (by rfl) (by decide) (by rfl) ?_
  (repeat' ((fail_if_success (with_reducible show wpAny _ _ (eval (PySem.Expr.ListComp _ _ _ _) _) _ _ _)); (fail_if_success (with_reducible show wpAny _ _ (compareOp _ _ _) _ _ _)); (fail_if_success (with_reducible show wpAny _ _ (binaryOp _ (Value.ref _) _) _ _ _)); (fail_if_success (with_reducible show wpAny _ _ (pyIter _) _ _ _)); (fail_if_success (with_reducible show wpAny _ _ (PySem.exec (PySem.Stmt.For _ _ _ _ _) _) _ _ _)); (fail_if_success (with_reducible show Kept _)); (first | (k_unfold; (try dsimp only)) | (k_end; wrow_close) | (with_reducible ((with_reducible show wpAny _ _ (subscriptTail _ _ (Value.ref _) (Value.int _ _)) _ _ _); refine r_item' (k := 1) ‹News _ _ _ _› (by ((repeat (first | assumption | exact List.Mem.head _ | apply List.mem_cons_of_mem | apply List.mem_append_left)))) rfl (by assumption) (by omega) ?_ (by with_unfolding_all rfl); (try dsimp only))) | walk1 | (dsimp only; walk1) | (leave1; walk_say "STEP leave1"; try dsimp only))))
  refine PyProof.Rows.LCg.CompSrc.ledger rfl F N (by ((repeat (first | assumption | exact List.Mem.head _ | apply List.mem_cons_of_mem | apply List.mem_append_left)))) (by simp [(ord_five ns).1, sizeLine_eq]) (fun g4 => ?_)
  refine compU_inv (n := ((ordOf ns).map fun i => (bl.map fun b => Value.ref b.T).getD i Value.none).toArray.size) (.inr ⟨_, by ((repeat (first | assumption | exact List.Mem.head _ | apply List.mem_cons_of_mem | apply List.mem_append_left))), rfl, _, rfl⟩) (fun j ys => StrsAre ys (((ordOf ns).take j).map fun k => ofL [SG.getD k 0])) ?step ?fin _ 0 [] (by simp) .nil
  case fin =>
    rintro ys hys
    have hys : StrsAre ys (signs5 ns) := by
      have e : ((ordOf ns).map fun i => (bl.map fun b => Value.ref b.T).getD i Value.none).toArray.size = (ordOf ns).length := by simp
      rw [e, List.take_length] at hys
      exact hys
    unfold PyProof.Rows.LCg.FinE
    intro D9 h9 tk9 F9 N9 off9
    (repeat' ((fail_if_success (with_reducible show wpAny _ _ (eval (PySem.Expr.ListComp _ _ _ _) _) _ _ _)); (fail_if_success (with_reducible show wpAny _ _ (compareOp _ _ _) _ _ _)); (fail_if_success (with_reducible show wpAny _ _ (binaryOp _ (Value.ref _) _) _ _ _)); (fail_if_success (with_reducible show wpAny _ _ (pyIter _) _ _ _)); (fail_if_success (with_reducible show wpAny _ _ (PySem.exec (PySem.Stmt.For _ _ _ _ _) _) _ _ _)); (fail_if_success (with_reducible show Kept _)); (first | (k_unfold; (try dsimp only)) | (k_end; wrow_close) | (with_reducible ((with_reducible show wpAny _ _ (subscriptTail _ _ (Value.ref _) (Value.int _ _)) _ _ _); refine r_item' (k := 1) ‹News _ _ _ _› (by ((repeat (first | assumption | exact List.Mem.head _ | apply List.mem_cons_of_mem | apply List.mem_append_left)))) rfl (by assumption) (by omega) ?_ (by with_unfolding_all rfl); (try dsimp only))) | walk1 | (dsimp only; walk1) | (leave1; walk_say "STEP leave1"; try dsimp only))))
    rename Fr _ _ _ _ => F10
    rename News _ _ _ _ => N10
    have hyl : ys.length = 5 := by rw [hys.length]; simp [signs5, (ord_five ns).1]
    refine r_add (vs := ys) (ws := [.str (Str.ofString ".") tk9]) F10 N10 (.tail _ (.head _)) (.head _) (by simp; omega) ?_
    intro S1 h11 F11 N11 hS1
    clear F10 N10
    (repeat' ((fail_if_success (with_reducible show wpAny _ _ (eval (PySem.Expr.ListComp _ _ _ _) _) _ _ _)); (fail_if_success (with_reducible show wpAny _ _ (compareOp _ _ _) _ _ _)); (fail_if_success (with_reducible show wpAny _ _ (binaryOp _ (Value.ref _) _) _ _ _)); (fail_if_success (with_reducible show wpAny _ _ (pyIter _) _ _ _)); (fail_if_success (with_reducible show wpAny _ _ (PySem.exec (PySem.Stmt.For _ _ _ _ _) _) _ _ _)); (fail_if_success (with_reducible show Kept _)); (first | (k_unfold; (try dsimp only)) | (k_end; wrow_close) | (with_reducible ((with_reducible show wpAny _ _ (subscriptTail _ _ (Value.ref _) (Value.int _ _)) _ _ _); refine r_item' (k := 1) ‹News _ _ _ _› (by ((repeat (first | assumption | exact List.Mem.head _ | apply List.mem_cons_of_mem | apply List.mem_append_left)))) rfl (by assumption) (by omega) ?_ (by with_unfolding_all rfl); (try dsimp only))) | walk1 | (dsimp only; walk1) | (leave1; walk_say "STEP leave1"; try dsimp only))))
    rename Fr _ _ _ _ => F12
    rename News _ _ _ _ => N12
    refine Kept.of ⟨trivial, LSt.intro F12 (fun q hq => N12 q ?_) ⟨S1, L1, bl, ys ++ [.str (Str.ofString ".") tk9], 0, cl, rfl, hbl, hgood, hinc, hDL, hys.append' (.cons _ _ .nil), fun q hq => hS1 q (.tail _ (.tail _ (.tail _ hq))), rfl, rfl, rfl⟩⟩
    simp only [List.mem_cons] at hq ⊢
    rcases hq with h | h | h | h | h | h <;> simp [h]
  case step =>
    rintro j ys v I oI C oCC D' m₂ h8 tk8 hj hJ8 hP8 hC8 hm8 F8 N8
    obtain ⟨k, hk, rfl⟩ : ∃ k, (ordOf ns)[j]? = some k ∧ (bl.map fun b => Value.ref b.T).getD k Value.none = v := by simpa using hP8
    have hk5 := (ord_five ns).2 k (List.mem_of_getElem? hk)
    obtain ⟨b, hbk⟩ : ∃ b, bl[k]? = some b := ⟨_, List.getElem?_eq_getElem (by omega)⟩
    have eT : (bl.map fun b => Value.ref b.T).getD k Value.none = .ref b.T := by simp [List.getD_eq_getElem?_getD, hbk]
    rw [eT] at hm8
    have hm := blk_mem bl 0 k b hbk
    rw [Nat.zero_add] at hm
    have mT : (b.T, W.listOf (List.toArray [.ref b.R, .int (k : Int) b.t1]) b.ct) ∈ blkObjs 0 bl := hm _ (.tail _ (.tail _ (.head _)))
    have z0 : ([.ref b.R, .int (k : Int) b.t1] : List Value)[1]? = some (.int (k : Int) b.t1) := rfl
    have z2 : ([.ref b.R, .int (k : Int) b.t1] : List Value).length ≤ 1000 := by simp
    (repeat' ((fail_if_success (with_reducible show wpAny _ _ (eval (PySem.Expr.ListComp _ _ _ _) _) _ _ _)); (fail_if_success (with_reducible show wpAny _ _ (compareOp _ _ _) _ _ _)); (fail_if_success (with_reducible show wpAny _ _ (binaryOp _ (Value.ref _) _) _ _ _)); (fail_if_success (with_reducible show wpAny _ _ (pyIter _) _ _ _)); (fail_if_success (with_reducible show wpAny _ _ (PySem.exec (PySem.Stmt.For _ _ _ _ _) _) _ _ _)); (fail_if_success (with_reducible show Kept _)); (first | (k_unfold; (try dsimp only)) | (k_end; wrow_close) | (with_reducible ((with_reducible show wpAny _ _ (subscriptTail _ _ (Value.ref _) (Value.int _ _)) _ _ _); refine r_item' (k := 1) ‹News _ _ _ _› (by ((repeat (first | assumption | exact List.Mem.head _ | apply List.mem_cons_of_mem | apply List.mem_append_left)))) rfl (by assumption) (by omega) ?_ (by with_unfolding_all rfl); (try dsimp only))) | walk1 | (dsimp only; walk1) | (leave1; walk_say "STEP leave1"; try dsimp only))))
    rename Fr _ _ _ _ => F9
    rename News _ _ _ _ => N9
    refine Took.intro F9 N9 (fun p hp => hp) ?_
    rw [item_sg k hk5, List.take_succ, hk]
    simp only [Option.toList_some, List.map_append, List.map_cons, List.map_nil]
    exact hJ8.append' (.cons _ _ .nil)
end Mine
end
section
open PySem PySem.W PyProof.Rows PySem.Spec PySem.Calls
set_option maxRecDepth 100000
set_option maxHeartbeats 0
set_option pp.maxSteps 6000
namespace Mine
noncomputable def tur (ns : List Int) : List Int := (List.range 5).map fun i => (((num5 ns).getD i 0).fdiv 19968 + (i : Int)).fmod 2
theorem tur_getD {ns : List Int} {i : Nat} (h : i < 5) : (tur ns).getD i 0 = (((num5 ns).getD i 0).fdiv 19968 + (i : Int)).fmod 2 := by simp [tur, List.getD_eq_getElem?_getD, h]
noncomputable def mS (S1 L1 : Nat) (n : Int) (tz : Tok) (u : Str → Option Value) : Str → Option Value := fun y => if y = Str.ofString "signs" then some (.ref S1) else if y = Str.ofString "size" then some (.int n tz) else if y = Str.ofString "lists" then some (.ref L1) else u y
theorem mS_of {S1 L1 : Nat} {n : Int} {tz : Tok} {m : Str → Option Value} (h1 : m (Str.ofString "size") = some (.int n tz)) (h2 : m (Str.ofString "signs") = some (.ref S1)) (h3 : m (Str.ofString "lists") = some (.ref L1)) : m = mS S1 L1 n tz m := by
  funext y
  unfold mS
  by_cases e1 : y = Str.ofString "signs"
  · rw [if_pos e1, e1, h2]
  rw [if_neg e1]
  by_cases e2 : y = Str.ofString "size"
  · rw [if_pos e2, e2, h1]
  rw [if_neg e2]
  by_cases e3 : y = Str.ofString "lists"
  · rw [if_pos e3, e3, h3]
  rw [if_neg e3]
noncomputable def L4 (L D : Addr) (ws : List Value) (o' : Obj) (ns : List Int) (tz : Tok) (m : Str → Option Value) (nx : List (Addr × Obj)) : Prop :=
  ∃ (U1 S1 L1 : Nat) (bl : List Blk) (tv sv : List Value) (oT : Obj) (cu ca cl : Nat), nx = (U1, W.listOf tv.toArray cu) :: (S1, W.listOf sv.toArray ca) :: (L1, W.listOf (bl.map fun b => Value.ref b.P).toArray cl) :: (D, W.listOf ws.toArray 0) :: (L + 1 + 1, oT) :: (L + 1, o') :: blkObjs 0 bl ∧ oT.data = .cell (some (.ref U1)) ∧ bl.length = 5 ∧
    (∀ k b, bl[k]? = some b → ItsAre b.pv (relParts ((num5 ns).getD k 0)) ∧ ItsAre b.rv (relParts ((num5 ns).getD k 0))) ∧ Inc L1 bl ∧ @LT.lt Nat _ D L1 ∧ StrsAre sv (signs6 ns) ∧ IntsAre tv (tur ns) ∧
    m (Str.ofString "size") = some (.int ns.length tz) ∧ m (Str.ofString "signs") = some (.ref S1) ∧ m (Str.ofString "lists") = some (.ref L1)
theorem law5 {w : World} {mean mg mb} {h₀ : Heap} {L a D : Addr} {cd : Value} {s : Shared} {ns : List Int} {tz : Tok} {ws : List Value} {oT o' : Obj} {m : Str → Option Value} {nx : List (Addr × Obj)} (F : Fr h₀ L s.heap m) (N : News h₀ L s.heap nx) (J : L3 L D ws oT o' ns tz m nx)
   (X : (hd.heap_1 w.params).In h₀) (T : Top VW LS mean mg mb h₀) (lD : L + 1 + 1 < D) (dT : oT.data = .cell none) (dN : o'.data = .cell (some (.ref D))) (hi : IntsAre ws (num5 ns)) :
   wpAny (model PG w) (lawA L a cd) (exec (lawBody.getD 10 default) (lawEnv L a cd)) (fun f s' => Kept (f = .next ∧ LSt h₀ L s (L4 L D ws o' ns tz) s')) (fun _ _ => False) s := by
  have hws : ws.length = 5 := by rw [hi.length]; exact num5_len ns
  refine fillIt ?_
  k_fill
  intro _
  ((unfold lawA lawEnv lawBody lawScope lawDef PySem.Challenge.pw_pu0021_01; dsimp only [bodyOf, scopeOf, List.getLast!, List.getLast, List.drop, List.take, Option.getD, List.getD, List.getElem?_cons_zero, List.getElem?_cons_succ]))
  refine hideG ?_
  intro Cg hCg
  obtain ⟨hp, gs, dr, tk0, os0⟩ := s
  refine hCg ?_
  clear hCg Cg
  refine hideG ?_
  intro Cg hCg
  obtain ⟨S1, L1, bl, sv, ca, cl, rfl, hbl, hgood, hinc, hDL, hsv, hS1, e1, e2, e3⟩ := J
  refine hCg ?_
  clear hCg Cg
  dsimp only at F N
  rw [mS_of e1 e2 e3] at F
  unfold mS at F
  refine wpAny_Assign_Name ?_
  refine PyProof.Rows.LCg.ListComp_U F (by rfl) (by decide) (by rfl) (by decide) (by rfl) ?_
  (repeat' ((fail_if_success (with_reducible show wpAny _ _ (eval (PySem.Expr.ListComp _ _ _ _) _) _ _ _)); (fail_if_success (with_reducible show wpAny _ _ (compareOp _ _ _) _ _ _)); (fail_if_success (with_reducible show wpAny _ _ (binaryOp _ (Value.ref _) _) _ _ _)); (fail_if_success (with_reducible show wpAny _ _ (call (Value.builtin "str.join") _) _ _ _)); (fail_if_success (with_reducible show wpAny _ _ (pyIter _) _ _ _)); (fail_if_success (with_reducible show wpAny _ _ (PySem.exec (PySem.Stmt.For _ _ _ _ _) _) _ _ _)); (fail_if_success (with_reducible show Kept _)); (first | (k_unfold; (try dsimp only)) | (k_end; wrow_close) | (with_reducible ((with_reducible show wpAny _ _ (subscriptTail _ _ (Value.ref _) (Value.int _ _)) _ _ _); (with_reducible rename News _ _ _ _ => N'); (with_unfolding_all rename ((_ ≠ _ ∧ _) ∧ _) => hx); (with_unfolding_all rename (_ ≠ _ ∧ _ ≠ _ ∧ _ ≠ _) => hy); (with_reducible rename IntsAre _ _ => hI); (with_unfolding_all have hmm := News.isList N' (.tail _ (.tail _ (.tail _ (.tail _ (.tail _ (.head _))))))); refine item_list_ints hmm hI (by clear hx hy hmm; first | decide | omega) (by clear hx hy hmm; omega) (by clear hx hy hmm; omega) ?_; (try intro _))) | (with_reducible ((with_reducible show wpAny _ _ (subscriptTail _ _ (Value.ref _) (Value.int _ _)) _ _ _); refine r_item' ‹News _ _ _ _› (by ((repeat (first | assumption | exact List.Mem.head _ | apply List.mem_cons_of_mem | apply List.mem_append_left)))) rfl (by assumption) (by omega) ?_ (by with_unfolding_all rfl); (try dsimp only))) | walk1 | ((with_reducible show wpAny _ _ (subscriptTail _ _ (Value.ref _) (Value.int _ _)) _ _ _); (with_reducible rename News _ _ _ _ => N'); (with_unfolding_all rename ((_ ≠ _ ∧ _) ∧ _) => hx); (with_unfolding_all rename (_ ≠ _ ∧ _ ≠ _ ∧ _ ≠ _) => hy); (with_reducible rename IntsAre _ _ => hI); (with_unfolding_all have hmm := News.isList N' (.tail _ (.tail _ (.tail _ (.tail _ (.tail _ (.head _))))))); refine item_list_ints hmm hI (by clear hx hy hmm; first | decide | omega) (by clear hx hy hmm; omega) (by clear hx hy hmm; omega) ?_; (try intro _)) | ((with_reducible show wpAny _ _ (subscriptTail _ _ (Value.ref _) (Value.int _ _)) _ _ _); refine r_item' ‹News _ _ _ _› (by ((repeat (first | assumption | exact List.Mem.head _ | apply List.mem_cons_of_mem | apply List.mem_append_left)))) rfl (by assumption) (by omega) ?_ (by with_unfolding_all rfl); (try dsimp only)) | (dsimp only; walk1) | (leave1; walk_say "STEP leave1"; try dsimp only))))
  rename Fr _ _ _ _ => F5
  rename News h₀ L _ ((_, PyProof.Rows.LCg.lst _) :: _) => N5
  rename IntsAre _ (List.map _ _) => hI5
  have hz : rangeKs 0 ((5 : Int) - 0).toNat = [0, 1, 2, 3, 4] := by decide
  rw [hz] at hI5
  have hI5 : IntsAre ys (tur ns) := hI5
  have hB : ∀ q ∈ blkObjs 0 bl, @LT.lt Nat _ L1 q.1 := hinc.above
  rename (_ ≠ _ ∧ _) => hO
  refine' storeX_C F5 N5 rfl ?U dT ?_ rfl rfl
  case U =>
    refine UpdF.tail (fun e => hO.2.2.2.1 e.symm) (UpdF.tail (Nat.ne_of_gt (hS1 _ (.tail _ (.tail _ (.head _))))) (UpdF.tail (Nat.ne_of_gt (Nat.lt_trans lD hDL)) (UpdF.tail (Nat.ne_of_gt lD) (UpdF.head ?_))))
    exact List.forall_mem_cons.mpr ⟨Nat.ne_of_lt (Nat.lt_succ_self _), fun q hq => Nat.ne_of_gt (Nat.lt_trans (Nat.lt_trans lD hDL) (hB q hq))⟩
  intro h6 oT6 F6 N6 d6
  exact Kept.of ⟨trivial, LSt.intro F6 N6 ⟨_, S1, L1, bl, ys, sv, oT6, _, ca, cl, rfl, d6, hbl, hgood, hinc, hDL, hsv, hI5, rfl, rfl, rfl⟩⟩
end Mine
end
section
open PySem PySem.W PyProof.Rows PySem.Spec PySem.Calls
set_option maxRecDepth 100000
set_option maxHeartbeats 0
set_option pp.maxSteps 6000
namespace Mine
noncomputable def turN (ns : List Int) : List Nat := (tur ns).map Int.toNat
noncomputable def L5 (L D : Addr) (ws : List Value) (o' : Obj) (ns : List Int) (tz : Tok) (m : Str → Option Value) (nx : List (Addr × Obj)) : Prop :=
  ∃ (U1 S1 L1 : Nat) (bl : List Blk) (tv sv : List Value) (oT : Obj) (cu ca cl : Nat) (tr : Tok), nx = (U1, W.listOf tv.toArray cu) :: (S1, W.listOf sv.toArray ca) :: (L1, W.listOf (bl.map fun b => Value.ref b.P).toArray cl) :: (D, W.listOf ws.toArray 0) :: (L + 1 + 1, oT) :: (L + 1, o') :: blkObjs 0 bl ∧ oT.data = .cell (some (.ref U1)) ∧ bl.length = 5 ∧
    (∀ k b, bl[k]? = some b → ItsAre b.pv (relParts ((num5 ns).getD k 0)) ∧ ItsAre b.rv (relParts ((num5 ns).getD k 0))) ∧ Inc L1 bl ∧ @LT.lt Nat _ D L1 ∧ StrsAre sv (signs6 ns) ∧ IntsAre tv (tur ns) ∧
    m (Str.ofString "size") = some (.int ns.length tz) ∧ m (Str.ofString "signs") = some (.ref S1) ∧ m (Str.ofString "lists") = some (.ref L1) ∧ m (Str.ofString "row") = some (.str (ofL (rowL (turN ns))) tr)
theorem tur_bound (ns : List Int) {j : Nat} (hj : j < 5) : 0 ≤ (tur ns).getD j 0 ∧ (tur ns).getD j 0 ≤ 1 ∧ (turN ns).getD j 0 = ((tur ns).getD j 0).toNat := by
  rw [tur_getD hj]
  have h1 := Int.fmod_nonneg_of_pos (((num5 ns).getD j 0).fdiv 19968 + (j : Int)) (b := 2) (by decide)
  have h2 := Int.fmod_lt_of_pos (((num5 ns).getD j 0).fdiv 19968 + (j : Int)) (b := 2) (by decide)
  refine ⟨h1, by omega, ?_⟩
  simp [turN, tur, List.getD_eq_getElem?_getD, hj]
theorem item_sw : ∀ j : Nat, j < 5 → ∀ t : Nat, t < 2 → Txt.item (Str.ofString "aBceZAbCEz") ((j : Int) + 5 * (t : Int)) = ofL [SW.getD (j + 5 * t) 0] := by decide +kernel
theorem r_join {prog : Program} {w : World} {A : Around} {E : Value → Shared → Prop} {s : Shared} {h₀ : Heap} {L D : Addr} {news : List (Addr × Obj)} {vs : List Value} {c : Nat} {ts : List Str} {x : Str} {t : Tok} {Q : Value → Shared → Prop} (N : News h₀ L s.heap news) (hm : (D, W.listOf vs.toArray c) ∈ news) (hv : StrsAre vs ts) (hl : ts.length ≤ 20) (hx : ∀ y ∈ ts, y.length ≤ 60)
    (h : ∀ t' k, Q (.str (Str.join x ts) t') { s with toks := k }) (hsep : x.length ≤ 16) : wpAny (model prog w) A (call (.builtin "str.join") [.str x t, .ref D]) Q E s := by
  have hsum : ∀ l : List Str, (∀ y ∈ l, y.length ≤ 60) → (l.map (·.length)).sum ≤ l.length * 60 := by
    intro l
    induction l with
    | nil => intro _; simp
    | cons y r ih =>
      intro hh
      have h1 := hh y (.head _)
      have h2 := ih fun z hz => hh z (.tail _ hz)
      simp only [List.map_cons, List.sum_cons, List.length_cons]
      omega
  have := hsum ts hx
  refine join_listW (isListN N hm) (by simpa using hv) hsep (by omega) fun t' k => ?_
  have e : Txt.join x ts = Str.join x ts := StrLaws.glued_eq_join _ _
  rw [e]
  exact h t' k
theorem join_letters : ∀ l : List Nat, Str.join (Str.ofString "") (l.map fun c => ofL [c]) = ofL l
  | [] => rfl
  | [c] => rfl
  | c :: d :: r => by
    show ofL [c] ++ Str.ofString "" ++ Str.join (Str.ofString "") ((d :: r).map fun c => ofL [c]) = _
    rw [join_letters (d :: r)]
    have : Str.ofString "" = ofL [] := rfl
    rw [this, ofL_app, ofL_app]
    rfl
theorem law6 {w : World} {mean mg mb} {h₀ : Heap} {L a D : Addr} {cd : Value} {s : Shared} {ns : List Int} {tz : Tok} {ws : List Value} {o' : Obj} {m : Str → Option Value} {nx : List (Addr × Obj)} (F : Fr h₀ L s.heap m) (N : News h₀ L s.heap nx) (J : L4 L D ws o' ns tz m nx)
   (X : (hd.heap_1 w.params).In h₀) (T : Top VW LS mean mg mb h₀) (lD : L + 1 + 1 < D) (dN : o'.data = .cell (some (.ref D))) :
   wpAny (model PG w) (lawA L a cd) (exec (lawBody.getD 11 default) (lawEnv L a cd)) (fun f s' => Kept (f = .next ∧ LSt h₀ L s (L5 L D ws o' ns tz) s')) (fun _ _ => False) s := by
  refine fillIt ?_
  k_fill
  intro _
  ((unfold lawA lawEnv lawBody lawScope lawDef PySem.Challenge.pw_pu0021_01; dsimp only [bodyOf, scopeOf, List.getLast!, List.getLast, List.drop, List.take, Option.getD, List.getD, List.getElem?_cons_zero, List.getElem?_cons_succ]))
  refine hideG ?_
  intro Cg hCg
  obtain ⟨hp, gs, dr, tk0, os0⟩ := s
  refine hCg ?_
  clear hCg Cg
  refine hideG ?_
  intro Cg hCg
  obtain ⟨U1, S1, L1, bl, tv, sv, oT, cu, ca, cl, rfl, dT, hbl, hgood, hinc, hDL, hsv, htv, e1, e2, e3⟩ := J
  refine hCg ?_
  clear hCg Cg
  dsimp only at F N
  rw [mS_of e1 e2 e3] at F
  unfold mS at F
  (repeat' ((fail_if_success (with_reducible show wpAny _ _ (eval (PySem.Expr.ListComp _ _ _ _) _) _ _ _)); (fail_if_success (with_reducible show wpAny _ _ (compareOp _ _ _) _ _ _)); (fail_if_success (with_reducible show wpAny _ _ (call (Value.builtin "str.join") _) _ _ _)); (fail_if_success (with_reducible show wpAny _ _ (pyIter _) _ _ _)); (fail_if_success (with_reducible show wpAny _ _ (PySem.exec (PySem.Stmt.For _ _ _ _ _) _) _ _ _)); (fail_if_success (with_reducible show Kept _)); (first | (k_unfold; (try dsimp only)) | (k_end; wrow_close) | (with_reducible ((with_reducible show wpAny _ _ (subscriptTail _ _ (Value.ref _) (Value.int _ _)) _ _ _); refine r_item' ‹News _ _ _ _› (by ((repeat (first | assumption | exact List.Mem.head _ | apply List.mem_cons_of_mem | apply List.mem_append_left)))) rfl (by assumption) (by omega) ?_ (by with_unfolding_all rfl); (try dsimp only))) | walk1 | ((with_reducible show wpAny _ _ (subscriptTail _ _ (Value.ref _) (Value.int _ _)) _ _ _); refine r_item' ‹News _ _ _ _› (by ((repeat (first | assumption | exact List.Mem.head _ | apply List.mem_cons_of_mem | apply List.mem_append_left)))) rfl (by assumption) (by omega) ?_ (by with_unfolding_all rfl); (try dsimp only)) | (dsimp only; walk1) | (leave1; walk_say "STEP leave1"; try dsimp only))))
  refine PyProof.Rows.LCg.ListComp_U F (by rfl) (by decide) (by rfl) (by decide) (by rfl) ?_
  rename_i tk1
  with_reducible refine wpAny_mono (Q := fun xv s₁ => Kept (∃ (r : Addr) (t u v : Tok) (h : Heap) (tk : Nat), xv = .ref r ∧ s₁ = ⟨h, gs, dr, tk, os0⟩ ∧ IsRange h r 0 ((5 : Nat) : Int) 1 t u v ∧ Fr h₀ L h (fun y => if y = Str.ofString "signs" then some (.ref S1) else if y = Str.ofString "size" then some (.int ns.length tz) else if y = Str.ofString "lists" then some (.ref L1) else m y) ∧
      News h₀ L h ((U1, W.listOf tv.toArray cu) :: (S1, W.listOf sv.toArray ca) :: (L1, W.listOf (bl.map fun b => Value.ref b.P).toArray cl) :: (D, W.listOf ws.toArray 0) :: (L + 1 + 1, oT) :: (L + 1, o') :: blkObjs 0 bl))) (E := fun _ _ => False) ?ev ?src (fun _ _ e => e)
  case ev =>
    (repeat' ((fail_if_success (with_reducible show wpAny _ _ (eval (PySem.Expr.ListComp _ _ _ _) _) _ _ _)); (fail_if_success (with_reducible show wpAny _ _ (compareOp _ _ _) _ _ _)); (fail_if_success (with_reducible show wpAny _ _ (call (Value.builtin "str.join") _) _ _ _)); (fail_if_success (with_reducible show wpAny _ _ (pyIter _) _ _ _)); (fail_if_success (with_reducible show wpAny _ _ (PySem.exec (PySem.Stmt.For _ _ _ _ _) _) _ _ _)); (fail_if_success (with_reducible show Kept _)); (first | (k_unfold; (try dsimp only)) | (k_end; wrow_close) | (with_reducible ((with_reducible show wpAny _ _ (subscriptTail _ _ (Value.ref _) (Value.int _ _)) _ _ _); refine r_item' ‹News _ _ _ _› (by ((repeat (first | assumption | exact List.Mem.head _ | apply List.mem_cons_of_mem | apply List.mem_append_left)))) rfl (by assumption) (by omega) ?_ (by with_unfolding_all rfl); (try dsimp only))) | walk1 | ((with_reducible show wpAny _ _ (subscriptTail _ _ (Value.ref _) (Value.int _ _)) _ _ _); refine r_item' ‹News _ _ _ _› (by ((repeat (first | assumption | exact List.Mem.head _ | apply List.mem_cons_of_mem | apply List.mem_append_left)))) rfl (by assumption) (by omega) ?_ (by with_unfolding_all rfl); (try dsimp only)) | (dsimp only; walk1) | (leave1; walk_say "STEP leave1"; try dsimp only))))
    exact Kept.of ⟨_, _, _, _, _, _, rfl, rfl, by assumption, by assumption, by assumption⟩
  case src =>
    intro xv s₁ hRg
    refine hideG ?_
    intro Cg hCg
    obtain ⟨r, t, u, v, h4, tk4, rfl, rfl, hR4, F4, N4⟩ := hRg
    refine hCg ?_
    clear hCg Cg
    refine PyProof.Rows.LCg.CompSrc.range (n := 5) rfl F4 N4 hR4 (small01 (by decide)) (size01 _) (by rw [sizeLine_eq]; decide) (fun g4 => ?_)
    refine compU_inv (n := 5) trivial (fun j ys => StrsAre ys ((List.range j).map fun i => ofL [SW.getD (i + 5 * (turN ns).getD i 0) 0])) ?step ?fin 5 0 [] (by decide) .nil
    case fin =>
      rintro ys hys
      unfold PyProof.Rows.LCg.FinE
      intro D9 h9 tk9 F9 N9 off9
      (repeat' ((fail_if_success (with_reducible show wpAny _ _ (eval (PySem.Expr.ListComp _ _ _ _) _) _ _ _)); (fail_if_success (with_reducible show wpAny _ _ (compareOp _ _ _) _ _ _)); (fail_if_success (with_reducible show wpAny _ _ (call (Value.builtin "str.join") _) _ _ _)); (fail_if_success (with_reducible show wpAny _ _ (pyIter _) _ _ _)); (fail_if_success (with_reducible show wpAny _ _ (PySem.exec (PySem.Stmt.For _ _ _ _ _) _) _ _ _)); (fail_if_success (with_reducible show Kept _)); (first | (k_unfold; (try dsimp only)) | (k_end; wrow_close) | (with_reducible ((with_reducible show wpAny _ _ (subscriptTail _ _ (Value.ref _) (Value.int _ _)) _ _ _); refine r_item' ‹News _ _ _ _› (by ((repeat (first | assumption | exact List.Mem.head _ | apply List.mem_cons_of_mem | apply List.mem_append_left)))) rfl (by assumption) (by omega) ?_ (by with_unfolding_all rfl); (try dsimp only))) | walk1 | ((with_reducible show wpAny _ _ (subscriptTail _ _ (Value.ref _) (Value.int _ _)) _ _ _); refine r_item' ‹News _ _ _ _› (by ((repeat (first | assumption | exact List.Mem.head _ | apply List.mem_cons_of_mem | apply List.mem_append_left)))) rfl (by assumption) (by omega) ?_ (by with_unfolding_all rfl); (try dsimp only)) | (dsimp only; walk1) | (leave1; walk_say "STEP leave1"; try dsimp only))))
      rename Fr _ _ _ _ => F10
      rename News _ _ _ _ => N10
      refine r_join (ts := (rowL (turN ns)).map fun c => ofL [c]) N10 (.head _) (by rw [rowL, List.map_map]; exact hys) (by simp [rowL]) (fun y hy => by obtain ⟨c, _, rfl⟩ := List.mem_map.mp hy; rw [ofL_len]; simp) ?_ (by decide)
      intro tj kj
      rw [join_letters]
      (repeat' ((fail_if_success (with_reducible show wpAny _ _ (eval (PySem.Expr.ListComp _ _ _ _) _) _ _ _)); (fail_if_success (with_reducible show wpAny _ _ (compareOp _ _ _) _ _ _)); (fail_if_success (with_reducible show wpAny _ _ (call (Value.builtin "str.join") _) _ _ _)); (fail_if_success (with_reducible show wpAny _ _ (pyIter _) _ _ _)); (fail_if_success (with_reducible show wpAny _ _ (PySem.exec (PySem.Stmt.For _ _ _ _ _) _) _ _ _)); (fail_if_success (with_reducible show Kept _)); (first | (k_unfold; (try dsimp only)) | (k_end; wrow_close) | (with_reducible ((with_reducible show wpAny _ _ (subscriptTail _ _ (Value.ref _) (Value.int _ _)) _ _ _); refine r_item' ‹News _ _ _ _› (by ((repeat (first | assumption | exact List.Mem.head _ | apply List.mem_cons_of_mem | apply List.mem_append_left)))) rfl (by assumption) (by omega) ?_ (by with_unfolding_all rfl); (try dsimp only))) | walk1 | ((with_reducible show wpAny _ _ (subscriptTail _ _ (Value.ref _) (Value.int _ _)) _ _ _); refine r_item' ‹News _ _ _ _› (by ((repeat (first | assumption | exact List.Mem.head _ | apply List.mem_cons_of_mem | apply List.mem_append_left)))) rfl (by assumption) (by omega) ?_ (by with_unfolding_all rfl); (try dsimp only)) | (dsimp only; walk1) | (leave1; walk_say "STEP leave1"; try dsimp only))))
      rename Fr _ _ _ _ => F12
      rename News _ _ _ _ => N12
      exact Kept.of ⟨trivial, LSt.intro F12 (fun q hq => N12 q (.tail _ hq)) ⟨U1, S1, L1, bl, tv, sv, oT, cu, ca, cl, _, rfl, dT, hbl, hgood, hinc, hDL, hsv, htv, rfl, rfl, rfl, rfl⟩⟩
    case step =>
      rintro j ys v' I oI C oCC D' m₂ h8 tk8 hj hJ8 hP8 hC8 hm8 F8 N8
      obtain ⟨tv', rfl⟩ := hP8
      rw [show (0 : Int) + (j : Int) = (j : Int) by omega] at hm8
      obtain ⟨t0, t1, t2⟩ := tur_bound ns hj
      obtain ⟨tt, ht⟩ := htv.get j ((tur ns).getD j 0) (by simp [tur, List.getD_eq_getElem?_getD, hj])
      have htl : tv.length = 5 := by rw [htv.length]; simp [tur]
      (repeat' ((fail_if_success (with_reducible show wpAny _ _ (eval (PySem.Expr.ListComp _ _ _ _) _) _ _ _)); (fail_if_success (with_reducible show wpAny _ _ (compareOp _ _ _) _ _ _)); (fail_if_success (with_reducible show wpAny _ _ (call (Value.builtin "str.join") _) _ _ _)); (fail_if_success (with_reducible show wpAny _ _ (pyIter _) _ _ _)); (fail_if_success (with_reducible show wpAny _ _ (PySem.exec (PySem.Stmt.For _ _ _ _ _) _) _ _ _)); (fail_if_success (with_reducible show Kept _)); (first | (k_unfold; (try dsimp only)) | (k_end; wrow_close) | (with_reducible ((with_reducible show wpAny _ _ (subscriptTail _ _ (Value.ref _) (Value.int _ _)) _ _ _); refine r_item' ‹News _ _ _ _› (by ((repeat (first | assumption | exact List.Mem.head _ | apply List.mem_cons_of_mem | apply List.mem_append_left)))) rfl (by assumption) (by omega) ?_ (by with_unfolding_all rfl); (try dsimp only))) | walk1 | ((with_reducible show wpAny _ _ (subscriptTail _ _ (Value.ref _) (Value.int _ _)) _ _ _); refine r_item' ‹News _ _ _ _› (by ((repeat (first | assumption | exact List.Mem.head _ | apply List.mem_cons_of_mem | apply List.mem_append_left)))) rfl (by assumption) (by omega) ?_ (by with_unfolding_all rfl); (try dsimp only)) | (dsimp only; walk1) | (leave1; walk_say "STEP leave1"; try dsimp only))))
      obtain ⟨tn, htn, htn2⟩ : ∃ tn : Nat, (tur ns).getD j 0 = tn ∧ tn < 2 := ⟨((tur ns).getD j 0).toNat, by omega, by omega⟩
      simp only [Int.toNat_natCast]
      rw [htn]
      refine item_str (by simp [fitsSsize]; omega) (by show -(10 : Int) ≤ _; omega) (by show _ < (10 : Int); omega) (fun _ => ?_)
      rw [item_sw j hj tn htn2]
      (repeat' ((fail_if_success (with_reducible show wpAny _ _ (eval (PySem.Expr.ListComp _ _ _ _) _) _ _ _)); (fail_if_success (with_reducible show wpAny _ _ (compareOp _ _ _) _ _ _)); (fail_if_success (with_reducible show wpAny _ _ (call (Value.builtin "str.join") _) _ _ _)); (fail_if_success (with_reducible show wpAny _ _ (pyIter _) _ _ _)); (fail_if_success (with_reducible show wpAny _ _ (PySem.exec (PySem.Stmt.For _ _ _ _ _) _) _ _ _)); (fail_if_success (with_reducible show Kept _)); (first | (k_unfold; (try dsimp only)) | (k_end; wrow_close) | (with_reducible ((with_reducible show wpAny _ _ (subscriptTail _ _ (Value.ref _) (Value.int _ _)) _ _ _); refine r_item' ‹News _ _ _ _› (by ((repeat (first | assumption | exact List.Mem.head _ | apply List.mem_cons_of_mem | apply List.mem_append_left)))) rfl (by assumption) (by omega) ?_ (by with_unfolding_all rfl); (try dsimp only))) | walk1 | ((with_reducible show wpAny _ _ (subscriptTail _ _ (Value.ref _) (Value.int _ _)) _ _ _); refine r_item' ‹News _ _ _ _› (by ((repeat (first | assumption | exact List.Mem.head _ | apply List.mem_cons_of_mem | apply List.mem_append_left)))) rfl (by assumption) (by omega) ?_ (by with_unfolding_all rfl); (try dsimp only)) | (dsimp only; walk1) | (leave1; walk_say "STEP leave1"; try dsimp only))))
      rename Fr _ _ _ _ => F9
      rename News _ _ _ _ => N9
      refine Took.intro F9 N9 (fun p hp => hp) ?_
      rw [List.range_succ, List.map_append]
      have e : (turN ns).getD j 0 = tn := by rw [t2, htn]; rfl
      simp only [List.map_cons, List.map_nil]
      rw [e]
      exact hJ8.append' (.cons _ _ .nil)
end Mine
end
section
open PySem PySem.W PyProof.Rows PySem.Spec PySem.Calls
set_option maxRecDepth 100000
set_option maxHeartbeats 0
set_option pp.maxSteps 4000
namespace Mine
noncomputable def OPEN : Str := Str.ofString "()/\\:;\""
noncomputable def lawText (sg : Str) (kd : Int) (i : Int) (shift : Int) : List Str :=
  let op := Txt.item OPEN ((i + shift).fmod 7)
  if kd = 0 then [Txt.slice op (some i) none ++ Str.ofString "____" ++ sg]
  else if kd = 1 then [op ++ Str.ofString "--  unknown  " ++ sg]
  else if kd = 2 then [Str.ofString " \t" ++ op ++ Str.ofString "    " ++ sg ++ Str.ofString "\t "]
  else [op ++ Str.ofString "    " ++ sg ++ Str.ofString ";", Str.ofString ""]
noncomputable def lawTexts (S6 : List Str) (K6 : List Int) (shift : Int) (n : Nat) : List Str := (List.range n).flatMap fun i => lawText (S6.getD i ⟨#[]⟩) (K6.getD i 0) i shift
noncomputable def mL (T ka sa : Addr) (shift : Int) (t1 : Tok) (u : Str → Option Value) : Str → Option Value := fun y => if y = Str.ofString "texts" then some (.ref T) else if y = Str.ofString "shift" then some (.int shift t1) else if y = Str.ofString "kinds" then some (.ref ka) else if y = Str.ofString "signs" then some (.ref sa) else u y
theorem mL_of {T ka sa : Addr} {shift : Int} {t1 : Tok} {m : Str → Option Value} (h1 : m (Str.ofString "texts") = some (.ref T)) (h2 : m (Str.ofString "shift") = some (.int shift t1)) (h3 : m (Str.ofString "kinds") = some (.ref ka)) (h4 : m (Str.ofString "signs") = some (.ref sa)) : m = mL T ka sa shift t1 m := by
  funext y
  unfold mL
  by_cases e1 : y = Str.ofString "texts"
  · rw [if_pos e1, e1, h1]
  · rw [if_neg e1]
    by_cases e2 : y = Str.ofString "shift"
    · rw [if_pos e2, e2, h2]
    · rw [if_neg e2]
      by_cases e3 : y = Str.ofString "kinds"
      · rw [if_pos e3, e3, h3]
      · rw [if_neg e3]
        by_cases e4 : y = Str.ofString "signs"
        · rw [if_pos e4, e4, h4]
        · rw [if_neg e4]
noncomputable def strV : Value → Str
  | .str x _ => x
  | _ => ⟨#[]⟩
noncomputable def isStrV : Value → Bool
  | .str .. => true
  | _ => false
theorem strsV : ∀ {vs : List Value}, vs.all isStrV = true → StrsAre vs (vs.map strV)
  | [], _ => .nil
  | v :: vs, h => by
    rw [List.all_cons, Bool.and_eq_true] at h
    cases v with
    | str x t => exact .cons x t (strsV h.2)
    | _ => exact absurd h.1 (by simp [isStrV])
noncomputable def LTJ (news : List (Addr × Obj)) (S6 : List Str) (K6 : List Int) (ka sa : Addr) (shift : Int) (t1 : Tok) (i : Nat) (m₁ : Str → Option Value) (nx : List (Addr × Obj)) : Prop :=
  ∃ (T : Addr) (tvs : List Value) (tc : Nat), nx = (T, W.listOf tvs.toArray tc) :: news ∧ StrsAre tvs (lawTexts S6 K6 shift i) ∧ tvs.length ≤ 2 * i ∧ (∀ q ∈ news, q.1 < T) ∧ m₁ = mL T ka sa shift t1 m₁
theorem lt_end {g h : Heap} {L' : Addr} {s : Shared} {m : Str → Option Value} {news : List (Addr × Obj)} {S6 : List Str} {K6 : List Int} {ka sa it T D l : Addr} {shift : Int} {t1 : Tok} {i : Nat} {o x y : Obj} {tvs ws : List Value} {tk : Nat}
    (F : Fr g L' h m) (N : News g L' h ((D, W.listOf (tvs ++ ws).toArray 0) :: (l, x) :: (it, o) :: (T, y) :: news)) (lD : ∀ q ∈ (l, x) :: (it, o) :: (T, y) :: news, q.1 < D) (hne : ∀ p ∈ (T, y) :: news, p.1 ≠ it)
    (htv : StrsAre tvs (lawTexts S6 K6 shift i)) (htl : tvs.length ≤ 2 * i) (hws : ws.all isStrV = true) (hW : lawText (S6.getD i ⟨#[]⟩) (K6.getD i 0) i shift = ws.map strV) (hl : ws.length ≤ 2) (hm : m = mL D ka sa shift t1 m) :
    Kept (TurnedR g L' s it o (LTJ news S6 K6 ka sa shift t1 (i + 1)) .next { s with heap := h, toks := tk }) := by
  refine TurnedR.intro ((D, W.listOf (tvs ++ ws).toArray 0) :: news) F N ?_ ?_ ⟨D, tvs ++ ws, 0, rfl, ?_, by simp; omega, fun q hq => lD q (.tail _ (.tail _ (.tail _ hq))), hm⟩
  · intro p hp
    rcases List.mem_cons.mp hp with rfl | hp
    · exact .tail _ (.tail _ (.head _))
    · rcases List.mem_cons.mp hp with rfl | hp
      · exact .head _
      · exact .tail _ (.tail _ (.tail _ (.tail _ hp)))
  · intro p hp
    rcases List.mem_cons.mp hp with rfl | hp
    · exact .inr (by simp)
    · exact .inl (hne p (.tail _ hp))
  · unfold lawTexts
    rw [List.range_succ, List.flatMap_append]
    refine htv.append' ?_
    simp only [List.flatMap_cons, List.flatMap_nil, List.append_nil]
    rw [hW]
    exact strsV hws
theorem c_texts {w : World} {mean mg mb} (sa ka : Addr) (ss ks : List Value) (cs' ck : Nat) (S6 : List Str) (K6 : List Int) (shift : Int) (t1 : Tok) (news : List (Addr × Obj))
   (hsa : (sa, W.listOf ss.toArray cs') ∈ news) (hka : (ka, W.listOf ks.toArray ck) ∈ news) (hS : StrsAre ss S6) (hK : IntsAre ks K6) (hl : S6.length = 6) (hl2 : K6.length = 6) (hS1 : ∀ x ∈ S6, x.length ≤ 1) (hsh : 0 ≤ shift ∧ shift ≤ 100) :
   Ctr w mean mg mb 84 2 20 news [.ref sa, .ref ka, .int shift t1] (fun r tl => ∃ (T : Addr) (tvs : List Value) (tc : Nat), r = .ref T ∧ tl = [(T, W.listOf tvs.toArray tc)] ∧ StrsAre tvs (lawTexts S6 K6 shift 6) ∧ tvs.length ≤ 2 * 6 ∧ (∀ q ∈ news, q.1 < T)) := by
  refine fillIt ?_
  k_fill
  intro _
  intro dp un gd cn cs a ccd cl outer A₀ base h₀ L m s Q E S hdp hun hret
  refine hideG ?_
  intro Cg hCg
  obtain ⟨B0, F0, X0, N0, T0, hk0⟩ := id S
  refine hCg ?_
  clear hCg Cg
  refine' callBody [(Str.ofString "signs", .ref sa), (Str.ofString "kinds", .ref ka), (Str.ofString "shift", .int shift t1)] [(Str.ofString "shift", .int shift t1), (Str.ofString "kinds", .ref ka), (Str.ofString "signs", .ref sa)] S ?ho ?hcd ?hr ?hb ?hl ?c2 ?c3 ?c4 ?c5 ?hrb hret ?_
  (((case ho => k_is); (case hcd => k_is); (case hr => omega); (case hb => exact BindsTo.of_eq rfl); (case hl => exact locs rfl); (case c2 => exact rfl); (case c3 => exact rfl); (case c4 => exact rfl); (case c5 => decide); (case hrb => rfl); k_whole))
  clear F0 N0 B0 X0 T0 S hret
  intro g L' h₁ F' N' B' X' T'
  have hss : ss.length = 6 := by rw [hS.length]; exact hl
  have hks : ks.length = 6 := by rw [hK.length]; exact hl2
  (repeat' ((fail_if_success (with_reducible show wpAny _ _ (PySem.exec (PySem.Stmt.While _ _ _ _) _) _ _ _)); (fail_if_success (with_reducible show wpAny _ _ (PySem.exec (PySem.Stmt.For _ _ _ _ _) _) _ _ _)); (fail_if_success (with_reducible show wpAny _ _ (PySem.pyIter _) _ _ _)); (fail_if_success (with_reducible show Kept _)); (fail_if_success (with_reducible show InvEndN _ _ _ _ _ _ _)); (first | (k_unfold; (try dsimp only)) | (k_end; wrow_close) | (with_reducible ((with_reducible show wpAny _ _ (binaryOp _ (Value.ref _) (Value.ref _)) _ _ _); refine r_add ‹Fr _ _ _ _› ‹News _ _ _ _› (by ((repeat (first | assumption | exact List.Mem.head _ | apply List.mem_cons_of_mem | apply List.mem_append_left)))) (by ((repeat (first | assumption | exact List.Mem.head _ | apply List.mem_cons_of_mem | apply List.mem_append_left)))) (by simp; omega) ?_; intro _ _ _ _ _; (try dsimp only))) | (with_reducible ((with_reducible show wpAny _ _ (subscriptTail _ _ (Value.ref _) (Value.int _ _)) _ _ _); refine r_item' ‹News _ _ _ _› (by ((repeat (first | assumption | exact List.Mem.head _ | apply List.mem_cons_of_mem | apply List.mem_append_left)))) rfl (by assumption) (by omega) ?_ (by with_unfolding_all rfl); (try dsimp only))) | (with_reducible ((with_reducible show wpAny _ _ (call (Value.builtin _) [Value.ref _]) _ _ _); refine r_len (n := 6) ‹News _ _ _ _› (by ((repeat (first | assumption | exact List.Mem.head _ | apply List.mem_cons_of_mem | apply List.mem_append_left)))) (by assumption) (by decide) ?_; (try dsimp only))) | ((with_reducible show wpAny _ _ (binaryOp _ (Value.ref _) (Value.ref _)) _ _ _); refine r_add ‹Fr _ _ _ _› ‹News _ _ _ _› (by ((repeat (first | assumption | exact List.Mem.head _ | apply List.mem_cons_of_mem | apply List.mem_append_left)))) (by ((repeat (first | assumption | exact List.Mem.head _ | apply List.mem_cons_of_mem | apply List.mem_append_left)))) (by simp; omega) ?_; intro _ _ _ _ _; (try dsimp only)) | walk1 | ((with_reducible show wpAny _ _ (subscriptTail _ _ (Value.ref _) (Value.int _ _)) _ _ _); refine r_item' ‹News _ _ _ _› (by ((repeat (first | assumption | exact List.Mem.head _ | apply List.mem_cons_of_mem | apply List.mem_append_left)))) rfl (by assumption) (by omega) ?_ (by with_unfolding_all rfl); (try dsimp only)) | (dsimp only; walk1) | (leave1; walk_say "STEP leave1"; try dsimp only))))
  refine wpAny_For ?_
  (repeat' ((fail_if_success (with_reducible show wpAny _ _ (PySem.exec (PySem.Stmt.While _ _ _ _) _) _ _ _)); (fail_if_success (with_reducible show wpAny _ _ (PySem.exec (PySem.Stmt.For _ _ _ _ _) _) _ _ _)); (fail_if_success (with_reducible show wpAny _ _ (PySem.pyIter _) _ _ _)); (fail_if_success (with_reducible show Kept _)); (fail_if_success (with_reducible show InvEndN _ _ _ _ _ _ _)); (first | (k_unfold; (try dsimp only)) | (k_end; wrow_close) | (with_reducible ((with_reducible show wpAny _ _ (binaryOp _ (Value.ref _) (Value.ref _)) _ _ _); refine r_add ‹Fr _ _ _ _› ‹News _ _ _ _› (by ((repeat (first | assumption | exact List.Mem.head _ | apply List.mem_cons_of_mem | apply List.mem_append_left)))) (by ((repeat (first | assumption | exact List.Mem.head _ | apply List.mem_cons_of_mem | apply List.mem_append_left)))) (by simp; omega) ?_; intro _ _ _ _ _; (try dsimp only))) | (with_reducible ((with_reducible show wpAny _ _ (subscriptTail _ _ (Value.ref _) (Value.int _ _)) _ _ _); refine r_item' ‹News _ _ _ _› (by ((repeat (first | assumption | exact List.Mem.head _ | apply List.mem_cons_of_mem | apply List.mem_append_left)))) rfl (by assumption) (by omega) ?_ (by with_unfolding_all rfl); (try dsimp only))) | (with_reducible ((with_reducible show wpAny _ _ (call (Value.builtin _) [Value.ref _]) _ _ _); refine r_len (n := 6) ‹News _ _ _ _› (by ((repeat (first | assumption | exact List.Mem.head _ | apply List.mem_cons_of_mem | apply List.mem_append_left)))) (by assumption) (by decide) ?_; (try dsimp only))) | ((with_reducible show wpAny _ _ (binaryOp _ (Value.ref _) (Value.ref _)) _ _ _); refine r_add ‹Fr _ _ _ _› ‹News _ _ _ _› (by ((repeat (first | assumption | exact List.Mem.head _ | apply List.mem_cons_of_mem | apply List.mem_append_left)))) (by ((repeat (first | assumption | exact List.Mem.head _ | apply List.mem_cons_of_mem | apply List.mem_append_left)))) (by simp; omega) ?_; intro _ _ _ _ _; (try dsimp only)) | walk1 | ((with_reducible show wpAny _ _ (subscriptTail _ _ (Value.ref _) (Value.int _ _)) _ _ _); refine r_item' ‹News _ _ _ _› (by ((repeat (first | assumption | exact List.Mem.head _ | apply List.mem_cons_of_mem | apply List.mem_append_left)))) rfl (by assumption) (by omega) ?_ (by with_unfolding_all rfl); (try dsimp only)) | (dsimp only; walk1) | (leave1; walk_say "STEP leave1"; try dsimp only))))
  rename Fr _ _ _ _ => F5
  rename News _ _ _ _ => N5
  rename (∀ p, p ∈ news → _ < _) => lT
  rename_i T0 _ _ _ _ _ _ _ _ _ _ _
  refine forRangeA (n := 6) (nx₀ := (T0, W.listOf #[] 0) :: news) rfl F5 N5 (by assumption) (small01 (by omega)) (size01 _) (fun i m₁ nx => LTJ news S6 K6 ka sa shift t1 i m₁ nx) ⟨T0, [], 0, rfl, .nil, Nat.zero_le _, lT, mL_of rfl rfl rfl rfl⟩ ?turn ?done (by intro _ _; rfl)
  case turn =>
    clear F5 N5
    intro it i m₁ nx h₂ tk₂ o hni hi hJ hne F2 N2
    refine hideG ?_
    intro Cg hCg
    obtain ⟨T, tvs, tc, rfl, htv, htl, hT, hm⟩ := hJ
    refine hCg ?_
    clear hCg Cg
    rw [hm] at F2
    unfold mL at F2
    obtain ⟨sg, hsg⟩ : ∃ sg, S6[i]? = some sg := ⟨_, List.getElem?_eq_getElem (by omega)⟩
    obtain ⟨kd, hkd⟩ : ∃ kd, K6[i]? = some kd := ⟨_, List.getElem?_eq_getElem (by omega)⟩
    obtain ⟨tsg, hss2⟩ := hS.at hsg
    obtain ⟨tkd, hks2⟩ := hK.get i kd hkd
    have hsgl := hS1 sg (List.mem_of_getElem? hsg)
    dsimp only
    (repeat' ((fail_if_success (with_reducible show wpAny _ _ (PySem.exec (PySem.Stmt.While _ _ _ _) _) _ _ _)); (fail_if_success (with_reducible show wpAny _ _ (PySem.exec (PySem.Stmt.For _ _ _ _ _) _) _ _ _)); (fail_if_success (with_reducible show wpAny _ _ (PySem.pyIter _) _ _ _)); (fail_if_success (with_reducible show Kept _)); (fail_if_success (with_reducible show InvEndN _ _ _ _ _ _ _)); (first | (k_unfold; (try dsimp only)) | (k_end; wrow_close) | (with_reducible ((with_reducible show wpAny _ _ (binaryOp _ (Value.ref _) (Value.ref _)) _ _ _); refine r_add ‹Fr _ _ _ _› ‹News _ _ _ _› (by ((repeat (first | assumption | exact List.Mem.head _ | apply List.mem_cons_of_mem | apply List.mem_append_left)))) (by ((repeat (first | assumption | exact List.Mem.head _ | apply List.mem_cons_of_mem | apply List.mem_append_left)))) (by simp; omega) ?_; intro _ _ _ _ _; (try dsimp only))) | (with_reducible ((with_reducible show wpAny _ _ (subscriptTail _ _ (Value.ref _) (Value.int _ _)) _ _ _); refine r_item' ‹News _ _ _ _› (by ((repeat (first | assumption | exact List.Mem.head _ | apply List.mem_cons_of_mem | apply List.mem_append_left)))) rfl (by assumption) (by omega) ?_ (by with_unfolding_all rfl); (try dsimp only))) | (with_reducible ((with_reducible show wpAny _ _ (call (Value.builtin _) [Value.ref _]) _ _ _); refine r_len (n := 6) ‹News _ _ _ _› (by ((repeat (first | assumption | exact List.Mem.head _ | apply List.mem_cons_of_mem | apply List.mem_append_left)))) (by assumption) (by decide) ?_; (try dsimp only))) | ((with_reducible show wpAny _ _ (binaryOp _ (Value.ref _) (Value.ref _)) _ _ _); refine r_add ‹Fr _ _ _ _› ‹News _ _ _ _› (by ((repeat (first | assumption | exact List.Mem.head _ | apply List.mem_cons_of_mem | apply List.mem_append_left)))) (by ((repeat (first | assumption | exact List.Mem.head _ | apply List.mem_cons_of_mem | apply List.mem_append_left)))) (by simp; omega) ?_; intro _ _ _ _ _; (try dsimp only)) | walk1 | ((with_reducible show wpAny _ _ (subscriptTail _ _ (Value.ref _) (Value.int _ _)) _ _ _); refine r_item' ‹News _ _ _ _› (by ((repeat (first | assumption | exact List.Mem.head _ | apply List.mem_cons_of_mem | apply List.mem_append_left)))) rfl (by assumption) (by omega) ?_ (by with_unfolding_all rfl); (try dsimp only)) | (dsimp only; walk1) | (leave1; walk_say "STEP leave1"; try dsimp only))))
    all_goals
      rename_i D _ lD _ F9 N9
      refine lt_end F9 N9 lD hne htv htl rfl ?eq (by simp) (mL_of rfl rfl rfl rfl)
      case eq =>
        rw [List.getD_eq_getElem?_getD, hsg, List.getD_eq_getElem?_getD, hkd]
        simp only [Option.getD_some]
        unfold lawText
        first
          | rw [if_pos (by assumption)]; rfl
          | (rw [if_neg (by assumption), if_pos (by assumption)]; rfl)
          | (rw [if_neg (by assumption), if_neg (by assumption), if_pos (by assumption)]; rfl)
          | (rw [if_neg (by assumption), if_neg (by assumption), if_neg (by assumption)]; rfl)
  case done =>
    clear F5 N5
    intro m₁ nx h₂ tk₂ hJ F2 N2
    refine hideG ?_
    intro Cg hCg
    obtain ⟨T, tvs, tc, rfl, htv, htl, hT, hm⟩ := hJ
    refine hCg ?_
    clear hCg Cg
    rw [hm] at F2
    unfold mL at F2
    dsimp only
    (repeat' ((fail_if_success (with_reducible show wpAny _ _ (PySem.exec (PySem.Stmt.While _ _ _ _) _) _ _ _)); (fail_if_success (with_reducible show wpAny _ _ (PySem.exec (PySem.Stmt.For _ _ _ _ _) _) _ _ _)); (fail_if_success (with_reducible show wpAny _ _ (PySem.pyIter _) _ _ _)); (fail_if_success (with_reducible show Kept _)); (fail_if_success (with_reducible show InvEndN _ _ _ _ _ _ _)); (first | (k_unfold; (try dsimp only)) | (k_end; wrow_close) | (with_reducible ((with_reducible show wpAny _ _ (binaryOp _ (Value.ref _) (Value.ref _)) _ _ _); refine r_add ‹Fr _ _ _ _› ‹News _ _ _ _› (by ((repeat (first | assumption | exact List.Mem.head _ | apply List.mem_cons_of_mem | apply List.mem_append_left)))) (by ((repeat (first | assumption | exact List.Mem.head _ | apply List.mem_cons_of_mem | apply List.mem_append_left)))) (by simp; omega) ?_; intro _ _ _ _ _; (try dsimp only))) | (with_reducible ((with_reducible show wpAny _ _ (subscriptTail _ _ (Value.ref _) (Value.int _ _)) _ _ _); refine r_item' ‹News _ _ _ _› (by ((repeat (first | assumption | exact List.Mem.head _ | apply List.mem_cons_of_mem | apply List.mem_append_left)))) rfl (by assumption) (by omega) ?_ (by with_unfolding_all rfl); (try dsimp only))) | (with_reducible ((with_reducible show wpAny _ _ (call (Value.builtin _) [Value.ref _]) _ _ _); refine r_len (n := 6) ‹News _ _ _ _› (by ((repeat (first | assumption | exact List.Mem.head _ | apply List.mem_cons_of_mem | apply List.mem_append_left)))) (by assumption) (by decide) ?_; (try dsimp only))) | ((with_reducible show wpAny _ _ (binaryOp _ (Value.ref _) (Value.ref _)) _ _ _); refine r_add ‹Fr _ _ _ _› ‹News _ _ _ _› (by ((repeat (first | assumption | exact List.Mem.head _ | apply List.mem_cons_of_mem | apply List.mem_append_left)))) (by ((repeat (first | assumption | exact List.Mem.head _ | apply List.mem_cons_of_mem | apply List.mem_append_left)))) (by simp; omega) ?_; intro _ _ _ _ _; (try dsimp only)) | walk1 | ((with_reducible show wpAny _ _ (subscriptTail _ _ (Value.ref _) (Value.int _ _)) _ _ _); refine r_item' ‹News _ _ _ _› (by ((repeat (first | assumption | exact List.Mem.head _ | apply List.mem_cons_of_mem | apply List.mem_append_left)))) rfl (by assumption) (by omega) ?_ (by with_unfolding_all rfl); (try dsimp only)) | (dsimp only; walk1) | (leave1; walk_say "STEP leave1"; try dsimp only))))
    exact Came.ret [(T, W.listOf tvs.toArray tc)] F2 N2 ⟨T, tvs, tc, rfl, rfl, htv, htl, hT⟩
end Mine
end
section
open PySem PySem.W PyProof.Rows PySem.Spec PySem.Calls
set_option maxRecDepth 100000
set_option maxHeartbeats 0
set_option pp.maxSteps 6000
namespace Mine
theorem seqT {M : Model} {A : Around} {env : Env} {st : Stmt} {rest : List Stmt} {Q : Flow → Shared → Prop} {E : Value → Shared → Prop} {s : Shared} (hn : 1 ≤ s.toks) (P : Shared → Prop)
    (h1 : wpAny M A (exec st env) (fun f s' => Kept (f = .next ∧ P s')) (fun _ _ => False) s) (h2 : ∀ s', 1 ≤ s'.toks → P s' → wpAny M A (execs rest env) Q E s') : wpAny M A (execs (st :: rest) env) Q E s :=
  seqA (fun s' => 1 ≤ s'.toks ∧ P s') (wpAny_with_toks hn (wpAny_mono h1 (fun _ _ h ht => ⟨h.1, ht, h.2⟩) fun _ _ e => e.elim)) fun s' h => h2 s' h.1 h.2
theorem whileT {prog : Program} {w : World} {A : Around} {env : Env} {test : Expr} {body : List Stmt} {pos : Pos} {s : Shared} (hn : 1 ≤ s.toks) (I : Nat → Shared → Prop) (n₀ : Nat) (h0 : I n₀ s) (Qf : Shared → Prop)
    (turn : ∀ n s', 1 ≤ s'.toks → I n s' → wpAny (model prog w) A (isTrue test env (eval test env)) (fun b s₂ => if b = true then wpAny (model prog w) A (execs body env) (fun f s₃ => Kept (match f with | .next | .cont => ∃ m, m < n ∧ I m s₃ | .brk => Qf s₃ | .ret _ => False)) (fun _ _ => False) s₂ else Kept (Qf s₂)) (fun _ _ => False) s') :
    wpAny (model prog w) A (exec (.While test body [] pos) env) (fun f s' => Kept (f = .next ∧ Qf s')) (fun _ _ => False) s := by
  refine wpAny_While (codeAny_whileLoop (fun n s' => 1 ≤ s'.toks ∧ I n s') ?_ n₀ ⟨hn, h0⟩)
  rintro n s' ⟨hn', h⟩
  refine wpAny_mono (wpAny_toks_of hn' (turn n s' hn' h)) (fun b s₂ q => ?_) fun _ _ e => e.2.elim
  obtain ⟨hn2, q⟩ := q
  cases b with
  | true =>
    rw [if_pos rfl] at q
    show wpAny _ _ (execs body env) _ _ s₂
    refine wpAny_mono (wpAny_toks_of hn2 q) (fun f s₃ r => ?_) fun _ _ e => e.2.elim
    obtain ⟨hn3, r⟩ := r
    cases f with
    | next => exact let ⟨m, h1, h2⟩ := r; ⟨m, h1, hn3, h2⟩
    | cont => exact let ⟨m, h1, h2⟩ := r; ⟨m, h1, hn3, h2⟩
    | brk => exact ⟨rfl, r⟩
    | ret v => exact r.elim
  | false =>
    rw [if_neg Bool.false_ne_true] at q
    show wpAny _ _ (execs [] env) _ _ s₂
    exact wpAny_execs_nil ⟨rfl, q⟩
noncomputable def mP (D : Addr) (x : Str) (t : Tok) (u : Str → Option Value) : Str → Option Value := fun y => if y = Str.ofString "platform" then some (.str x t) else if y = Str.ofString "args" then some (.ref D) else u y
theorem mP_of {D : Addr} {x : Str} {t : Tok} {m : Str → Option Value} (h1 : m (Str.ofString "platform") = some (.str x t)) (h2 : m (Str.ofString "args") = some (.ref D)) : m = mP D x t m := by
  funext y
  unfold mP
  by_cases e1 : y = Str.ofString "platform"
  · rw [if_pos e1, e1, h1]
  · rw [if_neg e1]
    by_cases e2 : y = Str.ofString "args"
    · rw [if_pos e2, e2, h2]
    · rw [if_neg e2]
noncomputable def PlI (g : Heap) (L' D : Addr) (s : Shared) (R : Str → Prop) (s' : Shared) : Prop := ∃ h x t tk u, s' = { s with heap := h, toks := tk } ∧ Fr g L' h (mP D x t u) ∧ R x
theorem PlI.intro {g h : Heap} {L' D : Addr} {s : Shared} {R : Str → Prop} {x : Str} {t : Tok} {tk : Nat} {m : Str → Option Value} (F : Fr g L' h m) (e : m = mP D x t m) (r : R x) : PlI g L' D s R { s with heap := h, toks := tk } := ⟨h, x, t, tk, m, rfl, e ▸ F, r⟩
noncomputable def platJoin (ts : List Str) : Str := Txt.join (Str.ofString "-") ((fullOf ts).map Txt.strip)
noncomputable def platR (x : Str) : Str := Txt.replace (Txt.replace (Txt.replace (Txt.replace (Txt.replace (Txt.replace (Txt.replace (Txt.replace (Txt.replace x (Str.ofString " ") (Str.ofString "_")) (Str.ofString "/") (Str.ofString "-")) (Str.ofString "\\") (Str.ofString "-")) (Str.ofString ":") (Str.ofString "-")) (Str.ofString ";") (Str.ofString "-")) (Str.ofString "\"") (Str.ofString "-")) (Str.ofString "(") (Str.ofString "-")) (Str.ofString ")") (Str.ofString "-")) (Str.ofString "unknown") (Str.ofString "")
noncomputable def platL (ts : List Str) : List Nat := trimR (sqf false (platR (platJoin ts)).cps.toList)
theorem foldl_small : ∀ (l : List Str) (a : Nat), (∀ x ∈ l, x.length ≤ 60) → l.foldl (fun n x => n + x.length + (Str.ofString "-").length) a ≤ a + l.length * 61
  | [], a, _ => by simp
  | x :: l, a, h => by
    have h1 := h x (.head _)
    have h2 := foldl_small l (a + x.length + (Str.ofString "-").length) fun y hy => h y (.tail _ hy)
    have h3 : (Str.ofString "-").length = 1 := rfl
    rw [List.foldl_cons, List.length_cons]
    rw [h3] at h2 ⊢
    omega
theorem joinOk_small {l : List Str} (hl : l.length ≤ 20) (h : ∀ x ∈ l, x.length ≤ 60) : JoinOk (Str.ofString "-") l = true := by
  have h1 := foldl_small l 0 h
  unfold JoinOk PySem.Builtin.Str.tooLong
  rw [List.foldl_toArray]
  have : 10000 ≤ sizeLine := by decide
  simp
  omega
theorem joinLen : ∀ (l : List Str), (∀ x ∈ l, x.length ≤ 60) → (Str.join (Str.ofString "-") l).length ≤ l.length * 61
  | [], _ => Nat.le_refl _
  | [x], h => by
    have := h x (.head _)
    show x.length ≤ 1 * 61
    omega
  | x :: y :: r, h => by
    have h1 := h x (.head _)
    have h2 := joinLen (y :: r) fun z hz => h z (.tail _ hz)
    show (x ++ Str.ofString "-" ++ Str.join (Str.ofString "-") (y :: r)).length ≤ _
    rw [Str.length_append, Str.length_append]
    have h3 : (Str.ofString "-").length = 1 := rfl
    rw [h3]
    simp only [List.length_cons] at h2 ⊢
    omega
theorem platJoin_len {ts : List Str} (hl : ts.length ≤ 20) (hx : ∀ x ∈ ts, x.length ≤ 60) : (platJoin ts).length ≤ 1300 := by
  unfold platJoin
  have e : Txt.join (Str.ofString "-") ((fullOf ts).map Txt.strip) = Str.join (Str.ofString "-") ((fullOf ts).map Txt.strip) := StrLaws.glued_eq_join _ _
  rw [e]
  refine Nat.le_trans (joinLen _ fun x hx' => ?_) ?_
  · obtain ⟨y, hy, rfl⟩ := List.mem_map.mp hx'
    exact Nat.le_trans (len_strip y) (hx y (List.mem_filter.mp hy).1)
  · have hful : (fullOf ts).length ≤ 20 := Nat.le_trans (List.length_filter_le _ _) hl
    rw [List.length_map]
    omega
noncomputable def PlSt (g : Heap) (L' c P D : Addr) (ps : Array Value) (s : Shared) (x : Str) (s' : Shared) : Prop :=
  ∃ more t, Based g (regrown g P (ps ++ more)) c P (ps ++ more) ∧ Fr (regrown g P (ps ++ more)) L' s'.heap (mp [(Str.ofString "args", .ref D), (Str.ofString "platform", .str x t)]) ∧ AllBare s'.gens ∧ s'.os = s.os
noncomputable def PlR (g : Heap) (L' D : Addr) (s : Shared) (x : Str) (s' : Shared) : Prop := ∃ h t tk, s' = { s with heap := h, toks := tk } ∧ Fr g L' h (mp [(Str.ofString "args", .ref D), (Str.ofString "platform", .str x t)])
theorem plR_end {g h : Heap} {L' D : Addr} {s : Shared} {x : Str} {t : Tok} {tk : Nat} {m : Str → Option Value} (F : Fr g L' h m) (e : m = mp [(Str.ofString "args", .ref D), (Str.ofString "platform", .str x t)]) : Kept (True ∧ PlR g L' D s x { s with heap := h, toks := tk }) := by
  subst e
  exact Kept.of ⟨trivial, h, t, tk, rfl, F⟩
theorem c_plat {w : World} {mean mg mb} (vs : List Value) (ts : List Str) (news : List (Addr × Obj)) (hv : StrsAre vs ts) (hl : ts.length ≤ 20) (hx : ∀ x ∈ ts, x.length ≤ 60) 
   (dp un : Nat) (gd : Option (List Code)) (cn : Str) (cs : Scope) (a : Addr) (ccd : Value) (cl : List (Str × Addr)) (outer : List Env) (A₀ : Around) (base h₀ : Heap) (L : Addr) (m : Str → Option Value) (s : Shared) (Q E : Value → Shared → Prop) (h₁ : Heap) (P : Addr) (ps : Array Value) (hdp : dp + 3 < recursionLimit) (hun : un + 60 < cLine)
   (S : Site w mean mg mb cs outer A₀ base h₀ L m s news) (B : Based h₁ h₀ 64 P ps) (G : AllBare s.gens)
   (hret : ∀ (x : Str) (t : Tok) (s' : Shared) (more : Array Value), x.cps.toList = platL ts → Based h₁ (regrown h₀ P (ps ++ more)) 64 P (ps ++ more) → Fr (regrown h₀ P (ps ++ more)) L s'.heap m → News (regrown h₀ P (ps ++ more)) L s'.heap news → AllBare s'.gens → s'.os = s.os → Q (.str x t) s') :
   wpAny (model PG w) (ktrTop dp un gd cn cs L a ccd cl outer) (call (.ref 65) vs) Q E s := by
  revert S
  refine fillIt ?_
  k_fill
  intro _
  intro S
  obtain ⟨B0, F0, X0, N0, T0, hk0⟩ := id S
  refine' callStar S ?ho ?hcd (by omega) (by rw [hv.length]; omega) ?hl ?c2 ?c3 ?c4 ?c5 ?_
  case ho => k_is
  case hcd => k_is
  case hl => exact rfl
  case c2 => exact rfl
  case c3 => exact rfl
  case c4 => exact rfl
  case c5 => decide
  intro g D L' h₂ hD hg F
  subst hg
  have kg : ∀ b o, s.heap.get? b = some o → (s.heap.push { cls := Value.type "tuple", data := Data.seq vs.toArray }).get? b = some o := fun b o e => Heap.get?_push_of_some _ e
  have hDt : (s.heap.push { cls := Value.type "tuple", data := Data.seq vs.toArray }).get? D = some { cls := Value.type "tuple", data := Data.seq vs.toArray } := by rw [hD]; exact Heap.get?_push_size _ rfl
  have Bg : Based (s.heap.push { cls := Value.type "tuple", data := Data.seq vs.toArray }) (s.heap.push { cls := Value.type "tuple", data := Data.seq vs.toArray }) 64 P ps := .start ((B.codeAt F0).push _) ((B.tabAt F0).push _) B.notStatics
  have kg0 : ∀ b o, h₀.get? b = some o → (s.heap.push { cls := Value.type "tuple", data := Data.seq vs.toArray }).get? b = some o := fun b o e => kg b o (F0.keep b o e)
  have X' := X0.keeps kg0
  have T' := T0.keeps kg0
  have hfin : ∀ (x : Str) (t : Tok) (s' : Shared) (more : Array Value) (L1 : Addr) (m1 : Str → Option Value), x.cps.toList = platL ts → Based (s.heap.push { cls := Value.type "tuple", data := Data.seq vs.toArray }) (regrown (s.heap.push { cls := Value.type "tuple", data := Data.seq vs.toArray }) P (ps ++ more)) 64 P (ps ++ more) →
      Fr (regrown (s.heap.push { cls := Value.type "tuple", data := Data.seq vs.toArray }) P (ps ++ more)) L1 s'.heap m1 → AllBare s'.gens → s'.os = s.os → Q (.str x t) s' := by
    intro x t s' more L1 m1 ex B1 F1 G1 o1
    have hx1 : Heap.ExtBut P s.heap s'.heap := fun b o hb e => F1.keep b o ((Heap.get?_update_other _ _ (Ne.symm hb)).trans (kg b o e))
    obtain ⟨B2, F2⟩ := B.grow F0 hx1 (B1.codeAt F1) (B1.tabAt F1)
    refine hret x t s' more ex B2 F2 (fun p hp => ?_) G1 o1
    obtain ⟨n1, n2, n3⟩ := N0 p hp
    have hpP : p.1 ≠ P := fun e => by rw [e, (B.tab).2] at n3; cases n3
    exact ⟨hx1 _ _ hpP n1, n2, (Heap.get?_update_other _ _ (Ne.symm hpP)).trans n3⟩
  clear hret
  generalize (s.heap.push { cls := Value.type "tuple", data := Data.seq vs.toArray }) = g at *
  clear X0 T0 S B0 kg0 N0 kg
  have N' : News g L' h₂ [] := News.nil
  obtain ⟨_, _, M'⟩ := bmod_of_top T'
  have hlim := T'.nolimit
  with_reducible refine seqT (by show 1 ≤ s.toks + 1; omega) (PlSt g L' 64 P D ps s (platJoin ts)) ?a ?b
  case a =>
    (repeat' ((fail_if_success (with_reducible show wpAny _ _ (PySem.eval (PySem.Expr.GeneratorExp _ _ _ _) _) _ _ _)); (fail_if_success (with_reducible show wpAny _ _ (call (Value.type _) _) _ _ _)); (fail_if_success (with_reducible show Kept _)); (fail_if_success (with_reducible show wpAny _ _ (execs _ _) _ _ _)); (first | (k_unfold; (try dsimp only)) | (with_reducible ((with_reducible show wpAny _ _ (call (Value.builtin "str.replace") _) _ _ _); refine SC.replaceW (by (show @Ne Nat _ _); omega) (by (show @Ne Nat _ _); omega) (by (show @Ne Nat _ _); omega) (by decide) (by omega) (by decide) ?_; intro _ _; (try dsimp only))) | walk1 | (dsimp only; walk1))))
    (try dsimp only)
    refine genStrip (K := L') (L := L') (m := mp [(Str.ofString "args", .ref D)]) (vs := vs) (ts := ts) Bg M' rfl rfl rfl rfl (by decide) rfl rfl rfl ?room rfl hv (fun x h => Nat.le_trans (hx x h) (by decide)) (fun _ => rfl) ?iter
    case room =>
      show (ktrTop dp un gd cn cs L a ccd cl outer).depth + 1 < recursionLimit
      have : (ktrTop dp un gd cn cs L a ccd cl outer).depth = dp := rfl
      omega
    case iter =>
      (repeat' ((fail_if_success (with_reducible show wpAny _ _ (PySem.eval (PySem.Expr.GeneratorExp _ _ _ _) _) _ _ _)); (fail_if_success (with_reducible show wpAny _ _ (call (Value.type _) _) _ _ _)); (fail_if_success (with_reducible show Kept _)); (fail_if_success (with_reducible show wpAny _ _ (execs _ _) _ _ _)); (first | (k_unfold; (try dsimp only)) | (with_reducible ((with_reducible show wpAny _ _ (call (Value.builtin "str.replace") _) _ _ _); refine SC.replaceW (by (show @Ne Nat _ _); omega) (by (show @Ne Nat _ _); omega) (by (show @Ne Nat _ _); omega) (by decide) (by omega) (by decide) ?_; intro _ _; (try dsimp only))) | walk1 | (dsimp only; walk1))))
      have tup : ∀ h, Fr g L' h (mp [(Str.ofString "args", .ref D)]) → h.IsTuple D vs.toArray := fun h q => ⟨_, q.keep _ _ hDt, rfl, _, rfl⟩
      refine call_filter (tup _ F) fun h₃ hF hT hsz hk => ?_
      have hLT : L' < h₂.objs.size := F.ns.lt
      have hDT : D < h₂.objs.size := Heap.lt_size (F.keep _ _ hDt)
      have F3 := F.keeps hk
      refine ⟨_, _, D, rfl, hF, hT, tup _ F3, Nat.succ_ne_self _, Nat.ne_of_lt hDT, hLT, Nat.le_refl _, F3, G, (hlim.keeps F.keep).keeps hk, ?_⟩
      intro I s₅ more B5 F5 G5 o5 Y5
      dsimp only at o5
      (repeat' ((fail_if_success (with_reducible show wpAny _ _ (PySem.eval (PySem.Expr.GeneratorExp _ _ _ _) _) _ _ _)); (fail_if_success (with_reducible show wpAny _ _ (call (Value.type _) _) _ _ _)); (fail_if_success (with_reducible show Kept _)); (fail_if_success (with_reducible show wpAny _ _ (execs _ _) _ _ _)); (first | (k_unfold; (try dsimp only)) | (with_reducible ((with_reducible show wpAny _ _ (call (Value.builtin "str.replace") _) _ _ _); refine SC.replaceW (by (show @Ne Nat _ _); omega) (by (show @Ne Nat _ _); omega) (by (show @Ne Nat _ _); omega) (by decide) (by omega) (by decide) ?_; intro _ _; (try dsimp only))) | walk1 | (dsimp only; walk1))))
      have hmap : (List.range (fullOf ts).length).map (fun j => Txt.strip ((fullOf ts).getD j Str.empty)) = (fullOf ts).map Txt.strip := by
        have q := range_getD (fullOf ts) Str.empty
        conv => rhs; rw [← q]
        rw [List.map_map]
        rfl
      have hful : (fullOf ts).length ≤ 20 := Nat.le_trans (List.length_filter_le _ _) hl
      refine join_rows F5 G5 Y5 (fun j => Txt.strip ((fullOf ts).getD j Str.empty)) ?tx ?ok ?jq (Nat.le_trans hful (by decide))
      case tx =>
        rintro j v ⟨x, u, hx', rfl⟩
        exact ⟨u, by simp [List.getD_eq_getElem?_getD, hx']⟩
      case ok =>
        rw [hmap]
        refine joinOk_small (by simpa using hful) fun x hx' => ?_
        obtain ⟨y, hy, rfl⟩ := List.mem_map.mp hx'
        exact Nat.le_trans (len_strip y) (hx y (List.mem_filter.mp hy).1)
      rw [hmap]
      intro s₆ t₆ F6 G6 o6
      obtain ⟨h6, g6, d6, tk6, os6⟩ := s₆
      dsimp only at F6 G6 o6
      (repeat' ((fail_if_success (with_reducible show wpAny _ _ (PySem.eval (PySem.Expr.GeneratorExp _ _ _ _) _) _ _ _)); (fail_if_success (with_reducible show wpAny _ _ (call (Value.type _) _) _ _ _)); (fail_if_success (with_reducible show Kept _)); (fail_if_success (with_reducible show wpAny _ _ (execs _ _) _ _ _)); (first | (k_unfold; (try dsimp only)) | (with_reducible ((with_reducible show wpAny _ _ (call (Value.builtin "str.replace") _) _ _ _); refine SC.replaceW (by (show @Ne Nat _ _); omega) (by (show @Ne Nat _ _); omega) (by (show @Ne Nat _ _); omega) (by decide) (by omega) (by decide) ?_; intro _ _; (try dsimp only))) | walk1 | (dsimp only; walk1))))
      rename Fr _ _ _ _ => F7
      simp only [mp_setp] at F7
      exact Kept.of ⟨trivial, more, _, B5, F7, G6, o6.trans o5⟩
  case b =>
    rintro ⟨h6, g6, d6, tk6, os6⟩ k6 ⟨more, t6, B6, F6, G6, o6⟩
    dsimp only at F6 G6 o6 k6
    clear M' hlim N' F
    have N' : News (regrown g P (ps ++ more)) L' h6 [] := News.nil
    generalize hT : platJoin ts = x0 at F6
    have hx0 : x0.length ≤ 1300 := by rw [← hT]; exact platJoin_len hl hx
    with_reducible refine seqT k6 (PlR (regrown g P (ps ++ more)) L' D ⟨h6, g6, d6, tk6, os6⟩ (Txt.replace x0 (Str.ofString " ") (Str.ofString "_"))) ?_ ?_
    · (repeat' ((fail_if_success (with_reducible show wpAny _ _ (PySem.eval (PySem.Expr.GeneratorExp _ _ _ _) _) _ _ _)); (fail_if_success (with_reducible show wpAny _ _ (call (Value.type _) _) _ _ _)); (fail_if_success (with_reducible show Kept _)); (fail_if_success (with_reducible show wpAny _ _ (execs _ _) _ _ _)); (first | (k_unfold; (try dsimp only)) | (with_reducible ((with_reducible show wpAny _ _ (call (Value.builtin "str.replace") _) _ _ _); refine SC.replaceW (by (show @Ne Nat _ _); omega) (by (show @Ne Nat _ _); omega) (by (show @Ne Nat _ _); omega) (by decide) (by omega) (by decide) ?_; intro _ _; (try dsimp only))) | walk1 | (dsimp only; walk1))))
      (with_reducible rename Fr _ _ _ _ => F9)
      simp only [mp_setp] at F9
      exact plR_end F9 rfl
    clear F6 N'
    rintro _ k6 ⟨h6, t6, tk6, rfl, F6⟩
    dsimp only at k6
    have N' : News (regrown g P (ps ++ more)) L' h6 [] := News.nil
    have hx1 : (Txt.replace x0 (Str.ofString " ") (Str.ofString "_")).length ≤ 1300 := Nat.le_trans (len_repl _ _ _ (by decide) (by decide)) hx0
    generalize hX1 : Txt.replace x0 (Str.ofString " ") (Str.ofString "_") = x1 at F6 hx1
    with_reducible refine seqT k6 (PlR (regrown g P (ps ++ more)) L' D ⟨h6, g6, d6, tk6, os6⟩ (Txt.replace x1 (Str.ofString "/") (Str.ofString "-"))) ?_ ?_
    · (repeat' ((fail_if_success (with_reducible show wpAny _ _ (PySem.eval (PySem.Expr.GeneratorExp _ _ _ _) _) _ _ _)); (fail_if_success (with_reducible show wpAny _ _ (call (Value.type _) _) _ _ _)); (fail_if_success (with_reducible show Kept _)); (fail_if_success (with_reducible show wpAny _ _ (execs _ _) _ _ _)); (first | (k_unfold; (try dsimp only)) | (with_reducible ((with_reducible show wpAny _ _ (call (Value.builtin "str.replace") _) _ _ _); refine SC.replaceW (by (show @Ne Nat _ _); omega) (by (show @Ne Nat _ _); omega) (by (show @Ne Nat _ _); omega) (by decide) (by omega) (by decide) ?_; intro _ _; (try dsimp only))) | walk1 | (dsimp only; walk1))))
      (with_reducible rename Fr _ _ _ _ => F9)
      simp only [mp_setp] at F9
      exact plR_end F9 rfl
    clear F6 N'
    rintro _ k6 ⟨h6, t6, tk6, rfl, F6⟩
    dsimp only at k6
    have N' : News (regrown g P (ps ++ more)) L' h6 [] := News.nil
    have hx2 : (Txt.replace x1 (Str.ofString "/") (Str.ofString "-")).length ≤ 1300 := Nat.le_trans (len_repl _ _ _ (by decide) (by decide)) hx1
    generalize hX2 : Txt.replace x1 (Str.ofString "/") (Str.ofString "-") = x2 at F6 hx2
    with_reducible refine seqT k6 (PlR (regrown g P (ps ++ more)) L' D ⟨h6, g6, d6, tk6, os6⟩ (Txt.replace x2 (Str.ofString "\\") (Str.ofString "-"))) ?_ ?_
    · (repeat' ((fail_if_success (with_reducible show wpAny _ _ (PySem.eval (PySem.Expr.GeneratorExp _ _ _ _) _) _ _ _)); (fail_if_success (with_reducible show wpAny _ _ (call (Value.type _) _) _ _ _)); (fail_if_success (with_reducible show Kept _)); (fail_if_success (with_reducible show wpAny _ _ (execs _ _) _ _ _)); (first | (k_unfold; (try dsimp only)) | (with_reducible ((with_reducible show wpAny _ _ (call (Value.builtin "str.replace") _) _ _ _); refine SC.replaceW (by (show @Ne Nat _ _); omega) (by (show @Ne Nat _ _); omega) (by (show @Ne Nat _ _); omega) (by decide) (by omega) (by decide) ?_; intro _ _; (try dsimp only))) | walk1 | (dsimp only; walk1))))
      (with_reducible rename Fr _ _ _ _ => F9)
      simp only [mp_setp] at F9
      exact plR_end F9 rfl
    clear F6 N'
    rintro _ k6 ⟨h6, t6, tk6, rfl, F6⟩
    dsimp only at k6
    have N' : News (regrown g P (ps ++ more)) L' h6 [] := News.nil
    have hx3 : (Txt.replace x2 (Str.ofString "\\") (Str.ofString "-")).length ≤ 1300 := Nat.le_trans (len_repl _ _ _ (by decide) (by decide)) hx2
    generalize hX3 : Txt.replace x2 (Str.ofString "\\") (Str.ofString "-") = x3 at F6 hx3
    with_reducible refine seqT k6 (PlR (regrown g P (ps ++ more)) L' D ⟨h6, g6, d6, tk6, os6⟩ (Txt.replace x3 (Str.ofString ":") (Str.ofString "-"))) ?_ ?_
    · (repeat' ((fail_if_success (with_reducible show wpAny _ _ (PySem.eval (PySem.Expr.GeneratorExp _ _ _ _) _) _ _ _)); (fail_if_success (with_reducible show wpAny _ _ (call (Value.type _) _) _ _ _)); (fail_if_success (with_reducible show Kept _)); (fail_if_success (with_reducible show wpAny _ _ (execs _ _) _ _ _)); (first | (k_unfold; (try dsimp only)) | (with_reducible ((with_reducible show wpAny _ _ (call (Value.builtin "str.replace") _) _ _ _); refine SC.replaceW (by (show @Ne Nat _ _); omega) (by (show @Ne Nat _ _); omega) (by (show @Ne Nat _ _); omega) (by decide) (by omega) (by decide) ?_; intro _ _; (try dsimp only))) | walk1 | (dsimp only; walk1))))
      (with_reducible rename Fr _ _ _ _ => F9)
      simp only [mp_setp] at F9
      exact plR_end F9 rfl
    clear F6 N'
    rintro _ k6 ⟨h6, t6, tk6, rfl, F6⟩
    dsimp only at k6
    have N' : News (regrown g P (ps ++ more)) L' h6 [] := News.nil
    have hx4 : (Txt.replace x3 (Str.ofString ":") (Str.ofString "-")).length ≤ 1300 := Nat.le_trans (len_repl _ _ _ (by decide) (by decide)) hx3
    generalize hX4 : Txt.replace x3 (Str.ofString ":") (Str.ofString "-") = x4 at F6 hx4
    with_reducible refine seqT k6 (PlR (regrown g P (ps ++ more)) L' D ⟨h6, g6, d6, tk6, os6⟩ (Txt.replace x4 (Str.ofString ";") (Str.ofString "-"))) ?_ ?_
    · (repeat' ((fail_if_success (with_reducible show wpAny _ _ (PySem.eval (PySem.Expr.GeneratorExp _ _ _ _) _) _ _ _)); (fail_if_success (with_reducible show wpAny _ _ (call (Value.type _) _) _ _ _)); (fail_if_success (with_reducible show Kept _)); (fail_if_success (with_reducible show wpAny _ _ (execs _ _) _ _ _)); (first | (k_unfold; (try dsimp only)) | (with_reducible ((with_reducible show wpAny _ _ (call (Value.builtin "str.replace") _) _ _ _); refine SC.replaceW (by (show @Ne Nat _ _); omega) (by (show @Ne Nat _ _); omega) (by (show @Ne Nat _ _); omega) (by decide) (by omega) (by decide) ?_; intro _ _; (try dsimp only))) | walk1 | (dsimp only; walk1))))
      (with_reducible rename Fr _ _ _ _ => F9)
      simp only [mp_setp] at F9
      exact plR_end F9 rfl
    clear F6 N'
    rintro _ k6 ⟨h6, t6, tk6, rfl, F6⟩
    dsimp only at k6
    have N' : News (regrown g P (ps ++ more)) L' h6 [] := News.nil
    have hx5 : (Txt.replace x4 (Str.ofString ";") (Str.ofString "-")).length ≤ 1300 := Nat.le_trans (len_repl _ _ _ (by decide) (by decide)) hx4
    generalize hX5 : Txt.replace x4 (Str.ofString ";") (Str.ofString "-") = x5 at F6 hx5
    with_reducible refine seqT k6 (PlR (regrown g P (ps ++ more)) L' D ⟨h6, g6, d6, tk6, os6⟩ (Txt.replace x5 (Str.ofString "\"") (Str.ofString "-"))) ?_ ?_
    · (repeat' ((fail_if_success (with_reducible show wpAny _ _ (PySem.eval (PySem.Expr.GeneratorExp _ _ _ _) _) _ _ _)); (fail_if_success (with_reducible show wpAny _ _ (call (Value.type _) _) _ _ _)); (fail_if_success (with_reducible show Kept _)); (fail_if_success (with_reducible show wpAny _ _ (execs _ _) _ _ _)); (first | (k_unfold; (try dsimp only)) | (with_reducible ((with_reducible show wpAny _ _ (call (Value.builtin "str.replace") _) _ _ _); refine SC.replaceW (by (show @Ne Nat _ _); omega) (by (show @Ne Nat _ _); omega) (by (show @Ne Nat _ _); omega) (by decide) (by omega) (by decide) ?_; intro _ _; (try dsimp only))) | walk1 | (dsimp only; walk1))))
      (with_reducible rename Fr _ _ _ _ => F9)
      simp only [mp_setp] at F9
      exact plR_end F9 rfl
    clear F6 N'
    rintro _ k6 ⟨h6, t6, tk6, rfl, F6⟩
    dsimp only at k6
    have N' : News (regrown g P (ps ++ more)) L' h6 [] := News.nil
    have hx6 : (Txt.replace x5 (Str.ofString "\"") (Str.ofString "-")).length ≤ 1300 := Nat.le_trans (len_repl _ _ _ (by decide) (by decide)) hx5
    generalize hX6 : Txt.replace x5 (Str.ofString "\"") (Str.ofString "-") = x6 at F6 hx6
    with_reducible refine seqT k6 (PlR (regrown g P (ps ++ more)) L' D ⟨h6, g6, d6, tk6, os6⟩ (Txt.replace x6 (Str.ofString "(") (Str.ofString "-"))) ?_ ?_
    · (repeat' ((fail_if_success (with_reducible show wpAny _ _ (PySem.eval (PySem.Expr.GeneratorExp _ _ _ _) _) _ _ _)); (fail_if_success (with_reducible show wpAny _ _ (call (Value.type _) _) _ _ _)); (fail_if_success (with_reducible show Kept _)); (fail_if_success (with_reducible show wpAny _ _ (execs _ _) _ _ _)); (first | (k_unfold; (try dsimp only)) | (with_reducible ((with_reducible show wpAny _ _ (call (Value.builtin "str.replace") _) _ _ _); refine SC.replaceW (by (show @Ne Nat _ _); omega) (by (show @Ne Nat _ _); omega) (by (show @Ne Nat _ _); omega) (by decide) (by omega) (by decide) ?_; intro _ _; (try dsimp only))) | walk1 | (dsimp only; walk1))))
      (with_reducible rename Fr _ _ _ _ => F9)
      simp only [mp_setp] at F9
      exact plR_end F9 rfl
    clear F6 N'
    rintro _ k6 ⟨h6, t6, tk6, rfl, F6⟩
    dsimp only at k6
    have N' : News (regrown g P (ps ++ more)) L' h6 [] := News.nil
    have hx7 : (Txt.replace x6 (Str.ofString "(") (Str.ofString "-")).length ≤ 1300 := Nat.le_trans (len_repl _ _ _ (by decide) (by decide)) hx6
    generalize hX7 : Txt.replace x6 (Str.ofString "(") (Str.ofString "-") = x7 at F6 hx7
    with_reducible refine seqT k6 (PlR (regrown g P (ps ++ more)) L' D ⟨h6, g6, d6, tk6, os6⟩ (Txt.replace x7 (Str.ofString ")") (Str.ofString "-"))) ?_ ?_
    · (repeat' ((fail_if_success (with_reducible show wpAny _ _ (PySem.eval (PySem.Expr.GeneratorExp _ _ _ _) _) _ _ _)); (fail_if_success (with_reducible show wpAny _ _ (call (Value.type _) _) _ _ _)); (fail_if_success (with_reducible show Kept _)); (fail_if_success (with_reducible show wpAny _ _ (execs _ _) _ _ _)); (first | (k_unfold; (try dsimp only)) | (with_reducible ((with_reducible show wpAny _ _ (call (Value.builtin "str.replace") _) _ _ _); refine SC.replaceW (by (show @Ne Nat _ _); omega) (by (show @Ne Nat _ _); omega) (by (show @Ne Nat _ _); omega) (by decide) (by omega) (by decide) ?_; intro _ _; (try dsimp only))) | walk1 | (dsimp only; walk1))))
      (with_reducible rename Fr _ _ _ _ => F9)
      simp only [mp_setp] at F9
      exact plR_end F9 rfl
    clear F6 N'
    rintro _ k6 ⟨h6, t6, tk6, rfl, F6⟩
    dsimp only at k6
    have N' : News (regrown g P (ps ++ more)) L' h6 [] := News.nil
    have hx8 : (Txt.replace x7 (Str.ofString ")") (Str.ofString "-")).length ≤ 1300 := Nat.le_trans (len_repl _ _ _ (by decide) (by decide)) hx7
    generalize hX8 : Txt.replace x7 (Str.ofString ")") (Str.ofString "-") = x8 at F6 hx8
    with_reducible refine seqT k6 (PlR (regrown g P (ps ++ more)) L' D ⟨h6, g6, d6, tk6, os6⟩ (Txt.replace x8 (Str.ofString "unknown") (Str.ofString ""))) ?_ ?_
    · (repeat' ((fail_if_success (with_reducible show wpAny _ _ (PySem.eval (PySem.Expr.GeneratorExp _ _ _ _) _) _ _ _)); (fail_if_success (with_reducible show wpAny _ _ (call (Value.type _) _) _ _ _)); (fail_if_success (with_reducible show Kept _)); (fail_if_success (with_reducible show wpAny _ _ (execs _ _) _ _ _)); (first | (k_unfold; (try dsimp only)) | (with_reducible ((with_reducible show wpAny _ _ (call (Value.builtin "str.replace") _) _ _ _); refine SC.replaceW (by (show @Ne Nat _ _); omega) (by (show @Ne Nat _ _); omega) (by (show @Ne Nat _ _); omega) (by decide) (by omega) (by decide) ?_; intro _ _; (try dsimp only))) | walk1 | (dsimp only; walk1))))
      (with_reducible rename Fr _ _ _ _ => F9)
      simp only [mp_setp] at F9
      exact plR_end F9 rfl
    clear F6 N'
    rintro _ k6 ⟨h6, t6, tk6, rfl, F6⟩
    dsimp only at k6
    have N' : News (regrown g P (ps ++ more)) L' h6 [] := News.nil
    have hx9 : (Txt.replace x8 (Str.ofString "unknown") (Str.ofString "")).length ≤ 1300 := Nat.le_trans (len_repl _ _ _ (by decide) (by decide)) hx8
    generalize hX9 : Txt.replace x8 (Str.ofString "unknown") (Str.ofString "") = x9 at F6 hx9
    with_reducible refine seqT k6 (PlI (regrown g P (ps ++ more)) L' D ⟨h6, g6, d6, tk6, os6⟩ (fun x => x.length ≤ 1300 ∧ x.cps.toList = sqf false x9.cps.toList)) ?_ ?_
    · refine whileT k6 (fun n => PlI (regrown g P (ps ++ more)) L' D ⟨h6, g6, d6, tk6, os6⟩ (fun x => x.length ≤ 1300 ∧ x.length = n ∧ sqf false x.cps.toList = sqf false x9.cps.toList)) x9.length (PlI.intro F6 (mP_of rfl rfl) ⟨hx9, rfl, rfl⟩) _ ?_
      rintro n _ k7 ⟨h7, x, t7, tk7, u, rfl, F7, hx7, rfl, hs7⟩
      dsimp only at k7
      clear F6 N'
      have N' : News (regrown g P (ps ++ more)) L' h7 [] := News.nil
      unfold mP at F7
      (repeat' ((fail_if_success (with_reducible show wpAny _ _ (PySem.exec (PySem.Stmt.While _ _ _ _) _) _ _ _)); (fail_if_success (with_reducible show wpAny _ _ (PySem.exec (PySem.Stmt.For _ _ _ _ _) _) _ _ _)); (fail_if_success (with_reducible show wpAny _ _ (PySem.pyIter _) _ _ _)); (fail_if_success (with_reducible show Kept _)); (fail_if_success (with_reducible show InvEndN _ _ _ _ _ _ _)); (first | (k_unfold; (try dsimp only)) | (k_end; wrow_close) | (with_reducible ((with_reducible show wpAny _ _ (call (Value.builtin "str.replace") _) _ _ _); refine SC.replaceW (by (show @Ne Nat _ _); omega) (by (show @Ne Nat _ _); omega) (by (show @Ne Nat _ _); omega) (by decide) (by omega) (by decide) ?_; intro _ _; (try dsimp only))) | walk1 | (dsimp only; walk1) | (leave1; walk_say "STEP leave1"; try dsimp only))))
      · rename (_ == _) = true => hq
        rename Fr _ _ _ _ => F8
        exact Kept.of (PlI.intro F8 (mP_of rfl rfl) ⟨hx7, (sq_fix x hq).symm.trans hs7⟩)
      · rename (_ == _) = false => hq
        rename Fr _ _ _ _ => F8
        obtain ⟨q1, q2⟩ := sq_less x hq
        exact Kept.of ⟨_, q1, PlI.intro F8 (mP_of rfl rfl) ⟨Nat.le_trans (Nat.le_of_lt q1) hx7, rfl, q2.trans hs7⟩⟩
    clear F6 N'
    rintro _ k6 ⟨h6, x, t6, tk6, u, rfl, F6, hx, hsx⟩
    dsimp only at k6
    have N' : News (regrown g P (ps ++ more)) L' h6 [] := News.nil
    with_reducible refine seqT k6 (PlI (regrown g P (ps ++ more)) L' D ⟨h6, g6, d6, tk6, os6⟩ (fun y => y.cps.toList = trimR x.cps.toList)) ?_ ?_
    · refine whileT k6 (fun n => PlI (regrown g P (ps ++ more)) L' D ⟨h6, g6, d6, tk6, os6⟩ (fun y => y.length ≤ 1300 ∧ y.length = n ∧ trimR y.cps.toList = trimR x.cps.toList)) x.length (PlI.intro F6 (mP_of rfl rfl) ⟨hx, rfl, rfl⟩) _ ?_
      rintro n _ k7 ⟨h7, y, t7, tk7, u, rfl, F7, hy7, rfl, hs7⟩
      dsimp only at k7
      clear F6 N'
      have N' : News (regrown g P (ps ++ more)) L' h7 [] := News.nil
      unfold mP at F7
      (repeat' ((fail_if_success (with_reducible show wpAny _ _ (PySem.exec (PySem.Stmt.While _ _ _ _) _) _ _ _)); (fail_if_success (with_reducible show wpAny _ _ (PySem.exec (PySem.Stmt.For _ _ _ _ _) _) _ _ _)); (fail_if_success (with_reducible show wpAny _ _ (PySem.pyIter _) _ _ _)); (fail_if_success (with_reducible show Kept _)); (fail_if_success (with_reducible show InvEndN _ _ _ _ _ _ _)); (first | (k_unfold; (try dsimp only)) | (k_end; wrow_close) | (with_reducible ((with_reducible show wpAny _ _ (call (Value.builtin "str.replace") _) _ _ _); refine SC.replaceW (by (show @Ne Nat _ _); omega) (by (show @Ne Nat _ _); omega) (by (show @Ne Nat _ _); omega) (by decide) (by omega) (by decide) ?_; intro _ _; (try dsimp only))) | walk1 | (dsimp only; walk1) | (leave1; walk_say "STEP leave1"; try dsimp only))))
      · rename Fr _ _ _ _ => F8
        rename (_ == _) = true => hq
        rename _ ≠ _ => hne
        obtain ⟨q1, q2⟩ := trim_step hne hq
        exact Kept.of ⟨_, q1, PlI.intro F8 (mP_of rfl rfl) ⟨Nat.le_trans (Nat.le_of_lt q1) hy7, rfl, q2.trans hs7⟩⟩
      · rename Fr _ _ _ _ => F8
        rename (_ == _) = false => hq
        rename _ ≠ _ => hne
        exact Kept.of (PlI.intro F8 (mP_of rfl rfl) ((trim_stop hne hq).trans hs7))
      · rename Fr _ _ _ _ => F8
        rename ((_ : Nat) : Int) = 0 => hq
        exact Kept.of (PlI.intro F8 (mP_of rfl rfl) ((trim_nil hq).trans hs7))
    clear F6 N'
    rintro _ k6 ⟨h6, y, t6, tk6, u, rfl, F6, hy⟩
    dsimp only at k6
    have N' : News (regrown g P (ps ++ more)) L' h6 [] := News.nil
    unfold mP at F6
    (repeat' ((fail_if_success (with_reducible show wpAny _ _ (PySem.exec (PySem.Stmt.While _ _ _ _) _) _ _ _)); (fail_if_success (with_reducible show wpAny _ _ (PySem.exec (PySem.Stmt.For _ _ _ _ _) _) _ _ _)); (fail_if_success (with_reducible show wpAny _ _ (PySem.pyIter _) _ _ _)); (fail_if_success (with_reducible show Kept _)); (fail_if_success (with_reducible show InvEndN _ _ _ _ _ _ _)); (first | (k_unfold; (try dsimp only)) | (k_end; wrow_close) | (with_reducible ((with_reducible show wpAny _ _ (call (Value.builtin "str.replace") _) _ _ _); refine SC.replaceW (by (show @Ne Nat _ _); omega) (by (show @Ne Nat _ _); omega) (by (show @Ne Nat _ _); omega) (by decide) (by omega) (by decide) ?_; intro _ _; (try dsimp only))) | walk1 | (dsimp only; walk1) | (leave1; walk_say "STEP leave1"; try dsimp only))))
    have ey : y.cps.toList = platL ts := by
      rw [hy, hsx, ← hX9, ← hX8, ← hX7, ← hX6, ← hX5, ← hX4, ← hX3, ← hX2, ← hX1, ← hT]
      rfl
    exact hfin y _ _ more L' _ ey B6 F6 G6 o6
end Mine
end
section
open PySem PySem.W PyProof.Rows PySem.Spec PySem.Calls
set_option maxRecDepth 100000
set_option maxHeartbeats 0
namespace Mine
noncomputable def subC (a b c : Nat) : Nat := if c = a then b else c
theorem rp_single (a b : Nat) : ∀ l : List Nat, rp [a] [b] l = l.map (subC a b)
  | [] => rfl
  | k :: r => by
    rw [rp_cons (by simp)]
    have ih := rp_single a b r
    by_cases h : k = a
    · rw [if_pos (by simp [h])]
      simp [subC, h, ih]
    · rw [if_neg (by simp [h])]
      simp [subC, h, ih]
noncomputable def fch (c : Nat) : Nat := subC 41 45 (subC 40 45 (subC 34 45 (subC 59 45 (subC 58 45 (subC 92 45 (subC 47 45 (subC 32 95 c)))))))
noncomputable def UNK : List Nat := [117, 110, 107, 110, 111, 119, 110]
theorem platR_list (x : Str) : (platR x).cps.toList = rp UNK [] (x.cps.toList.map fch) := by
  have h1 : ∀ x, (Txt.replace x (Str.ofString " ") (Str.ofString "_")).cps.toList = x.cps.toList.map (subC 32 95) := fun x => (replace_rp x _ _ (by decide)).trans (rp_single 32 95 _)
  have h2 : ∀ x, (Txt.replace x (Str.ofString "/") (Str.ofString "-")).cps.toList = x.cps.toList.map (subC 47 45) := fun x => (replace_rp x _ _ (by decide)).trans (rp_single 47 45 _)
  have h3 : ∀ x, (Txt.replace x (Str.ofString "\\") (Str.ofString "-")).cps.toList = x.cps.toList.map (subC 92 45) := fun x => (replace_rp x _ _ (by decide)).trans (rp_single 92 45 _)
  have h4 : ∀ x, (Txt.replace x (Str.ofString ":") (Str.ofString "-")).cps.toList = x.cps.toList.map (subC 58 45) := fun x => (replace_rp x _ _ (by decide)).trans (rp_single 58 45 _)
  have h5 : ∀ x, (Txt.replace x (Str.ofString ";") (Str.ofString "-")).cps.toList = x.cps.toList.map (subC 59 45) := fun x => (replace_rp x _ _ (by decide)).trans (rp_single 59 45 _)
  have h6 : ∀ x, (Txt.replace x (Str.ofString "\"") (Str.ofString "-")).cps.toList = x.cps.toList.map (subC 34 45) := fun x => (replace_rp x _ _ (by decide)).trans (rp_single 34 45 _)
  have h7 : ∀ x, (Txt.replace x (Str.ofString "(") (Str.ofString "-")).cps.toList = x.cps.toList.map (subC 40 45) := fun x => (replace_rp x _ _ (by decide)).trans (rp_single 40 45 _)
  have h8 : ∀ x, (Txt.replace x (Str.ofString ")") (Str.ofString "-")).cps.toList = x.cps.toList.map (subC 41 45) := fun x => (replace_rp x _ _ (by decide)).trans (rp_single 41 45 _)
  have h9 : ∀ x, (Txt.replace x (Str.ofString "unknown") (Str.ofString "")).cps.toList = rp UNK [] x.cps.toList := fun x => replace_rp x _ _ (by decide)
  unfold platR
  rw [h9, h8, h7, h6, h5, h4, h3, h2, h1]
  simp only [List.map_map]
  rfl
theorem join_list (x : Str) : ∀ (r : List Str) (a : Str), (Str.join x (a :: r)).cps.toList = a.cps.toList ++ r.flatMap fun y => x.cps.toList ++ y.cps.toList
  | [], a => by simp [Str.join]
  | b :: r, a => by
    have ih := join_list x r b
    show (a ++ x ++ Str.join x (b :: r)).cps.toList = _
    have e : ∀ u v : Str, (u ++ v).cps.toList = u.cps.toList ++ v.cps.toList := fun u v => Array.toList_append
    rw [e, e, ih, List.flatMap_cons, List.append_assoc, List.append_assoc]
theorem rpU_cons {k : Nat} (h : k ≠ 117) (r : List Nat) : rp UNK [] (k :: r) = k :: rp UNK [] r := by
  rw [rp_cons (by decide), if_neg]
  intro e
  have := congrArg List.head? e
  simp [UNK] at this
  exact h this
theorem rpU_word (r : List Nat) : rp UNK [] (117 :: 110 :: 107 :: 110 :: 111 :: 119 :: 110 :: r) = rp UNK [] r := by
  rw [rp_cons (by decide), if_pos (by rfl)]
  rfl
noncomputable def blk0 (c i : Nat) : Nat → List Nat
  | 0 => if i = 0 then [45, 95, 95, 95, 95, c] else [95, 95, 95, 95, c]
  | 1 => [45, 45, 45, 95, 95, 117, 110, 107, 110, 111, 119, 110, 95, 95, c]
  | 2 => [45, 95, 95, 95, 95, c]
  | _ => [45, 95, 95, 95, 95, c, 45]
noncomputable def blk1 (c i : Nat) : Nat → List Nat
  | 0 => if i = 0 then [45, 95, 95, 95, 95, c] else [95, 95, 95, 95, c]
  | 1 => [45, 45, 45, 95, 95, 95, 95, c]
  | 2 => [45, 95, 95, 95, 95, c]
  | _ => [45, 95, 95, 95, 95, c, 45]
theorem rpB {c : Nat} (h : c ≠ 117) (i : Nat) : ∀ (kd : Nat) (r : List Nat), rp UNK [] (blk0 c i kd ++ r) = blk1 c i kd ++ rp UNK [] r
  | 0, r => by
    unfold blk0 blk1
    by_cases hi : i = 0
    · simp only [hi, if_true, List.cons_append, List.nil_append]
      rw [rpU_cons (by decide), rpU_cons (by decide), rpU_cons (by decide), rpU_cons (by decide), rpU_cons (by decide), rpU_cons h]
    · simp only [hi, if_false, List.cons_append, List.nil_append]
      rw [rpU_cons (by decide), rpU_cons (by decide), rpU_cons (by decide), rpU_cons (by decide), rpU_cons h]
  | 1, r => by
    unfold blk0 blk1
    simp only [List.cons_append, List.nil_append]
    rw [rpU_cons (by decide), rpU_cons (by decide), rpU_cons (by decide), rpU_cons (by decide), rpU_cons (by decide), rpU_word, rpU_cons (by decide), rpU_cons (by decide), rpU_cons h]
  | 2, r => by
    unfold blk0 blk1
    simp only [List.cons_append, List.nil_append]
    rw [rpU_cons (by decide), rpU_cons (by decide), rpU_cons (by decide), rpU_cons (by decide), rpU_cons (by decide), rpU_cons h]
  | n + 3, r => by
    unfold blk0 blk1
    simp only [List.cons_append, List.nil_append]
    rw [rpU_cons (by decide), rpU_cons (by decide), rpU_cons (by decide), rpU_cons (by decide), rpU_cons (by decide), rpU_cons h, rpU_cons (by decide)]
noncomputable def Good (W Y : List Nat) : Prop := ∃ z, (z = [] ∨ z = [45]) ∧ sqf false W = Y ++ z ∧ ((W = [] ∧ Y = [] ∧ z = []) ∨ ∃ r, W = 45 :: r)
theorem good_nil : Good [] [] := ⟨[], .inl rfl, rfl, .inl ⟨rfl, rfl, rfl⟩⟩
theorem good_blk {c : Nat} (h : c ≠ 45) {W Y : List Nat} (G : Good W Y) (i kd : Nat) : Good (45 :: (blk1 c i kd ++ W)) (45 :: 95 :: 95 :: 95 :: 95 :: c :: Y) := by
  obtain ⟨z, hz, e, hW⟩ := G
  match kd with
  | 0 =>
    refine ⟨z, hz, ?_, .inr ⟨_, rfl⟩⟩
    by_cases hi : i = 0 <;> simp [blk1, hi, sqf, h, e]
  | 1 =>
    refine ⟨z, hz, ?_, .inr ⟨_, rfl⟩⟩
    simp [blk1, sqf, h, e]
  | 2 =>
    refine ⟨z, hz, ?_, .inr ⟨_, rfl⟩⟩
    simp [blk1, sqf, h, e]
  | n + 3 =>
    rcases hW with ⟨rfl, rfl, rfl⟩ | ⟨r, rfl⟩
    · refine ⟨[45], .inr rfl, ?_, .inr ⟨_, rfl⟩⟩
      simp [blk1, sqf, h]
    · refine ⟨z, hz, ?_, .inr ⟨_, rfl⟩⟩
      have e : 45 :: sqf true r = Y ++ z := by simpa [sqf] using e
      simp [blk1, sqf, h, e]
theorem good_blk0 {c : Nat} (h : c ≠ 45) {W Y : List Nat} (G : Good W Y) (kd : Nat) : Good (blk1 c 0 kd ++ W) (45 :: 95 :: 95 :: 95 :: 95 :: c :: Y) := by
  obtain ⟨z, hz, e, hW⟩ := G
  match kd with
  | 0 =>
    refine ⟨z, hz, ?_, .inr ⟨_, rfl⟩⟩
    simp [blk1, sqf, h, e]
  | 1 =>
    refine ⟨z, hz, ?_, .inr ⟨_, rfl⟩⟩
    simp [blk1, sqf, h, e]
  | 2 =>
    refine ⟨z, hz, ?_, .inr ⟨_, rfl⟩⟩
    simp [blk1, sqf, h, e]
  | n + 3 =>
    rcases hW with ⟨rfl, rfl, rfl⟩ | ⟨r, rfl⟩
    · refine ⟨[45], .inr rfl, ?_, .inr ⟨_, rfl⟩⟩
      simp [blk1, sqf, h]
    · refine ⟨z, hz, ?_, .inr ⟨_, rfl⟩⟩
      have e : 45 :: sqf true r = Y ++ z := by simpa [sqf] using e
      simp [blk1, sqf, h, e]
theorem good_trim {W Y : List Nat} (G : Good W Y) (h : Y.getLast? = some 46) : trimR (sqf false W) = Y := by
  obtain ⟨z, hz, e, _⟩ := G
  rw [e]
  rcases hz with rfl | rfl
  · rw [List.append_nil]
    exact trimR_stop (by rw [h]; simp)
  · rw [trimR_drop (by simp), List.dropLast_concat]
    exact trimR_stop (by rw [h]; simp)
noncomputable def lawT (sg : Str) (kd : Int) (i : Int) (o : Int) : List Str :=
  let op := Txt.item OPEN o
  if kd = 0 then [Txt.slice op (some i) none ++ Str.ofString "____" ++ sg]
  else if kd = 1 then [op ++ Str.ofString "--  unknown  " ++ sg]
  else if kd = 2 then [Str.ofString " \t" ++ op ++ Str.ofString "    " ++ sg ++ Str.ofString "\t "]
  else [op ++ Str.ofString "    " ++ sg ++ Str.ofString ";", Str.ofString ""]
theorem lawT_eq (sg : Str) (kd i shift : Int) : lawText sg kd i shift = lawT sg kd i ((i + shift).fmod 7) := rfl
theorem strip_ok : ∀ c ∈ [97, 66, 99, 101, 90, 46], ∀ o ∈ List.range 7, ∀ i ∈ List.range 6, ∀ kd ∈ List.range 4,
    ((fullOf (lawT (ofL [c]) (kd : Int) (i : Int) (o : Int))).map Txt.strip).map (fun y => y.cps.toList.map fch) = [blk0 c i kd] := by decide +kernel
theorem plat_join (ts : List Str) (a : Str) (r : List Str) (h : (fullOf ts).map Txt.strip = a :: r) : platL ts = trimR (sqf false (rp UNK [] (a.cps.toList.map fch ++ r.flatMap fun y => 45 :: y.cps.toList.map fch))) := by
  unfold platL
  rw [platR_list]
  have e : (platJoin ts).cps.toList = a.cps.toList ++ r.flatMap fun y => 45 :: y.cps.toList := by
    unfold platJoin
    rw [h]
    have e : Txt.join (Str.ofString "-") (a :: r) = Str.join (Str.ofString "-") (a :: r) := StrLaws.glued_eq_join _ _
    rw [e, join_list]
    rfl
  rw [e, List.map_append, List.map_flatMap]
  have e2 : (fun y : Str => List.map fch (45 :: y.cps.toList)) = fun y => 45 :: y.cps.toList.map fch := by
    funext y
    rw [List.map_cons]
    rfl
  rw [e2]
theorem row_six {l : List Nat} (h : l.length = 6) : ∃ a b c d e f, l = [a, b, c, d, e, f] := by
  cases l with
  | nil => cases h
  | cons a l =>
    obtain ⟨b, c, d, e, f, rfl⟩ := row_five (Nat.succ.inj h)
    exact ⟨a, b, c, d, e, f, rfl⟩
theorem plat_texts {cs : List Nat} {K6 : List Int} {shift : Int} (hl : cs.length = 6) (hc : ∀ c ∈ cs, c ∈ [97, 66, 99, 101, 90, 46]) (hlast : cs.getLast? = some 46) (hK : ∀ i, i < 6 → 0 ≤ K6.getD i 0 ∧ K6.getD i 0 < 4) :
    platL (lawTexts (cs.map fun c => ofL [c]) K6 shift 6) = cs.flatMap fun c => [45, 95, 95, 95, 95, c] := by
  have key : ∀ i, i < 6 → ∃ y : Str, (fullOf (lawText ((cs.map fun c => ofL [c]).getD i ⟨#[]⟩) (K6.getD i 0) i shift)).map Txt.strip = [y] ∧ y.cps.toList.map fch = blk0 (cs.getD i 0) i (K6.getD i 0).toNat := by
    intro i hi
    obtain ⟨k0, k1⟩ := hK i hi
    have o0 := Int.fmod_nonneg_of_pos ((i : Int) + shift) (b := 7) (by decide)
    have o1 := Int.fmod_lt_of_pos ((i : Int) + shift) (b := 7) (by decide)
    rw [lawT_eq]
    generalize ((i : Int) + shift).fmod 7 = o at *
    generalize K6.getD i 0 = k at *
    obtain ⟨o, rfl⟩ : ∃ n : Nat, o = n := ⟨o.toNat, by (first | lia | omega)⟩
    obtain ⟨k, rfl⟩ : ∃ n : Nat, k = n := ⟨k.toNat, by (first | lia | omega)⟩
    have e : (cs.map fun c => ofL [c]).getD i ⟨#[]⟩ = ofL [cs.getD i 0] := by simp [List.getD_eq_getElem?_getD, hl, hi]
    have hm : cs.getD i 0 ∈ [97, 66, 99, 101, 90, 46] := by
      refine hc _ ?_
      simp [List.getD_eq_getElem?_getD, hl, hi]
    rw [e]
    have q := strip_ok _ hm o (List.mem_range.mpr (by (first | lia | omega))) i (List.mem_range.mpr hi) k (List.mem_range.mpr (by (first | lia | omega)))
    obtain ⟨y, h1, h2⟩ := List.map_eq_singleton_iff.mp q
    exact ⟨y, h1, h2⟩
  obtain ⟨y0, a0, b0⟩ := key 0 (by decide)
  obtain ⟨y1, a1, b1⟩ := key 1 (by decide)
  obtain ⟨y2, a2, b2⟩ := key 2 (by decide)
  obtain ⟨y3, a3, b3⟩ := key 3 (by decide)
  obtain ⟨y4, a4, b4⟩ := key 4 (by decide)
  obtain ⟨y5, a5, b5⟩ := key 5 (by decide)
  have hS : (fullOf (lawTexts (cs.map fun c => ofL [c]) K6 shift 6)).map Txt.strip = y0 :: [y1, y2, y3, y4, y5] := by
    have r6 : List.range 6 = [0, 1, 2, 3, 4, 5] := by decide
    have ap : ∀ a b : List Str, (fullOf (a ++ b)).map Txt.strip = (fullOf a).map Txt.strip ++ (fullOf b).map Txt.strip := fun a b => by
      unfold fullOf
      rw [List.filter_append, List.map_append]
    unfold lawTexts
    rw [r6]
    simp only [List.flatMap_cons, List.flatMap_nil, List.append_nil]
    rw [ap, ap, ap, ap, ap, a0, a1, a2, a3, a4, a5]
    rfl
  rw [plat_join _ _ _ hS]
  simp only [List.flatMap_cons, List.flatMap_nil, List.append_nil]
  rw [b0, b1, b2, b3, b4, b5]
  clear a0 a1 a2 a3 a4 a5 b0 b1 b2 b3 b4 b5 hS key hK
  obtain ⟨c0, c1, c2, c3, c4, c5, rfl⟩ := row_six hl
  have n1 : ∀ c ∈ [97, 66, 99, 101, 90, 46], c ≠ 117 ∧ c ≠ 45 := by decide
  obtain ⟨p0, q0⟩ := n1 c0 (hc c0 (by simp))
  obtain ⟨p1, q1⟩ := n1 c1 (hc c1 (by simp))
  obtain ⟨p2, q2⟩ := n1 c2 (hc c2 (by simp))
  obtain ⟨p3, q3⟩ := n1 c3 (hc c3 (by simp))
  obtain ⟨p4, q4⟩ := n1 c4 (hc c4 (by simp))
  obtain ⟨p5, q5⟩ := n1 c5 (hc c5 (by simp))
  simp only [List.getD_cons_zero, List.getD_cons_succ, List.cons_append]
  rw [rpB p0, rpU_cons (by decide), rpB p1, rpU_cons (by decide), rpB p2, rpU_cons (by decide), rpB p3, rpU_cons (by decide), rpB p4, rpU_cons (by decide)]
  rw [← List.append_nil (blk0 c5 5 _), rpB p5, rp_nil]
  refine (good_trim (good_blk0 q0 (good_blk q1 (good_blk q2 (good_blk q3 (good_blk q4 (good_blk q5 good_nil _ _) _ _) _ _) _ _) _ _) _) ?_).trans ?_
  · simpa using hlast
  · rfl
theorem close_strip : ∀ t ∈ turns, ∀ back : Bool, ((fullOf [Str.ofString "\"" ++ (ofL (rowOf t back) ++ Str.ofString "."), Str.ofString " )"]).map Txt.strip).map (fun y => y.cps.toList.map fch) = [45 :: (rowOf t back ++ [46]), [45]] := by decide +kernel
theorem close_list : ∀ t ∈ turns, ∀ back : Bool, trimR (sqf false (rp UNK [] ((45 :: (rowOf t back ++ [46])) ++ [45, 45]))) = 45 :: (rowOf t back ++ [46]) := by decide +kernel
theorem plat_close {t : List Nat} (ht : t ∈ turns) (back : Bool) : platL [Str.ofString "\"" ++ (ofL (rowOf t back) ++ Str.ofString "."), Str.ofString " )"] = 45 :: (rowOf t back ++ [46]) := by
  have q := close_strip t ht back
  generalize hX : (fullOf [Str.ofString "\"" ++ (ofL (rowOf t back) ++ Str.ofString "."), Str.ofString " )"]).map Txt.strip = X at q
  obtain ⟨a, b, rfl⟩ : ∃ a b, X = [a, b] := by
    have := congrArg List.length q
    simp only [List.length_map, List.length_cons, List.length_nil] at this
    match X, this with
    | [a, b], _ => exact ⟨a, b, rfl⟩
  simp only [List.map_cons, List.map_nil, List.cons.injEq, and_true] at q
  rw [plat_join _ _ _ hX]
  simp only [List.flatMap_cons, List.flatMap_nil, List.append_nil]
  rw [q.1, q.2]
  exact close_list t ht back
end Mine
end
section
open PySem PySem.W PyProof.Rows PySem.Spec PySem.Calls
set_option maxRecDepth 100000
set_option maxHeartbeats 0
set_option pp.maxSteps 6000
namespace Mine
noncomputable def kinds6 (ns : List Int) : List Int := ((List.range 5).map fun i => (((num5 ns).getD i 0).fdiv 4992 + (i : Int)).fmod 4) ++ [((ns.length : Int).fdiv 2).fmod 4]
noncomputable def mRw (S1 L1 : Nat) (n : Int) (tz : Tok) (x : Str) (tr : Tok) (u : Str → Option Value) : Str → Option Value := fun y => if y = Str.ofString "row" then some (.str x tr) else if y = Str.ofString "signs" then some (.ref S1) else if y = Str.ofString "size" then some (.int n tz) else if y = Str.ofString "lists" then some (.ref L1) else u y
theorem mRw_of {S1 L1 : Nat} {n : Int} {tz tr : Tok} {x : Str} {m : Str → Option Value} (h1 : m (Str.ofString "size") = some (.int n tz)) (h2 : m (Str.ofString "signs") = some (.ref S1)) (h3 : m (Str.ofString "lists") = some (.ref L1)) (h4 : m (Str.ofString "row") = some (.str x tr)) : m = mRw S1 L1 n tz x tr m := by
  funext y
  unfold mRw
  by_cases e0 : y = Str.ofString "row"
  · rw [if_pos e0, e0, h4]
  rw [if_neg e0]
  by_cases e1 : y = Str.ofString "signs"
  · rw [if_pos e1, e1, h2]
  rw [if_neg e1]
  by_cases e2 : y = Str.ofString "size"
  · rw [if_pos e2, e2, h1]
  rw [if_neg e2]
  by_cases e3 : y = Str.ofString "lists"
  · rw [if_pos e3, e3, h3]
  rw [if_neg e3]
noncomputable def LG (w : World) (mean : ExcName → Option Value) (mg mb : Str → Option Value) (h₁ : Heap) (P L : Addr) (s : Shared) (R : (Str → Option Value) → List (Addr × Obj) → Prop) (s' : Shared) : Prop :=
  s'.os = s.os ∧ AllBare s'.gens ∧ ∃ (h₀ : Heap) (ps : Array Value) (m : Str → Option Value) (news : List (Addr × Obj)), Based h₁ h₀ 64 P ps ∧ (hd.heap_1 w.params).In h₀ ∧ Top VW LS mean mg mb h₀ ∧ Fr h₀ L s'.heap m ∧ News h₀ L s'.heap news ∧ R m news
theorem ints_app {vs ws : List Value} {a b : List Int} (h : IntsAre vs a) (k : IntsAre ws b) : IntsAre (vs ++ ws) (a ++ b) := IntsAre.append h k
theorem usePl {w : World} {mean : ExcName → Option Value} {mg mb : Str → Option Value} {vs : List Value} {ts : List Str} {news : List (Addr × Obj)} {dp un : Nat} {gd : Option (List Code)} {cn : Str} {cs : Scope} {L a : Addr} {ccd : Value} {cl : List (Str × Addr)} {h₀ h₁ : Heap} {P : Addr} {ps : Array Value} {m : Str → Option Value} {s : Shared} {Q E : Value → Shared → Prop}
    (hv : StrsAre vs ts) (hl : ts.length ≤ 20) (hx : ∀ x ∈ ts, x.length ≤ 60) (hk : cs.kind = .function) (F : Fr h₀ L s.heap m) (X : (hd.heap_1 w.params).In h₀) (N : News h₀ L s.heap news) (T : Top VW LS mean mg mb h₀) (B : Based h₁ h₀ 64 P ps) (G : AllBare s.gens) (hd : dp + 3 < recursionLimit) (hu : un + 60 < cLine)
    (h : ∀ (x : Str) (t : Tok) (s' : Shared) (more : Array Value), x.cps.toList = platL ts → Based h₁ (regrown h₀ P (ps ++ more)) 64 P (ps ++ more) → Fr (regrown h₀ P (ps ++ more)) L s'.heap m → News (regrown h₀ P (ps ++ more)) L s'.heap news → AllBare s'.gens → s'.os = s.os → Q (.str x t) s') :
    wpAny (model PG w) (ktrTop dp un gd cn cs L a ccd cl []) (call (.ref 65) vs) Q E s :=
  c_plat vs ts news hv hl hx dp un gd cn cs a ccd cl [] callerA h₀ h₀ L m s Q E h₁ P ps hd hu ⟨below_caller h₀, F, X, N, T, hk⟩ B G h
noncomputable def cs6 (ns : List Int) : List Nat := (ordOf ns).map (fun k => SG.getD k 0) ++ [46]
theorem signs6_eq (ns : List Int) : signs6 ns = (cs6 ns).map fun c => ofL [c] := by
  unfold signs6 signs5 cs6
  rw [List.map_append, List.map_map]
  rfl
theorem sg_mem : ∀ k : Nat, k < 5 → SG.getD k 0 ∈ [97, 66, 99, 101, 90, 46] := by decide
theorem cs6_ok (ns : List Int) : (cs6 ns).length = 6 ∧ (∀ c ∈ cs6 ns, c ∈ [97, 66, 99, 101, 90, 46]) ∧ (cs6 ns).getLast? = some 46 := by
  obtain ⟨h1, h2⟩ := ord_five ns
  refine ⟨by simp [cs6, h1], fun c hc => ?_, by simp [cs6]⟩
  rcases List.mem_append.mp hc with hc | hc
  · obtain ⟨k, hk, rfl⟩ := List.mem_map.mp hc
    exact sg_mem k (h2 k hk)
  · simp only [List.mem_singleton] at hc
    subst hc
    decide
theorem kinds_ok (ns : List Int) : ∀ i, i < 6 → 0 ≤ (kinds6 ns).getD i 0 ∧ (kinds6 ns).getD i 0 < 4 := by
  intro i hi
  have e : ∀ x ∈ kinds6 ns, 0 ≤ x ∧ x < 4 := by
    intro x hx
    unfold kinds6 at hx
    rcases List.mem_append.mp hx with hx | hx
    · obtain ⟨k, _, rfl⟩ := List.mem_map.mp hx
      exact ⟨Int.fmod_nonneg_of_pos _ (by decide), Int.fmod_lt_of_pos _ (by decide)⟩
    · simp only [List.mem_singleton] at hx
      subst hx
      exact ⟨Int.fmod_nonneg_of_pos _ (by decide), Int.fmod_lt_of_pos _ (by decide)⟩
  have hl : i < (kinds6 ns).length := by simpa [kinds6] using hi
  refine e _ ?_
  rw [List.getD_eq_getElem?_getD, List.getElem?_eq_getElem hl]
  exact List.getElem_mem _
theorem text_ok : ∀ c ∈ [97, 66, 99, 101, 90, 46], ∀ o ∈ List.range 7, ∀ i ∈ List.range 6, ∀ kd ∈ List.range 4,
    ((lawT (ofL [c]) (kd : Int) (i : Int) (o : Int)).all (fun x => Nat.ble x.length 60) && Nat.ble (lawT (ofL [c]) (kd : Int) (i : Int) (o : Int)).length 2) = true := by decide +kernel
theorem texts_ok {cs : List Nat} {K6 : List Int} {shift : Int} (hl : cs.length = 6) (hc : ∀ c ∈ cs, c ∈ [97, 66, 99, 101, 90, 46]) (hK : ∀ i, i < 6 → 0 ≤ K6.getD i 0 ∧ K6.getD i 0 < 4) :
    (lawTexts (cs.map fun c => ofL [c]) K6 shift 6).length ≤ 20 ∧ ∀ x ∈ lawTexts (cs.map fun c => ofL [c]) K6 shift 6, x.length ≤ 60 := by
  have key : ∀ i, i < 6 → (lawText ((cs.map fun c => ofL [c]).getD i ⟨#[]⟩) (K6.getD i 0) i shift).length ≤ 2 ∧ ∀ x ∈ lawText ((cs.map fun c => ofL [c]).getD i ⟨#[]⟩) (K6.getD i 0) i shift, x.length ≤ 60 := by
    intro i hi
    obtain ⟨k0, k1⟩ := hK i hi
    have o0 := Int.fmod_nonneg_of_pos ((i : Int) + shift) (b := 7) (by decide)
    have o1 := Int.fmod_lt_of_pos ((i : Int) + shift) (b := 7) (by decide)
    rw [lawT_eq]
    generalize ((i : Int) + shift).fmod 7 = o at *
    generalize K6.getD i 0 = k at *
    obtain ⟨o, rfl⟩ : ∃ n : Nat, o = n := ⟨o.toNat, by omega⟩
    obtain ⟨k, rfl⟩ : ∃ n : Nat, k = n := ⟨k.toNat, by omega⟩
    have e : (cs.map fun c => ofL [c]).getD i ⟨#[]⟩ = ofL [cs.getD i 0] := by simp [List.getD_eq_getElem?_getD, hl, hi]
    have hm : cs.getD i 0 ∈ [97, 66, 99, 101, 90, 46] := by
      refine hc _ ?_
      simp [List.getD_eq_getElem?_getD, hl, hi]
    rw [e]
    have q := text_ok _ hm o (List.mem_range.mpr (by omega)) i (List.mem_range.mpr hi) k (List.mem_range.mpr (by omega))
    rw [Bool.and_eq_true] at q
    exact ⟨Nat.le_of_ble_eq_true q.2, fun x hx => Nat.le_of_ble_eq_true (List.all_eq_true.mp q.1 x hx)⟩
  refine ⟨?_, fun x hx => ?_⟩
  · have r6 : List.range 6 = [0, 1, 2, 3, 4, 5] := by decide
    have a0 := (key 0 (by decide)).1
    have a1 := (key 1 (by decide)).1
    have a2 := (key 2 (by decide)).1
    have a3 := (key 3 (by decide)).1
    have a4 := (key 4 (by decide)).1
    have a5 := (key 5 (by decide)).1
    unfold lawTexts
    rw [r6]
    simp only [List.flatMap_cons, List.flatMap_nil, List.append_nil, List.length_append]
    omega
  · obtain ⟨i, hi, hx⟩ := List.mem_flatMap.mp hx
    exact (key i (List.mem_range.mp hi)).2 x hx
noncomputable def L6 (L D : Addr) (ws : List Value) (o' : Obj) (ns : List Int) (tz : Tok) (x : Str) (m : Str → Option Value) (nx : List (Addr × Obj)) : Prop :=
  ∃ (U1 S1 L1 : Nat) (bl : List Blk) (tv sv : List Value) (oT : Obj) (cu ca cl : Nat) (tr ta : Tok), nx = (U1, W.listOf tv.toArray cu) :: (S1, W.listOf sv.toArray ca) :: (L1, W.listOf (bl.map fun b => Value.ref b.P).toArray cl) :: (D, W.listOf ws.toArray 0) :: (L + 1 + 1, oT) :: (L + 1, o') :: blkObjs 0 bl ∧ oT.data = .cell (some (.ref U1)) ∧ bl.length = 5 ∧
    (∀ k b, bl[k]? = some b → ItsAre b.pv (relParts ((num5 ns).getD k 0)) ∧ ItsAre b.rv (relParts ((num5 ns).getD k 0))) ∧ Inc L1 bl ∧ @LT.lt Nat _ D L1 ∧ StrsAre sv (signs6 ns) ∧ IntsAre tv (tur ns) ∧
    m (Str.ofString "size") = some (.int ns.length tz) ∧ m (Str.ofString "signs") = some (.ref S1) ∧ m (Str.ofString "lists") = some (.ref L1) ∧ m (Str.ofString "row") = some (.str (ofL (rowL (turN ns))) tr) ∧ m (Str.ofString "apart") = some (.str x ta)
theorem law7 {w : World} {mean mg mb} {h₁ h₀ : Heap} {L a D P : Addr} {ps : Array Value} {cd : Value} {s : Shared} {ns : List Int} {tz : Tok} {ws : List Value} {o' : Obj} {m : Str → Option Value} {nx : List (Addr × Obj)} (F : Fr h₀ L s.heap m) (N : News h₀ L s.heap nx) (J : L5 L D ws o' ns tz m nx)
   (X : (hd.heap_1 w.params).In h₀) (T : Top VW LS mean mg mb h₀) (B : Based h₁ h₀ 64 P ps) (G : AllBare s.gens) (dN : o'.data = .cell (some (.ref D))) (hi : IntsAre ws (num5 ns)) (hn : ns.length ≤ 63) :
   wpAny (model PG w) (lawA L a cd) (exec (lawBody.getD 12 default) (lawEnv L a cd)) (fun f s' => Kept (f = .next ∧ ∃ x, x.cps.toList = platL (lawTexts (signs6 ns) (kinds6 ns) ns.length 6) ∧ LG w mean mg mb h₁ P L s (L6 L D ws o' ns tz x) s')) (fun _ _ => False) s := by
  have hws : ws.length = 5 := by rw [hi.length]; exact num5_len ns
  refine fillIt ?_
  k_fill
  intro _
  ((unfold lawA lawEnv lawBody lawScope lawDef PySem.Challenge.pw_pu0021_01; dsimp only [bodyOf, scopeOf, List.getLast!, List.getLast, List.drop, List.take, Option.getD, List.getD, List.getElem?_cons_zero, List.getElem?_cons_succ]))
  refine hideG ?_
  intro Cg hCg
  obtain ⟨hp, gs, dr, tk0, os0⟩ := s
  refine hCg ?_
  clear hCg Cg
  refine hideG ?_
  intro Cg hCg
  obtain ⟨U1, S1, L1, bl, tv, sv, oT, cu, ca, cl, tr, rfl, dT, hbl, hgood, hinc, hDL, hsv, htv, e1, e2, e3, e4⟩ := J
  refine hCg ?_
  clear hCg Cg
  refine hideQ ?_
  intro Qh hQh
  dsimp only at F N G
  rw [mRw_of e1 e2 e3 e4] at F
  unfold mRw at F
  (repeat' ((fail_if_success (with_reducible show wpAny _ _ (eval (PySem.Expr.ListComp _ _ _ _) _) _ _ _)); (fail_if_success (with_reducible show wpAny _ _ (compareOp _ _ _) _ _ _)); (fail_if_success (with_reducible show wpAny _ _ (binaryOp _ (Value.ref _) _) _ _ _)); (fail_if_success (with_reducible show wpAny _ _ (call (Value.builtin "str.join") _) _ _ _)); (fail_if_success (with_reducible show wpAny _ _ (call (Value.ref _) _) _ _ _)); (fail_if_success (with_reducible show wpAny _ _ (pyIter _) _ _ _)); (fail_if_success (with_reducible show wpAny _ _ (PySem.exec (PySem.Stmt.For _ _ _ _ _) _) _ _ _)); (fail_if_success (with_reducible show Kept _)); (first | (k_unfold; (try dsimp only)) | (k_end; wrow_close) | (with_reducible ((with_reducible show wpAny _ _ (subscriptTail _ _ (Value.ref _) (Value.int _ _)) _ _ _); refine r_item' ‹News _ _ _ _› (by ((repeat (first | assumption | exact List.Mem.head _ | apply List.mem_cons_of_mem | apply List.mem_append_left)))) rfl (by assumption) (by omega) ?_ (by with_unfolding_all rfl); (try dsimp only))) | walk1 | ((with_reducible show wpAny _ _ (subscriptTail _ _ (Value.ref _) (Value.int _ _)) _ _ _); refine r_item' ‹News _ _ _ _› (by ((repeat (first | assumption | exact List.Mem.head _ | apply List.mem_cons_of_mem | apply List.mem_append_left)))) rfl (by assumption) (by omega) ?_ (by with_unfolding_all rfl); (try dsimp only)) | (dsimp only; walk1) | (leave1; walk_say "STEP leave1"; try dsimp only))))
  rename Fr _ _ _ _ => F4
  rename News _ _ _ _ => N4
  have hws : ws.length = 5 := by rw [hi.length]; exact num5_len ns
  with_reducible refine wpAny_mono (Q := fun xv s₁ => Kept (∃ (A : Addr) (ys : List Value) (h : Heap) (tk : Nat), xv = .ref A ∧ s₁ = ⟨h, gs, dr, tk, os0⟩ ∧ IntsAre ys ((List.range 5).map fun i => (((num5 ns).getD i 0).fdiv 4992 + (i : Int)).fmod 4) ∧ Fr h₀ L h (fun y => if y = Str.ofString "row" then some (.str (ofL (rowL (turN ns))) tr) else if y = Str.ofString "signs" then some (.ref S1) else if y = Str.ofString "size" then some (.int ns.length tz) else if y = Str.ofString "lists" then some (.ref L1) else m y) ∧
      News h₀ L h ((A, PyProof.Rows.LCg.lst ys) :: (U1, W.listOf tv.toArray cu) :: (S1, W.listOf sv.toArray ca) :: (L1, W.listOf (bl.map fun b => Value.ref b.P).toArray cl) :: (D, W.listOf ws.toArray 0) :: (L + 1 + 1, oT) :: (L + 1, o') :: blkObjs 0 bl))) (E := fun _ _ => False) ?ev ?src (fun _ _ e => e)
  case ev =>
    clear hgood hinc hsv htv e1 e2 e3 e4 hDL dT G B hn hbl
    refine PyProof.Rows.LCg.ListComp_U F4 (by rfl) (by decide) (by rfl) (by decide) (by rfl) ?_
    with_reducible refine wpAny_mono (Q := fun xv s₁ => Kept (∃ (r : Addr) (t u v : Tok) (h : Heap) (tk : Nat), xv = .ref r ∧ s₁ = ⟨h, gs, dr, tk, os0⟩ ∧ IsRange h r 0 ((5 : Nat) : Int) 1 t u v ∧ Fr h₀ L h (fun y => if y = Str.ofString "row" then some (.str (ofL (rowL (turN ns))) tr) else if y = Str.ofString "signs" then some (.ref S1) else if y = Str.ofString "size" then some (.int ns.length tz) else if y = Str.ofString "lists" then some (.ref L1) else m y) ∧
      News h₀ L h ((U1, W.listOf tv.toArray cu) :: (S1, W.listOf sv.toArray ca) :: (L1, W.listOf (bl.map fun b => Value.ref b.P).toArray cl) :: (D, W.listOf ws.toArray 0) :: (L + 1 + 1, oT) :: (L + 1, o') :: blkObjs 0 bl))) (E := fun _ _ => False) ?rng ?fold (fun _ _ e => e)
    case rng =>
      (repeat' ((fail_if_success (with_reducible show wpAny _ _ (eval (PySem.Expr.ListComp _ _ _ _) _) _ _ _)); (fail_if_success (with_reducible show wpAny _ _ (compareOp _ _ _) _ _ _)); (fail_if_success (with_reducible show wpAny _ _ (binaryOp _ (Value.ref _) _) _ _ _)); (fail_if_success (with_reducible show wpAny _ _ (call (Value.builtin "str.join") _) _ _ _)); (fail_if_success (with_reducible show wpAny _ _ (call (Value.ref _) _) _ _ _)); (fail_if_success (with_reducible show wpAny _ _ (pyIter _) _ _ _)); (fail_if_success (with_reducible show wpAny _ _ (PySem.exec (PySem.Stmt.For _ _ _ _ _) _) _ _ _)); (fail_if_success (with_reducible show Kept _)); (first | (k_unfold; (try dsimp only)) | (k_end; wrow_close) | (with_reducible ((with_reducible show wpAny _ _ (subscriptTail _ _ (Value.ref _) (Value.int _ _)) _ _ _); refine r_item' ‹News _ _ _ _› (by ((repeat (first | assumption | exact List.Mem.head _ | apply List.mem_cons_of_mem | apply List.mem_append_left)))) rfl (by assumption) (by omega) ?_ (by with_unfolding_all rfl); (try dsimp only))) | walk1 | ((with_reducible show wpAny _ _ (subscriptTail _ _ (Value.ref _) (Value.int _ _)) _ _ _); refine r_item' ‹News _ _ _ _› (by ((repeat (first | assumption | exact List.Mem.head _ | apply List.mem_cons_of_mem | apply List.mem_append_left)))) rfl (by assumption) (by omega) ?_ (by with_unfolding_all rfl); (try dsimp only)) | (dsimp only; walk1) | (leave1; walk_say "STEP leave1"; try dsimp only))))
      exact Kept.of ⟨_, _, _, _, _, _, rfl, rfl, by assumption, by assumption, by assumption⟩
    case fold =>
      intro xv s₁ hRg
      refine hideG ?_
      intro Cg hCg
      obtain ⟨r, t, u, v, h4, tk4, rfl, rfl, hR4, F4', N4'⟩ := hRg
      refine hCg ?_
      clear hCg Cg
      refine PyProof.Rows.LCg.CompSrc.range (n := 5) rfl F4' N4' hR4 (small01 (by decide)) (size01 _) (by rw [sizeLine_eq]; decide) (fun g4 => ?_)
      refine compU_inv (n := 5) trivial (fun j ys => IntsAre ys ((List.range j).map fun i => (((num5 ns).getD i 0).fdiv 4992 + (i : Int)).fmod 4)) ?step ?fin 5 0 [] (by decide) .nil
      case fin =>
        rintro ys hys
        unfold PyProof.Rows.LCg.FinE
        intro D9 h9 tk9 F9 N9 off9
        exact Kept.of ⟨_, _, _, _, rfl, rfl, hys, F9, N9⟩
      case step =>
        rintro j ys v' I oI C oCC D' m₂ h8 tk8 hj hJ8 hP8 hC8 hm8 F8 N8
        obtain ⟨tv', rfl⟩ := hP8
        rw [show (0 : Int) + (j : Int) = (j : Int) by omega] at hm8
        have hd5 : (num5 ns)[j]? = some ((num5 ns).getD j 0) := by
          have hl : j < (num5 ns).length := by rw [num5_len]; exact hj
          simp [List.getD_eq_getElem?_getD, hl]
        obtain ⟨tt, ht⟩ := hi.get j _ hd5
        clear F4 N4
        (repeat' ((fail_if_success (with_reducible show wpAny _ _ (eval (PySem.Expr.ListComp _ _ _ _) _) _ _ _)); (fail_if_success (with_reducible show wpAny _ _ (compareOp _ _ _) _ _ _)); (fail_if_success (with_reducible show wpAny _ _ (binaryOp _ (Value.ref _) _) _ _ _)); (fail_if_success (with_reducible show wpAny _ _ (call (Value.builtin "str.join") _) _ _ _)); (fail_if_success (with_reducible show wpAny _ _ (call (Value.ref _) _) _ _ _)); (fail_if_success (with_reducible show wpAny _ _ (pyIter _) _ _ _)); (fail_if_success (with_reducible show wpAny _ _ (PySem.exec (PySem.Stmt.For _ _ _ _ _) _) _ _ _)); (fail_if_success (with_reducible show Kept _)); (first | (k_unfold; (try dsimp only)) | (k_end; wrow_close) | (with_reducible ((with_reducible show wpAny _ _ (subscriptTail _ _ (Value.ref _) (Value.int _ _)) _ _ _); refine r_item' ‹News _ _ _ _› (by ((repeat (first | assumption | exact List.Mem.head _ | apply List.mem_cons_of_mem | apply List.mem_append_left)))) rfl (by assumption) (by omega) ?_ (by with_unfolding_all rfl); (try dsimp only))) | walk1 | ((with_reducible show wpAny _ _ (subscriptTail _ _ (Value.ref _) (Value.int _ _)) _ _ _); refine r_item' ‹News _ _ _ _› (by ((repeat (first | assumption | exact List.Mem.head _ | apply List.mem_cons_of_mem | apply List.mem_append_left)))) rfl (by assumption) (by omega) ?_ (by with_unfolding_all rfl); (try dsimp only)) | (dsimp only; walk1) | (leave1; walk_say "STEP leave1"; try dsimp only))))
        rename Fr _ _ _ _ => F9
        rename News _ _ _ _ => N9
        refine Took.intro F9 N9 (fun p hp => hp) ?_
        rw [List.range_succ, List.map_append]
        exact ints_app hJ8 (.cons _ _ .nil)
  case src =>
    intro xv s₁ hRg
    refine hideG ?_
    intro Cg hCg
    obtain ⟨A, ys, h5, tk5, rfl, rfl, hys, F5, N5⟩ := hRg
    refine hCg ?_
    clear hCg Cg
    clear F4 N4
    (repeat' ((fail_if_success (with_reducible show wpAny _ _ (eval (PySem.Expr.ListComp _ _ _ _) _) _ _ _)); (fail_if_success (with_reducible show wpAny _ _ (compareOp _ _ _) _ _ _)); (fail_if_success (with_reducible show wpAny _ _ (binaryOp _ (Value.ref _) _) _ _ _)); (fail_if_success (with_reducible show wpAny _ _ (call (Value.builtin "str.join") _) _ _ _)); (fail_if_success (with_reducible show wpAny _ _ (call (Value.ref _) _) _ _ _)); (fail_if_success (with_reducible show wpAny _ _ (pyIter _) _ _ _)); (fail_if_success (with_reducible show wpAny _ _ (PySem.exec (PySem.Stmt.For _ _ _ _ _) _) _ _ _)); (fail_if_success (with_reducible show Kept _)); (first | (k_unfold; (try dsimp only)) | (k_end; wrow_close) | (with_reducible ((with_reducible show wpAny _ _ (subscriptTail _ _ (Value.ref _) (Value.int _ _)) _ _ _); refine r_item' ‹News _ _ _ _› (by ((repeat (first | assumption | exact List.Mem.head _ | apply List.mem_cons_of_mem | apply List.mem_append_left)))) rfl (by assumption) (by omega) ?_ (by with_unfolding_all rfl); (try dsimp only))) | walk1 | ((with_reducible show wpAny _ _ (subscriptTail _ _ (Value.ref _) (Value.int _ _)) _ _ _); refine r_item' ‹News _ _ _ _› (by ((repeat (first | assumption | exact List.Mem.head _ | apply List.mem_cons_of_mem | apply List.mem_append_left)))) rfl (by assumption) (by omega) ?_ (by with_unfolding_all rfl); (try dsimp only)) | (dsimp only; walk1) | (leave1; walk_say "STEP leave1"; try dsimp only))))
    rename Fr _ _ _ _ => F6
    rename News _ _ _ _ => N6
    have hyl : ys.length = 5 := by rw [hys.length]; simp
    have hyk : ys.length + [Value.int (((ns.length : Int).fdiv 2).fmod 4) (tk5 + 1 + 1 + 1)].length ≤ 1000 := by rw [hyl]; exact (by decide : 5 + 1 ≤ 1000)
    refine r_add F6 N6 (.tail _ (.head _)) (.head _) hyk ?_
    intro KA h7 F7 N7 hKA
    clear F6 N6 hKA hyk
    (repeat' ((fail_if_success (with_reducible show wpAny _ _ (eval (PySem.Expr.ListComp _ _ _ _) _) _ _ _)); (fail_if_success (with_reducible show wpAny _ _ (compareOp _ _ _) _ _ _)); (fail_if_success (with_reducible show wpAny _ _ (binaryOp _ (Value.ref _) _) _ _ _)); (fail_if_success (with_reducible show wpAny _ _ (call (Value.builtin "str.join") _) _ _ _)); (fail_if_success (with_reducible show wpAny _ _ (call (Value.ref _) _) _ _ _)); (fail_if_success (with_reducible show wpAny _ _ (pyIter _) _ _ _)); (fail_if_success (with_reducible show wpAny _ _ (PySem.exec (PySem.Stmt.For _ _ _ _ _) _) _ _ _)); (fail_if_success (with_reducible show Kept _)); (first | (k_unfold; (try dsimp only)) | (k_end; wrow_close) | (with_reducible ((with_reducible show wpAny _ _ (subscriptTail _ _ (Value.ref _) (Value.int _ _)) _ _ _); refine r_item' ‹News _ _ _ _› (by ((repeat (first | assumption | exact List.Mem.head _ | apply List.mem_cons_of_mem | apply List.mem_append_left)))) rfl (by assumption) (by omega) ?_ (by with_unfolding_all rfl); (try dsimp only))) | walk1 | ((with_reducible show wpAny _ _ (subscriptTail _ _ (Value.ref _) (Value.int _ _)) _ _ _); refine r_item' ‹News _ _ _ _› (by ((repeat (first | assumption | exact List.Mem.head _ | apply List.mem_cons_of_mem | apply List.mem_append_left)))) rfl (by assumption) (by omega) ?_ (by with_unfolding_all rfl); (try dsimp only)) | (dsimp only; walk1) | (leave1; walk_say "STEP leave1"; try dsimp only))))
    have hcs := cs6_ok ns
    have hK6 : IntsAre (ys ++ [Value.int (((ns.length : Int).fdiv 2).fmod 4) (tk5 + 1 + 1 + 1)]) (kinds6 ns) := ints_app hys (.cons _ _ .nil)
    have hS1 : ∀ x ∈ signs6 ns, x.length ≤ 1 := fun x hx => by
      rw [signs6_eq] at hx
      obtain ⟨c, _, rfl⟩ := List.mem_map.mp hx
      rw [ofL_len]
      exact Nat.le_refl _
    have hS6 : (signs6 ns).length = 6 := by rw [signs6_eq, List.length_map]; exact hcs.1
    refine useL (c_texts S1 KA sv _ ca 0 (signs6 ns) (kinds6 ns) ns.length tz _ (.tail _ (.tail _ (.tail _ (.tail _ (.head _))))) (.head _) hsv hK6 hS6 (by simp [kinds6]) hS1 ⟨Int.natCast_nonneg _, by omega⟩) rfl F7 X N7 T (by decide) (by decide) ?_
    intro r tl h8 tk8 F8 N8 hRg
    refine hideG ?_
    intro Cg hCg
    obtain ⟨TT, tvs, tc, rfl, rfl, htv2, htl, hlt⟩ := hRg
    refine hCg ?_
    clear hCg Cg
    clear F7 N7 hlt
    dsimp only at F8 N8 ⊢
    simp only [List.cons_append, List.nil_append] at N8
    refine star_seq (ws := tvs) F8 N8 (.head _) rfl rfl (.inl rfl) rfl (by simp [sizeLine_eq]; omega) ?_
    intro h9 F9 N9
    refine ⟨X.keeps F9.keep, ?_⟩
    dsimp only [List.nil_append]
    have hso := texts_ok (shift := ns.length) hcs.1 hcs.2.1 (kinds_ok ns)
    rw [← signs6_eq] at hso
    refine usePl htv2 hso.1 hso.2 rfl F9 X N9 T B (by exact G) (by decide) (by decide) ?_
    rintro x tx ⟨h10, g10, d10, tk10, os10⟩ more ex B10 F10 N10 G10 o10
    dsimp only at F10 N10 G10 o10
    have X10 : (hd.heap_1 w.params).In (regrown h₀ P (ps ++ more)) := kb_in_regrown B X T.g (kb_hd _)
    have T10 := top0_regrown (ps' := ps ++ more) B T
    clear F9 N9 F8 N8 X T
    (repeat' ((fail_if_success (with_reducible show wpAny _ _ (eval (PySem.Expr.ListComp _ _ _ _) _) _ _ _)); (fail_if_success (with_reducible show wpAny _ _ (compareOp _ _ _) _ _ _)); (fail_if_success (with_reducible show wpAny _ _ (binaryOp _ (Value.ref _) _) _ _ _)); (fail_if_success (with_reducible show wpAny _ _ (call (Value.builtin "str.join") _) _ _ _)); (fail_if_success (with_reducible show wpAny _ _ (call (Value.ref _) _) _ _ _)); (fail_if_success (with_reducible show wpAny _ _ (pyIter _) _ _ _)); (fail_if_success (with_reducible show wpAny _ _ (PySem.exec (PySem.Stmt.For _ _ _ _ _) _) _ _ _)); (fail_if_success (with_reducible show Kept _)); (first | (k_unfold; (try dsimp only)) | (k_end; wrow_close) | (with_reducible ((with_reducible show wpAny _ _ (subscriptTail _ _ (Value.ref _) (Value.int _ _)) _ _ _); refine r_item' ‹News _ _ _ _› (by ((repeat (first | assumption | exact List.Mem.head _ | apply List.mem_cons_of_mem | apply List.mem_append_left)))) rfl (by assumption) (by omega) ?_ (by with_unfolding_all rfl); (try dsimp only))) | walk1 | ((with_reducible show wpAny _ _ (subscriptTail _ _ (Value.ref _) (Value.int _ _)) _ _ _); refine r_item' ‹News _ _ _ _› (by ((repeat (first | assumption | exact List.Mem.head _ | apply List.mem_cons_of_mem | apply List.mem_append_left)))) rfl (by assumption) (by omega) ?_ (by with_unfolding_all rfl); (try dsimp only)) | (dsimp only; walk1) | (leave1; walk_say "STEP leave1"; try dsimp only))))
    rename Fr _ _ _ _ => F12
    rename News _ _ _ _ => N12
    exact hQh _ _ <| Kept.of ⟨rfl, x, ex, o10, G10, _, _, _, _, B10, X10, T10, F12, fun q hq => N12 q (.tail _ (.tail _ (.tail _ (.tail _ hq)))), ⟨U1, S1, L1, bl, tv, sv, oT, cu, ca, cl, tr, _, rfl, dT, hbl, hgood, hinc, hDL, hsv, htv, rfl, rfl, rfl, rfl, rfl⟩⟩
end Mine
end
section
open PySem PySem.W PyProof.Rows PySem.Spec PySem.Calls
set_option maxRecDepth 100000
set_option maxHeartbeats 0
set_option pp.maxSteps 6000
namespace Mine
noncomputable def mAp (S1 L1 : Nat) (n : Int) (tz : Tok) (y : Str) (tr : Tok) (x : Str) (ta : Tok) (u : Str → Option Value) : Str → Option Value := fun z => if z = Str.ofString "apart" then some (.str x ta) else if z = Str.ofString "row" then some (.str y tr) else if z = Str.ofString "signs" then some (.ref S1) else if z = Str.ofString "size" then some (.int n tz) else if z = Str.ofString "lists" then some (.ref L1) else u z
theorem mAp_of {S1 L1 : Nat} {n : Int} {tz : Tok} {y : Str} {tr : Tok} {x : Str} {ta : Tok} {m : Str → Option Value} (h1 : m (Str.ofString "size") = some (.int n tz)) (h2 : m (Str.ofString "signs") = some (.ref S1)) (h3 : m (Str.ofString "lists") = some (.ref L1)) (h4 : m (Str.ofString "row") = some (.str y tr)) (h5 : m (Str.ofString "apart") = some (.str x ta)) : m = mAp S1 L1 n tz y tr x ta m := by
  funext z
  unfold mAp
  by_cases e0 : z = Str.ofString "apart"
  · rw [if_pos e0, e0, h5]
  rw [if_neg e0]
  by_cases e1 : z = Str.ofString "row"
  · rw [if_pos e1, e1, h4]
  rw [if_neg e1]
  by_cases e2 : z = Str.ofString "signs"
  · rw [if_pos e2, e2, h2]
  rw [if_neg e2]
  by_cases e3 : z = Str.ofString "size"
  · rw [if_pos e3, e3, h1]
  rw [if_neg e3]
  by_cases e4 : z = Str.ofString "lists"
  · rw [if_pos e4, e4, h3]
  rw [if_neg e4]
noncomputable def blkT (c : Nat) : Str := Str.ofString "-____" ++ ofL [c]
theorem blkT_toList (c : Nat) : (blkT c).cps.toList = [45, 95, 95, 95, 95, c] := by
  have e : ∀ u v : Str, (u ++ v).cps.toList = u.cps.toList ++ v.cps.toList := fun u v => Array.toList_append
  unfold blkT
  rw [e, ofL_cps]
  rfl
theorem join_blk (cs : List Nat) : (Str.join (Str.ofString "") (cs.map blkT)).cps.toList = cs.flatMap fun c => [45, 95, 95, 95, 95, c] := by
  cases cs with
  | nil => rfl
  | cons a r =>
    rw [List.map_cons, join_list, blkT_toList, List.flatMap_cons, List.flatMap_map]
    refine congrArg _ ?_
    refine congrArg (fun f => List.flatMap f r) ?_
    funext c
    show (Str.ofString "").cps.toList ++ (blkT c).cps.toList = _
    rw [blkT_toList]
    rfl
theorem law8 {w : World} {mean mg mb} {h₀ : Heap} {L a D : Addr} {cd : Value} {s : Shared} {ns : List Int} {tz : Tok} {ws : List Value} {o' : Obj} {x : Str} {m : Str → Option Value} {nx : List (Addr × Obj)} (F : Fr h₀ L s.heap m) (N : News h₀ L s.heap nx) (J : L6 L D ws o' ns tz x m nx)
   (X : (hd.heap_1 w.params).In h₀) (T : Top VW LS mean mg mb h₀) (hx : x.cps.toList = (cs6 ns).flatMap fun c => [45, 95, 95, 95, 95, c]) :
   wpAny (model PG w) (lawA L a cd) (exec (lawBody.getD 13 default) (lawEnv L a cd)) (fun f s' => Kept (f = .next ∧ LSt h₀ L s (L6 L D ws o' ns tz x) s')) (fun _ _ => False) s := by
  refine fillIt ?_
  k_fill
  intro _
  ((unfold lawA lawEnv lawBody lawScope lawDef PySem.Challenge.pw_pu0021_01; dsimp only [bodyOf, scopeOf, List.getLast!, List.getLast, List.drop, List.take, Option.getD, List.getD, List.getElem?_cons_zero, List.getElem?_cons_succ]))
  refine hideG ?_
  intro Cg hCg
  obtain ⟨hp, gs, dr, tk0, os0⟩ := s
  refine hCg ?_
  clear hCg Cg
  refine hideG ?_
  intro Cg hCg
  obtain ⟨U1, S1, L1, bl, tv, sv, oT, cu, ca, cl, tr, ta, rfl, dT, hbl, hgood, hinc, hDL, hsv, htv, e1, e2, e3, e4, e5⟩ := J
  refine hCg ?_
  clear hCg Cg
  dsimp only at F N
  rw [mAp_of e1 e2 e3 e4 e5] at F
  unfold mAp at F
  (repeat' ((fail_if_success (with_reducible show PyProof.Rows.LCg.CompSrc _ _ _ _ _ _ _ _ _ _ _ _ _ _)); (fail_if_success (with_reducible show wpAny _ _ (eval (PySem.Expr.ListComp _ _ _ _) _) _ _ _)); (fail_if_success (with_reducible show wpAny _ _ (compareOp _ _ _) _ _ _)); (fail_if_success (with_reducible show wpAny _ _ (binaryOp _ (Value.ref _) _) _ _ _)); (fail_if_success (with_reducible show wpAny _ _ (call (Value.builtin "str.join") _) _ _ _)); (fail_if_success (with_reducible show wpAny _ _ (call (Value.ref _) _) _ _ _)); (fail_if_success (with_reducible show wpAny _ _ (pyIter _) _ _ _)); (fail_if_success (with_reducible show wpAny _ _ (PySem.exec (PySem.Stmt.For _ _ _ _ _) _) _ _ _)); (fail_if_success (with_reducible show Kept _)); (first | (k_unfold; (try dsimp only)) | (k_end; wrow_close) | (with_reducible ((with_reducible show wpAny _ _ (subscriptTail _ _ (Value.ref _) (Value.int _ _)) _ _ _); refine r_item' ‹News _ _ _ _› (by ((repeat (first | assumption | exact List.Mem.head _ | apply List.mem_cons_of_mem | apply List.mem_append_left)))) rfl (by assumption) (by omega) ?_ (by with_unfolding_all rfl); (try dsimp only))) | walk1 | ((with_reducible show wpAny _ _ (subscriptTail _ _ (Value.ref _) (Value.int _ _)) _ _ _); refine r_item' ‹News _ _ _ _› (by ((repeat (first | assumption | exact List.Mem.head _ | apply List.mem_cons_of_mem | apply List.mem_append_left)))) rfl (by assumption) (by omega) ?_ (by with_unfolding_all rfl); (try dsimp only)) | (dsimp only; walk1) | (leave1; walk_say "STEP leave1"; try dsimp only))))
  rename Fr _ _ _ _ => F4
  rename News _ _ _ _ => N4
  have hsl : sv.length = 6 := by rw [hsv.length, signs6_eq, List.length_map]; exact (cs6_ok ns).1
  refine PyProof.Rows.LCg.ListComp_U F4 (by rfl) (by decide) (by rfl) (by decide) (by rfl) ?_
  (repeat' ((fail_if_success (with_reducible show PyProof.Rows.LCg.CompSrc _ _ _ _ _ _ _ _ _ _ _ _ _ _)); (fail_if_success (with_reducible show wpAny _ _ (eval (PySem.Expr.ListComp _ _ _ _) _) _ _ _)); (fail_if_success (with_reducible show wpAny _ _ (compareOp _ _ _) _ _ _)); (fail_if_success (with_reducible show wpAny _ _ (binaryOp _ (Value.ref _) _) _ _ _)); (fail_if_success (with_reducible show wpAny _ _ (call (Value.builtin "str.join") _) _ _ _)); (fail_if_success (with_reducible show wpAny _ _ (call (Value.ref _) _) _ _ _)); (fail_if_success (with_reducible show wpAny _ _ (pyIter _) _ _ _)); (fail_if_success (with_reducible show wpAny _ _ (PySem.exec (PySem.Stmt.For _ _ _ _ _) _) _ _ _)); (fail_if_success (with_reducible show Kept _)); (first | (k_unfold; (try dsimp only)) | (k_end; wrow_close) | (with_reducible ((with_reducible show wpAny _ _ (subscriptTail _ _ (Value.ref _) (Value.int _ _)) _ _ _); refine r_item' ‹News _ _ _ _› (by ((repeat (first | assumption | exact List.Mem.head _ | apply List.mem_cons_of_mem | apply List.mem_append_left)))) rfl (by assumption) (by omega) ?_ (by with_unfolding_all rfl); (try dsimp only))) | walk1 | ((with_reducible show wpAny _ _ (subscriptTail _ _ (Value.ref _) (Value.int _ _)) _ _ _); refine r_item' ‹News _ _ _ _› (by ((repeat (first | assumption | exact List.Mem.head _ | apply List.mem_cons_of_mem | apply List.mem_append_left)))) rfl (by assumption) (by omega) ?_ (by with_unfolding_all rfl); (try dsimp only)) | (dsimp only; walk1) | (leave1; walk_say "STEP leave1"; try dsimp only))))
  refine PyProof.Rows.LCg.CompSrc.ledger rfl F4 N4 (by ((repeat (first | assumption | exact List.Mem.head _ | apply List.mem_cons_of_mem | apply List.mem_append_left)))) (by simp [hsl, sizeLine_eq]) (fun g4 => ?_)
  refine compU_inv (n := sv.toArray.size) (.inr ⟨_, by ((repeat (first | assumption | exact List.Mem.head _ | apply List.mem_cons_of_mem | apply List.mem_append_left))), rfl, _, rfl⟩) (fun j ys => StrsAre ys (((cs6 ns).take j).map blkT)) ?step ?fin _ 0 [] (by simp) .nil
  case fin =>
    rintro ys hys
    have hys : StrsAre ys ((cs6 ns).map blkT) := by
      have e : sv.toArray.size = (cs6 ns).length := by rw [(cs6_ok ns).1]; simpa using hsl
      rw [e, List.take_length] at hys
      exact hys
    unfold PyProof.Rows.LCg.FinE
    intro D9 h9 tk9 F9 N9 off9
    (repeat' ((fail_if_success (with_reducible show PyProof.Rows.LCg.CompSrc _ _ _ _ _ _ _ _ _ _ _ _ _ _)); (fail_if_success (with_reducible show wpAny _ _ (eval (PySem.Expr.ListComp _ _ _ _) _) _ _ _)); (fail_if_success (with_reducible show wpAny _ _ (compareOp _ _ _) _ _ _)); (fail_if_success (with_reducible show wpAny _ _ (binaryOp _ (Value.ref _) _) _ _ _)); (fail_if_success (with_reducible show wpAny _ _ (call (Value.builtin "str.join") _) _ _ _)); (fail_if_success (with_reducible show wpAny _ _ (call (Value.ref _) _) _ _ _)); (fail_if_success (with_reducible show wpAny _ _ (pyIter _) _ _ _)); (fail_if_success (with_reducible show wpAny _ _ (PySem.exec (PySem.Stmt.For _ _ _ _ _) _) _ _ _)); (fail_if_success (with_reducible show Kept _)); (first | (k_unfold; (try dsimp only)) | (k_end; wrow_close) | (with_reducible ((with_reducible show wpAny _ _ (subscriptTail _ _ (Value.ref _) (Value.int _ _)) _ _ _); refine r_item' ‹News _ _ _ _› (by ((repeat (first | assumption | exact List.Mem.head _ | apply List.mem_cons_of_mem | apply List.mem_append_left)))) rfl (by assumption) (by omega) ?_ (by with_unfolding_all rfl); (try dsimp only))) | walk1 | ((with_reducible show wpAny _ _ (subscriptTail _ _ (Value.ref _) (Value.int _ _)) _ _ _); refine r_item' ‹News _ _ _ _› (by ((repeat (first | assumption | exact List.Mem.head _ | apply List.mem_cons_of_mem | apply List.mem_append_left)))) rfl (by assumption) (by omega) ?_ (by with_unfolding_all rfl); (try dsimp only)) | (dsimp only; walk1) | (leave1; walk_say "STEP leave1"; try dsimp only))))
    rename Fr _ _ _ _ => F10
    rename News _ _ _ _ => N10
    refine r_join (ts := (cs6 ns).map blkT) N10 (.head _) hys (by simp [(cs6_ok ns).1]) (fun y hy => by obtain ⟨c, _, rfl⟩ := List.mem_map.mp hy; exact Nat.le_trans (Nat.le_of_eq (by simp [Str.length, blkT_toList, ← Array.length_toList])) (by decide : 6 ≤ 60)) ?_ (by decide)
    intro tj kj
    dsimp only
    clear hys
    refine ne_str ?_
    have hxe : x = Str.join (Str.ofString "") ((cs6 ns).map blkT) := by
      rw [of_toList x, of_toList (Str.join (Str.ofString "") ((cs6 ns).map blkT)), hx, join_blk]
    rw [show (x != Str.join (Str.ofString "") ((cs6 ns).map blkT)) = false by rw [← hxe]; simp]
    clear hxe
    clear hx
    (repeat' ((fail_if_success (with_reducible show PyProof.Rows.LCg.CompSrc _ _ _ _ _ _ _ _ _ _ _ _ _ _)); (fail_if_success (with_reducible show wpAny _ _ (eval (PySem.Expr.ListComp _ _ _ _) _) _ _ _)); (fail_if_success (with_reducible show wpAny _ _ (compareOp _ _ _) _ _ _)); (fail_if_success (with_reducible show wpAny _ _ (binaryOp _ (Value.ref _) _) _ _ _)); (fail_if_success (with_reducible show wpAny _ _ (call (Value.builtin "str.join") _) _ _ _)); (fail_if_success (with_reducible show wpAny _ _ (call (Value.ref _) _) _ _ _)); (fail_if_success (with_reducible show wpAny _ _ (pyIter _) _ _ _)); (fail_if_success (with_reducible show wpAny _ _ (PySem.exec (PySem.Stmt.For _ _ _ _ _) _) _ _ _)); (fail_if_success (with_reducible show Kept _)); (first | (k_unfold; (try dsimp only)) | (k_end; wrow_close) | (with_reducible ((with_reducible show wpAny _ _ (subscriptTail _ _ (Value.ref _) (Value.int _ _)) _ _ _); refine r_item' ‹News _ _ _ _› (by ((repeat (first | assumption | exact List.Mem.head _ | apply List.mem_cons_of_mem | apply List.mem_append_left)))) rfl (by assumption) (by omega) ?_ (by with_unfolding_all rfl); (try dsimp only))) | walk1 | ((with_reducible show wpAny _ _ (subscriptTail _ _ (Value.ref _) (Value.int _ _)) _ _ _); refine r_item' ‹News _ _ _ _› (by ((repeat (first | assumption | exact List.Mem.head _ | apply List.mem_cons_of_mem | apply List.mem_append_left)))) rfl (by assumption) (by omega) ?_ (by with_unfolding_all rfl); (try dsimp only)) | (dsimp only; walk1) | (leave1; walk_say "STEP leave1"; try dsimp only))))
    rename Fr _ _ _ _ => F12
    rename News _ _ _ _ => N12
    exact Kept.of ⟨rfl, LSt.intro F12 (fun q hq => N12 q (.tail _ hq)) ⟨U1, S1, L1, bl, tv, sv, oT, cu, ca, cl, tr, ta, rfl, dT, hbl, hgood, hinc, hDL, hsv, htv, rfl, rfl, rfl, rfl, rfl⟩⟩
  case step =>
    rintro j ys v I oI C oCC D' m₂ h8 tk8 hj hJ8 hP8 hC8 hm8 F8 N8
    have hj : j < 6 := by simpa [hsl] using hj
    obtain ⟨c, hc⟩ : ∃ c, (cs6 ns)[j]? = some c := ⟨_, List.getElem?_eq_getElem (by rw [(cs6_ok ns).1]; exact hj)⟩
    obtain ⟨tv', ht'⟩ := hsv.at (j := j) (y := ofL [c]) (by rw [signs6_eq, List.getElem?_map, hc]; rfl)
    have ev : v = .str (ofL [c]) tv' := by
      have hP8 : sv.toArray[j]? = some v := hP8
      rw [List.getElem?_toArray, ht'] at hP8
      exact (Option.some.inj hP8).symm
    subst ev
    clear F4 N4
    (repeat' ((fail_if_success (with_reducible show PyProof.Rows.LCg.CompSrc _ _ _ _ _ _ _ _ _ _ _ _ _ _)); (fail_if_success (with_reducible show wpAny _ _ (eval (PySem.Expr.ListComp _ _ _ _) _) _ _ _)); (fail_if_success (with_reducible show wpAny _ _ (compareOp _ _ _) _ _ _)); (fail_if_success (with_reducible show wpAny _ _ (binaryOp _ (Value.ref _) _) _ _ _)); (fail_if_success (with_reducible show wpAny _ _ (call (Value.builtin "str.join") _) _ _ _)); (fail_if_success (with_reducible show wpAny _ _ (call (Value.ref _) _) _ _ _)); (fail_if_success (with_reducible show wpAny _ _ (pyIter _) _ _ _)); (fail_if_success (with_reducible show wpAny _ _ (PySem.exec (PySem.Stmt.For _ _ _ _ _) _) _ _ _)); (fail_if_success (with_reducible show Kept _)); (first | (k_unfold; (try dsimp only)) | (k_end; wrow_close) | (with_reducible ((with_reducible show wpAny _ _ (subscriptTail _ _ (Value.ref _) (Value.int _ _)) _ _ _); refine r_item' ‹News _ _ _ _› (by ((repeat (first | assumption | exact List.Mem.head _ | apply List.mem_cons_of_mem | apply List.mem_append_left)))) rfl (by assumption) (by omega) ?_ (by with_unfolding_all rfl); (try dsimp only))) | walk1 | ((with_reducible show wpAny _ _ (subscriptTail _ _ (Value.ref _) (Value.int _ _)) _ _ _); refine r_item' ‹News _ _ _ _› (by ((repeat (first | assumption | exact List.Mem.head _ | apply List.mem_cons_of_mem | apply List.mem_append_left)))) rfl (by assumption) (by omega) ?_ (by with_unfolding_all rfl); (try dsimp only)) | (dsimp only; walk1) | (leave1; walk_say "STEP leave1"; try dsimp only))))
    rename Fr _ _ _ _ => F9
    rename News _ _ _ _ => N9
    refine Took.intro F9 N9 (fun p hp => hp) ?_
    rw [List.take_succ, hc]
    simp only [Option.toList_some, List.map_append, List.map_cons, List.map_nil]
    exact hJ8.append' (.cons _ _ .nil)
end Mine
end
section
open PySem PySem.W PyProof.Rows PySem.Spec PySem.Calls
set_option maxRecDepth 100000
set_option maxHeartbeats 0
set_option pp.maxSteps 6000
namespace Mine
noncomputable def mT1 (S1 L1 : Nat) (n : Int) (tz : Tok) (y : Str) (tr : Tok) (x : Str) (ta : Tok) (bk : Int) (tb : Tok) (u : Str → Option Value) : Str → Option Value := fun z => if z = Str.ofString "apart" then some (.str x ta) else if z = Str.ofString "row" then some (.str y tr) else if z = Str.ofString "signs" then some (.ref S1) else if z = Str.ofString "size" then some (.int n tz) else if z = Str.ofString "lists" then some (.ref L1) else if z = Str.ofString "back" then some (.int bk tb) else u z
theorem mT1_of {S1 L1 : Nat} {n : Int} {tz : Tok} {y : Str} {tr : Tok} {x : Str} {ta : Tok} {bk : Int} {tb : Tok} {m : Str → Option Value} (h5 : m (Str.ofString "apart") = some (.str x ta)) (h4 : m (Str.ofString "row") = some (.str y tr)) (h2 : m (Str.ofString "signs") = some (.ref S1)) (h1 : m (Str.ofString "size") = some (.int n tz)) (h3 : m (Str.ofString "lists") = some (.ref L1)) (h6 : m (Str.ofString "back") = some (.int bk tb)) : m = mT1 S1 L1 n tz y tr x ta bk tb m := by
  funext z
  unfold mT1
  by_cases e0 : z = Str.ofString "apart"
  · rw [if_pos e0, e0, h5]
  rw [if_neg e0]
  by_cases e1 : z = Str.ofString "row"
  · rw [if_pos e1, e1, h4]
  rw [if_neg e1]
  by_cases e2 : z = Str.ofString "signs"
  · rw [if_pos e2, e2, h2]
  rw [if_neg e2]
  by_cases e3 : z = Str.ofString "size"
  · rw [if_pos e3, e3, h1]
  rw [if_neg e3]
  by_cases e4 : z = Str.ofString "lists"
  · rw [if_pos e4, e4, h3]
  rw [if_neg e4]
  by_cases e5 : z = Str.ofString "back"
  · rw [if_pos e5, e5, h6]
  rw [if_neg e5]
noncomputable def forBody : List Stmt := match lawBody.getD 14 default with
  | .For _ _ b _ _ => b
  | _ => []
noncomputable def LB (w : World) (mean : ExcName → Option Value) (mg mb : Str → Option Value) (h₁ : Heap) (P L it DT : Addr) (o oD : Obj) (s : Shared) (R : (Str → Option Value) → List (Addr × Obj) → Prop) (s' : Shared) : Prop :=
  s'.os = s.os ∧ AllBare s'.gens ∧ ∃ (g : Heap) (ps : Array Value) (m : Str → Option Value) (nx : List (Addr × Obj)), Based h₁ g 64 P ps ∧ (hd.heap_1 w.params).In g ∧ Top VW LS mean mg mb g ∧ Fr g L s'.heap m ∧ News g L s'.heap ((it, o) :: (DT, oD) :: nx) ∧ R m nx
noncomputable def backOf (b : Bool) : Int := if b then 1 else 0
noncomputable def plainT (ns : List Int) (b : Bool) : Str := ofL (rowOf (turN ns) b) ++ Str.ofString "."
noncomputable def R1 (L D : Addr) (ws : List Value) (o' : Obj) (ns : List Int) (tz : Tok) (x : Str) (b : Bool) (m : Str → Option Value) (nx : List (Addr × Obj)) : Prop :=
  L6 L D ws o' ns tz x m nx ∧ (∃ tb, m (Str.ofString "back") = some (.int (backOf b) tb)) ∧ (∃ tp, m (Str.ofString "plain") = some (.str (plainT ns b) tp))
theorem rev_row (t : List Nat) (u : Tok) : Txt.sliceBy (ofL (rowL t)) none none (-1, u) = ofL (rowOf t true) := by
  rw [of_toList (Txt.sliceBy (ofL (rowL t)) none none (-1, u)), step_rev_list]
  have e : (ofL (rowL t)).length = 5 := by rw [ofL_len]; simp [rowL]
  rw [e]
  rfl
theorem law9a {w : World} {mean mg mb} {h₁ h₀ : Heap} {L a D P it DT : Addr} {o oD : Obj} {ps : Array Value} {cd : Value} {s : Shared} {ns : List Int} {tz tb : Tok} {ws : List Value} {o' : Obj} {x : Str} {b : Bool} {m : Str → Option Value} {nx : List (Addr × Obj)} (F : Fr h₀ L s.heap m) (N : News h₀ L s.heap ((it, o) :: (DT, oD) :: nx)) (J : L6 L D ws o' ns tz x m nx)
   (X : (hd.heap_1 w.params).In h₀) (T : Top VW LS mean mg mb h₀) (B : Based h₁ h₀ 64 P ps) (G : AllBare s.gens) (hb : m (Str.ofString "back") = some (.int (backOf b) tb)) :
   wpAny (model PG w) (lawA L a cd) (exec (forBody.getD 0 default) (lawEnv L a cd)) (fun f s' => Kept (f = .next ∧ LB w mean mg mb h₁ P L it DT o oD s (R1 L D ws o' ns tz x b) s')) (fun _ _ => False) s := by
  refine fillIt ?_
  k_fill
  intro _
  unfold forBody
  ((unfold lawA lawEnv lawBody lawScope lawDef PySem.Challenge.pw_pu0021_01; dsimp only [bodyOf, scopeOf, List.getLast!, List.getLast, List.drop, List.take, Option.getD, List.getD, List.getElem?_cons_zero, List.getElem?_cons_succ]))
  refine hideG ?_
  intro Cg hCg
  obtain ⟨hp, gs, dr, tk0, os0⟩ := s
  refine hCg ?_
  clear hCg Cg
  refine hideG ?_
  intro Cg hCg
  obtain ⟨U1, S1, L1, bl, tv, sv, oT, cu, ca, cl, tr, ta, rfl, dT, hbl, hgood, hinc, hDL, hsv, htv, e1, e2, e3, e4, e5⟩ := J
  refine hCg ?_
  clear hCg Cg
  dsimp only at F N G
  rw [mT1_of e5 e4 e2 e1 e3 hb] at F
  unfold mT1 at F
  have hrl : (ofL (rowL (turN ns))).length = 5 := by rw [ofL_len]; simp [rowL]
  (repeat' ((fail_if_success (with_reducible show PyProof.Rows.LCg.CompSrc _ _ _ _ _ _ _ _ _ _ _ _ _ _)); (fail_if_success (with_reducible show wpAny _ _ (eval (PySem.Expr.ListComp _ _ _ _) _) _ _ _)); (fail_if_success (with_reducible show wpAny _ _ (compareOp _ _ _) _ _ _)); (fail_if_success (with_reducible show wpAny _ _ (binaryOp _ (Value.ref _) _) _ _ _)); (fail_if_success (with_reducible show wpAny _ _ (call (Value.builtin "str.join") _) _ _ _)); (fail_if_success (with_reducible show wpAny _ _ (call (Value.ref _) _) _ _ _)); (fail_if_success (with_reducible show wpAny _ _ (pyIter _) _ _ _)); (fail_if_success (with_reducible show wpAny _ _ (PySem.exec (PySem.Stmt.For _ _ _ _ _) _) _ _ _)); (fail_if_success (with_reducible show Kept _)); (first | (k_unfold; (try dsimp only)) | (k_end; wrow_close) | (with_reducible ((with_reducible show wpAny _ _ (subscriptTail _ _ (Value.ref _) (Value.int _ _)) _ _ _); refine r_item' ‹News _ _ _ _› (by ((repeat (first | assumption | exact List.Mem.head _ | apply List.mem_cons_of_mem | apply List.mem_append_left)))) rfl (by assumption) (by omega) ?_ (by with_unfolding_all rfl); (try dsimp only))) | (with_reducible ((with_reducible show wpAny _ _ (subscriptTail _ (Expr.Slice none none (some _) _) _ _) _ _ _); (refine slice_strK_nn (hsz := ?hsz) (s := ⟨_, _, _, _, _⟩) ‹Fr _ _ _ _› ‹News _ _ _ _› (by decide) ?_); (case hsz => (first | assumption | (rw [sizeLine_eq]; omega))); intro _ _ _ _ _)) | walk1 | ((with_reducible show wpAny _ _ (subscriptTail _ _ (Value.ref _) (Value.int _ _)) _ _ _); refine r_item' ‹News _ _ _ _› (by ((repeat (first | assumption | exact List.Mem.head _ | apply List.mem_cons_of_mem | apply List.mem_append_left)))) rfl (by assumption) (by omega) ?_ (by with_unfolding_all rfl); (try dsimp only)) | (dsimp only; walk1) | (leave1; walk_say "STEP leave1"; try dsimp only))))
  rename Fr _ _ _ _ => F5
  rename News _ _ _ _ => N5
  rw [rev_row] at N5
  refine r_item' (k := (backOf b).toNat) (v := .str (ofL (rowOf (turN ns) b)) (if b then _ else _)) N5 (.head _) (by cases b <;> rfl) (by cases b <;> rfl) (by simp) ?_ (by with_unfolding_all rfl)
  have hro : (ofL (rowOf (turN ns) b)).length = 5 := by rw [ofL_len]; cases b <;> simp [rowOf, rowL]
  generalize hgx : ofL (rowOf (turN ns) b) = rx at hro ⊢
  (repeat' ((fail_if_success (with_reducible show PyProof.Rows.LCg.CompSrc _ _ _ _ _ _ _ _ _ _ _ _ _ _)); (fail_if_success (with_reducible show wpAny _ _ (eval (PySem.Expr.ListComp _ _ _ _) _) _ _ _)); (fail_if_success (with_reducible show wpAny _ _ (compareOp _ _ _) _ _ _)); (fail_if_success (with_reducible show wpAny _ _ (binaryOp _ (Value.ref _) _) _ _ _)); (fail_if_success (with_reducible show wpAny _ _ (call (Value.builtin "str.join") _) _ _ _)); (fail_if_success (with_reducible show wpAny _ _ (call (Value.ref _) _) _ _ _)); (fail_if_success (with_reducible show wpAny _ _ (pyIter _) _ _ _)); (fail_if_success (with_reducible show wpAny _ _ (PySem.exec (PySem.Stmt.For _ _ _ _ _) _) _ _ _)); (fail_if_success (with_reducible show Kept _)); (first | (k_unfold; (try dsimp only)) | (k_end; wrow_close) | (with_reducible ((with_reducible show wpAny _ _ (subscriptTail _ _ (Value.ref _) (Value.int _ _)) _ _ _); refine r_item' ‹News _ _ _ _› (by ((repeat (first | assumption | exact List.Mem.head _ | apply List.mem_cons_of_mem | apply List.mem_append_left)))) rfl (by assumption) (by omega) ?_ (by with_unfolding_all rfl); (try dsimp only))) | (with_reducible ((with_reducible show wpAny _ _ (subscriptTail _ (Expr.Slice none none (some _) _) _ _) _ _ _); (refine slice_strK_nn (hsz := ?hsz) (s := ⟨_, _, _, _, _⟩) ‹Fr _ _ _ _› ‹News _ _ _ _› (by decide) ?_); (case hsz => (first | assumption | (rw [sizeLine_eq]; omega))); intro _ _ _ _ _)) | walk1 | ((with_reducible show wpAny _ _ (subscriptTail _ _ (Value.ref _) (Value.int _ _)) _ _ _); refine r_item' ‹News _ _ _ _› (by ((repeat (first | assumption | exact List.Mem.head _ | apply List.mem_cons_of_mem | apply List.mem_append_left)))) rfl (by assumption) (by omega) ?_ (by with_unfolding_all rfl); (try dsimp only)) | (dsimp only; walk1) | (leave1; walk_say "STEP leave1"; try dsimp only))))
  subst hgx
  rename Fr _ _ _ _ => F6
  rename News _ _ _ _ => N6
  exact Kept.of ⟨trivial, rfl, G, _, _, _, _, B, X, T, F6, fun q hq => N6 q (.tail _ hq), ⟨U1, S1, L1, bl, tv, sv, oT, cu, ca, cl, tr, ta, rfl, dT, hbl, hgood, hinc, hDL, hsv, htv, rfl, rfl, rfl, rfl, rfl⟩, ⟨_, rfl⟩, ⟨_, rfl⟩⟩
end Mine
end
section
open PySem PySem.W PyProof.Rows PySem.Spec PySem.Calls
set_option maxRecDepth 100000
set_option maxHeartbeats 0
set_option pp.maxSteps 6000
namespace Mine
noncomputable def mT2 (S1 L1 : Nat) (n : Int) (tz : Tok) (y : Str) (tr : Tok) (x : Str) (ta : Tok) (bk : Int) (tb : Tok) (pl : Str) (tp : Tok) (u : Str → Option Value) : Str → Option Value := fun z => if z = Str.ofString "apart" then some (.str x ta) else if z = Str.ofString "row" then some (.str y tr) else if z = Str.ofString "signs" then some (.ref S1) else if z = Str.ofString "size" then some (.int n tz) else if z = Str.ofString "lists" then some (.ref L1) else if z = Str.ofString "back" then some (.int bk tb) else if z = Str.ofString "plain" then some (.str pl tp) else u z
theorem mT2_of {S1 L1 : Nat} {n : Int} {tz : Tok} {y : Str} {tr : Tok} {x : Str} {ta : Tok} {bk : Int} {tb : Tok} {pl : Str} {tp : Tok} {m : Str → Option Value} (h5 : m (Str.ofString "apart") = some (.str x ta)) (h4 : m (Str.ofString "row") = some (.str y tr)) (h2 : m (Str.ofString "signs") = some (.ref S1)) (h1 : m (Str.ofString "size") = some (.int n tz)) (h3 : m (Str.ofString "lists") = some (.ref L1)) (h6 : m (Str.ofString "back") = some (.int bk tb)) (h7 : m (Str.ofString "plain") = some (.str pl tp)) : m = mT2 S1 L1 n tz y tr x ta bk tb pl tp m := by
  funext z
  unfold mT2
  by_cases e0 : z = Str.ofString "apart"
  · rw [if_pos e0, e0, h5]
  rw [if_neg e0]
  by_cases e1 : z = Str.ofString "row"
  · rw [if_pos e1, e1, h4]
  rw [if_neg e1]
  by_cases e2 : z = Str.ofString "signs"
  · rw [if_pos e2, e2, h2]
  rw [if_neg e2]
  by_cases e3 : z = Str.ofString "size"
  · rw [if_pos e3, e3, h1]
  rw [if_neg e3]
  by_cases e4 : z = Str.ofString "lists"
  · rw [if_pos e4, e4, h3]
  rw [if_neg e4]
  by_cases e5 : z = Str.ofString "back"
  · rw [if_pos e5, e5, h6]
  rw [if_neg e5]
  by_cases e6 : z = Str.ofString "plain"
  · rw [if_pos e6, e6, h7]
  rw [if_neg e6]
noncomputable def mT3 (S1 L1 : Nat) (n : Int) (tz : Tok) (y : Str) (tr : Tok) (x : Str) (ta : Tok) (bk : Int) (tb : Tok) (pl : Str) (tp : Tok) (cv : Str) (tc : Tok) (u : Str → Option Value) : Str → Option Value := fun z => if z = Str.ofString "apart" then some (.str x ta) else if z = Str.ofString "row" then some (.str y tr) else if z = Str.ofString "signs" then some (.ref S1) else if z = Str.ofString "size" then some (.int n tz) else if z = Str.ofString "lists" then some (.ref L1) else if z = Str.ofString "back" then some (.int bk tb) else if z = Str.ofString "plain" then some (.str pl tp) else if z = Str.ofString "close" then some (.str cv tc) else u z
theorem mT3_of {S1 L1 : Nat} {n : Int} {tz : Tok} {y : Str} {tr : Tok} {x : Str} {ta : Tok} {bk : Int} {tb : Tok} {pl : Str} {tp : Tok} {cv : Str} {tc : Tok} {m : Str → Option Value} (h5 : m (Str.ofString "apart") = some (.str x ta)) (h4 : m (Str.ofString "row") = some (.str y tr)) (h2 : m (Str.ofString "signs") = some (.ref S1)) (h1 : m (Str.ofString "size") = some (.int n tz)) (h3 : m (Str.ofString "lists") = some (.ref L1)) (h6 : m (Str.ofString "back") = some (.int bk tb)) (h7 : m (Str.ofString "plain") = some (.str pl tp)) (h8 : m (Str.ofString "close") = some (.str cv tc)) : m = mT3 S1 L1 n tz y tr x ta bk tb pl tp cv tc m := by
  funext z
  unfold mT3
  by_cases e0 : z = Str.ofString "apart"
  · rw [if_pos e0, e0, h5]
  rw [if_neg e0]
  by_cases e1 : z = Str.ofString "row"
  · rw [if_pos e1, e1, h4]
  rw [if_neg e1]
  by_cases e2 : z = Str.ofString "signs"
  · rw [if_pos e2, e2, h2]
  rw [if_neg e2]
  by_cases e3 : z = Str.ofString "size"
  · rw [if_pos e3, e3, h1]
  rw [if_neg e3]
  by_cases e4 : z = Str.ofString "lists"
  · rw [if_pos e4, e4, h3]
  rw [if_neg e4]
  by_cases e5 : z = Str.ofString "back"
  · rw [if_pos e5, e5, h6]
  rw [if_neg e5]
  by_cases e6 : z = Str.ofString "plain"
  · rw [if_pos e6, e6, h7]
  rw [if_neg e6]
  by_cases e7 : z = Str.ofString "close"
  · rw [if_pos e7, e7, h8]
  rw [if_neg e7]
theorem plainT_len (ns : List Int) (b : Bool) : (plainT ns b).length = 6 := by
  have e : ∀ u v : Str, (u ++ v).cps.toList = u.cps.toList ++ v.cps.toList := fun u v => Array.toList_append
  have : (plainT ns b).cps.toList.length = 6 := by
    unfold plainT
    rw [e, ofL_cps]
    cases b <;> rfl
  simpa [Str.length] using this
theorem bit_of (q : Int) (h0 : 0 ≤ q) (h1 : q ≤ 1) : some q.toNat = some (if decide (q = 1) = true then 1 else 0) := by
  rcases (by omega : q = 0 ∨ q = 1) with rfl | rfl <;> rfl
theorem turN_mem (ns : List Int) : turN ns ∈ turns := by
  have e : turN ns = ((List.range 5).map fun j => decide ((tur ns).getD j 0 = 1)).map fun x => if x then 1 else 0 := by
    have r5 : List.range 5 = [0, 1, 2, 3, 4] := by decide
    refine List.ext_getElem? fun j => ?_
    by_cases hj : j < 5
    · obtain ⟨h0, h1, h2⟩ := tur_bound ns hj
      have l1 : (turN ns)[j]? = some ((turN ns).getD j 0) := by
        have hl : j < (turN ns).length := by simpa [turN, tur] using hj
        simp [List.getD_eq_getElem?_getD, hl]
      rw [l1, h2]
      simp only [List.map_map, List.getElem?_map, List.getElem?_range hj, Option.map_some, Function.comp]
      exact bit_of _ h0 h1
    · rw [List.getElem?_eq_none (by simpa [turN, tur] using hj), List.getElem?_eq_none (by simpa using hj)]
  rw [e]
  exact List.mem_map.mpr ⟨_, bools_all 5 _ (by simp), rfl⟩
noncomputable def closeT (ns : List Int) (b : Bool) : Str := ofL (45 :: (rowOf (turN ns) b ++ [46]))
noncomputable def R2 (L D : Addr) (ws : List Value) (o' : Obj) (ns : List Int) (tz : Tok) (x : Str) (b : Bool) (m : Str → Option Value) (nx : List (Addr × Obj)) : Prop :=
  R1 L D ws o' ns tz x b m nx ∧ (∃ tc, m (Str.ofString "close") = some (.str (closeT ns b) tc))
theorem law9b {w : World} {mean mg mb} {h₁ h₀ : Heap} {L a D P it DT : Addr} {o oD : Obj} {ps : Array Value} {cd : Value} {s : Shared} {ns : List Int} {tz : Tok} {ws : List Value} {o' : Obj} {x : Str} {b : Bool} {m : Str → Option Value} {nx : List (Addr × Obj)} (F : Fr h₀ L s.heap m) (N : News h₀ L s.heap ((it, o) :: (DT, oD) :: nx)) (J : R1 L D ws o' ns tz x b m nx)
   (X : (hd.heap_1 w.params).In h₀) (T : Top VW LS mean mg mb h₀) (B : Based h₁ h₀ 64 P ps) (G : AllBare s.gens) :
   wpAny (model PG w) (lawA L a cd) (exec (forBody.getD 1 default) (lawEnv L a cd)) (fun f s' => Kept (f = .next ∧ LB w mean mg mb h₁ P L it DT o oD s (R2 L D ws o' ns tz x b) s')) (fun _ _ => False) s := by
  refine fillIt ?_
  k_fill
  intro _
  unfold forBody
  ((unfold lawA lawEnv lawBody lawScope lawDef PySem.Challenge.pw_pu0021_01; dsimp only [bodyOf, scopeOf, List.getLast!, List.getLast, List.drop, List.take, Option.getD, List.getD, List.getElem?_cons_zero, List.getElem?_cons_succ]))
  refine hideG ?_
  intro Cg hCg
  obtain ⟨hp, gs, dr, tk0, os0⟩ := s
  refine hCg ?_
  clear hCg Cg
  refine hideG ?_
  intro Cg hCg
  obtain ⟨⟨U1, S1, L1, bl, tv, sv, oT, cu, ca, cl, tr, ta, rfl, dT, hbl, hgood, hinc, hDL, hsv, htv, e1, e2, e3, e4, e5⟩, ⟨tb, e6⟩, ⟨tp, e7⟩⟩ := J
  refine hCg ?_
  clear hCg Cg
  dsimp only at F N G
  rw [mT2_of e5 e4 e2 e1 e3 e6 e7] at F
  unfold mT2 at F
  have hro : (plainT ns b).length = 6 := plainT_len ns b
  generalize hgx : plainT ns b = rx at F hro
  (repeat' ((fail_if_success (with_reducible show PyProof.Rows.LCg.CompSrc _ _ _ _ _ _ _ _ _ _ _ _ _ _)); (fail_if_success (with_reducible show wpAny _ _ (eval (PySem.Expr.ListComp _ _ _ _) _) _ _ _)); (fail_if_success (with_reducible show wpAny _ _ (compareOp _ _ _) _ _ _)); (fail_if_success (with_reducible show wpAny _ _ (binaryOp _ (Value.ref _) _) _ _ _)); (fail_if_success (with_reducible show wpAny _ _ (call (Value.builtin "str.join") _) _ _ _)); (fail_if_success (with_reducible show wpAny _ _ (call (Value.ref _) _) _ _ _)); (fail_if_success (with_reducible show wpAny _ _ (pyIter _) _ _ _)); (fail_if_success (with_reducible show wpAny _ _ (PySem.exec (PySem.Stmt.For _ _ _ _ _) _) _ _ _)); (fail_if_success (with_reducible show Kept _)); (first | (k_unfold; (try dsimp only)) | (k_end; wrow_close) | (with_reducible ((with_reducible show wpAny _ _ (subscriptTail _ _ (Value.ref _) (Value.int _ _)) _ _ _); refine r_item' ‹News _ _ _ _› (by ((repeat (first | assumption | exact List.Mem.head _ | apply List.mem_cons_of_mem | apply List.mem_append_left)))) rfl (by assumption) (by omega) ?_ (by with_unfolding_all rfl); (try dsimp only))) | walk1 | ((with_reducible show wpAny _ _ (subscriptTail _ _ (Value.ref _) (Value.int _ _)) _ _ _); refine r_item' ‹News _ _ _ _› (by ((repeat (first | assumption | exact List.Mem.head _ | apply List.mem_cons_of_mem | apply List.mem_append_left)))) rfl (by assumption) (by omega) ?_ (by with_unfolding_all rfl); (try dsimp only)) | (dsimp only; walk1) | (leave1; walk_say "STEP leave1"; try dsimp only))))
  rename Fr _ _ _ _ => F9
  rename News _ _ _ _ => N9
  have hl2 : ∀ y ∈ [Str.ofString "\"" ++ rx, Str.ofString " )"], y.length ≤ 60 := by
    intro y hy
    have e : ∀ u v : Str, (u ++ v).length = u.length + v.length := fun u v => Array.size_append
    rcases List.mem_cons.mp hy with rfl | hy
    · rw [e, hro]; decide
    · rcases List.mem_cons.mp hy with rfl | hy
      · decide
      · cases hy
  refine usePl (ts := [Str.ofString "\"" ++ rx, Str.ofString " )"]) (.cons _ _ (.cons _ _ .nil)) (Nat.le_of_ble_eq_true rfl) hl2 rfl F9 X N9 T B (by exact G) (by decide) (by decide) ?_
  rintro y ty ⟨h10, g10, d10, tk10, os10⟩ more ex B10 F10 N10 G10 o10
  dsimp only at F10 N10 G10 o10
  have X10 : (hd.heap_1 w.params).In (regrown h₀ P (ps ++ more)) := kb_in_regrown B X T.g (kb_hd _)
  have T10 := top0_regrown (ps' := ps ++ more) B T
  subst hgx
  have ey : y = closeT ns b := by
    rw [of_toList y, ex]
    exact congrArg ofL (plat_close (turN_mem ns) b)
  subst ey
  clear F9 N9 X T ex
  (repeat' ((fail_if_success (with_reducible show PyProof.Rows.LCg.CompSrc _ _ _ _ _ _ _ _ _ _ _ _ _ _)); (fail_if_success (with_reducible show wpAny _ _ (eval (PySem.Expr.ListComp _ _ _ _) _) _ _ _)); (fail_if_success (with_reducible show wpAny _ _ (compareOp _ _ _) _ _ _)); (fail_if_success (with_reducible show wpAny _ _ (binaryOp _ (Value.ref _) _) _ _ _)); (fail_if_success (with_reducible show wpAny _ _ (call (Value.builtin "str.join") _) _ _ _)); (fail_if_success (with_reducible show wpAny _ _ (call (Value.ref _) _) _ _ _)); (fail_if_success (with_reducible show wpAny _ _ (pyIter _) _ _ _)); (fail_if_success (with_reducible show wpAny _ _ (PySem.exec (PySem.Stmt.For _ _ _ _ _) _) _ _ _)); (fail_if_success (with_reducible show Kept _)); (first | (k_unfold; (try dsimp only)) | (k_end; wrow_close) | (with_reducible ((with_reducible show wpAny _ _ (subscriptTail _ _ (Value.ref _) (Value.int _ _)) _ _ _); refine r_item' ‹News _ _ _ _› (by ((repeat (first | assumption | exact List.Mem.head _ | apply List.mem_cons_of_mem | apply List.mem_append_left)))) rfl (by assumption) (by omega) ?_ (by with_unfolding_all rfl); (try dsimp only))) | walk1 | ((with_reducible show wpAny _ _ (subscriptTail _ _ (Value.ref _) (Value.int _ _)) _ _ _); refine r_item' ‹News _ _ _ _› (by ((repeat (first | assumption | exact List.Mem.head _ | apply List.mem_cons_of_mem | apply List.mem_append_left)))) rfl (by assumption) (by omega) ?_ (by with_unfolding_all rfl); (try dsimp only)) | (dsimp only; walk1) | (leave1; walk_say "STEP leave1"; try dsimp only))))
  rename Fr _ _ _ _ => F12
  rename News _ _ _ _ => N12
  exact Kept.of ⟨trivial, o10, G10, _, _, _, _, B10, X10, T10, F12, N12, ⟨⟨U1, S1, L1, bl, tv, sv, oT, cu, ca, cl, tr, ta, rfl, dT, hbl, hgood, hinc, hDL, hsv, htv, rfl, rfl, rfl, rfl, rfl⟩, ⟨_, rfl⟩, ⟨_, rfl⟩⟩, ⟨_, rfl⟩⟩
theorem law9c {w : World} {mean mg mb} {h₁ h₀ : Heap} {L a D P it DT : Addr} {o oD : Obj} {ps : Array Value} {cd : Value} {s : Shared} {ns : List Int} {tz : Tok} {ws : List Value} {o' : Obj} {x : Str} {b : Bool} {m : Str → Option Value} {nx : List (Addr × Obj)} (F : Fr h₀ L s.heap m) (N : News h₀ L s.heap ((it, o) :: (DT, oD) :: nx)) (J : R2 L D ws o' ns tz x b m nx)
   (X : (hd.heap_1 w.params).In h₀) (T : Top VW LS mean mg mb h₀) (B : Based h₁ h₀ 64 P ps) (G : AllBare s.gens) :
   wpAny (model PG w) (lawA L a cd) (exec (forBody.getD 2 default) (lawEnv L a cd)) (fun f s' => Kept (f = .next ∧ LB w mean mg mb h₁ P L it DT o oD s (R2 L D ws o' ns tz x b) s')) (fun _ _ => False) s := by
  refine fillIt ?_
  k_fill
  intro _
  unfold forBody
  ((unfold lawA lawEnv lawBody lawScope lawDef PySem.Challenge.pw_pu0021_01; dsimp only [bodyOf, scopeOf, List.getLast!, List.getLast, List.drop, List.take, Option.getD, List.getD, List.getElem?_cons_zero, List.getElem?_cons_succ]))
  refine hideG ?_
  intro Cg hCg
  obtain ⟨hp, gs, dr, tk0, os0⟩ := s
  refine hCg ?_
  clear hCg Cg
  refine hideG ?_
  intro Cg hCg
  obtain ⟨⟨⟨U1, S1, L1, bl, tv, sv, oT, cu, ca, cl, tr, ta, rfl, dT, hbl, hgood, hinc, hDL, hsv, htv, e1, e2, e3, e4, e5⟩, ⟨tb, e6⟩, ⟨tp, e7⟩⟩, ⟨tc, e8⟩⟩ := J
  refine hCg ?_
  clear hCg Cg
  dsimp only at F N G
  rw [mT3_of e5 e4 e2 e1 e3 e6 e7 e8] at F
  unfold mT3 at F
  have hro : (plainT ns b).length = 6 := plainT_len ns b
  have hcp : closeT ns b = Str.ofString "-" ++ plainT ns b := by
    have e : ∀ u v : Str, (u ++ v).cps.toList = u.cps.toList ++ v.cps.toList := fun u v => Array.toList_append
    rw [of_toList (Str.ofString "-" ++ plainT ns b), e]
    unfold plainT
    rw [e, ofL_cps]
    rfl
  generalize hgx : plainT ns b = rx at F hro hcp
  generalize hgy : closeT ns b = ry at F hcp
  (repeat' ((fail_if_success (with_reducible show PyProof.Rows.LCg.CompSrc _ _ _ _ _ _ _ _ _ _ _ _ _ _)); (fail_if_success (with_reducible show wpAny _ _ (eval (PySem.Expr.ListComp _ _ _ _) _) _ _ _)); (fail_if_success (with_reducible show wpAny _ _ (compareOp _ _ _) _ _ _)); (fail_if_success (with_reducible show wpAny _ _ (binaryOp _ (Value.ref _) _) _ _ _)); (fail_if_success (with_reducible show wpAny _ _ (call (Value.builtin "str.join") _) _ _ _)); (fail_if_success (with_reducible show wpAny _ _ (call (Value.ref _) _) _ _ _)); (fail_if_success (with_reducible show wpAny _ _ (pyIter _) _ _ _)); (fail_if_success (with_reducible show wpAny _ _ (PySem.exec (PySem.Stmt.For _ _ _ _ _) _) _ _ _)); (fail_if_success (with_reducible show Kept _)); (first | (k_unfold; (try dsimp only)) | (k_end; wrow_close) | (with_reducible ((with_reducible show wpAny _ _ (subscriptTail _ _ (Value.ref _) (Value.int _ _)) _ _ _); refine r_item' ‹News _ _ _ _› (by ((repeat (first | assumption | exact List.Mem.head _ | apply List.mem_cons_of_mem | apply List.mem_append_left)))) rfl (by assumption) (by omega) ?_ (by with_unfolding_all rfl); (try dsimp only))) | walk1 | ((with_reducible show wpAny _ _ (subscriptTail _ _ (Value.ref _) (Value.int _ _)) _ _ _); refine r_item' ‹News _ _ _ _› (by ((repeat (first | assumption | exact List.Mem.head _ | apply List.mem_cons_of_mem | apply List.mem_append_left)))) rfl (by assumption) (by omega) ?_ (by with_unfolding_all rfl); (try dsimp only)) | (dsimp only; walk1) | (leave1; walk_say "STEP leave1"; try dsimp only))))
  refine ne_str ?_
  rw [show (ry != Str.ofString "-" ++ rx) = false by rw [hcp]; simp]
  (repeat' ((fail_if_success (with_reducible show PyProof.Rows.LCg.CompSrc _ _ _ _ _ _ _ _ _ _ _ _ _ _)); (fail_if_success (with_reducible show wpAny _ _ (eval (PySem.Expr.ListComp _ _ _ _) _) _ _ _)); (fail_if_success (with_reducible show wpAny _ _ (compareOp _ _ _) _ _ _)); (fail_if_success (with_reducible show wpAny _ _ (binaryOp _ (Value.ref _) _) _ _ _)); (fail_if_success (with_reducible show wpAny _ _ (call (Value.builtin "str.join") _) _ _ _)); (fail_if_success (with_reducible show wpAny _ _ (call (Value.ref _) _) _ _ _)); (fail_if_success (with_reducible show wpAny _ _ (pyIter _) _ _ _)); (fail_if_success (with_reducible show wpAny _ _ (PySem.exec (PySem.Stmt.For _ _ _ _ _) _) _ _ _)); (fail_if_success (with_reducible show Kept _)); (first | (k_unfold; (try dsimp only)) | (k_end; wrow_close) | (with_reducible ((with_reducible show wpAny _ _ (subscriptTail _ _ (Value.ref _) (Value.int _ _)) _ _ _); refine r_item' ‹News _ _ _ _› (by ((repeat (first | assumption | exact List.Mem.head _ | apply List.mem_cons_of_mem | apply List.mem_append_left)))) rfl (by assumption) (by omega) ?_ (by with_unfolding_all rfl); (try dsimp only))) | walk1 | ((with_reducible show wpAny _ _ (subscriptTail _ _ (Value.ref _) (Value.int _ _)) _ _ _); refine r_item' ‹News _ _ _ _› (by ((repeat (first | assumption | exact List.Mem.head _ | apply List.mem_cons_of_mem | apply List.mem_append_left)))) rfl (by assumption) (by omega) ?_ (by with_unfolding_all rfl); (try dsimp only)) | (dsimp only; walk1) | (leave1; walk_say "STEP leave1"; try dsimp only))))
  rename Fr _ _ _ _ => F12
  rename News _ _ _ _ => N12
  subst hgx
  subst hgy
  exact Kept.of ⟨rfl, rfl, G, _, _, _, _, B, X, T, F12, N12, ⟨⟨U1, S1, L1, bl, tv, sv, oT, cu, ca, cl, tr, ta, rfl, dT, hbl, hgood, hinc, hDL, hsv, htv, rfl, rfl, rfl, rfl, rfl⟩, ⟨_, rfl⟩, ⟨_, rfl⟩⟩, ⟨_, rfl⟩⟩
end Mine
end
section
open PySem PySem.W PyProof.Rows PySem.Spec PySem.Calls
set_option maxRecDepth 100000
set_option maxHeartbeats 0
set_option pp.maxSteps 6000
namespace Mine
noncomputable def farV (ns : List Int) (b : Bool) : Int := 68 - (heavyL (bOf (P5 ns)) (turN ns) b : Int)
noncomputable def W5 (ns : List Int) : List Int := (tur ns).map fun t => 2 - t
theorem tur_len (ns : List Int) : (tur ns).length = 5 := by simp [tur]
theorem far_eq (ns : List Int) (b : Bool) : 2 * (((36 : Nat) : Int) - 2) - heavy (P5 ns) (W5 ns) (backOf b) = farV ns b := by
  have h : heavy (P5 ns) (W5 ns) (if b then 1 else 0) = ((heavyL (bOf (P5 ns)) (turN ns) b : Nat) : Int) := by
    refine heavy_eq b fun i hi => ?_
    obtain ⟨h0, h1, h2⟩ := tur_bound ns hi
    rw [h2]
    have e : (W5 ns).getD i 0 = 2 - (tur ns).getD i 0 := by
      have hl : i < (tur ns).length := by rw [tur_len]; exact hi
      simp [W5, List.getD_eq_getElem?_getD, hl]
    rw [e]
    omega
  have e : heavy (P5 ns) (W5 ns) (backOf b) = heavy (P5 ns) (W5 ns) (if b then 1 else 0) := rfl
  rw [e, h]
  unfold farV
  omega
noncomputable def R3 (L D : Addr) (ws : List Value) (o' : Obj) (ns : List Int) (tz : Tok) (x : Str) (b : Bool) (m : Str → Option Value) (nx : List (Addr × Obj)) : Prop :=
  R2 L D ws o' ns tz x b m nx ∧ (∃ tf, m (Str.ofString "far") = some (.int (farV ns b) tf))
theorem law9d {w : World} {mean mg mb} {h₁ h₀ : Heap} {L a D P it DT : Addr} {o oD : Obj} {ps : Array Value} {cd : Value} {s : Shared} {ns : List Int} {tz : Tok} {ws : List Value} {o' : Obj} {x : Str} {b : Bool} {m : Str → Option Value} {nx : List (Addr × Obj)} (F : Fr h₀ L s.heap m) (N : News h₀ L s.heap ((it, o) :: (DT, oD) :: nx)) (J : R2 L D ws o' ns tz x b m nx)
   (X : (hd.heap_1 w.params).In h₀) (T : Top VW LS mean mg mb h₀) (B : Based h₁ h₀ 64 P ps) (G : AllBare s.gens) (hx : x.length = 36) :
   wpAny (model PG w) (lawA L a cd) (exec (forBody.getD 3 default) (lawEnv L a cd)) (fun f s' => Kept (f = .next ∧ LB w mean mg mb h₁ P L it DT o oD s (R3 L D ws o' ns tz x b) s')) (fun _ _ => False) s := by
  refine fillIt ?_
  k_fill
  intro _
  unfold forBody
  ((unfold lawA lawEnv lawBody lawScope lawDef PySem.Challenge.pw_pu0021_01; dsimp only [bodyOf, scopeOf, List.getLast!, List.getLast, List.drop, List.take, Option.getD, List.getD, List.getElem?_cons_zero, List.getElem?_cons_succ]))
  refine hideG ?_
  intro Cg hCg
  obtain ⟨hp, gs, dr, tk0, os0⟩ := s
  refine hCg ?_
  clear hCg Cg
  refine hideG ?_
  intro Cg hCg
  obtain ⟨⟨⟨U1, S1, L1, bl, tv, sv, oT, cu, ca, cl, tr, ta, rfl, dT, hbl, hgood, hinc, hDL, hsv, htv, e1, e2, e3, e4, e5⟩, ⟨tb, e6⟩, ⟨tp, e7⟩⟩, ⟨tc, e8⟩⟩ := J
  refine hCg ?_
  clear hCg Cg
  dsimp only at F N G
  rw [mT3_of e5 e4 e2 e1 e3 e6 e7 e8] at F
  unfold mT3 at F
  (repeat' ((fail_if_success (with_reducible show PyProof.Rows.LCg.CompSrc _ _ _ _ _ _ _ _ _ _ _ _ _ _)); (fail_if_success (with_reducible show wpAny _ _ (eval (PySem.Expr.ListComp _ _ _ _) _) _ _ _)); (fail_if_success (with_reducible show wpAny _ _ (compareOp _ _ _) _ _ _)); (fail_if_success (with_reducible show wpAny _ _ (binaryOp _ (Value.ref _) _) _ _ _)); (fail_if_success (with_reducible show wpAny _ _ (call (Value.builtin "str.join") _) _ _ _)); (fail_if_success (with_reducible show wpAny _ _ (call (Value.ref _) _) _ _ _)); (fail_if_success (with_reducible show wpAny _ _ (pyIter _) _ _ _)); (fail_if_success (with_reducible show wpAny _ _ (PySem.exec (PySem.Stmt.For _ _ _ _ _) _) _ _ _)); (fail_if_success (with_reducible show Kept _)); (first | (k_unfold; (try dsimp only)) | (k_end; wrow_close) | (with_reducible ((with_reducible show wpAny _ _ (subscriptTail _ _ (Value.ref _) (Value.int _ _)) _ _ _); refine r_item' ‹News _ _ _ _› (by ((repeat (first | assumption | exact List.Mem.head _ | apply List.mem_cons_of_mem | apply List.mem_append_left)))) rfl (by assumption) (by omega) ?_ (by with_unfolding_all rfl); (try dsimp only))) | walk1 | ((with_reducible show wpAny _ _ (subscriptTail _ _ (Value.ref _) (Value.int _ _)) _ _ _); refine r_item' ‹News _ _ _ _› (by ((repeat (first | assumption | exact List.Mem.head _ | apply List.mem_cons_of_mem | apply List.mem_append_left)))) rfl (by assumption) (by omega) ?_ (by with_unfolding_all rfl); (try dsimp only)) | (dsimp only; walk1) | (leave1; walk_say "STEP leave1"; try dsimp only))))
  rename Fr _ _ _ _ => F4
  rename News _ _ _ _ => N4
  have htl : tv.length = 5 := by rw [htv.length]; exact tur_len ns
  refine PyProof.Rows.LCg.ListComp_U F4 (by rfl) (by decide) (by rfl) (by decide) (by rfl) ?_
  (repeat' ((fail_if_success (with_reducible show PyProof.Rows.LCg.CompSrc _ _ _ _ _ _ _ _ _ _ _ _ _ _)); (fail_if_success (with_reducible show wpAny _ _ (eval (PySem.Expr.ListComp _ _ _ _) _) _ _ _)); (fail_if_success (with_reducible show wpAny _ _ (compareOp _ _ _) _ _ _)); (fail_if_success (with_reducible show wpAny _ _ (binaryOp _ (Value.ref _) _) _ _ _)); (fail_if_success (with_reducible show wpAny _ _ (call (Value.builtin "str.join") _) _ _ _)); (fail_if_success (with_reducible show wpAny _ _ (call (Value.ref _) _) _ _ _)); (fail_if_success (with_reducible show wpAny _ _ (pyIter _) _ _ _)); (fail_if_success (with_reducible show wpAny _ _ (PySem.exec (PySem.Stmt.For _ _ _ _ _) _) _ _ _)); (fail_if_success (with_reducible show Kept _)); (first | (k_unfold; (try dsimp only)) | (k_end; wrow_close) | (with_reducible ((with_reducible show wpAny _ _ (subscriptTail _ _ (Value.ref _) (Value.int _ _)) _ _ _); refine r_item' ‹News _ _ _ _› (by ((repeat (first | assumption | exact List.Mem.head _ | apply List.mem_cons_of_mem | apply List.mem_append_left)))) rfl (by assumption) (by omega) ?_ (by with_unfolding_all rfl); (try dsimp only))) | walk1 | ((with_reducible show wpAny _ _ (subscriptTail _ _ (Value.ref _) (Value.int _ _)) _ _ _); refine r_item' ‹News _ _ _ _› (by ((repeat (first | assumption | exact List.Mem.head _ | apply List.mem_cons_of_mem | apply List.mem_append_left)))) rfl (by assumption) (by omega) ?_ (by with_unfolding_all rfl); (try dsimp only)) | (dsimp only; walk1) | (leave1; walk_say "STEP leave1"; try dsimp only))))
  refine PyProof.Rows.LCg.CompSrc.ledger (its := tv.toArray) (k := cu) rfl F4 N4 (by ((repeat (first | assumption | exact List.Mem.head _ | apply List.mem_cons_of_mem | apply List.mem_append_left)))) (by simp [htl, sizeLine_eq]) (fun g4 => ?_)
  refine compU_inv (n := tv.toArray.size) (.inr ⟨_, by ((repeat (first | assumption | exact List.Mem.head _ | apply List.mem_cons_of_mem | apply List.mem_append_left))), rfl, _, rfl⟩) (fun j ys => IntsAre ys (((tur ns).take j).map fun t => 2 - t)) ?step ?fin _ 0 [] (by simp) .nil
  case fin =>
    rintro ys hys
    have hys : IntsAre ys (W5 ns) := by
      have e : tv.toArray.size = (tur ns).length := by rw [tur_len]; simpa using htl
      rw [e, List.take_length] at hys
      exact hys
    unfold PyProof.Rows.LCg.FinE
    intro D9 h9 tk9 F9 N9 off9
    clear F4 N4
    (repeat' ((fail_if_success (with_reducible show PyProof.Rows.LCg.CompSrc _ _ _ _ _ _ _ _ _ _ _ _ _ _)); (fail_if_success (with_reducible show wpAny _ _ (eval (PySem.Expr.ListComp _ _ _ _) _) _ _ _)); (fail_if_success (with_reducible show wpAny _ _ (compareOp _ _ _) _ _ _)); (fail_if_success (with_reducible show wpAny _ _ (binaryOp _ (Value.ref _) _) _ _ _)); (fail_if_success (with_reducible show wpAny _ _ (call (Value.builtin "str.join") _) _ _ _)); (fail_if_success (with_reducible show wpAny _ _ (call (Value.ref _) _) _ _ _)); (fail_if_success (with_reducible show wpAny _ _ (pyIter _) _ _ _)); (fail_if_success (with_reducible show wpAny _ _ (PySem.exec (PySem.Stmt.For _ _ _ _ _) _) _ _ _)); (fail_if_success (with_reducible show Kept _)); (first | (k_unfold; (try dsimp only)) | (k_end; wrow_close) | (with_reducible ((with_reducible show wpAny _ _ (subscriptTail _ _ (Value.ref _) (Value.int _ _)) _ _ _); refine r_item' ‹News _ _ _ _› (by ((repeat (first | assumption | exact List.Mem.head _ | apply List.mem_cons_of_mem | apply List.mem_append_left)))) rfl (by assumption) (by omega) ?_ (by with_unfolding_all rfl); (try dsimp only))) | walk1 | ((with_reducible show wpAny _ _ (subscriptTail _ _ (Value.ref _) (Value.int _ _)) _ _ _); refine r_item' ‹News _ _ _ _› (by ((repeat (first | assumption | exact List.Mem.head _ | apply List.mem_cons_of_mem | apply List.mem_append_left)))) rfl (by assumption) (by omega) ?_ (by with_unfolding_all rfl); (try dsimp only)) | (dsimp only; walk1) | (leave1; walk_say "STEP leave1"; try dsimp only))))
    rename Fr _ _ _ _ => F10
    rename News _ _ _ _ => N10
    have hP : ∀ i v, (bl.map fun b => Value.ref b.P)[i]? = some v → ∃ (a : Addr) (vs : List Value) (c : Nat), v = .ref a ∧ (a, W.listOf vs.toArray c) ∈ blkObjs 0 bl ∧ ItsAre vs ((P5 ns).getD i []) := by
      intro i v hv
      rw [List.getElem?_map] at hv
      obtain ⟨k, hk, rfl⟩ := Option.map_eq_some_iff.mp hv
      have hi : i < 5 := by rw [← hbl]; exact (List.getElem?_eq_some_iff.mp hk).1
      have hm := blk_mem bl 0 i k hk
      exact ⟨k.P, k.pv, k.cp, rfl, hm _ (.head _), by rw [P5_getD hi]; exact (hgood i k hk).1⟩
    refine useL (c_heavy L1 D9 (bl.map fun b => Value.ref b.P) ys cl ys.length (P5 ns) (W5 ns) (backOf b) tb _ (.tail _ (.tail _ (.tail _ (.tail _ (.tail _ (.head _)))))) (.head _) (by simp [hbl]) hys (by simp [W5, tur_len]) (fun i v hv => by
      refine hideG ?_
      intro Cg hCg
      obtain ⟨q1, q2, q3, rfl, q5, q6⟩ := hP i v hv
      refine hCg ?_
      clear hCg Cg
      exact ⟨q1, q2, q3, rfl, .tail _ (.tail _ (.tail _ (.tail _ (.tail _ (.tail _ (.tail _ (.tail _ (.tail _ q5)))))))), q6⟩) (by cases b; exact .inl rfl; exact .inr rfl) (P5_comp ns)) rfl F10 X N10 T (by decide) (by decide) ?_
    rintro r tl h11 tk11 F11 N11 ⟨rfl, th, rfl⟩
    clear F10 N10 hP hys
    simp only [List.nil_append] at N11
    dsimp only at F11 N11 ⊢
    (repeat' ((fail_if_success (with_reducible show PyProof.Rows.LCg.CompSrc _ _ _ _ _ _ _ _ _ _ _ _ _ _)); (fail_if_success (with_reducible show wpAny _ _ (eval (PySem.Expr.ListComp _ _ _ _) _) _ _ _)); (fail_if_success (with_reducible show wpAny _ _ (compareOp _ _ _) _ _ _)); (fail_if_success (with_reducible show wpAny _ _ (binaryOp _ (Value.ref _) _) _ _ _)); (fail_if_success (with_reducible show wpAny _ _ (call (Value.builtin "str.join") _) _ _ _)); (fail_if_success (with_reducible show wpAny _ _ (call (Value.ref _) _) _ _ _)); (fail_if_success (with_reducible show wpAny _ _ (pyIter _) _ _ _)); (fail_if_success (with_reducible show wpAny _ _ (PySem.exec (PySem.Stmt.For _ _ _ _ _) _) _ _ _)); (fail_if_success (with_reducible show Kept _)); (first | (k_unfold; (try dsimp only)) | (k_end; wrow_close) | (with_reducible ((with_reducible show wpAny _ _ (subscriptTail _ _ (Value.ref _) (Value.int _ _)) _ _ _); refine r_item' ‹News _ _ _ _› (by ((repeat (first | assumption | exact List.Mem.head _ | apply List.mem_cons_of_mem | apply List.mem_append_left)))) rfl (by assumption) (by omega) ?_ (by with_unfolding_all rfl); (try dsimp only))) | walk1 | ((with_reducible show wpAny _ _ (subscriptTail _ _ (Value.ref _) (Value.int _ _)) _ _ _); refine r_item' ‹News _ _ _ _› (by ((repeat (first | assumption | exact List.Mem.head _ | apply List.mem_cons_of_mem | apply List.mem_append_left)))) rfl (by assumption) (by omega) ?_ (by with_unfolding_all rfl); (try dsimp only)) | (dsimp only; walk1) | (leave1; walk_say "STEP leave1"; try dsimp only))))
    rename Fr _ _ _ _ => F12
    rename News _ _ _ _ => N12
    have hfe := far_eq ns b
    rw [← hx] at hfe
    rw [hfe] at F12
    exact Kept.of ⟨trivial, rfl, G, _, _, _, _, B, X, T, F12, fun q hq => N12 q (.tail _ hq), ⟨⟨⟨U1, S1, L1, bl, tv, sv, oT, cu, ca, cl, tr, ta, rfl, dT, hbl, hgood, hinc, hDL, hsv, htv, rfl, rfl, rfl, rfl, rfl⟩, ⟨_, rfl⟩, ⟨_, rfl⟩⟩, ⟨_, rfl⟩⟩, ⟨_, rfl⟩⟩
  case step =>
    rintro j ys v I oI C oCC D' m₂ h8 tk8 hj hJ8 hP8 hC8 hm8 F8 N8
    have hj : j < 5 := by simpa [htl] using hj
    obtain ⟨tt, ht⟩ := htv.get j ((tur ns).getD j 0) (by have hl : j < (tur ns).length := by rw [tur_len]; exact hj
                                                         simp [List.getD_eq_getElem?_getD, hl])
    have ev : v = .int ((tur ns).getD j 0) tt := by
      have hP8 : tv.toArray[j]? = some v := hP8
      rw [List.getElem?_toArray, ht] at hP8
      exact (Option.some.inj hP8).symm
    subst ev
    clear F4 N4
    (repeat' ((fail_if_success (with_reducible show PyProof.Rows.LCg.CompSrc _ _ _ _ _ _ _ _ _ _ _ _ _ _)); (fail_if_success (with_reducible show wpAny _ _ (eval (PySem.Expr.ListComp _ _ _ _) _) _ _ _)); (fail_if_success (with_reducible show wpAny _ _ (compareOp _ _ _) _ _ _)); (fail_if_success (with_reducible show wpAny _ _ (binaryOp _ (Value.ref _) _) _ _ _)); (fail_if_success (with_reducible show wpAny _ _ (call (Value.builtin "str.join") _) _ _ _)); (fail_if_success (with_reducible show wpAny _ _ (call (Value.ref _) _) _ _ _)); (fail_if_success (with_reducible show wpAny _ _ (pyIter _) _ _ _)); (fail_if_success (with_reducible show wpAny _ _ (PySem.exec (PySem.Stmt.For _ _ _ _ _) _) _ _ _)); (fail_if_success (with_reducible show Kept _)); (first | (k_unfold; (try dsimp only)) | (k_end; wrow_close) | (with_reducible ((with_reducible show wpAny _ _ (subscriptTail _ _ (Value.ref _) (Value.int _ _)) _ _ _); refine r_item' ‹News _ _ _ _› (by ((repeat (first | assumption | exact List.Mem.head _ | apply List.mem_cons_of_mem | apply List.mem_append_left)))) rfl (by assumption) (by omega) ?_ (by with_unfolding_all rfl); (try dsimp only))) | walk1 | ((with_reducible show wpAny _ _ (subscriptTail _ _ (Value.ref _) (Value.int _ _)) _ _ _); refine r_item' ‹News _ _ _ _› (by ((repeat (first | assumption | exact List.Mem.head _ | apply List.mem_cons_of_mem | apply List.mem_append_left)))) rfl (by assumption) (by omega) ?_ (by with_unfolding_all rfl); (try dsimp only)) | (dsimp only; walk1) | (leave1; walk_say "STEP leave1"; try dsimp only))))
    rename Fr _ _ _ _ => F9
    rename News _ _ _ _ => N9
    refine Took.intro F9 N9 (fun p hp => hp) ?_
    have hc : (tur ns)[j]? = some ((tur ns).getD j 0) := by
      have hl : j < (tur ns).length := by rw [tur_len]; exact hj
      simp [List.getD_eq_getElem?_getD, hl]
    rw [List.take_succ, hc]
    simp only [Option.toList_some, List.map_append, List.map_cons, List.map_nil]
    exact ints_app hJ8 (.cons _ _ .nil)
end Mine
end
section
open PySem PySem.W PyProof.Rows PySem.Spec PySem.Calls
set_option maxRecDepth 100000
set_option maxHeartbeats 0
set_option pp.maxSteps 4000
namespace Mine
theorem c_sub {w : World} {mean mg mb} (x y : Str) (t1 t2 : Tok) (hx : x.length ≤ 1000) (hy : y.length ≤ 1000) (news : List (Addr × Obj)) :
   Ctr w mean mg mb 38 1 8 news [.str x t1, .str y t2] (fun r tl => tl = [] ∧ ∃ t, r = .int (subCost x y) t) := by
  refine fillIt ?_
  k_fill
  intro _
  dsimp only [Ctr]
  intro dp un gd cn cs a ccd cl outer A₀ base h₀ L m s Q E S hdp hun hret
  obtain ⟨B0, F0, X0, N0, T0, hk0⟩ := id S
  refine' callDef [(Str.ofString "ch_a", .str x t1), (Str.ofString "ch_b", .str y t2)] [(Str.ofString "ch_b", .str y t2), (Str.ofString "ch_a", .str x t1)] S ?ho ?hcd ?hr ?hb ?hl ?c2 ?c3 ?c4 ?c5 ?hrb ?_
  (((case ho => k_is); (case hcd => k_is); (case hr => omega); (case hb => exact BindsTo.of_eq rfl); (case hl => exact locs rfl); (case c2 => exact rfl); (case c3 => exact rfl); (case c4 => exact rfl); (case c5 => decide); (case hrb => rfl); k_whole))
  intro g L' h₁ F' N' B' X' T'
  k_fold
  k_steps
  all_goals (refine hret _ [] _ _ (by k_asm) (by k_asm) ⟨rfl, ?_⟩)
  all_goals (simp only [subCost])
  all_goals (simp_all)
end Mine
end
section
open PySem PySem.W PyProof.Rows PySem.Spec PySem.Calls
set_option maxRecDepth 100000
set_option maxHeartbeats 0
set_option pp.maxSteps 4000
namespace Mine
noncomputable def psPre (p : Nat) (t : Tok) (X Y : List Nat) (t1 t2 t3 : Tok) (mc : Int) : List (Str × Value) := [(Str.ofString "pre", .int p t), (Str.ofString "max_cost", .int mc t3), (Str.ofString "b", .str (ofL Y) t2), (Str.ofString "a", .str (ofL X) t1)]
noncomputable def psPost (q : Nat) (t' : Tok) (p : Nat) (t : Tok) (X Y : List Nat) (t1 t2 t3 : Tok) (mc : Int) : List (Str × Value) := [(Str.ofString "pre", .int p t), (Str.ofString "max_cost", .int mc t3), (Str.ofString "b", .str (ofL Y) t2), (Str.ofString "a", .str (ofL X) t1), (Str.ofString "post", .int (-(q : Int)) t')]
theorem c_lev {w : World} {mean mg mb} (X Y : List Nat) (t1 t2 t3 : Tok) (mc : Int) (hx : X.length ≤ 1000) (hy : Y.length ≤ 1000) (news : List (Addr × Obj)) :
   Ctr w mean mg mb 45 2 20 news [.str (ofL X) t1, .str (ofL Y) t2, .int mc t3] (fun r tl => tl = [] ∧ ∃ t, r = .int (lev X Y mc) t) := by
  refine fillIt ?_
  k_fill
  intro _
  intro dp un gd cn cs a ccd cl outer A₀ base h₀ L m s Q E S hdp hun hret
  refine hideG ?_
  intro Cg hCg
  obtain ⟨B0, F0, X0, N0, T0, hk0⟩ := id S
  refine hCg ?_
  clear hCg Cg
  refine' callDef [(Str.ofString "a", .str (ofL X) t1), (Str.ofString "b", .str (ofL Y) t2), (Str.ofString "max_cost", .int mc t3)] [(Str.ofString "max_cost", .int mc t3), (Str.ofString "b", .str (ofL Y) t2), (Str.ofString "a", .str (ofL X) t1)] S ?ho ?hcd ?hr ?hb ?hl ?c2 ?c3 ?c4 ?c5 ?hrb ?_
  (((case ho => k_is); (case hcd => k_is); (case hr => omega); (case hb => exact BindsTo.of_eq rfl); (case hl => exact locs rfl); (case c2 => exact rfl); (case c3 => exact rfl); (case c4 => exact rfl); (case c5 => decide); (case hrb => rfl); k_whole))
  intro g L' h₁ F' N' B' X' T'
  k_fold
  (repeat' ((fail_if_success (with_reducible show wpAny _ _ (PySem.exec (PySem.Stmt.While _ _ _ _) _) _ _ _)); (fail_if_success (with_reducible show wpAny _ _ (PySem.exec (PySem.Stmt.For _ _ _ _ _) _) _ _ _)); (fail_if_success (with_reducible show wpAny _ _ (PySem.pyIter _) _ _ _)); (fail_if_success (with_reducible show Kept _)); (fail_if_success (with_reducible show InvEndN _ _ _ _ _ _ _)); (first | ((((rename (∀ v (s' : Shared), _ → _) => hQ); (with_reducible refine hQ _ _ ?_); clear hQ; (try (rename (_ → Shared → Prop) => qQ; clear qQ))))) | (k_unfold; (try dsimp only)) | (k_end; wrow_close) | (with_reducible ((with_reducible show wpAny _ _ (setItem (Value.ref _) (Value.int _ _) (Value.int _ _)) _ _ _); (refine ksa_set ‹Fr _ _ _ _› ‹News _ _ _ _› (Upd.head (by assumption)) (by with_reducible assumption) (by omega) (by omega) (by omega) ?_); (intro _ _ _ _ _ _); (try dsimp only))) | (with_reducible ((with_reducible show wpAny _ _ (call (Value.ref 38) [Value.str _ _, Value.str _ _]) _ _ _); (refine useCtrI (c_sub _ _ _ _ ?_ ?_ _) ‹Below _ _ _ _› ‹Fr _ _ _ _› (by assumption) ‹News _ _ _ _› (by assumption) rfl (by omega) (by omega) ?_); (case' refine_1 => (simp only [ofL_len, List.length_cons, List.length_nil]; omega)); (case' refine_2 => (simp only [ofL_len, List.length_cons, List.length_nil]; omega)); (intro _ _ _ _ _); (try dsimp only))) | (with_reducible ((with_reducible show wpAny _ _ (call (Value.type _) [Value.ref _]) _ _ _); refine r_listRange2 rfl ‹Fr _ _ _ _› ‹News _ _ _ _› ‹IsRange _ _ _ _ _ _ _ _› (by omega) ?_; intro _ _ _ _ _ _ _ _ _; (try dsimp only))) | (with_reducible ((with_reducible show wpAny _ _ (subscriptTail _ _ (Value.str (ofL _) _) (Value.int _ _)) _ _ _); first | (refine r_item (by first | assumption | omega) (by first | assumption | omega) ?_ (by with_unfolding_all rfl) (by intro _; with_unfolding_all rfl); (try dsimp only)) | (refine r_item_back0 (by first | assumption | omega) (by first | assumption | omega) ?_ (by with_unfolding_all rfl) (by intro _; with_unfolding_all rfl); (try dsimp only)) | (refine r_item_back (by first | assumption | omega) (by first | assumption | omega) ?_ (by with_unfolding_all rfl) (by intro _; with_unfolding_all rfl); (try dsimp only)))) | (with_reducible ((with_reducible show wpAny _ _ (subscriptTail _ _ (Value.str (ofL _) _) (Value.int _ _)) _ _ _); first | (refine r_item (by first | assumption | omega) (by first | assumption | omega) ?_ (by with_unfolding_all rfl) (by intro _; with_unfolding_all rfl); (try dsimp only)) | (refine r_item_back0 (by first | assumption | omega) (by first | assumption | omega) ?_ (by with_unfolding_all rfl) (by intro _; with_unfolding_all rfl); (try dsimp only)) | (refine r_item_back (by first | assumption | omega) (by first | assumption | omega) ?_ (by with_unfolding_all rfl) (by intro _; with_unfolding_all rfl); (try dsimp only)))) | (with_reducible ((with_reducible show wpAny _ _ (subscriptTail _ _ (Value.str (ofL _) _) _) _ _ _); first | (refine r_slice_from (s := ⟨_, _, _, _, _⟩) ‹Fr _ _ _ _› ‹News _ _ _ _› (by first | assumption | omega) (by first | assumption | omega) ?_ (by with_unfolding_all rfl) (by intro _; with_unfolding_all rfl); intro _ _ _ _ _ _; (try dsimp only)) | (refine r_slice_upto (s := ⟨_, _, _, _, _⟩) ‹Fr _ _ _ _› ‹News _ _ _ _› (by first | assumption | omega) (by first | assumption | omega) (by first | assumption | omega) ?_ (by with_unfolding_all rfl) (by intro _; with_unfolding_all rfl); intro _ _ _ _ _ _; (try dsimp only)) | (refine r_slice_none (s := ⟨_, _, _, _, _⟩) ‹Fr _ _ _ _› ‹News _ _ _ _› (by first | assumption | omega) ?_ (by with_unfolding_all rfl) (by intro _; with_unfolding_all rfl); intro _ _ _ _ _; (try dsimp only)))) | ((with_reducible show wpAny _ _ (call (Value.ref 38) [Value.str _ _, Value.str _ _]) _ _ _); (refine useCtrI (c_sub _ _ _ _ ?_ ?_ _) ‹Below _ _ _ _› ‹Fr _ _ _ _› (by assumption) ‹News _ _ _ _› (by assumption) rfl (by omega) (by omega) ?_); (case' refine_1 => (simp only [ofL_len, List.length_cons, List.length_nil]; omega)); (case' refine_2 => (simp only [ofL_len, List.length_cons, List.length_nil]; omega)); (intro _ _ _ _ _); (try dsimp only)) | walk1 | (dsimp only; walk1) | (leave1; walk_say "STEP leave1"; try dsimp only))))
  · rename ((ofL X == ofL Y) = true) => he
    have he : X = Y := ofL_inj (eq_of_beq he)
    exact ret_int hret (by k_asm) (by k_asm) (by simp [lev, he])
  rename ((ofL X == ofL Y) = false) => hne
  have hXY : X ≠ Y := fun e => by rw [e] at hne; simp at hne
  clear hne
  rename Fr _ _ _ _ => F1
  rename News _ _ _ _ => N1
  refine wpAny_mono (Q := fun f s' => Kept (f = Flow.next ∧ ∃ p : Nat, ∃ t, St g L' s news (psPre p t X Y t1 t2 t3 mc) s' ∧ p ≤ X.length ∧ p ≤ Y.length ∧ stripPre X Y = (X.drop p, Y.drop p))) ?_ ?_ (fun _ _ e => e)
  · --BEGIN1
    refine While_inv2 (n₀ := X.length) (fun n m₁ nx => nx = news ∧ ∃ p : Nat, ∃ t, m₁ = mp (psPre p t X Y t1 t2 t3 mc) ∧ n = X.length - p ∧ p ≤ X.length ∧ p ≤ Y.length ∧ Kept (stripPre (X.drop p) (Y.drop p) = stripPre X Y)) F1 N1 ⟨rfl, 0, _, rfl, rfl, by first | lia | omega, by first | lia | omega, rfl⟩ ?_
    clear N1 F1
    intro n m₁ nx h₂ tk₂ F₂ N₂ hRg
    refine hideG ?_
    intro Cg hCg
    obtain ⟨hnx, p, t, rfl, rfl, hp1, hp2, hs⟩ := hRg
    refine hCg ?_
    clear hCg Cg
    rw [hnx] at N₂
    clear hnx nx
    unfold psPre at F₂
    (((refine hideQ ?_); (intro _ _)))
    (repeat' ((fail_if_success (with_reducible show wpAny _ _ (PySem.exec (PySem.Stmt.While _ _ _ _) _) _ _ _)); (fail_if_success (with_reducible show wpAny _ _ (PySem.exec (PySem.Stmt.For _ _ _ _ _) _) _ _ _)); (fail_if_success (with_reducible show wpAny _ _ (PySem.pyIter _) _ _ _)); (fail_if_success (with_reducible show Kept _)); (fail_if_success (with_reducible show InvEndN _ _ _ _ _ _ _)); (first | ((((rename (∀ v (s' : Shared), _ → _) => hQ); (with_reducible refine hQ _ _ ?_); clear hQ; (try (rename (_ → Shared → Prop) => qQ; clear qQ))))) | (k_unfold; (try dsimp only)) | (k_end; wrow_close) | (with_reducible ((with_reducible show wpAny _ _ (setItem (Value.ref _) (Value.int _ _) (Value.int _ _)) _ _ _); (refine ksa_set ‹Fr _ _ _ _› ‹News _ _ _ _› (Upd.head (by assumption)) (by with_reducible assumption) (by omega) (by omega) (by omega) ?_); (intro _ _ _ _ _ _); (try dsimp only))) | (with_reducible ((with_reducible show wpAny _ _ (call (Value.ref 38) [Value.str _ _, Value.str _ _]) _ _ _); (refine useCtrI (c_sub _ _ _ _ ?_ ?_ _) ‹Below _ _ _ _› ‹Fr _ _ _ _› (by assumption) ‹News _ _ _ _› (by assumption) rfl (by omega) (by omega) ?_); (case' refine_1 => (simp only [ofL_len, List.length_cons, List.length_nil]; omega)); (case' refine_2 => (simp only [ofL_len, List.length_cons, List.length_nil]; omega)); (intro _ _ _ _ _); (try dsimp only))) | (with_reducible ((with_reducible show wpAny _ _ (call (Value.type _) [Value.ref _]) _ _ _); refine r_listRange2 rfl ‹Fr _ _ _ _› ‹News _ _ _ _› ‹IsRange _ _ _ _ _ _ _ _› (by omega) ?_; intro _ _ _ _ _ _ _ _ _; (try dsimp only))) | (with_reducible ((with_reducible show wpAny _ _ (subscriptTail _ _ (Value.str (ofL _) _) (Value.int _ _)) _ _ _); first | (refine r_item (by first | assumption | omega) (by first | assumption | omega) ?_ (by with_unfolding_all rfl) (by intro _; with_unfolding_all rfl); (try dsimp only)) | (refine r_item_back0 (by first | assumption | omega) (by first | assumption | omega) ?_ (by with_unfolding_all rfl) (by intro _; with_unfolding_all rfl); (try dsimp only)) | (refine r_item_back (by first | assumption | omega) (by first | assumption | omega) ?_ (by with_unfolding_all rfl) (by intro _; with_unfolding_all rfl); (try dsimp only)))) | (with_reducible ((with_reducible show wpAny _ _ (subscriptTail _ _ (Value.str (ofL _) _) (Value.int _ _)) _ _ _); first | (refine r_item (by first | assumption | omega) (by first | assumption | omega) ?_ (by with_unfolding_all rfl) (by intro _; with_unfolding_all rfl); (try dsimp only)) | (refine r_item_back0 (by first | assumption | omega) (by first | assumption | omega) ?_ (by with_unfolding_all rfl) (by intro _; with_unfolding_all rfl); (try dsimp only)) | (refine r_item_back (by first | assumption | omega) (by first | assumption | omega) ?_ (by with_unfolding_all rfl) (by intro _; with_unfolding_all rfl); (try dsimp only)))) | (with_reducible ((with_reducible show wpAny _ _ (subscriptTail _ _ (Value.str (ofL _) _) _) _ _ _); first | (refine r_slice_from (s := ⟨_, _, _, _, _⟩) ‹Fr _ _ _ _› ‹News _ _ _ _› (by first | assumption | omega) (by first | assumption | omega) ?_ (by with_unfolding_all rfl) (by intro _; with_unfolding_all rfl); intro _ _ _ _ _ _; (try dsimp only)) | (refine r_slice_upto (s := ⟨_, _, _, _, _⟩) ‹Fr _ _ _ _› ‹News _ _ _ _› (by first | assumption | omega) (by first | assumption | omega) (by first | assumption | omega) ?_ (by with_unfolding_all rfl) (by intro _; with_unfolding_all rfl); intro _ _ _ _ _ _; (try dsimp only)) | (refine r_slice_none (s := ⟨_, _, _, _, _⟩) ‹Fr _ _ _ _› ‹News _ _ _ _› (by first | assumption | omega) ?_ (by with_unfolding_all rfl) (by intro _; with_unfolding_all rfl); intro _ _ _ _ _; (try dsimp only)))) | ((with_reducible show wpAny _ _ (call (Value.ref 38) [Value.str _ _, Value.str _ _]) _ _ _); (refine useCtrI (c_sub _ _ _ _ ?_ ?_ _) ‹Below _ _ _ _› ‹Fr _ _ _ _› (by assumption) ‹News _ _ _ _› (by assumption) rfl (by omega) (by omega) ?_); (case' refine_1 => (simp only [ofL_len, List.length_cons, List.length_nil]; omega)); (case' refine_2 => (simp only [ofL_len, List.length_cons, List.length_nil]; omega)); (intro _ _ _ _ _); (try dsimp only)) | walk1 | (dsimp only; walk1) | (leave1; walk_say "STEP leave1"; try dsimp only))))
    · have h1 : p < X.length := by first | lia | omega
      have h2 : p < Y.length := by first | lia | omega
      rename ((ofL [_] == ofL [_]) = true) => he
      have he : X.getD p 0 = Y.getD p 0 := by simpa using ofL_inj (eq_of_beq he)
      refine ⟨_, _, _, _, X.length - (p + 1), rfl, by assumption, by assumption, by first | lia | omega, rfl, p + 1, ?tok0, ?mapeq0, rfl, h1, h2, ?str0⟩
      case mapeq0 =>
        funext z
        rw [mp_setp]
        rfl
      case str0 => refine Kept.of ?_; rw [← stripPre_go h1 h2 he]; exact hs
    · have h1 : p < X.length := by first | lia | omega
      have h2 : p < Y.length := by first | lia | omega
      rename ((ofL [_] == ofL [_]) = false) => he
      refine ⟨by simp, p, t, St.intro (by assumption) (by assumption), hp1, hp2, ?_⟩
      rw [← hs.out]
      refine stripPre_stop (.inr (.inr ?_))
      intro e
      simp only [List.getD_eq_getElem?_getD, List.getElem?_drop, Nat.add_zero] at e he
      rw [e] at he
      simp at he
    · refine ⟨by simp, p, t, St.intro (by assumption) (by assumption), hp1, hp2, ?_⟩
      rw [← hs.out]
      exact stripPre_stop (.inr (.inl (List.drop_eq_nil_of_le (by first | lia | omega))))
    · refine ⟨by simp, p, t, St.intro (by assumption) (by assumption), hp1, hp2, ?_⟩
      rw [← hs.out]
      exact stripPre_stop (.inl (List.drop_eq_nil_of_le (by first | lia | omega)))
  · intro f s' hRg
    refine hideG ?_
    intro Cg hCg
    obtain ⟨rfl, p, t, ⟨h2, tk2, rfl, F2, N2⟩, hp1, hp2, hs⟩ := hRg
    refine hCg ?_
    clear hCg Cg
    clear F1 N1
    unfold psPre at F2
    dsimp only
    (repeat' ((fail_if_success (with_reducible show wpAny _ _ (PySem.exec (PySem.Stmt.While _ _ _ _) _) _ _ _)); (fail_if_success (with_reducible show wpAny _ _ (PySem.exec (PySem.Stmt.For _ _ _ _ _) _) _ _ _)); (fail_if_success (with_reducible show wpAny _ _ (PySem.pyIter _) _ _ _)); (fail_if_success (with_reducible show Kept _)); (fail_if_success (with_reducible show InvEndN _ _ _ _ _ _ _)); (first | ((((rename (∀ v (s' : Shared), _ → _) => hQ); (with_reducible refine hQ _ _ ?_); clear hQ; (try (rename (_ → Shared → Prop) => qQ; clear qQ))))) | (k_unfold; (try dsimp only)) | (k_end; wrow_close) | (with_reducible ((with_reducible show wpAny _ _ (setItem (Value.ref _) (Value.int _ _) (Value.int _ _)) _ _ _); (refine ksa_set ‹Fr _ _ _ _› ‹News _ _ _ _› (Upd.head (by assumption)) (by with_reducible assumption) (by omega) (by omega) (by omega) ?_); (intro _ _ _ _ _ _); (try dsimp only))) | (with_reducible ((with_reducible show wpAny _ _ (call (Value.ref 38) [Value.str _ _, Value.str _ _]) _ _ _); (refine useCtrI (c_sub _ _ _ _ ?_ ?_ _) ‹Below _ _ _ _› ‹Fr _ _ _ _› (by assumption) ‹News _ _ _ _› (by assumption) rfl (by omega) (by omega) ?_); (case' refine_1 => (simp only [ofL_len, List.length_cons, List.length_nil]; omega)); (case' refine_2 => (simp only [ofL_len, List.length_cons, List.length_nil]; omega)); (intro _ _ _ _ _); (try dsimp only))) | (with_reducible ((with_reducible show wpAny _ _ (call (Value.type _) [Value.ref _]) _ _ _); refine r_listRange2 rfl ‹Fr _ _ _ _› ‹News _ _ _ _› ‹IsRange _ _ _ _ _ _ _ _› (by omega) ?_; intro _ _ _ _ _ _ _ _ _; (try dsimp only))) | (with_reducible ((with_reducible show wpAny _ _ (subscriptTail _ _ (Value.str (ofL _) _) (Value.int _ _)) _ _ _); first | (refine r_item (by first | assumption | omega) (by first | assumption | omega) ?_ (by with_unfolding_all rfl) (by intro _; with_unfolding_all rfl); (try dsimp only)) | (refine r_item_back0 (by first | assumption | omega) (by first | assumption | omega) ?_ (by with_unfolding_all rfl) (by intro _; with_unfolding_all rfl); (try dsimp only)) | (refine r_item_back (by first | assumption | omega) (by first | assumption | omega) ?_ (by with_unfolding_all rfl) (by intro _; with_unfolding_all rfl); (try dsimp only)))) | (with_reducible ((with_reducible show wpAny _ _ (subscriptTail _ _ (Value.str (ofL _) _) (Value.int _ _)) _ _ _); first | (refine r_item (by first | assumption | omega) (by first | assumption | omega) ?_ (by with_unfolding_all rfl) (by intro _; with_unfolding_all rfl); (try dsimp only)) | (refine r_item_back0 (by first | assumption | omega) (by first | assumption | omega) ?_ (by with_unfolding_all rfl) (by intro _; with_unfolding_all rfl); (try dsimp only)) | (refine r_item_back (by first | assumption | omega) (by first | assumption | omega) ?_ (by with_unfolding_all rfl) (by intro _; with_unfolding_all rfl); (try dsimp only)))) | (with_reducible ((with_reducible show wpAny _ _ (subscriptTail _ _ (Value.str (ofL _) _) _) _ _ _); first | (refine r_slice_from (s := ⟨_, _, _, _, _⟩) ‹Fr _ _ _ _› ‹News _ _ _ _› (by first | assumption | omega) (by first | assumption | omega) ?_ (by with_unfolding_all rfl) (by intro _; with_unfolding_all rfl); intro _ _ _ _ _ _; (try dsimp only)) | (refine r_slice_upto (s := ⟨_, _, _, _, _⟩) ‹Fr _ _ _ _› ‹News _ _ _ _› (by first | assumption | omega) (by first | assumption | omega) (by first | assumption | omega) ?_ (by with_unfolding_all rfl) (by intro _; with_unfolding_all rfl); intro _ _ _ _ _ _; (try dsimp only)) | (refine r_slice_none (s := ⟨_, _, _, _, _⟩) ‹Fr _ _ _ _› ‹News _ _ _ _› (by first | assumption | omega) ?_ (by with_unfolding_all rfl) (by intro _; with_unfolding_all rfl); intro _ _ _ _ _; (try dsimp only)))) | ((with_reducible show wpAny _ _ (call (Value.ref 38) [Value.str _ _, Value.str _ _]) _ _ _); (refine useCtrI (c_sub _ _ _ _ ?_ ?_ _) ‹Below _ _ _ _› ‹Fr _ _ _ _› (by assumption) ‹News _ _ _ _› (by assumption) rfl (by omega) (by omega) ?_); (case' refine_1 => (simp only [ofL_len, List.length_cons, List.length_nil]; omega)); (case' refine_2 => (simp only [ofL_len, List.length_cons, List.length_nil]; omega)); (intro _ _ _ _ _); (try dsimp only)) | walk1 | (dsimp only; walk1) | (leave1; walk_say "STEP leave1"; try dsimp only))))
    rename Fr _ _ _ _ => F3
    rename News _ _ _ _ => N3
    simp only [mp_setp] at F3
    have hA : (X.drop p).length ≤ 1000 := by rw [List.length_drop]; omega
    have hB : (Y.drop p).length ≤ 1000 := by rw [List.length_drop]; omega
    generalize X.drop p = A at *
    generalize Y.drop p = B at *
    have hs := Kept.of hs
    have F4 : Fr g L' _ (mp (psPost 0 _ p t A B _ _ t3 mc)) := F3
    clear F3
    have hA' : (ofL A).length = A.length := ofL_len A
    have hB' : (ofL B).length = B.length := ofL_len B
    refine wpAny_mono (Q := fun f s' => Kept (f = Flow.next ∧ ∃ q : Nat, ∃ t' ta tb, St g L' s news (psPost q t' p t A B ta tb t3 mc) s' ∧ q ≤ A.length ∧ q ≤ B.length ∧ stripPre A.reverse B.reverse = (A.reverse.drop q, B.reverse.drop q))) ?_ ?_ (fun _ _ e => e)
    · --BEGIN2
      refine While_inv2 (n₀ := A.length) (fun n m₁ nx => nx = news ∧ ∃ q : Nat, ∃ t' ta tb, m₁ = mp (psPost q t' p t A B ta tb t3 mc) ∧ n = A.length - q ∧ q ≤ A.length ∧ q ≤ B.length ∧ Kept (stripPre (A.reverse.drop q) (B.reverse.drop q) = stripPre A.reverse B.reverse)) F4 N3 ⟨rfl, 0, _, _, _, rfl, rfl, by first | lia | omega, by first | lia | omega, rfl⟩ ?_
      clear N3 F4
      intro n m₁ nx h₂ tk₂ F₂ N₂ hRg
      refine hideG ?_
      intro Cg hCg
      obtain ⟨hnx, q, t', ta, tb, rfl, rfl, hp1, hp2, hs⟩ := hRg
      refine hCg ?_
      clear hCg Cg
      rw [hnx] at N₂
      clear hnx nx
      unfold psPost at F₂
      rcases Nat.eq_zero_or_pos q with h0 | h0
      · subst h0
        simp only [Int.natCast_zero, Int.neg_zero] at F₂
        (((refine hideQ ?_); (intro _ _)))
        (repeat' ((fail_if_success (with_reducible show wpAny _ _ (PySem.exec (PySem.Stmt.While _ _ _ _) _) _ _ _)); (fail_if_success (with_reducible show wpAny _ _ (PySem.exec (PySem.Stmt.For _ _ _ _ _) _) _ _ _)); (fail_if_success (with_reducible show wpAny _ _ (PySem.pyIter _) _ _ _)); (fail_if_success (with_reducible show Kept _)); (fail_if_success (with_reducible show InvEndN _ _ _ _ _ _ _)); (first | ((((rename (∀ v (s' : Shared), _ → _) => hQ); (with_reducible refine hQ _ _ ?_); clear hQ; (try (rename (_ → Shared → Prop) => qQ; clear qQ))))) | (k_unfold; (try dsimp only)) | (k_end; wrow_close) | (with_reducible ((with_reducible show wpAny _ _ (setItem (Value.ref _) (Value.int _ _) (Value.int _ _)) _ _ _); (refine ksa_set ‹Fr _ _ _ _› ‹News _ _ _ _› (Upd.head (by assumption)) (by with_reducible assumption) (by omega) (by omega) (by omega) ?_); (intro _ _ _ _ _ _); (try dsimp only))) | (with_reducible ((with_reducible show wpAny _ _ (call (Value.ref 38) [Value.str _ _, Value.str _ _]) _ _ _); (refine useCtrI (c_sub _ _ _ _ ?_ ?_ _) ‹Below _ _ _ _› ‹Fr _ _ _ _› (by assumption) ‹News _ _ _ _› (by assumption) rfl (by omega) (by omega) ?_); (case' refine_1 => (simp only [ofL_len, List.length_cons, List.length_nil]; omega)); (case' refine_2 => (simp only [ofL_len, List.length_cons, List.length_nil]; omega)); (intro _ _ _ _ _); (try dsimp only))) | (with_reducible ((with_reducible show wpAny _ _ (call (Value.type _) [Value.ref _]) _ _ _); refine r_listRange2 rfl ‹Fr _ _ _ _› ‹News _ _ _ _› ‹IsRange _ _ _ _ _ _ _ _› (by omega) ?_; intro _ _ _ _ _ _ _ _ _; (try dsimp only))) | (with_reducible ((with_reducible show wpAny _ _ (subscriptTail _ _ (Value.str (ofL _) _) (Value.int _ _)) _ _ _); first | (refine r_item (by first | assumption | omega) (by first | assumption | omega) ?_ (by with_unfolding_all rfl) (by intro _; with_unfolding_all rfl); (try dsimp only)) | (refine r_item_back0 (by first | assumption | omega) (by first | assumption | omega) ?_ (by with_unfolding_all rfl) (by intro _; with_unfolding_all rfl); (try dsimp only)) | (refine r_item_back (by first | assumption | omega) (by first | assumption | omega) ?_ (by with_unfolding_all rfl) (by intro _; with_unfolding_all rfl); (try dsimp only)))) | (with_reducible ((with_reducible show wpAny _ _ (subscriptTail _ _ (Value.str (ofL _) _) (Value.int _ _)) _ _ _); first | (refine r_item (by first | assumption | omega) (by first | assumption | omega) ?_ (by with_unfolding_all rfl) (by intro _; with_unfolding_all rfl); (try dsimp only)) | (refine r_item_back0 (by first | assumption | omega) (by first | assumption | omega) ?_ (by with_unfolding_all rfl) (by intro _; with_unfolding_all rfl); (try dsimp only)) | (refine r_item_back (by first | assumption | omega) (by first | assumption | omega) ?_ (by with_unfolding_all rfl) (by intro _; with_unfolding_all rfl); (try dsimp only)))) | (with_reducible ((with_reducible show wpAny _ _ (subscriptTail _ _ (Value.str (ofL _) _) _) _ _ _); first | (refine r_slice_from (s := ⟨_, _, _, _, _⟩) ‹Fr _ _ _ _› ‹News _ _ _ _› (by first | assumption | omega) (by first | assumption | omega) ?_ (by with_unfolding_all rfl) (by intro _; with_unfolding_all rfl); intro _ _ _ _ _ _; (try dsimp only)) | (refine r_slice_upto (s := ⟨_, _, _, _, _⟩) ‹Fr _ _ _ _› ‹News _ _ _ _› (by first | assumption | omega) (by first | assumption | omega) (by first | assumption | omega) ?_ (by with_unfolding_all rfl) (by intro _; with_unfolding_all rfl); intro _ _ _ _ _ _; (try dsimp only)) | (refine r_slice_none (s := ⟨_, _, _, _, _⟩) ‹Fr _ _ _ _› ‹News _ _ _ _› (by first | assumption | omega) ?_ (by with_unfolding_all rfl) (by intro _; with_unfolding_all rfl); intro _ _ _ _ _; (try dsimp only)))) | ((with_reducible show wpAny _ _ (call (Value.ref 38) [Value.str _ _, Value.str _ _]) _ _ _); (refine useCtrI (c_sub _ _ _ _ ?_ ?_ _) ‹Below _ _ _ _› ‹Fr _ _ _ _› (by assumption) ‹News _ _ _ _› (by assumption) rfl (by omega) (by omega) ?_); (case' refine_1 => (simp only [ofL_len, List.length_cons, List.length_nil]; omega)); (case' refine_2 => (simp only [ofL_len, List.length_cons, List.length_nil]; omega)); (intro _ _ _ _ _); (try dsimp only)) | walk1 | (dsimp only; walk1) | (leave1; walk_say "STEP leave1"; try dsimp only))))
        · rename ((ofL [_] == ofL [_]) = true) => he
          have he : A.reverse.getD 0 0 = B.reverse.getD 0 0 := by simpa using ofL_inj (eq_of_beq he)
          refine ⟨_, _, _, _, A.length - (0 + 1), rfl, by assumption, by assumption, by first | lia | omega, rfl, 0 + 1, ?tok1, ta, tb, ?mapeq1, rfl, by first | lia | omega, by first | lia | omega, ?str1⟩
          case mapeq1 =>
            funext z
            rw [mp_setp]
            rfl
          case str1 => refine Kept.of ?_; rw [← stripPre_go (by rw [List.length_reverse]; omega) (by rw [List.length_reverse]; omega) he]; exact hs
        · rename ((ofL [_] == ofL [_]) = false) => he
          refine ⟨by simp, 0, t', ta, tb, St.intro (by assumption) (by assumption), hp1, hp2, ?_⟩
          rw [← hs.out]
          refine stripPre_stop (.inr (.inr ?_))
          intro e
          rw [List.drop_zero, List.drop_zero] at e
          rw [e] at he
          simp at he
        · refine ⟨by simp, 0, t', ta, tb, St.intro (by assumption) (by assumption), hp1, hp2, ?_⟩
          rw [← hs.out]
          exact stripPre_stop (.inr (.inl (List.drop_eq_nil_of_le (by rw [List.length_reverse]; omega))))
        · refine ⟨by simp, 0, t', ta, tb, St.intro (by assumption) (by assumption), hp1, hp2, ?_⟩
          rw [← hs.out]
          exact stripPre_stop (.inl (List.drop_eq_nil_of_le (by rw [List.length_reverse]; omega)))
      · have hne : -(q : Int) ≠ 0 := by first | lia | omega
        (((refine hideQ ?_); (intro _ _)))
        (repeat' ((fail_if_success (with_reducible show wpAny _ _ (PySem.exec (PySem.Stmt.While _ _ _ _) _) _ _ _)); (fail_if_success (with_reducible show wpAny _ _ (PySem.exec (PySem.Stmt.For _ _ _ _ _) _) _ _ _)); (fail_if_success (with_reducible show wpAny _ _ (PySem.pyIter _) _ _ _)); (fail_if_success (with_reducible show Kept _)); (fail_if_success (with_reducible show InvEndN _ _ _ _ _ _ _)); (first | ((((rename (∀ v (s' : Shared), _ → _) => hQ); (with_reducible refine hQ _ _ ?_); clear hQ; (try (rename (_ → Shared → Prop) => qQ; clear qQ))))) | (k_unfold; (try dsimp only)) | (k_end; wrow_close) | (with_reducible ((with_reducible show wpAny _ _ (setItem (Value.ref _) (Value.int _ _) (Value.int _ _)) _ _ _); (refine ksa_set ‹Fr _ _ _ _› ‹News _ _ _ _› (Upd.head (by assumption)) (by with_reducible assumption) (by omega) (by omega) (by omega) ?_); (intro _ _ _ _ _ _); (try dsimp only))) | (with_reducible ((with_reducible show wpAny _ _ (call (Value.ref 38) [Value.str _ _, Value.str _ _]) _ _ _); (refine useCtrI (c_sub _ _ _ _ ?_ ?_ _) ‹Below _ _ _ _› ‹Fr _ _ _ _› (by assumption) ‹News _ _ _ _› (by assumption) rfl (by omega) (by omega) ?_); (case' refine_1 => (simp only [ofL_len, List.length_cons, List.length_nil]; omega)); (case' refine_2 => (simp only [ofL_len, List.length_cons, List.length_nil]; omega)); (intro _ _ _ _ _); (try dsimp only))) | (with_reducible ((with_reducible show wpAny _ _ (call (Value.type _) [Value.ref _]) _ _ _); refine r_listRange2 rfl ‹Fr _ _ _ _› ‹News _ _ _ _› ‹IsRange _ _ _ _ _ _ _ _› (by omega) ?_; intro _ _ _ _ _ _ _ _ _; (try dsimp only))) | (with_reducible ((with_reducible show wpAny _ _ (subscriptTail _ _ (Value.str (ofL _) _) (Value.int _ _)) _ _ _); first | (refine r_item (by first | assumption | omega) (by first | assumption | omega) ?_ (by with_unfolding_all rfl) (by intro _; with_unfolding_all rfl); (try dsimp only)) | (refine r_item_back0 (by first | assumption | omega) (by first | assumption | omega) ?_ (by with_unfolding_all rfl) (by intro _; with_unfolding_all rfl); (try dsimp only)) | (refine r_item_back (by first | assumption | omega) (by first | assumption | omega) ?_ (by with_unfolding_all rfl) (by intro _; with_unfolding_all rfl); (try dsimp only)))) | (with_reducible ((with_reducible show wpAny _ _ (subscriptTail _ _ (Value.str (ofL _) _) (Value.int _ _)) _ _ _); first | (refine r_item (by first | assumption | omega) (by first | assumption | omega) ?_ (by with_unfolding_all rfl) (by intro _; with_unfolding_all rfl); (try dsimp only)) | (refine r_item_back0 (by first | assumption | omega) (by first | assumption | omega) ?_ (by with_unfolding_all rfl) (by intro _; with_unfolding_all rfl); (try dsimp only)) | (refine r_item_back (by first | assumption | omega) (by first | assumption | omega) ?_ (by with_unfolding_all rfl) (by intro _; with_unfolding_all rfl); (try dsimp only)))) | (with_reducible ((with_reducible show wpAny _ _ (subscriptTail _ _ (Value.str (ofL _) _) _) _ _ _); first | (refine r_slice_from (s := ⟨_, _, _, _, _⟩) ‹Fr _ _ _ _› ‹News _ _ _ _› (by first | assumption | omega) (by first | assumption | omega) ?_ (by with_unfolding_all rfl) (by intro _; with_unfolding_all rfl); intro _ _ _ _ _ _; (try dsimp only)) | (refine r_slice_upto (s := ⟨_, _, _, _, _⟩) ‹Fr _ _ _ _› ‹News _ _ _ _› (by first | assumption | omega) (by first | assumption | omega) (by first | assumption | omega) ?_ (by with_unfolding_all rfl) (by intro _; with_unfolding_all rfl); intro _ _ _ _ _ _; (try dsimp only)) | (refine r_slice_none (s := ⟨_, _, _, _, _⟩) ‹Fr _ _ _ _› ‹News _ _ _ _› (by first | assumption | omega) ?_ (by with_unfolding_all rfl) (by intro _; with_unfolding_all rfl); intro _ _ _ _ _; (try dsimp only)))) | ((with_reducible show wpAny _ _ (call (Value.ref 38) [Value.str _ _, Value.str _ _]) _ _ _); (refine useCtrI (c_sub _ _ _ _ ?_ ?_ _) ‹Below _ _ _ _› ‹Fr _ _ _ _› (by assumption) ‹News _ _ _ _› (by assumption) rfl (by omega) (by omega) ?_); (case' refine_1 => (simp only [ofL_len, List.length_cons, List.length_nil]; omega)); (case' refine_2 => (simp only [ofL_len, List.length_cons, List.length_nil]; omega)); (intro _ _ _ _ _); (try dsimp only)) | walk1 | (dsimp only; walk1) | (leave1; walk_say "STEP leave1"; try dsimp only))))
        any_goals (exfalso; omega)
        · rename ((ofL [_] == ofL [_]) = true) => he
          have he : A.reverse.getD q 0 = B.reverse.getD q 0 := by simpa using ofL_inj (eq_of_beq he)
          refine ⟨_, _, _, _, A.length - (q + 1), rfl, by assumption, by assumption, by first | lia | omega, rfl, q + 1, ?tok2, ta, tb, ?mapeq2, rfl, by first | lia | omega, by first | lia | omega, ?str2⟩
          case mapeq2 =>
            funext z
            rw [mp_setp, show (-(q : Int) - 1) = -((q + 1 : Nat) : Int) by first | lia | omega]
            rfl
          case str2 => refine Kept.of ?_; rw [← stripPre_go (by rw [List.length_reverse]; omega) (by rw [List.length_reverse]; omega) he]; exact hs
        · rename ((ofL [_] == ofL [_]) = false) => he
          refine ⟨by simp, q, t', ta, tb, St.intro (by assumption) (by assumption), hp1, hp2, ?_⟩
          rw [← hs.out]
          refine stripPre_stop (.inr (.inr ?_))
          intro e
          simp only [List.getD_eq_getElem?_getD, List.getElem?_drop, Nat.add_zero] at e he
          rw [e] at he
          simp at he
        · refine ⟨by simp, q, t', ta, tb, St.intro (by assumption) (by assumption), hp1, hp2, ?_⟩
          rw [← hs.out]
          exact stripPre_stop (.inr (.inl (List.drop_eq_nil_of_le (by rw [List.length_reverse]; omega))))
        · refine ⟨by simp, q, t', ta, tb, St.intro (by assumption) (by assumption), hp1, hp2, ?_⟩
          rw [← hs.out]
          exact stripPre_stop (.inl (List.drop_eq_nil_of_le (by rw [List.length_reverse]; omega)))
    · intro f s' hRg
      refine hideG ?_
      intro Cg hCg
      obtain ⟨rfl, q, t', ta, tb, ⟨h2, tk2, rfl, F2, N2⟩, hq1, hq2, hs2⟩ := hRg
      refine hCg ?_
      clear hCg Cg
      clear F4 N3
      unfold psPost at F2
      dsimp only
      refine wpAny_execs_cons ?_
      refine wpAny_mono (Q := fun f s' => Kept (f = Flow.next ∧ ∃ ta, St g L' s news [(Str.ofString "pre", .int p t), (Str.ofString "max_cost", .int mc t3), (Str.ofString "b", .str (ofL B) tb), (Str.ofString "a", .str (ofL (A.take (A.length - q))) ta), (Str.ofString "post", .int (-(q : Int)) t')] s')) ?_ ?_ (fun _ _ e => e)
      · --BEGIN3
        rcases Nat.eq_zero_or_pos q with h0 | h0
        · subst h0
          simp only [Int.natCast_zero, Int.neg_zero] at F2 ⊢
          (((refine hideQ ?_); (intro _ _)))
          (repeat' ((fail_if_success (with_reducible show wpAny _ _ (PySem.exec (PySem.Stmt.While _ _ _ _) _) _ _ _)); (fail_if_success (with_reducible show wpAny _ _ (PySem.exec (PySem.Stmt.For _ _ _ _ _) _) _ _ _)); (fail_if_success (with_reducible show wpAny _ _ (PySem.pyIter _) _ _ _)); (fail_if_success (with_reducible show Kept _)); (fail_if_success (with_reducible show InvEndN _ _ _ _ _ _ _)); (first | ((((rename (∀ v (s' : Shared), _ → _) => hQ); (with_reducible refine hQ _ _ ?_); clear hQ; (try (rename (_ → Shared → Prop) => qQ; clear qQ))))) | (k_unfold; (try dsimp only)) | (k_end; wrow_close) | (with_reducible ((with_reducible show wpAny _ _ (setItem (Value.ref _) (Value.int _ _) (Value.int _ _)) _ _ _); (refine ksa_set ‹Fr _ _ _ _› ‹News _ _ _ _› (Upd.head (by assumption)) (by with_reducible assumption) (by omega) (by omega) (by omega) ?_); (intro _ _ _ _ _ _); (try dsimp only))) | (with_reducible ((with_reducible show wpAny _ _ (call (Value.ref 38) [Value.str _ _, Value.str _ _]) _ _ _); (refine useCtrI (c_sub _ _ _ _ ?_ ?_ _) ‹Below _ _ _ _› ‹Fr _ _ _ _› (by assumption) ‹News _ _ _ _› (by assumption) rfl (by omega) (by omega) ?_); (case' refine_1 => (simp only [ofL_len, List.length_cons, List.length_nil]; omega)); (case' refine_2 => (simp only [ofL_len, List.length_cons, List.length_nil]; omega)); (intro _ _ _ _ _); (try dsimp only))) | (with_reducible ((with_reducible show wpAny _ _ (call (Value.type _) [Value.ref _]) _ _ _); refine r_listRange2 rfl ‹Fr _ _ _ _› ‹News _ _ _ _› ‹IsRange _ _ _ _ _ _ _ _› (by omega) ?_; intro _ _ _ _ _ _ _ _ _; (try dsimp only))) | (with_reducible ((with_reducible show wpAny _ _ (subscriptTail _ _ (Value.str (ofL _) _) (Value.int _ _)) _ _ _); first | (refine r_item (by first | assumption | omega) (by first | assumption | omega) ?_ (by with_unfolding_all rfl) (by intro _; with_unfolding_all rfl); (try dsimp only)) | (refine r_item_back0 (by first | assumption | omega) (by first | assumption | omega) ?_ (by with_unfolding_all rfl) (by intro _; with_unfolding_all rfl); (try dsimp only)) | (refine r_item_back (by first | assumption | omega) (by first | assumption | omega) ?_ (by with_unfolding_all rfl) (by intro _; with_unfolding_all rfl); (try dsimp only)))) | (with_reducible ((with_reducible show wpAny _ _ (subscriptTail _ _ (Value.str (ofL _) _) (Value.int _ _)) _ _ _); first | (refine r_item (by first | assumption | omega) (by first | assumption | omega) ?_ (by with_unfolding_all rfl) (by intro _; with_unfolding_all rfl); (try dsimp only)) | (refine r_item_back0 (by first | assumption | omega) (by first | assumption | omega) ?_ (by with_unfolding_all rfl) (by intro _; with_unfolding_all rfl); (try dsimp only)) | (refine r_item_back (by first | assumption | omega) (by first | assumption | omega) ?_ (by with_unfolding_all rfl) (by intro _; with_unfolding_all rfl); (try dsimp only)))) | (with_reducible ((with_reducible show wpAny _ _ (subscriptTail _ _ (Value.str (ofL _) _) _) _ _ _); first | (refine r_slice_from (s := ⟨_, _, _, _, _⟩) ‹Fr _ _ _ _› ‹News _ _ _ _› (by first | assumption | omega) (by first | assumption | omega) ?_ (by with_unfolding_all rfl) (by intro _; with_unfolding_all rfl); intro _ _ _ _ _ _; (try dsimp only)) | (refine r_slice_upto (s := ⟨_, _, _, _, _⟩) ‹Fr _ _ _ _› ‹News _ _ _ _› (by first | assumption | omega) (by first | assumption | omega) (by first | assumption | omega) ?_ (by with_unfolding_all rfl) (by intro _; with_unfolding_all rfl); intro _ _ _ _ _ _; (try dsimp only)) | (refine r_slice_none (s := ⟨_, _, _, _, _⟩) ‹Fr _ _ _ _› ‹News _ _ _ _› (by first | assumption | omega) ?_ (by with_unfolding_all rfl) (by intro _; with_unfolding_all rfl); intro _ _ _ _ _; (try dsimp only)))) | ((with_reducible show wpAny _ _ (call (Value.ref 38) [Value.str _ _, Value.str _ _]) _ _ _); (refine useCtrI (c_sub _ _ _ _ ?_ ?_ _) ‹Below _ _ _ _› ‹Fr _ _ _ _› (by assumption) ‹News _ _ _ _› (by assumption) rfl (by omega) (by omega) ?_); (case' refine_1 => (simp only [ofL_len, List.length_cons, List.length_nil]; omega)); (case' refine_2 => (simp only [ofL_len, List.length_cons, List.length_nil]; omega)); (intro _ _ _ _ _); (try dsimp only)) | walk1 | (dsimp only; walk1) | (leave1; walk_say "STEP leave1"; try dsimp only))))
          rename Fr _ _ _ _ => F5
          simp only [mp_setp] at F5
          have F6 : Fr g L' _ (mp [(Str.ofString "pre", .int p t), (Str.ofString "max_cost", .int mc t3), (Str.ofString "b", .str (ofL B) tb), (Str.ofString "a", .str (ofL A) _), (Str.ofString "post", .int 0 t')]) := F5
          rw [Nat.sub_zero A.length, List.take_length]
          exact ⟨by simp, _, St.intro F6 (by assumption)⟩
        · have hne : -(q : Int) ≠ 0 := by first | lia | omega
          (((refine hideQ ?_); (intro _ _)))
          (repeat' ((fail_if_success (with_reducible show wpAny _ _ (PySem.exec (PySem.Stmt.While _ _ _ _) _) _ _ _)); (fail_if_success (with_reducible show wpAny _ _ (PySem.exec (PySem.Stmt.For _ _ _ _ _) _) _ _ _)); (fail_if_success (with_reducible show wpAny _ _ (PySem.pyIter _) _ _ _)); (fail_if_success (with_reducible show Kept _)); (fail_if_success (with_reducible show InvEndN _ _ _ _ _ _ _)); (first | ((((rename (∀ v (s' : Shared), _ → _) => hQ); (with_reducible refine hQ _ _ ?_); clear hQ; (try (rename (_ → Shared → Prop) => qQ; clear qQ))))) | (k_unfold; (try dsimp only)) | (k_end; wrow_close) | (with_reducible ((with_reducible show wpAny _ _ (setItem (Value.ref _) (Value.int _ _) (Value.int _ _)) _ _ _); (refine ksa_set ‹Fr _ _ _ _› ‹News _ _ _ _› (Upd.head (by assumption)) (by with_reducible assumption) (by omega) (by omega) (by omega) ?_); (intro _ _ _ _ _ _); (try dsimp only))) | (with_reducible ((with_reducible show wpAny _ _ (call (Value.ref 38) [Value.str _ _, Value.str _ _]) _ _ _); (refine useCtrI (c_sub _ _ _ _ ?_ ?_ _) ‹Below _ _ _ _› ‹Fr _ _ _ _› (by assumption) ‹News _ _ _ _› (by assumption) rfl (by omega) (by omega) ?_); (case' refine_1 => (simp only [ofL_len, List.length_cons, List.length_nil]; omega)); (case' refine_2 => (simp only [ofL_len, List.length_cons, List.length_nil]; omega)); (intro _ _ _ _ _); (try dsimp only))) | (with_reducible ((with_reducible show wpAny _ _ (call (Value.type _) [Value.ref _]) _ _ _); refine r_listRange2 rfl ‹Fr _ _ _ _› ‹News _ _ _ _› ‹IsRange _ _ _ _ _ _ _ _› (by omega) ?_; intro _ _ _ _ _ _ _ _ _; (try dsimp only))) | (with_reducible ((with_reducible show wpAny _ _ (subscriptTail _ _ (Value.str (ofL _) _) (Value.int _ _)) _ _ _); first | (refine r_item (by first | assumption | omega) (by first | assumption | omega) ?_ (by with_unfolding_all rfl) (by intro _; with_unfolding_all rfl); (try dsimp only)) | (refine r_item_back0 (by first | assumption | omega) (by first | assumption | omega) ?_ (by with_unfolding_all rfl) (by intro _; with_unfolding_all rfl); (try dsimp only)) | (refine r_item_back (by first | assumption | omega) (by first | assumption | omega) ?_ (by with_unfolding_all rfl) (by intro _; with_unfolding_all rfl); (try dsimp only)))) | (with_reducible ((with_reducible show wpAny _ _ (subscriptTail _ _ (Value.str (ofL _) _) (Value.int _ _)) _ _ _); first | (refine r_item (by first | assumption | omega) (by first | assumption | omega) ?_ (by with_unfolding_all rfl) (by intro _; with_unfolding_all rfl); (try dsimp only)) | (refine r_item_back0 (by first | assumption | omega) (by first | assumption | omega) ?_ (by with_unfolding_all rfl) (by intro _; with_unfolding_all rfl); (try dsimp only)) | (refine r_item_back (by first | assumption | omega) (by first | assumption | omega) ?_ (by with_unfolding_all rfl) (by intro _; with_unfolding_all rfl); (try dsimp only)))) | (with_reducible ((with_reducible show wpAny _ _ (subscriptTail _ _ (Value.str (ofL _) _) _) _ _ _); first | (refine r_slice_from (s := ⟨_, _, _, _, _⟩) ‹Fr _ _ _ _› ‹News _ _ _ _› (by first | assumption | omega) (by first | assumption | omega) ?_ (by with_unfolding_all rfl) (by intro _; with_unfolding_all rfl); intro _ _ _ _ _ _; (try dsimp only)) | (refine r_slice_upto (s := ⟨_, _, _, _, _⟩) ‹Fr _ _ _ _› ‹News _ _ _ _› (by first | assumption | omega) (by first | assumption | omega) (by first | assumption | omega) ?_ (by with_unfolding_all rfl) (by intro _; with_unfolding_all rfl); intro _ _ _ _ _ _; (try dsimp only)) | (refine r_slice_none (s := ⟨_, _, _, _, _⟩) ‹Fr _ _ _ _› ‹News _ _ _ _› (by first | assumption | omega) ?_ (by with_unfolding_all rfl) (by intro _; with_unfolding_all rfl); intro _ _ _ _ _; (try dsimp only)))) | ((with_reducible show wpAny _ _ (call (Value.ref 38) [Value.str _ _, Value.str _ _]) _ _ _); (refine useCtrI (c_sub _ _ _ _ ?_ ?_ _) ‹Below _ _ _ _› ‹Fr _ _ _ _› (by assumption) ‹News _ _ _ _› (by assumption) rfl (by omega) (by omega) ?_); (case' refine_1 => (simp only [ofL_len, List.length_cons, List.length_nil]; omega)); (case' refine_2 => (simp only [ofL_len, List.length_cons, List.length_nil]; omega)); (intro _ _ _ _ _); (try dsimp only)) | walk1 | (dsimp only; walk1) | (leave1; walk_say "STEP leave1"; try dsimp only))))
          any_goals (exfalso; omega)
          rename Fr _ _ _ _ => F5
          simp only [mp_setp] at F5
          have F6 : Fr g L' _ (mp [(Str.ofString "pre", .int p t), (Str.ofString "max_cost", .int mc t3), (Str.ofString "b", .str (ofL B) tb), (Str.ofString "a", .str (ofL (A.take (A.length - q))) _), (Str.ofString "post", .int (-(q : Int)) t')]) := F5
          exact ⟨by simp, _, St.intro F6 (by assumption)⟩
      · clear F2 N2
        intro f s' hRg
        refine hideG ?_
        intro Cg hCg
        obtain ⟨rfl, ta, ⟨h2, tk2, rfl, F2, N2⟩⟩ := hRg
        refine hCg ?_
        clear hCg Cg
        dsimp only
        refine wpAny_execs_cons ?_
        refine wpAny_mono (Q := fun f s' => Kept (f = Flow.next ∧ ∃ ta tb, St g L' s news [(Str.ofString "pre", .int p t), (Str.ofString "max_cost", .int mc t3), (Str.ofString "b", .str (ofL (B.take (B.length - q))) tb), (Str.ofString "a", .str (ofL (A.take (A.length - q))) ta), (Str.ofString "post", .int (-(q : Int)) t')] s')) ?_ ?_ (fun _ _ e => e)
        · --BEGIN4
          rcases Nat.eq_zero_or_pos q with h0 | h0
          · subst h0
            simp only [Int.natCast_zero, Int.neg_zero] at F2 ⊢
            (((refine hideQ ?_); (intro _ _)))
            (repeat' ((fail_if_success (with_reducible show wpAny _ _ (PySem.exec (PySem.Stmt.While _ _ _ _) _) _ _ _)); (fail_if_success (with_reducible show wpAny _ _ (PySem.exec (PySem.Stmt.For _ _ _ _ _) _) _ _ _)); (fail_if_success (with_reducible show wpAny _ _ (PySem.pyIter _) _ _ _)); (fail_if_success (with_reducible show Kept _)); (fail_if_success (with_reducible show InvEndN _ _ _ _ _ _ _)); (first | ((((rename (∀ v (s' : Shared), _ → _) => hQ); (with_reducible refine hQ _ _ ?_); clear hQ; (try (rename (_ → Shared → Prop) => qQ; clear qQ))))) | (k_unfold; (try dsimp only)) | (k_end; wrow_close) | (with_reducible ((with_reducible show wpAny _ _ (setItem (Value.ref _) (Value.int _ _) (Value.int _ _)) _ _ _); (refine ksa_set ‹Fr _ _ _ _› ‹News _ _ _ _› (Upd.head (by assumption)) (by with_reducible assumption) (by omega) (by omega) (by omega) ?_); (intro _ _ _ _ _ _); (try dsimp only))) | (with_reducible ((with_reducible show wpAny _ _ (call (Value.ref 38) [Value.str _ _, Value.str _ _]) _ _ _); (refine useCtrI (c_sub _ _ _ _ ?_ ?_ _) ‹Below _ _ _ _› ‹Fr _ _ _ _› (by assumption) ‹News _ _ _ _› (by assumption) rfl (by omega) (by omega) ?_); (case' refine_1 => (simp only [ofL_len, List.length_cons, List.length_nil]; omega)); (case' refine_2 => (simp only [ofL_len, List.length_cons, List.length_nil]; omega)); (intro _ _ _ _ _); (try dsimp only))) | (with_reducible ((with_reducible show wpAny _ _ (call (Value.type _) [Value.ref _]) _ _ _); refine r_listRange2 rfl ‹Fr _ _ _ _› ‹News _ _ _ _› ‹IsRange _ _ _ _ _ _ _ _› (by omega) ?_; intro _ _ _ _ _ _ _ _ _; (try dsimp only))) | (with_reducible ((with_reducible show wpAny _ _ (subscriptTail _ _ (Value.str (ofL _) _) (Value.int _ _)) _ _ _); first | (refine r_item (by first | assumption | omega) (by first | assumption | omega) ?_ (by with_unfolding_all rfl) (by intro _; with_unfolding_all rfl); (try dsimp only)) | (refine r_item_back0 (by first | assumption | omega) (by first | assumption | omega) ?_ (by with_unfolding_all rfl) (by intro _; with_unfolding_all rfl); (try dsimp only)) | (refine r_item_back (by first | assumption | omega) (by first | assumption | omega) ?_ (by with_unfolding_all rfl) (by intro _; with_unfolding_all rfl); (try dsimp only)))) | (with_reducible ((with_reducible show wpAny _ _ (subscriptTail _ _ (Value.str (ofL _) _) (Value.int _ _)) _ _ _); first | (refine r_item (by first | assumption | omega) (by first | assumption | omega) ?_ (by with_unfolding_all rfl) (by intro _; with_unfolding_all rfl); (try dsimp only)) | (refine r_item_back0 (by first | assumption | omega) (by first | assumption | omega) ?_ (by with_unfolding_all rfl) (by intro _; with_unfolding_all rfl); (try dsimp only)) | (refine r_item_back (by first | assumption | omega) (by first | assumption | omega) ?_ (by with_unfolding_all rfl) (by intro _; with_unfolding_all rfl); (try dsimp only)))) | (with_reducible ((with_reducible show wpAny _ _ (subscriptTail _ _ (Value.str (ofL _) _) _) _ _ _); first | (refine r_slice_from (s := ⟨_, _, _, _, _⟩) ‹Fr _ _ _ _› ‹News _ _ _ _› (by first | assumption | omega) (by first | assumption | omega) ?_ (by with_unfolding_all rfl) (by intro _; with_unfolding_all rfl); intro _ _ _ _ _ _; (try dsimp only)) | (refine r_slice_upto (s := ⟨_, _, _, _, _⟩) ‹Fr _ _ _ _› ‹News _ _ _ _› (by first | assumption | omega) (by first | assumption | omega) (by first | assumption | omega) ?_ (by with_unfolding_all rfl) (by intro _; with_unfolding_all rfl); intro _ _ _ _ _ _; (try dsimp only)) | (refine r_slice_none (s := ⟨_, _, _, _, _⟩) ‹Fr _ _ _ _› ‹News _ _ _ _› (by first | assumption | omega) ?_ (by with_unfolding_all rfl) (by intro _; with_unfolding_all rfl); intro _ _ _ _ _; (try dsimp only)))) | ((with_reducible show wpAny _ _ (call (Value.ref 38) [Value.str _ _, Value.str _ _]) _ _ _); (refine useCtrI (c_sub _ _ _ _ ?_ ?_ _) ‹Below _ _ _ _› ‹Fr _ _ _ _› (by assumption) ‹News _ _ _ _› (by assumption) rfl (by omega) (by omega) ?_); (case' refine_1 => (simp only [ofL_len, List.length_cons, List.length_nil]; omega)); (case' refine_2 => (simp only [ofL_len, List.length_cons, List.length_nil]; omega)); (intro _ _ _ _ _); (try dsimp only)) | walk1 | (dsimp only; walk1) | (leave1; walk_say "STEP leave1"; try dsimp only))))
            rename Fr _ _ _ _ => F5
            simp only [mp_setp] at F5
            have F6 : Fr g L' _ (mp [(Str.ofString "pre", .int p t), (Str.ofString "max_cost", .int mc t3), (Str.ofString "b", .str (ofL B) _), (Str.ofString "a", .str (ofL (A.take (A.length - 0))) ta), (Str.ofString "post", .int 0 t')]) := F5
            rw [Nat.sub_zero B.length, List.take_length]
            exact ⟨by simp, ta, _, St.intro F6 (by assumption)⟩
          · have hne : -(q : Int) ≠ 0 := by first | lia | omega
            (((refine hideQ ?_); (intro _ _)))
            (repeat' ((fail_if_success (with_reducible show wpAny _ _ (PySem.exec (PySem.Stmt.While _ _ _ _) _) _ _ _)); (fail_if_success (with_reducible show wpAny _ _ (PySem.exec (PySem.Stmt.For _ _ _ _ _) _) _ _ _)); (fail_if_success (with_reducible show wpAny _ _ (PySem.pyIter _) _ _ _)); (fail_if_success (with_reducible show Kept _)); (fail_if_success (with_reducible show InvEndN _ _ _ _ _ _ _)); (first | ((((rename (∀ v (s' : Shared), _ → _) => hQ); (with_reducible refine hQ _ _ ?_); clear hQ; (try (rename (_ → Shared → Prop) => qQ; clear qQ))))) | (k_unfold; (try dsimp only)) | (k_end; wrow_close) | (with_reducible ((with_reducible show wpAny _ _ (setItem (Value.ref _) (Value.int _ _) (Value.int _ _)) _ _ _); (refine ksa_set ‹Fr _ _ _ _› ‹News _ _ _ _› (Upd.head (by assumption)) (by with_reducible assumption) (by omega) (by omega) (by omega) ?_); (intro _ _ _ _ _ _); (try dsimp only))) | (with_reducible ((with_reducible show wpAny _ _ (call (Value.ref 38) [Value.str _ _, Value.str _ _]) _ _ _); (refine useCtrI (c_sub _ _ _ _ ?_ ?_ _) ‹Below _ _ _ _› ‹Fr _ _ _ _› (by assumption) ‹News _ _ _ _› (by assumption) rfl (by omega) (by omega) ?_); (case' refine_1 => (simp only [ofL_len, List.length_cons, List.length_nil]; omega)); (case' refine_2 => (simp only [ofL_len, List.length_cons, List.length_nil]; omega)); (intro _ _ _ _ _); (try dsimp only))) | (with_reducible ((with_reducible show wpAny _ _ (call (Value.type _) [Value.ref _]) _ _ _); refine r_listRange2 rfl ‹Fr _ _ _ _› ‹News _ _ _ _› ‹IsRange _ _ _ _ _ _ _ _› (by omega) ?_; intro _ _ _ _ _ _ _ _ _; (try dsimp only))) | (with_reducible ((with_reducible show wpAny _ _ (subscriptTail _ _ (Value.str (ofL _) _) (Value.int _ _)) _ _ _); first | (refine r_item (by first | assumption | omega) (by first | assumption | omega) ?_ (by with_unfolding_all rfl) (by intro _; with_unfolding_all rfl); (try dsimp only)) | (refine r_item_back0 (by first | assumption | omega) (by first | assumption | omega) ?_ (by with_unfolding_all rfl) (by intro _; with_unfolding_all rfl); (try dsimp only)) | (refine r_item_back (by first | assumption | omega) (by first | assumption | omega) ?_ (by with_unfolding_all rfl) (by intro _; with_unfolding_all rfl); (try dsimp only)))) | (with_reducible ((with_reducible show wpAny _ _ (subscriptTail _ _ (Value.str (ofL _) _) (Value.int _ _)) _ _ _); first | (refine r_item (by first | assumption | omega) (by first | assumption | omega) ?_ (by with_unfolding_all rfl) (by intro _; with_unfolding_all rfl); (try dsimp only)) | (refine r_item_back0 (by first | assumption | omega) (by first | assumption | omega) ?_ (by with_unfolding_all rfl) (by intro _; with_unfolding_all rfl); (try dsimp only)) | (refine r_item_back (by first | assumption | omega) (by first | assumption | omega) ?_ (by with_unfolding_all rfl) (by intro _; with_unfolding_all rfl); (try dsimp only)))) | (with_reducible ((with_reducible show wpAny _ _ (subscriptTail _ _ (Value.str (ofL _) _) _) _ _ _); first | (refine r_slice_from (s := ⟨_, _, _, _, _⟩) ‹Fr _ _ _ _› ‹News _ _ _ _› (by first | assumption | omega) (by first | assumption | omega) ?_ (by with_unfolding_all rfl) (by intro _; with_unfolding_all rfl); intro _ _ _ _ _ _; (try dsimp only)) | (refine r_slice_upto (s := ⟨_, _, _, _, _⟩) ‹Fr _ _ _ _› ‹News _ _ _ _› (by first | assumption | omega) (by first | assumption | omega) (by first | assumption | omega) ?_ (by with_unfolding_all rfl) (by intro _; with_unfolding_all rfl); intro _ _ _ _ _ _; (try dsimp only)) | (refine r_slice_none (s := ⟨_, _, _, _, _⟩) ‹Fr _ _ _ _› ‹News _ _ _ _› (by first | assumption | omega) ?_ (by with_unfolding_all rfl) (by intro _; with_unfolding_all rfl); intro _ _ _ _ _; (try dsimp only)))) | ((with_reducible show wpAny _ _ (call (Value.ref 38) [Value.str _ _, Value.str _ _]) _ _ _); (refine useCtrI (c_sub _ _ _ _ ?_ ?_ _) ‹Below _ _ _ _› ‹Fr _ _ _ _› (by assumption) ‹News _ _ _ _› (by assumption) rfl (by omega) (by omega) ?_); (case' refine_1 => (simp only [ofL_len, List.length_cons, List.length_nil]; omega)); (case' refine_2 => (simp only [ofL_len, List.length_cons, List.length_nil]; omega)); (intro _ _ _ _ _); (try dsimp only)) | walk1 | (dsimp only; walk1) | (leave1; walk_say "STEP leave1"; try dsimp only))))
            any_goals (exfalso; omega)
            rename Fr _ _ _ _ => F5
            simp only [mp_setp] at F5
            have F6 : Fr g L' _ (mp [(Str.ofString "pre", .int p t), (Str.ofString "max_cost", .int mc t3), (Str.ofString "b", .str (ofL (B.take (B.length - q))) _), (Str.ofString "a", .str (ofL (A.take (A.length - q))) ta), (Str.ofString "post", .int (-(q : Int)) t')]) := F5
            exact ⟨by simp, ta, _, St.intro F6 (by assumption)⟩
        · clear F2 N2
          intro f s' hRg
          refine hideG ?_
          intro Cg hCg
          obtain ⟨rfl, ta, tb, ⟨h2, tk2, rfl, F2, N2⟩⟩ := hRg
          refine hCg ?_
          clear hCg Cg
          dsimp only
          have hres : lev X Y mc = levStr (A.take (A.length - q)) (B.take (B.length - q)) mc := by
            unfold lev
            rw [if_neg hXY, hs.out]
            simp only [hs2, rev_drop]
          have hres := Kept.of hres
          clear hs2 hs
          have hA2 : (A.take (A.length - q)).length ≤ 1000 := by rw [List.length_take]; omega
          have hB2 : (B.take (B.length - q)).length ≤ 1000 := by rw [List.length_take]; omega
          generalize A.take (A.length - q) = A2 at *
          generalize B.take (B.length - q) = B2 at *
          have hA2' : (ofL A2).length = A2.length := ofL_len A2
          have hB2' : (ofL B2).length = B2.length := ofL_len B2
          (repeat' ((fail_if_success (with_reducible show wpAny _ _ (PySem.exec (PySem.Stmt.If (PySem.Expr.Compare _ [PySem.CmpOp.Lt] _ _) _ _ _) _) _ _ _)); (fail_if_success (with_reducible show wpAny _ _ (PySem.exec (PySem.Stmt.While _ _ _ _) _) _ _ _)); (fail_if_success (with_reducible show wpAny _ _ (PySem.exec (PySem.Stmt.For _ _ _ _ _) _) _ _ _)); (fail_if_success (with_reducible show wpAny _ _ (PySem.pyIter _) _ _ _)); (fail_if_success (with_reducible show Kept _)); (fail_if_success (with_reducible show InvEndN _ _ _ _ _ _ _)); (first | ((((rename (∀ v (s' : Shared), _ → _) => hQ); (with_reducible refine hQ _ _ ?_); clear hQ; (try (rename (_ → Shared → Prop) => qQ; clear qQ))))) | (k_unfold; (try dsimp only)) | (k_end; wrow_close) | (with_reducible ((with_reducible show wpAny _ _ (setItem (Value.ref _) (Value.int _ _) (Value.int _ _)) _ _ _); (refine ksa_set ‹Fr _ _ _ _› ‹News _ _ _ _› (Upd.head (by assumption)) (by with_reducible assumption) (by omega) (by omega) (by omega) ?_); (intro _ _ _ _ _ _); (try dsimp only))) | (with_reducible ((with_reducible show wpAny _ _ (call (Value.ref 38) [Value.str _ _, Value.str _ _]) _ _ _); (refine useCtrI (c_sub _ _ _ _ ?_ ?_ _) ‹Below _ _ _ _› ‹Fr _ _ _ _› (by assumption) ‹News _ _ _ _› (by assumption) rfl (by omega) (by omega) ?_); (case' refine_1 => (simp only [ofL_len, List.length_cons, List.length_nil]; omega)); (case' refine_2 => (simp only [ofL_len, List.length_cons, List.length_nil]; omega)); (intro _ _ _ _ _); (try dsimp only))) | (with_reducible ((with_reducible show wpAny _ _ (call (Value.type _) [Value.ref _]) _ _ _); refine r_listRange2 rfl ‹Fr _ _ _ _› ‹News _ _ _ _› ‹IsRange _ _ _ _ _ _ _ _› (by omega) ?_; intro _ _ _ _ _ _ _ _ _; (try dsimp only))) | (with_reducible ((with_reducible show wpAny _ _ (subscriptTail _ _ (Value.str (ofL _) _) (Value.int _ _)) _ _ _); first | (refine r_item (by first | assumption | omega) (by first | assumption | omega) ?_ (by with_unfolding_all rfl) (by intro _; with_unfolding_all rfl); (try dsimp only)) | (refine r_item_back0 (by first | assumption | omega) (by first | assumption | omega) ?_ (by with_unfolding_all rfl) (by intro _; with_unfolding_all rfl); (try dsimp only)) | (refine r_item_back (by first | assumption | omega) (by first | assumption | omega) ?_ (by with_unfolding_all rfl) (by intro _; with_unfolding_all rfl); (try dsimp only)))) | (with_reducible ((with_reducible show wpAny _ _ (subscriptTail _ _ (Value.str (ofL _) _) (Value.int _ _)) _ _ _); first | (refine r_item (by first | assumption | omega) (by first | assumption | omega) ?_ (by with_unfolding_all rfl) (by intro _; with_unfolding_all rfl); (try dsimp only)) | (refine r_item_back0 (by first | assumption | omega) (by first | assumption | omega) ?_ (by with_unfolding_all rfl) (by intro _; with_unfolding_all rfl); (try dsimp only)) | (refine r_item_back (by first | assumption | omega) (by first | assumption | omega) ?_ (by with_unfolding_all rfl) (by intro _; with_unfolding_all rfl); (try dsimp only)))) | (with_reducible ((with_reducible show wpAny _ _ (subscriptTail _ _ (Value.str (ofL _) _) _) _ _ _); first | (refine r_slice_from (s := ⟨_, _, _, _, _⟩) ‹Fr _ _ _ _› ‹News _ _ _ _› (by first | assumption | omega) (by first | assumption | omega) ?_ (by with_unfolding_all rfl) (by intro _; with_unfolding_all rfl); intro _ _ _ _ _ _; (try dsimp only)) | (refine r_slice_upto (s := ⟨_, _, _, _, _⟩) ‹Fr _ _ _ _› ‹News _ _ _ _› (by first | assumption | omega) (by first | assumption | omega) (by first | assumption | omega) ?_ (by with_unfolding_all rfl) (by intro _; with_unfolding_all rfl); intro _ _ _ _ _ _; (try dsimp only)) | (refine r_slice_none (s := ⟨_, _, _, _, _⟩) ‹Fr _ _ _ _› ‹News _ _ _ _› (by first | assumption | omega) ?_ (by with_unfolding_all rfl) (by intro _; with_unfolding_all rfl); intro _ _ _ _ _; (try dsimp only)))) | ((with_reducible show wpAny _ _ (call (Value.ref 38) [Value.str _ _, Value.str _ _]) _ _ _); (refine useCtrI (c_sub _ _ _ _ ?_ ?_ _) ‹Below _ _ _ _› ‹Fr _ _ _ _› (by assumption) ‹News _ _ _ _› (by assumption) rfl (by omega) (by omega) ?_); (case' refine_1 => (simp only [ofL_len, List.length_cons, List.length_nil]; omega)); (case' refine_2 => (simp only [ofL_len, List.length_cons, List.length_nil]; omega)); (intro _ _ _ _ _); (try dsimp only)) | walk1 | (dsimp only; walk1) | (leave1; walk_say "STEP leave1"; try dsimp only))))
          any_goals (refine ret_int hret (by k_asm) (by k_asm) ?_; rw [hres.out]; unfold levStr; first | (rw [if_pos (by first | lia | omega)]; omega) | (rw [if_neg (by first | lia | omega), if_pos (by first | lia | omega)]))
          refine wpAny_mono (Q := fun f s' => Kept (f = Flow.next ∧ ∃ (S G : List Nat) (ta tb : Tok), Kept (lev X Y mc = levTail S G mc) ∧ S.length ≤ 40 ∧ G.length ≤ 40 ∧ St g L' s news [(Str.ofString "pre", .int p t), (Str.ofString "max_cost", .int mc t3), (Str.ofString "b", .str (ofL G) tb), (Str.ofString "a", .str (ofL S) ta), (Str.ofString "post", .int (-(q : Int)) t')] s')) ?_ ?_ (fun _ _ e => e)
          · --BEGIN5
            (repeat' ((fail_if_success (with_reducible show wpAny _ _ (PySem.exec (PySem.Stmt.While _ _ _ _) _) _ _ _)); (fail_if_success (with_reducible show wpAny _ _ (PySem.exec (PySem.Stmt.For _ _ _ _ _) _) _ _ _)); (fail_if_success (with_reducible show wpAny _ _ (PySem.pyIter _) _ _ _)); (fail_if_success (with_reducible show Kept _)); (fail_if_success (with_reducible show InvEndN _ _ _ _ _ _ _)); (first | ((((rename (∀ v (s' : Shared), _ → _) => hQ); (with_reducible refine hQ _ _ ?_); clear hQ; (try (rename (_ → Shared → Prop) => qQ; clear qQ))))) | (k_unfold; (try dsimp only)) | (k_end; wrow_close) | (with_reducible ((with_reducible show wpAny _ _ (setItem (Value.ref _) (Value.int _ _) (Value.int _ _)) _ _ _); (refine ksa_set ‹Fr _ _ _ _› ‹News _ _ _ _› (Upd.head (by assumption)) (by with_reducible assumption) (by omega) (by omega) (by omega) ?_); (intro _ _ _ _ _ _); (try dsimp only))) | (with_reducible ((with_reducible show wpAny _ _ (call (Value.ref 38) [Value.str _ _, Value.str _ _]) _ _ _); (refine useCtrI (c_sub _ _ _ _ ?_ ?_ _) ‹Below _ _ _ _› ‹Fr _ _ _ _› (by assumption) ‹News _ _ _ _› (by assumption) rfl (by omega) (by omega) ?_); (case' refine_1 => (simp only [ofL_len, List.length_cons, List.length_nil]; omega)); (case' refine_2 => (simp only [ofL_len, List.length_cons, List.length_nil]; omega)); (intro _ _ _ _ _); (try dsimp only))) | (with_reducible ((with_reducible show wpAny _ _ (call (Value.type _) [Value.ref _]) _ _ _); refine r_listRange2 rfl ‹Fr _ _ _ _› ‹News _ _ _ _› ‹IsRange _ _ _ _ _ _ _ _› (by omega) ?_; intro _ _ _ _ _ _ _ _ _; (try dsimp only))) | (with_reducible ((with_reducible show wpAny _ _ (subscriptTail _ _ (Value.str (ofL _) _) (Value.int _ _)) _ _ _); first | (refine r_item (by first | assumption | omega) (by first | assumption | omega) ?_ (by with_unfolding_all rfl) (by intro _; with_unfolding_all rfl); (try dsimp only)) | (refine r_item_back0 (by first | assumption | omega) (by first | assumption | omega) ?_ (by with_unfolding_all rfl) (by intro _; with_unfolding_all rfl); (try dsimp only)) | (refine r_item_back (by first | assumption | omega) (by first | assumption | omega) ?_ (by with_unfolding_all rfl) (by intro _; with_unfolding_all rfl); (try dsimp only)))) | (with_reducible ((with_reducible show wpAny _ _ (subscriptTail _ _ (Value.str (ofL _) _) (Value.int _ _)) _ _ _); first | (refine r_item (by first | assumption | omega) (by first | assumption | omega) ?_ (by with_unfolding_all rfl) (by intro _; with_unfolding_all rfl); (try dsimp only)) | (refine r_item_back0 (by first | assumption | omega) (by first | assumption | omega) ?_ (by with_unfolding_all rfl) (by intro _; with_unfolding_all rfl); (try dsimp only)) | (refine r_item_back (by first | assumption | omega) (by first | assumption | omega) ?_ (by with_unfolding_all rfl) (by intro _; with_unfolding_all rfl); (try dsimp only)))) | (with_reducible ((with_reducible show wpAny _ _ (subscriptTail _ _ (Value.str (ofL _) _) _) _ _ _); first | (refine r_slice_from (s := ⟨_, _, _, _, _⟩) ‹Fr _ _ _ _› ‹News _ _ _ _› (by first | assumption | omega) (by first | assumption | omega) ?_ (by with_unfolding_all rfl) (by intro _; with_unfolding_all rfl); intro _ _ _ _ _ _; (try dsimp only)) | (refine r_slice_upto (s := ⟨_, _, _, _, _⟩) ‹Fr _ _ _ _› ‹News _ _ _ _› (by first | assumption | omega) (by first | assumption | omega) (by first | assumption | omega) ?_ (by with_unfolding_all rfl) (by intro _; with_unfolding_all rfl); intro _ _ _ _ _ _; (try dsimp only)) | (refine r_slice_none (s := ⟨_, _, _, _, _⟩) ‹Fr _ _ _ _› ‹News _ _ _ _› (by first | assumption | omega) ?_ (by with_unfolding_all rfl) (by intro _; with_unfolding_all rfl); intro _ _ _ _ _; (try dsimp only)))) | ((with_reducible show wpAny _ _ (call (Value.ref 38) [Value.str _ _, Value.str _ _]) _ _ _); (refine useCtrI (c_sub _ _ _ _ ?_ ?_ _) ‹Below _ _ _ _› ‹Fr _ _ _ _› (by assumption) ‹News _ _ _ _› (by assumption) rfl (by omega) (by omega) ?_); (case' refine_1 => (simp only [ofL_len, List.length_cons, List.length_nil]; omega)); (case' refine_2 => (simp only [ofL_len, List.length_cons, List.length_nil]; omega)); (intro _ _ _ _ _); (try dsimp only)) | walk1 | (dsimp only; walk1) | (leave1; walk_say "STEP leave1"; try dsimp only))))
            · rename Fr _ _ _ _ => F5
              simp only [mp_setp] at F5
              have F6 : Fr g L' _ (mp [(Str.ofString "pre", .int p t), (Str.ofString "max_cost", .int mc t3), (Str.ofString "b", .str (ofL A2) _), (Str.ofString "a", .str (ofL B2) _), (Str.ofString "post", .int (-(q : Int)) t')]) := F5
              refine ⟨by simp, B2, A2, _, _, ?_, by first | lia | omega, by first | lia | omega, St.intro F6 (by first | assumption | exact cb_drop (by assumption) (fun p hp => List.Mem.tail _ hp))⟩
              refine Kept.of ?_
              rw [hres.out]
              unfold levStr
              rw [if_neg (by first | lia | omega), if_neg (by first | lia | omega), if_pos (by first | lia | omega)]
            · refine ⟨by simp, A2, B2, _, _, ?_, by first | lia | omega, by first | lia | omega, St.intro (by assumption) (by assumption)⟩
              refine Kept.of ?_
              rw [hres.out]
              unfold levStr
              rw [if_neg (by first | lia | omega), if_neg (by first | lia | omega), if_neg (by first | lia | omega)]
          · intro f s' hRg
            refine hideG ?_
            intro Cg hCg
            obtain ⟨rfl, S, G, ta, tb, hlt, hS, hG, ⟨h3, tk3, rfl, F3, N3⟩⟩ := hRg
            refine hCg ?_
            clear hCg Cg
            clear hres
            have hS' : (ofL S).length = S.length := ofL_len S
            have hG' : (ofL G).length = G.length := ofL_len G
            dsimp only
            (repeat' ((fail_if_success (with_reducible show wpAny _ _ (PySem.exec (PySem.Stmt.While _ _ _ _) _) _ _ _)); (fail_if_success (with_reducible show wpAny _ _ (PySem.exec (PySem.Stmt.For _ _ _ _ _) _) _ _ _)); (fail_if_success (with_reducible show wpAny _ _ (PySem.pyIter _) _ _ _)); (fail_if_success (with_reducible show Kept _)); (fail_if_success (with_reducible show InvEndN _ _ _ _ _ _ _)); (first | ((((rename (∀ v (s' : Shared), _ → _) => hQ); (with_reducible refine hQ _ _ ?_); clear hQ; (try (rename (_ → Shared → Prop) => qQ; clear qQ))))) | (k_unfold; (try dsimp only)) | (k_end; wrow_close) | (with_reducible ((with_reducible show wpAny _ _ (setItem (Value.ref _) (Value.int _ _) (Value.int _ _)) _ _ _); (refine ksa_set ‹Fr _ _ _ _› ‹News _ _ _ _› (Upd.head (by assumption)) (by with_reducible assumption) (by omega) (by omega) (by omega) ?_); (intro _ _ _ _ _ _); (try dsimp only))) | (with_reducible ((with_reducible show wpAny _ _ (call (Value.ref 38) [Value.str _ _, Value.str _ _]) _ _ _); (refine useCtrI (c_sub _ _ _ _ ?_ ?_ _) ‹Below _ _ _ _› ‹Fr _ _ _ _› (by assumption) ‹News _ _ _ _› (by assumption) rfl (by omega) (by omega) ?_); (case' refine_1 => (simp only [ofL_len, List.length_cons, List.length_nil]; omega)); (case' refine_2 => (simp only [ofL_len, List.length_cons, List.length_nil]; omega)); (intro _ _ _ _ _); (try dsimp only))) | (with_reducible ((with_reducible show wpAny _ _ (call (Value.type _) [Value.ref _]) _ _ _); refine r_listRange2 rfl ‹Fr _ _ _ _› ‹News _ _ _ _› ‹IsRange _ _ _ _ _ _ _ _› (by omega) ?_; intro _ _ _ _ _ _ _ _ _; (try dsimp only))) | (with_reducible ((with_reducible show wpAny _ _ (subscriptTail _ _ (Value.str (ofL _) _) (Value.int _ _)) _ _ _); first | (refine r_item (by first | assumption | omega) (by first | assumption | omega) ?_ (by with_unfolding_all rfl) (by intro _; with_unfolding_all rfl); (try dsimp only)) | (refine r_item_back0 (by first | assumption | omega) (by first | assumption | omega) ?_ (by with_unfolding_all rfl) (by intro _; with_unfolding_all rfl); (try dsimp only)) | (refine r_item_back (by first | assumption | omega) (by first | assumption | omega) ?_ (by with_unfolding_all rfl) (by intro _; with_unfolding_all rfl); (try dsimp only)))) | (with_reducible ((with_reducible show wpAny _ _ (subscriptTail _ _ (Value.str (ofL _) _) (Value.int _ _)) _ _ _); first | (refine r_item (by first | assumption | omega) (by first | assumption | omega) ?_ (by with_unfolding_all rfl) (by intro _; with_unfolding_all rfl); (try dsimp only)) | (refine r_item_back0 (by first | assumption | omega) (by first | assumption | omega) ?_ (by with_unfolding_all rfl) (by intro _; with_unfolding_all rfl); (try dsimp only)) | (refine r_item_back (by first | assumption | omega) (by first | assumption | omega) ?_ (by with_unfolding_all rfl) (by intro _; with_unfolding_all rfl); (try dsimp only)))) | (with_reducible ((with_reducible show wpAny _ _ (subscriptTail _ _ (Value.str (ofL _) _) _) _ _ _); first | (refine r_slice_from (s := ⟨_, _, _, _, _⟩) ‹Fr _ _ _ _› ‹News _ _ _ _› (by first | assumption | omega) (by first | assumption | omega) ?_ (by with_unfolding_all rfl) (by intro _; with_unfolding_all rfl); intro _ _ _ _ _ _; (try dsimp only)) | (refine r_slice_upto (s := ⟨_, _, _, _, _⟩) ‹Fr _ _ _ _› ‹News _ _ _ _› (by first | assumption | omega) (by first | assumption | omega) (by first | assumption | omega) ?_ (by with_unfolding_all rfl) (by intro _; with_unfolding_all rfl); intro _ _ _ _ _ _; (try dsimp only)) | (refine r_slice_none (s := ⟨_, _, _, _, _⟩) ‹Fr _ _ _ _› ‹News _ _ _ _› (by first | assumption | omega) ?_ (by with_unfolding_all rfl) (by intro _; with_unfolding_all rfl); intro _ _ _ _ _; (try dsimp only)))) | ((with_reducible show wpAny _ _ (call (Value.ref 38) [Value.str _ _, Value.str _ _]) _ _ _); (refine useCtrI (c_sub _ _ _ _ ?_ ?_ _) ‹Below _ _ _ _› ‹Fr _ _ _ _› (by assumption) ‹News _ _ _ _› (by assumption) rfl (by omega) (by omega) ?_); (case' refine_1 => (simp only [ofL_len, List.length_cons, List.length_nil]; omega)); (case' refine_2 => (simp only [ofL_len, List.length_cons, List.length_nil]; omega)); (intro _ _ _ _ _); (try dsimp only)) | walk1 | (dsimp only; walk1) | (leave1; walk_say "STEP leave1"; try dsimp only))))
            any_goals (refine ret_int hret (by k_asm) (by k_asm) ?_; rw [hlt.out]; unfold levTail; rw [if_pos (by first | lia | omega)])
            rename (∀ p, p ∈ news → _ < _) => hD
            rename (IntsAre _ _) => hI
            rename Fr _ _ _ _ => F4
            rename News _ _ _ _ => N4
            rename_i D _ _ ys c _ _
            rename (¬ mc < _) => hmc
            have hP0 : Kept (Mine.outer S mc (G.drop ([] : List Int).length) ([] : List Int).length (row0 (ofL S).length) 0 = lev X Y mc) := by
              refine Kept.of ?_
              rw [hlt.out]
              unfold levTail
              rw [if_neg (by first | lia | omega), ofL_len]
              rfl
            clear hlt
            refine For_invV g rfl rfl ?_
            (repeat' ((fail_if_success (with_reducible show wpAny _ _ (PySem.exec (PySem.Stmt.While _ _ _ _) _) _ _ _)); (fail_if_success (with_reducible show wpAny _ _ (PySem.exec (PySem.Stmt.For _ _ _ _ _) _) _ _ _)); (fail_if_success (with_reducible show wpAny _ _ (PySem.pyIter _) _ _ _)); (fail_if_success (with_reducible show Kept _)); (fail_if_success (with_reducible show InvEndN _ _ _ _ _ _ _)); (first | ((((rename (∀ v (s' : Shared), _ → _) => hQ); (with_reducible refine hQ _ _ ?_); clear hQ; (try (rename (_ → Shared → Prop) => qQ; clear qQ))))) | (k_unfold; (try dsimp only)) | (k_end; wrow_close) | (with_reducible ((with_reducible show wpAny _ _ (setItem (Value.ref _) (Value.int _ _) (Value.int _ _)) _ _ _); (refine ksa_set ‹Fr _ _ _ _› ‹News _ _ _ _› (Upd.head (by assumption)) (by with_reducible assumption) (by omega) (by omega) (by omega) ?_); (intro _ _ _ _ _ _); (try dsimp only))) | (with_reducible ((with_reducible show wpAny _ _ (call (Value.ref 38) [Value.str _ _, Value.str _ _]) _ _ _); (refine useCtrI (c_sub _ _ _ _ ?_ ?_ _) ‹Below _ _ _ _› ‹Fr _ _ _ _› (by assumption) ‹News _ _ _ _› (by assumption) rfl (by omega) (by omega) ?_); (case' refine_1 => (simp only [ofL_len, List.length_cons, List.length_nil]; omega)); (case' refine_2 => (simp only [ofL_len, List.length_cons, List.length_nil]; omega)); (intro _ _ _ _ _); (try dsimp only))) | (with_reducible ((with_reducible show wpAny _ _ (call (Value.type _) [Value.ref _]) _ _ _); refine r_listRange2 rfl ‹Fr _ _ _ _› ‹News _ _ _ _› ‹IsRange _ _ _ _ _ _ _ _› (by omega) ?_; intro _ _ _ _ _ _ _ _ _; (try dsimp only))) | (with_reducible ((with_reducible show wpAny _ _ (subscriptTail _ _ (Value.str (ofL _) _) (Value.int _ _)) _ _ _); first | (refine r_item (by first | assumption | omega) (by first | assumption | omega) ?_ (by with_unfolding_all rfl) (by intro _; with_unfolding_all rfl); (try dsimp only)) | (refine r_item_back0 (by first | assumption | omega) (by first | assumption | omega) ?_ (by with_unfolding_all rfl) (by intro _; with_unfolding_all rfl); (try dsimp only)) | (refine r_item_back (by first | assumption | omega) (by first | assumption | omega) ?_ (by with_unfolding_all rfl) (by intro _; with_unfolding_all rfl); (try dsimp only)))) | (with_reducible ((with_reducible show wpAny _ _ (subscriptTail _ _ (Value.str (ofL _) _) (Value.int _ _)) _ _ _); first | (refine r_item (by first | assumption | omega) (by first | assumption | omega) ?_ (by with_unfolding_all rfl) (by intro _; with_unfolding_all rfl); (try dsimp only)) | (refine r_item_back0 (by first | assumption | omega) (by first | assumption | omega) ?_ (by with_unfolding_all rfl) (by intro _; with_unfolding_all rfl); (try dsimp only)) | (refine r_item_back (by first | assumption | omega) (by first | assumption | omega) ?_ (by with_unfolding_all rfl) (by intro _; with_unfolding_all rfl); (try dsimp only)))) | (with_reducible ((with_reducible show wpAny _ _ (subscriptTail _ _ (Value.str (ofL _) _) _) _ _ _); first | (refine r_slice_from (s := ⟨_, _, _, _, _⟩) ‹Fr _ _ _ _› ‹News _ _ _ _› (by first | assumption | omega) (by first | assumption | omega) ?_ (by with_unfolding_all rfl) (by intro _; with_unfolding_all rfl); intro _ _ _ _ _ _; (try dsimp only)) | (refine r_slice_upto (s := ⟨_, _, _, _, _⟩) ‹Fr _ _ _ _› ‹News _ _ _ _› (by first | assumption | omega) (by first | assumption | omega) (by first | assumption | omega) ?_ (by with_unfolding_all rfl) (by intro _; with_unfolding_all rfl); intro _ _ _ _ _ _; (try dsimp only)) | (refine r_slice_none (s := ⟨_, _, _, _, _⟩) ‹Fr _ _ _ _› ‹News _ _ _ _› (by first | assumption | omega) ?_ (by with_unfolding_all rfl) (by intro _; with_unfolding_all rfl); intro _ _ _ _ _; (try dsimp only)))) | ((with_reducible show wpAny _ _ (call (Value.ref 38) [Value.str _ _, Value.str _ _]) _ _ _); (refine useCtrI (c_sub _ _ _ _ ?_ ?_ _) ‹Below _ _ _ _› ‹Fr _ _ _ _› (by assumption) ‹News _ _ _ _› (by assumption) rfl (by omega) (by omega) ?_); (case' refine_1 => (simp only [ofL_len, List.length_cons, List.length_nil]; omega)); (case' refine_2 => (simp only [ofL_len, List.length_cons, List.length_nil]; omega)); (intro _ _ _ _ _); (try dsimp only)) | walk1 | (dsimp only; walk1) | (leave1; walk_say "STEP leave1"; try dsimp only))))
            rename Fr _ _ _ _ => F5
            rename News _ _ _ _ => N5
            refine kst_range (σ := Int × Tok × List Value × List Int × Nat) (n := (ofL G).length) (fun c => (D, W.listOf c.2.2.1.toArray c.2.2.2.2) :: news) (fun c => [(Str.ofString "result", .int c.1 c.2.1)]) (fun c => IntsAre c.2.2.1 c.2.2.2.1 ∧ c.2.2.2.1.length = S.length)
              [Str.ofString "bchar", Str.ofString "distance", Str.ofString "minimum", Str.ofString "index", Str.ofString "substitute", Str.ofString "insert_delete"]
              (fun pre c => Kept (Mine.outer S mc (G.drop pre.length) pre.length c.2.2.2.1 c.1 = lev X Y mc)) (0, tk, ys, row0 (ofL S).length, c) rfl (by assumption) (small01 (by first | lia | omega)) (size01 _) F5 N5 ⟨hI, by simp [row0, ofL_len]⟩ ?hk5 hP0 ?turn5 ?done5
            case hk5 => exact List.forall_mem_cons.mpr ⟨rfl, List.forall_mem_nil _⟩
            case turn5 =>
              clear F5 N5 hP0 hI
              refine tup5 ?_
              rintro res tr vs row cn pre k tb' u h5 tk5 own hk hkn hoff ⟨hI, hlen⟩ hP F5 N5
              dsimp only [kstB] at F5 N5 hI hlen hP ⊢
              rw [Int.zero_add] at hk
              subst hk
              (((refine hideQ ?_); (intro _ _)))
              (repeat' ((fail_if_success (with_reducible show wpAny _ _ (PySem.exec (PySem.Stmt.While _ _ _ _) _) _ _ _)); (fail_if_success (with_reducible show wpAny _ _ (PySem.exec (PySem.Stmt.For _ _ _ _ _) _) _ _ _)); (fail_if_success (with_reducible show wpAny _ _ (PySem.pyIter _) _ _ _)); (fail_if_success (with_reducible show Kept _)); (fail_if_success (with_reducible show InvEndN _ _ _ _ _ _ _)); (first | ((((rename (∀ v (s' : Shared), _ → _) => hQ); (with_reducible refine hQ _ _ ?_); clear hQ; (try (rename (_ → Shared → Prop) => qQ; clear qQ))))) | (k_unfold; (try dsimp only)) | (k_end; wrow_close) | (with_reducible ((with_reducible show wpAny _ _ (setItem (Value.ref _) (Value.int _ _) (Value.int _ _)) _ _ _); (refine ksa_set ‹Fr _ _ _ _› ‹News _ _ _ _› (Upd.head (by assumption)) (by with_reducible assumption) (by omega) (by omega) (by omega) ?_); (intro _ _ _ _ _ _); (try dsimp only))) | (with_reducible ((with_reducible show wpAny _ _ (call (Value.ref 38) [Value.str _ _, Value.str _ _]) _ _ _); (refine useCtrI (c_sub _ _ _ _ ?_ ?_ _) ‹Below _ _ _ _› ‹Fr _ _ _ _› (by assumption) ‹News _ _ _ _› (by assumption) rfl (by omega) (by omega) ?_); (case' refine_1 => (simp only [ofL_len, List.length_cons, List.length_nil]; omega)); (case' refine_2 => (simp only [ofL_len, List.length_cons, List.length_nil]; omega)); (intro _ _ _ _ _); (try dsimp only))) | (with_reducible ((with_reducible show wpAny _ _ (call (Value.type _) [Value.ref _]) _ _ _); refine r_listRange2 rfl ‹Fr _ _ _ _› ‹News _ _ _ _› ‹IsRange _ _ _ _ _ _ _ _› (by omega) ?_; intro _ _ _ _ _ _ _ _ _; (try dsimp only))) | (with_reducible ((with_reducible show wpAny _ _ (subscriptTail _ _ (Value.str (ofL _) _) (Value.int _ _)) _ _ _); first | (refine r_item (by first | assumption | omega) (by first | assumption | omega) ?_ (by with_unfolding_all rfl) (by intro _; with_unfolding_all rfl); (try dsimp only)) | (refine r_item_back0 (by first | assumption | omega) (by first | assumption | omega) ?_ (by with_unfolding_all rfl) (by intro _; with_unfolding_all rfl); (try dsimp only)) | (refine r_item_back (by first | assumption | omega) (by first | assumption | omega) ?_ (by with_unfolding_all rfl) (by intro _; with_unfolding_all rfl); (try dsimp only)))) | (with_reducible ((with_reducible show wpAny _ _ (subscriptTail _ _ (Value.str (ofL _) _) (Value.int _ _)) _ _ _); first | (refine r_item (by first | assumption | omega) (by first | assumption | omega) ?_ (by with_unfolding_all rfl) (by intro _; with_unfolding_all rfl); (try dsimp only)) | (refine r_item_back0 (by first | assumption | omega) (by first | assumption | omega) ?_ (by with_unfolding_all rfl) (by intro _; with_unfolding_all rfl); (try dsimp only)) | (refine r_item_back (by first | assumption | omega) (by first | assumption | omega) ?_ (by with_unfolding_all rfl) (by intro _; with_unfolding_all rfl); (try dsimp only)))) | (with_reducible ((with_reducible show wpAny _ _ (subscriptTail _ _ (Value.str (ofL _) _) _) _ _ _); first | (refine r_slice_from (s := ⟨_, _, _, _, _⟩) ‹Fr _ _ _ _› ‹News _ _ _ _› (by first | assumption | omega) (by first | assumption | omega) ?_ (by with_unfolding_all rfl) (by intro _; with_unfolding_all rfl); intro _ _ _ _ _ _; (try dsimp only)) | (refine r_slice_upto (s := ⟨_, _, _, _, _⟩) ‹Fr _ _ _ _› ‹News _ _ _ _› (by first | assumption | omega) (by first | assumption | omega) (by first | assumption | omega) ?_ (by with_unfolding_all rfl) (by intro _; with_unfolding_all rfl); intro _ _ _ _ _ _; (try dsimp only)) | (refine r_slice_none (s := ⟨_, _, _, _, _⟩) ‹Fr _ _ _ _› ‹News _ _ _ _› (by first | assumption | omega) ?_ (by with_unfolding_all rfl) (by intro _; with_unfolding_all rfl); intro _ _ _ _ _; (try dsimp only)))) | ((with_reducible show wpAny _ _ (call (Value.ref 38) [Value.str _ _, Value.str _ _]) _ _ _); (refine useCtrI (c_sub _ _ _ _ ?_ ?_ _) ‹Below _ _ _ _› ‹Fr _ _ _ _› (by assumption) ‹News _ _ _ _› (by assumption) rfl (by omega) (by omega) ?_); (case' refine_1 => (simp only [ofL_len, List.length_cons, List.length_nil]; omega)); (case' refine_2 => (simp only [ofL_len, List.length_cons, List.length_nil]; omega)); (intro _ _ _ _ _); (try dsimp only)) | walk1 | (dsimp only; walk1) | (leave1; walk_say "STEP leave1"; try dsimp only))))
              rename Fr _ _ _ _ => F6
              rename News _ _ _ _ => N6
              refine For_invV g rfl rfl ?_
              (repeat' ((fail_if_success (with_reducible show wpAny _ _ (PySem.exec (PySem.Stmt.While _ _ _ _) _) _ _ _)); (fail_if_success (with_reducible show wpAny _ _ (PySem.exec (PySem.Stmt.For _ _ _ _ _) _) _ _ _)); (fail_if_success (with_reducible show wpAny _ _ (PySem.pyIter _) _ _ _)); (fail_if_success (with_reducible show Kept _)); (fail_if_success (with_reducible show InvEndN _ _ _ _ _ _ _)); (first | ((((rename (∀ v (s' : Shared), _ → _) => hQ); (with_reducible refine hQ _ _ ?_); clear hQ; (try (rename (_ → Shared → Prop) => qQ; clear qQ))))) | (k_unfold; (try dsimp only)) | (k_end; wrow_close) | (with_reducible ((with_reducible show wpAny _ _ (setItem (Value.ref _) (Value.int _ _) (Value.int _ _)) _ _ _); (refine ksa_set ‹Fr _ _ _ _› ‹News _ _ _ _› (Upd.head (by assumption)) (by with_reducible assumption) (by omega) (by omega) (by omega) ?_); (intro _ _ _ _ _ _); (try dsimp only))) | (with_reducible ((with_reducible show wpAny _ _ (call (Value.ref 38) [Value.str _ _, Value.str _ _]) _ _ _); (refine useCtrI (c_sub _ _ _ _ ?_ ?_ _) ‹Below _ _ _ _› ‹Fr _ _ _ _› (by assumption) ‹News _ _ _ _› (by assumption) rfl (by omega) (by omega) ?_); (case' refine_1 => (simp only [ofL_len, List.length_cons, List.length_nil]; omega)); (case' refine_2 => (simp only [ofL_len, List.length_cons, List.length_nil]; omega)); (intro _ _ _ _ _); (try dsimp only))) | (with_reducible ((with_reducible show wpAny _ _ (call (Value.type _) [Value.ref _]) _ _ _); refine r_listRange2 rfl ‹Fr _ _ _ _› ‹News _ _ _ _› ‹IsRange _ _ _ _ _ _ _ _› (by omega) ?_; intro _ _ _ _ _ _ _ _ _; (try dsimp only))) | (with_reducible ((with_reducible show wpAny _ _ (subscriptTail _ _ (Value.str (ofL _) _) (Value.int _ _)) _ _ _); first | (refine r_item (by first | assumption | omega) (by first | assumption | omega) ?_ (by with_unfolding_all rfl) (by intro _; with_unfolding_all rfl); (try dsimp only)) | (refine r_item_back0 (by first | assumption | omega) (by first | assumption | omega) ?_ (by with_unfolding_all rfl) (by intro _; with_unfolding_all rfl); (try dsimp only)) | (refine r_item_back (by first | assumption | omega) (by first | assumption | omega) ?_ (by with_unfolding_all rfl) (by intro _; with_unfolding_all rfl); (try dsimp only)))) | (with_reducible ((with_reducible show wpAny _ _ (subscriptTail _ _ (Value.str (ofL _) _) (Value.int _ _)) _ _ _); first | (refine r_item (by first | assumption | omega) (by first | assumption | omega) ?_ (by with_unfolding_all rfl) (by intro _; with_unfolding_all rfl); (try dsimp only)) | (refine r_item_back0 (by first | assumption | omega) (by first | assumption | omega) ?_ (by with_unfolding_all rfl) (by intro _; with_unfolding_all rfl); (try dsimp only)) | (refine r_item_back (by first | assumption | omega) (by first | assumption | omega) ?_ (by with_unfolding_all rfl) (by intro _; with_unfolding_all rfl); (try dsimp only)))) | (with_reducible ((with_reducible show wpAny _ _ (subscriptTail _ _ (Value.str (ofL _) _) _) _ _ _); first | (refine r_slice_from (s := ⟨_, _, _, _, _⟩) ‹Fr _ _ _ _› ‹News _ _ _ _› (by first | assumption | omega) (by first | assumption | omega) ?_ (by with_unfolding_all rfl) (by intro _; with_unfolding_all rfl); intro _ _ _ _ _ _; (try dsimp only)) | (refine r_slice_upto (s := ⟨_, _, _, _, _⟩) ‹Fr _ _ _ _› ‹News _ _ _ _› (by first | assumption | omega) (by first | assumption | omega) (by first | assumption | omega) ?_ (by with_unfolding_all rfl) (by intro _; with_unfolding_all rfl); intro _ _ _ _ _ _; (try dsimp only)) | (refine r_slice_none (s := ⟨_, _, _, _, _⟩) ‹Fr _ _ _ _› ‹News _ _ _ _› (by first | assumption | omega) ?_ (by with_unfolding_all rfl) (by intro _; with_unfolding_all rfl); intro _ _ _ _ _; (try dsimp only)))) | ((with_reducible show wpAny _ _ (call (Value.ref 38) [Value.str _ _, Value.str _ _]) _ _ _); (refine useCtrI (c_sub _ _ _ _ ?_ ?_ _) ‹Below _ _ _ _› ‹Fr _ _ _ _› (by assumption) ‹News _ _ _ _› (by assumption) rfl (by omega) (by omega) ?_); (case' refine_1 => (simp only [ofL_len, List.length_cons, List.length_nil]; omega)); (case' refine_2 => (simp only [ofL_len, List.length_cons, List.length_nil]; omega)); (intro _ _ _ _ _); (try dsimp only)) | walk1 | (dsimp only; walk1) | (leave1; walk_say "STEP leave1"; try dsimp only))))
              rename Fr _ _ _ _ => F7
              rename News _ _ _ _ => N7
              refine kst_range (σ := Int × Tok × Int × Tok × Int × Tok × List Value × List Int × Nat) (n := (ofL S).length) (fun c => (D, W.listOf c.2.2.2.2.2.2.1.toArray c.2.2.2.2.2.2.2.2) :: (news ++ own)) (fun c => [(Str.ofString "distance", .int c.1 c.2.1), (Str.ofString "result", .int c.2.2.1 c.2.2.2.1), (Str.ofString "minimum", .int c.2.2.2.2.1 c.2.2.2.2.2.1)]) (fun c => IntsAre c.2.2.2.2.2.2.1 c.2.2.2.2.2.2.2.1 ∧ c.2.2.2.2.2.2.2.1.length = S.length)
                [Str.ofString "substitute", Str.ofString "insert_delete"]
                (fun pre' c => Kept ((List.range pre'.length).foldl (inStep S (G.getD pre.length 0)) ((pre.length : Int) * 2, (pre.length : Int) * 2, 9223372036854775807, row) = (c.1, c.2.2.1, c.2.2.2.2.1, c.2.2.2.2.2.2.2.1)))
                ((pre.length : Int) * 2, tk, (pre.length : Int) * 2, tk, 9223372036854775807, tk + 1 + 1 + 1, vs, row, cn) rfl (by assumption) (small01 (by first | lia | omega)) (size01 _) F7 N7 ⟨hI, hlen⟩ ?hk6 (Kept.of rfl) ?turn6 ?done6
              case hk6 => exact List.forall_mem_cons.mpr ⟨rfl, List.forall_mem_cons.mpr ⟨rfl, List.forall_mem_cons.mpr ⟨rfl, List.forall_mem_nil _⟩⟩⟩
              case turn6 =>
                clear F7 N7 hP hI hlen
                refine tup9 ?_
                rintro d td r tr' mn tm vs' row' cn' pre' k' tk' u' h6 tk6 own' hk' hkn' hoff' ⟨hI', hlen'⟩ hP' F8 N8
                dsimp only [kstB] at F8 N8 hI' hlen' hP' ⊢
                rw [Int.zero_add] at hk'
                subst hk'
                have N8 : News g L' h6 ((D, W.listOf vs'.toArray cn') :: (news ++ own ++ own')) := N8
                have hne : ∀ p ∈ news ++ own ++ own', p.1 ≠ D := by
                  intro p hp
                  rcases List.mem_append.mp hp with hp | hp
                  · rcases List.mem_append.mp hp with hp | hp
                    · exact Nat.ne_of_lt (hD p hp)
                    · exact hoff p hp D (.head _)
                  · exact hoff' p hp D (.head _)
                (((refine hideQ ?_); (intro _ _)))
                (repeat' ((fail_if_success (with_reducible show wpAny _ _ (PySem.exec (PySem.Stmt.While _ _ _ _) _) _ _ _)); (fail_if_success (with_reducible show wpAny _ _ (PySem.exec (PySem.Stmt.For _ _ _ _ _) _) _ _ _)); (fail_if_success (with_reducible show wpAny _ _ (PySem.pyIter _) _ _ _)); (fail_if_success (with_reducible show Kept _)); (fail_if_success (with_reducible show InvEndN _ _ _ _ _ _ _)); (first | ((((rename (∀ v (s' : Shared), _ → _) => hQ); (with_reducible refine hQ _ _ ?_); clear hQ; (try (rename (_ → Shared → Prop) => qQ; clear qQ))))) | (k_unfold; (try dsimp only)) | (k_end; wrow_close) | (with_reducible ((with_reducible show wpAny _ _ (setItem (Value.ref _) (Value.int _ _) (Value.int _ _)) _ _ _); (refine ksa_set ‹Fr _ _ _ _› ‹News _ _ _ _› (Upd.head (by assumption)) (by with_reducible assumption) (by omega) (by omega) (by omega) ?_); (intro _ _ _ _ _ _); (try dsimp only))) | (with_reducible ((with_reducible show wpAny _ _ (call (Value.ref 38) [Value.str _ _, Value.str _ _]) _ _ _); (refine useCtrI (c_sub _ _ _ _ ?_ ?_ _) ‹Below _ _ _ _› ‹Fr _ _ _ _› (by assumption) ‹News _ _ _ _› (by assumption) rfl (by omega) (by omega) ?_); (case' refine_1 => (simp only [ofL_len, List.length_cons, List.length_nil]; omega)); (case' refine_2 => (simp only [ofL_len, List.length_cons, List.length_nil]; omega)); (intro _ _ _ _ _); (try dsimp only))) | (with_reducible ((with_reducible show wpAny _ _ (call (Value.type _) [Value.ref _]) _ _ _); refine r_listRange2 rfl ‹Fr _ _ _ _› ‹News _ _ _ _› ‹IsRange _ _ _ _ _ _ _ _› (by omega) ?_; intro _ _ _ _ _ _ _ _ _; (try dsimp only))) | (with_reducible ((with_reducible show wpAny _ _ (subscriptTail _ _ (Value.str (ofL _) _) (Value.int _ _)) _ _ _); first | (refine r_item (by first | assumption | omega) (by first | assumption | omega) ?_ (by with_unfolding_all rfl) (by intro _; with_unfolding_all rfl); (try dsimp only)) | (refine r_item_back0 (by first | assumption | omega) (by first | assumption | omega) ?_ (by with_unfolding_all rfl) (by intro _; with_unfolding_all rfl); (try dsimp only)) | (refine r_item_back (by first | assumption | omega) (by first | assumption | omega) ?_ (by with_unfolding_all rfl) (by intro _; with_unfolding_all rfl); (try dsimp only)))) | (with_reducible ((with_reducible show wpAny _ _ (subscriptTail _ _ (Value.str (ofL _) _) (Value.int _ _)) _ _ _); first | (refine r_item (by first | assumption | omega) (by first | assumption | omega) ?_ (by with_unfolding_all rfl) (by intro _; with_unfolding_all rfl); (try dsimp only)) | (refine r_item_back0 (by first | assumption | omega) (by first | assumption | omega) ?_ (by with_unfolding_all rfl) (by intro _; with_unfolding_all rfl); (try dsimp only)) | (refine r_item_back (by first | assumption | omega) (by first | assumption | omega) ?_ (by with_unfolding_all rfl) (by intro _; with_unfolding_all rfl); (try dsimp only)))) | (with_reducible ((with_reducible show wpAny _ _ (subscriptTail _ _ (Value.str (ofL _) _) _) _ _ _); first | (refine r_slice_from (s := ⟨_, _, _, _, _⟩) ‹Fr _ _ _ _› ‹News _ _ _ _› (by first | assumption | omega) (by first | assumption | omega) ?_ (by with_unfolding_all rfl) (by intro _; with_unfolding_all rfl); intro _ _ _ _ _ _; (try dsimp only)) | (refine r_slice_upto (s := ⟨_, _, _, _, _⟩) ‹Fr _ _ _ _› ‹News _ _ _ _› (by first | assumption | omega) (by first | assumption | omega) (by first | assumption | omega) ?_ (by with_unfolding_all rfl) (by intro _; with_unfolding_all rfl); intro _ _ _ _ _ _; (try dsimp only)) | (refine r_slice_none (s := ⟨_, _, _, _, _⟩) ‹Fr _ _ _ _› ‹News _ _ _ _› (by first | assumption | omega) ?_ (by with_unfolding_all rfl) (by intro _; with_unfolding_all rfl); intro _ _ _ _ _; (try dsimp only)))) | ((with_reducible show wpAny _ _ (call (Value.ref 38) [Value.str _ _, Value.str _ _]) _ _ _); (refine useCtrI (c_sub _ _ _ _ ?_ ?_ _) ‹Below _ _ _ _› ‹Fr _ _ _ _› (by assumption) ‹News _ _ _ _› (by assumption) rfl (by omega) (by omega) ?_); (case' refine_1 => (simp only [ofL_len, List.length_cons, List.length_nil]; omega)); (case' refine_2 => (simp only [ofL_len, List.length_cons, List.length_nil]; omega)); (intro _ _ _ _ _); (try dsimp only)) | walk1 | (dsimp only; walk1) | (leave1; walk_say "STEP leave1"; try dsimp only))))
                · rename Fr _ _ _ _ => F9
                  rename News _ _ _ _ => N9
                  rename (IntsAre (List.set _ _ _) _) => hIs
                  refine kst_end (row'.getD (pre'.length : Int).toNat 0, _, (if d + subCost (ofL [G.getD pre.length 0]) (ofL [S.getD pre'.length 0]) < (if row'.getD (pre'.length : Int).toNat 0 < r then row'.getD (pre'.length : Int).toNat 0 else r) + 2 then d + subCost (ofL [G.getD pre.length 0]) (ofL [S.getD pre'.length 0]) else (if row'.getD (pre'.length : Int).toNat 0 < r then row'.getD (pre'.length : Int).toNat 0 else r) + 2), _, (if d + subCost (ofL [G.getD pre.length 0]) (ofL [S.getD pre'.length 0]) < (if row'.getD (pre'.length : Int).toNat 0 < r then row'.getD (pre'.length : Int).toNat 0 else r) + 2 then d + subCost (ofL [G.getD pre.length 0]) (ofL [S.getD pre'.length 0]) else (if row'.getD (pre'.length : Int).toNat 0 < r then row'.getD (pre'.length : Int).toNat 0 else r) + 2), _, _, _, cn') F9 N9 ?_ ?_ ?_ ⟨hIs, by rw [List.length_set]; exact hlen'⟩ (List.forall_mem_cons.mpr ⟨rfl, List.forall_mem_cons.mpr ⟨rfl, List.forall_mem_cons.mpr ⟨rfl, List.forall_mem_nil _⟩⟩⟩) ?_ ?_
                  · intro p hp
                    rcases List.mem_cons.mp hp with rfl | hp
                    · exact .head _
                    · exact .tail _ (List.mem_append.mpr (.inl hp))
                  · exact fun p hp => .tail _ (List.mem_append.mpr (.inr hp))
                  · rfl
                  · intro z h1 h2 h3
                    have b1 : ¬ z = Str.ofString "distance" := h2 (Str.ofString "distance", _) (.head _)
                    have b2 : ¬ z = Str.ofString "result" := h2 (Str.ofString "result", _) (.tail _ (.head _))
                    have b3 : ¬ z = Str.ofString "minimum" := h2 (Str.ofString "minimum", _) (.tail _ (.tail _ (.head _)))
                    have h3' := h3
                    simp only [List.contains_cons, List.contains_nil, Bool.or_false, Bool.or_eq_false_iff, beq_eq_false_iff_ne, ne_eq] at h3
                    obtain ⟨a1, a2⟩ := h3
                    simp only [h1, b1, b2, b3, a1, a2, h3', if_false, Bool.false_eq_true]
                  · refine Kept.of ?_
                    rw [List.length_append, List.length_singleton, List.range_succ, List.foldl_append, hP'.out]
                    rename (_ < mn) => hlt
                    exact inStep_lt hlt
                · rename Fr _ _ _ _ => F9
                  rename News _ _ _ _ => N9
                  rename (IntsAre (List.set _ _ _) _) => hIs
                  refine kst_end (row'.getD (pre'.length : Int).toNat 0, _, (if d + subCost (ofL [G.getD pre.length 0]) (ofL [S.getD pre'.length 0]) < (if row'.getD (pre'.length : Int).toNat 0 < r then row'.getD (pre'.length : Int).toNat 0 else r) + 2 then d + subCost (ofL [G.getD pre.length 0]) (ofL [S.getD pre'.length 0]) else (if row'.getD (pre'.length : Int).toNat 0 < r then row'.getD (pre'.length : Int).toNat 0 else r) + 2), _, mn, _, _, _, cn') F9 N9 ?_ ?_ ?_ ⟨hIs, by rw [List.length_set]; exact hlen'⟩ (List.forall_mem_cons.mpr ⟨rfl, List.forall_mem_cons.mpr ⟨rfl, List.forall_mem_cons.mpr ⟨rfl, List.forall_mem_nil _⟩⟩⟩) ?_ ?_
                  · intro p hp
                    rcases List.mem_cons.mp hp with rfl | hp
                    · exact .head _
                    · exact .tail _ (List.mem_append.mpr (.inl hp))
                  · exact fun p hp => .tail _ (List.mem_append.mpr (.inr hp))
                  · rfl
                  · intro z h1 h2 h3
                    have b1 : ¬ z = Str.ofString "distance" := h2 (Str.ofString "distance", _) (.head _)
                    have b2 : ¬ z = Str.ofString "result" := h2 (Str.ofString "result", _) (.tail _ (.head _))
                    have b3 : ¬ z = Str.ofString "minimum" := h2 (Str.ofString "minimum", _) (.tail _ (.tail _ (.head _)))
                    have h3' := h3
                    simp only [List.contains_cons, List.contains_nil, Bool.or_false, Bool.or_eq_false_iff, beq_eq_false_iff_ne, ne_eq] at h3
                    obtain ⟨a1, a2⟩ := h3
                    simp only [h1, b1, b2, b3, a1, a2, h3', if_false, Bool.false_eq_true]
                  · refine Kept.of ?_
                    rw [List.length_append, List.length_singleton, List.range_succ, List.foldl_append, hP'.out]
                    rename (¬ _ < mn) => hlt
                    exact inStep_ge hlt
              case done6 =>
                clear F7 N7 hI hlen
                refine tup9 ?_
                rintro d td r tr' mn tm vs' row' cn' u' h6 tk6 ⟨hI', hlen'⟩ hP' F8 N8
                dsimp only [kstB] at F8 N8 hI' hlen' hP' ⊢
                rw [rangeKs_length, ofL_len] at hP'
                have hin : inner S (G.getD pre.length 0) pre.length row = (d, r, mn, row') := hP'.out
                have hdr : G.drop pre.length = G.getD pre.length 0 :: G.drop (pre.length + 1) := by
                  have : pre.length < G.length := by first | lia | omega
                  rw [List.drop_eq_getElem_cons this, List.getD_eq_getElem?_getD, List.getElem?_eq_getElem this]
                  rfl
                have hP2 := hP.out
                rw [hdr] at hP2
                unfold Mine.outer at hP2
                rw [hin] at hP2
                dsimp only at hP2
                have hP2 := Kept.of hP2
                clear hin hP hP'
                (((refine hideQ ?_); (intro _ _)))
                (repeat' ((fail_if_success (with_reducible show wpAny _ _ (PySem.exec (PySem.Stmt.While _ _ _ _) _) _ _ _)); (fail_if_success (with_reducible show wpAny _ _ (PySem.exec (PySem.Stmt.For _ _ _ _ _) _) _ _ _)); (fail_if_success (with_reducible show wpAny _ _ (PySem.pyIter _) _ _ _)); (fail_if_success (with_reducible show Kept _)); (fail_if_success (with_reducible show InvEndN _ _ _ _ _ _ _)); (first | ((((rename (∀ v (s' : Shared), _ → _) => hQ); (with_reducible refine hQ _ _ ?_); clear hQ; (try (rename (_ → Shared → Prop) => qQ; clear qQ))))) | (k_unfold; (try dsimp only)) | (k_end; wrow_close) | (with_reducible ((with_reducible show wpAny _ _ (setItem (Value.ref _) (Value.int _ _) (Value.int _ _)) _ _ _); (refine ksa_set ‹Fr _ _ _ _› ‹News _ _ _ _› (Upd.head (by assumption)) (by with_reducible assumption) (by omega) (by omega) (by omega) ?_); (intro _ _ _ _ _ _); (try dsimp only))) | (with_reducible ((with_reducible show wpAny _ _ (call (Value.ref 38) [Value.str _ _, Value.str _ _]) _ _ _); (refine useCtrI (c_sub _ _ _ _ ?_ ?_ _) ‹Below _ _ _ _› ‹Fr _ _ _ _› (by assumption) ‹News _ _ _ _› (by assumption) rfl (by omega) (by omega) ?_); (case' refine_1 => (simp only [ofL_len, List.length_cons, List.length_nil]; omega)); (case' refine_2 => (simp only [ofL_len, List.length_cons, List.length_nil]; omega)); (intro _ _ _ _ _); (try dsimp only))) | (with_reducible ((with_reducible show wpAny _ _ (call (Value.type _) [Value.ref _]) _ _ _); refine r_listRange2 rfl ‹Fr _ _ _ _› ‹News _ _ _ _› ‹IsRange _ _ _ _ _ _ _ _› (by omega) ?_; intro _ _ _ _ _ _ _ _ _; (try dsimp only))) | (with_reducible ((with_reducible show wpAny _ _ (subscriptTail _ _ (Value.str (ofL _) _) (Value.int _ _)) _ _ _); first | (refine r_item (by first | assumption | omega) (by first | assumption | omega) ?_ (by with_unfolding_all rfl) (by intro _; with_unfolding_all rfl); (try dsimp only)) | (refine r_item_back0 (by first | assumption | omega) (by first | assumption | omega) ?_ (by with_unfolding_all rfl) (by intro _; with_unfolding_all rfl); (try dsimp only)) | (refine r_item_back (by first | assumption | omega) (by first | assumption | omega) ?_ (by with_unfolding_all rfl) (by intro _; with_unfolding_all rfl); (try dsimp only)))) | (with_reducible ((with_reducible show wpAny _ _ (subscriptTail _ _ (Value.str (ofL _) _) (Value.int _ _)) _ _ _); first | (refine r_item (by first | assumption | omega) (by first | assumption | omega) ?_ (by with_unfolding_all rfl) (by intro _; with_unfolding_all rfl); (try dsimp only)) | (refine r_item_back0 (by first | assumption | omega) (by first | assumption | omega) ?_ (by with_unfolding_all rfl) (by intro _; with_unfolding_all rfl); (try dsimp only)) | (refine r_item_back (by first | assumption | omega) (by first | assumption | omega) ?_ (by with_unfolding_all rfl) (by intro _; with_unfolding_all rfl); (try dsimp only)))) | (with_reducible ((with_reducible show wpAny _ _ (subscriptTail _ _ (Value.str (ofL _) _) _) _ _ _); first | (refine r_slice_from (s := ⟨_, _, _, _, _⟩) ‹Fr _ _ _ _› ‹News _ _ _ _› (by first | assumption | omega) (by first | assumption | omega) ?_ (by with_unfolding_all rfl) (by intro _; with_unfolding_all rfl); intro _ _ _ _ _ _; (try dsimp only)) | (refine r_slice_upto (s := ⟨_, _, _, _, _⟩) ‹Fr _ _ _ _› ‹News _ _ _ _› (by first | assumption | omega) (by first | assumption | omega) (by first | assumption | omega) ?_ (by with_unfolding_all rfl) (by intro _; with_unfolding_all rfl); intro _ _ _ _ _ _; (try dsimp only)) | (refine r_slice_none (s := ⟨_, _, _, _, _⟩) ‹Fr _ _ _ _› ‹News _ _ _ _› (by first | assumption | omega) ?_ (by with_unfolding_all rfl) (by intro _; with_unfolding_all rfl); intro _ _ _ _ _; (try dsimp only)))) | ((with_reducible show wpAny _ _ (call (Value.ref 38) [Value.str _ _, Value.str _ _]) _ _ _); (refine useCtrI (c_sub _ _ _ _ ?_ ?_ _) ‹Below _ _ _ _› ‹Fr _ _ _ _› (by assumption) ‹News _ _ _ _› (by assumption) rfl (by omega) (by omega) ?_); (case' refine_1 => (simp only [ofL_len, List.length_cons, List.length_nil]; omega)); (case' refine_2 => (simp only [ofL_len, List.length_cons, List.length_nil]; omega)); (intro _ _ _ _ _); (try dsimp only)) | walk1 | (dsimp only; walk1) | (leave1; walk_say "STEP leave1"; try dsimp only))))
                · refine ret_int hret (by k_asm) (cb_drop (by k_asm) (fun p hp => List.Mem.tail _ (List.mem_append.mpr (.inl hp)))) ?_
                  rw [← hP2.out, if_pos (by first | lia | omega)]
                · rename Fr _ _ _ _ => F9
                  rename News _ _ _ _ => N9
                  refine kst_end (r, tr', vs', row', cn') F9 N9 ?_ ?_ rfl ⟨hI', hlen'⟩ ?_ ?_ ?_
                  · intro p hp
                    rcases List.mem_cons.mp hp with rfl | hp
                    · exact .head _
                    · exact .tail _ (List.mem_append.mpr (.inl hp))
                  · exact fun p hp => .tail _ (List.mem_append.mpr (.inr hp))
                  · exact List.forall_mem_cons.mpr ⟨rfl, List.forall_mem_nil _⟩
                  · intro z h1 h2 h3
                    have b1 : ¬ z = Str.ofString "result" := h2 (Str.ofString "result", _) (.head _)
                    have h3' := h3
                    simp only [List.contains_cons, List.contains_nil, Bool.or_false, Bool.or_eq_false_iff, beq_eq_false_iff_ne, ne_eq] at h3
                    refine hideG ?_
                    intro Cg hCg
                    obtain ⟨a1, a2, a3, a4, a5, a6⟩ := h3
                    refine hCg ?_
                    clear hCg Cg
                    simp only [h1, b1, a1, a2, a3, a4, a5, a6, h3', if_false, Bool.false_eq_true, List.contains_cons, List.contains_nil, Bool.or_false, beq_eq_false_iff_ne.mpr a5, beq_eq_false_iff_ne.mpr a6]
                  · refine Kept.of ?_
                    rw [List.length_append, List.length_singleton, ← hP2.out, if_neg (by first | lia | omega)]
            case done5 =>
              clear F5 N5 hP0 hI
              refine tup5 ?_
              rintro res tr vs row cn u h5 tk5 ⟨hI, hlen⟩ hP F5 N5
              dsimp only [kstB] at F5 N5 hI hlen hP ⊢
              rw [rangeKs_length, ofL_len, List.drop_length] at hP
              (((refine hideQ ?_); (intro _ _)))
              (repeat' ((fail_if_success (with_reducible show wpAny _ _ (PySem.exec (PySem.Stmt.While _ _ _ _) _) _ _ _)); (fail_if_success (with_reducible show wpAny _ _ (PySem.exec (PySem.Stmt.For _ _ _ _ _) _) _ _ _)); (fail_if_success (with_reducible show wpAny _ _ (PySem.pyIter _) _ _ _)); (fail_if_success (with_reducible show Kept _)); (fail_if_success (with_reducible show InvEndN _ _ _ _ _ _ _)); (first | ((((rename (∀ v (s' : Shared), _ → _) => hQ); (with_reducible refine hQ _ _ ?_); clear hQ; (try (rename (_ → Shared → Prop) => qQ; clear qQ))))) | (k_unfold; (try dsimp only)) | (k_end; wrow_close) | (with_reducible ((with_reducible show wpAny _ _ (setItem (Value.ref _) (Value.int _ _) (Value.int _ _)) _ _ _); (refine ksa_set ‹Fr _ _ _ _› ‹News _ _ _ _› (Upd.head (by assumption)) (by with_reducible assumption) (by omega) (by omega) (by omega) ?_); (intro _ _ _ _ _ _); (try dsimp only))) | (with_reducible ((with_reducible show wpAny _ _ (call (Value.ref 38) [Value.str _ _, Value.str _ _]) _ _ _); (refine useCtrI (c_sub _ _ _ _ ?_ ?_ _) ‹Below _ _ _ _› ‹Fr _ _ _ _› (by assumption) ‹News _ _ _ _› (by assumption) rfl (by omega) (by omega) ?_); (case' refine_1 => (simp only [ofL_len, List.length_cons, List.length_nil]; omega)); (case' refine_2 => (simp only [ofL_len, List.length_cons, List.length_nil]; omega)); (intro _ _ _ _ _); (try dsimp only))) | (with_reducible ((with_reducible show wpAny _ _ (call (Value.type _) [Value.ref _]) _ _ _); refine r_listRange2 rfl ‹Fr _ _ _ _› ‹News _ _ _ _› ‹IsRange _ _ _ _ _ _ _ _› (by omega) ?_; intro _ _ _ _ _ _ _ _ _; (try dsimp only))) | (with_reducible ((with_reducible show wpAny _ _ (subscriptTail _ _ (Value.str (ofL _) _) (Value.int _ _)) _ _ _); first | (refine r_item (by first | assumption | omega) (by first | assumption | omega) ?_ (by with_unfolding_all rfl) (by intro _; with_unfolding_all rfl); (try dsimp only)) | (refine r_item_back0 (by first | assumption | omega) (by first | assumption | omega) ?_ (by with_unfolding_all rfl) (by intro _; with_unfolding_all rfl); (try dsimp only)) | (refine r_item_back (by first | assumption | omega) (by first | assumption | omega) ?_ (by with_unfolding_all rfl) (by intro _; with_unfolding_all rfl); (try dsimp only)))) | (with_reducible ((with_reducible show wpAny _ _ (subscriptTail _ _ (Value.str (ofL _) _) (Value.int _ _)) _ _ _); first | (refine r_item (by first | assumption | omega) (by first | assumption | omega) ?_ (by with_unfolding_all rfl) (by intro _; with_unfolding_all rfl); (try dsimp only)) | (refine r_item_back0 (by first | assumption | omega) (by first | assumption | omega) ?_ (by with_unfolding_all rfl) (by intro _; with_unfolding_all rfl); (try dsimp only)) | (refine r_item_back (by first | assumption | omega) (by first | assumption | omega) ?_ (by with_unfolding_all rfl) (by intro _; with_unfolding_all rfl); (try dsimp only)))) | (with_reducible ((with_reducible show wpAny _ _ (subscriptTail _ _ (Value.str (ofL _) _) _) _ _ _); first | (refine r_slice_from (s := ⟨_, _, _, _, _⟩) ‹Fr _ _ _ _› ‹News _ _ _ _› (by first | assumption | omega) (by first | assumption | omega) ?_ (by with_unfolding_all rfl) (by intro _; with_unfolding_all rfl); intro _ _ _ _ _ _; (try dsimp only)) | (refine r_slice_upto (s := ⟨_, _, _, _, _⟩) ‹Fr _ _ _ _› ‹News _ _ _ _› (by first | assumption | omega) (by first | assumption | omega) (by first | assumption | omega) ?_ (by with_unfolding_all rfl) (by intro _; with_unfolding_all rfl); intro _ _ _ _ _ _; (try dsimp only)) | (refine r_slice_none (s := ⟨_, _, _, _, _⟩) ‹Fr _ _ _ _› ‹News _ _ _ _› (by first | assumption | omega) ?_ (by with_unfolding_all rfl) (by intro _; with_unfolding_all rfl); intro _ _ _ _ _; (try dsimp only)))) | ((with_reducible show wpAny _ _ (call (Value.ref 38) [Value.str _ _, Value.str _ _]) _ _ _); (refine useCtrI (c_sub _ _ _ _ ?_ ?_ _) ‹Below _ _ _ _› ‹Fr _ _ _ _› (by assumption) ‹News _ _ _ _› (by assumption) rfl (by omega) (by omega) ?_); (case' refine_1 => (simp only [ofL_len, List.length_cons, List.length_nil]; omega)); (case' refine_2 => (simp only [ofL_len, List.length_cons, List.length_nil]; omega)); (intro _ _ _ _ _); (try dsimp only)) | walk1 | (dsimp only; walk1) | (leave1; walk_say "STEP leave1"; try dsimp only))))
              refine ret_int hret (by k_asm) (cb_drop (by k_asm) (fun p hp => List.Mem.tail _ hp)) ?_
              rw [← hP.out]
              rfl
end Mine
end
section
open PySem PySem.W PyProof.Rows PySem.Spec PySem.Calls
set_option maxRecDepth 100000
set_option maxHeartbeats 0
set_option pp.maxSteps 4000
namespace Mine
theorem c_within {w : World} {mean mg mb} (told due limit : Int) (t1 t2 t3 : Tok) (news : List (Addr × Obj)) :
   Ctr w mean mg mb 91 2 20 news [.int told t1, .int due t2, .int limit t3] (fun r tl => tl = [] ∧ r = .bool (if due ≤ limit then (told == due) else decide (limit < told))) := by
  refine fillIt ?_
  k_fill
  intro _
  intro dp un gd cn cs a ccd cl outer A₀ base h₀ L m s Q E S hdp hun hret
  obtain ⟨B0, F0, X0, N0, T0, hk0⟩ := id S
  refine' callBody [(Str.ofString "told", .int told t1), (Str.ofString "due", .int due t2), (Str.ofString "limit", .int limit t3)] [(Str.ofString "limit", .int limit t3), (Str.ofString "due", .int due t2), (Str.ofString "told", .int told t1)] S ?ho ?hcd ?hr ?hb ?hl ?c2 ?c3 ?c4 ?c5 ?hrb hret ?_
  (((case ho => k_is); (case hcd => k_is); (case hr => omega); (case hb => exact BindsTo.of_eq rfl); (case hl => exact locs rfl); (case c2 => exact rfl); (case c3 => exact rfl); (case c4 => exact rfl); (case c5 => decide); (case hrb => rfl); k_whole))
  clear F0 N0 B0 X0 T0 S hret
  intro g L' h₁ F' N' B' X' T'
  (repeat' ((fail_if_success (with_reducible show wpAny _ _ (PySem.exec (PySem.Stmt.While _ _ _ _) _) _ _ _)); (fail_if_success (with_reducible show wpAny _ _ (PySem.exec (PySem.Stmt.For _ _ _ _ _) _) _ _ _)); (fail_if_success (with_reducible show wpAny _ _ (PySem.pyIter _) _ _ _)); (fail_if_success (with_reducible show Kept _)); (fail_if_success (with_reducible show InvEndN _ _ _ _ _ _ _)); (first | (k_unfold; (try dsimp only)) | (k_end; wrow_close) | walk1 | (dsimp only; walk1) | (leave1; walk_say "STEP leave1"; try dsimp only))))
  all_goals
    refine Came.ret [] (by assumption) (by assumption) ⟨rfl, ?_⟩
    first
      | rw [if_pos (by first | assumption | omega)]
      | rw [if_neg (by first | assumption | omega)]
end Mine
end
section
open PySem PySem.W PyProof.Rows PySem.Spec PySem.Calls
set_option maxRecDepth 100000
set_option maxHeartbeats 0
set_option pp.maxSteps 6000
namespace Mine
noncomputable def mT4 (S1 L1 : Nat) (n : Int) (tz : Tok) (y : Str) (tr : Tok) (x : Str) (ta : Tok) (bk : Int) (tb : Tok) (pl : Str) (tp : Tok) (cv : Str) (tc : Tok) (fv : Int) (tf : Tok) (u : Str → Option Value) : Str → Option Value := fun z => if z = Str.ofString "apart" then some (.str x ta) else if z = Str.ofString "row" then some (.str y tr) else if z = Str.ofString "signs" then some (.ref S1) else if z = Str.ofString "size" then some (.int n tz) else if z = Str.ofString "lists" then some (.ref L1) else if z = Str.ofString "back" then some (.int bk tb) else if z = Str.ofString "plain" then some (.str pl tp) else if z = Str.ofString "close" then some (.str cv tc) else if z = Str.ofString "far" then some (.int fv tf) else u z
theorem mT4_of {S1 L1 : Nat} {n : Int} {tz : Tok} {y : Str} {tr : Tok} {x : Str} {ta : Tok} {bk : Int} {tb : Tok} {pl : Str} {tp : Tok} {cv : Str} {tc : Tok} {fv : Int} {tf : Tok} {m : Str → Option Value} (h5 : m (Str.ofString "apart") = some (.str x ta)) (h4 : m (Str.ofString "row") = some (.str y tr)) (h2 : m (Str.ofString "signs") = some (.ref S1)) (h1 : m (Str.ofString "size") = some (.int n tz)) (h3 : m (Str.ofString "lists") = some (.ref L1)) (h6 : m (Str.ofString "back") = some (.int bk tb)) (h7 : m (Str.ofString "plain") = some (.str pl tp)) (h8 : m (Str.ofString "close") = some (.str cv tc)) (h9 : m (Str.ofString "far") = some (.int fv tf)) : m = mT4 S1 L1 n tz y tr x ta bk tb pl tp cv tc fv tf m := by
  funext z
  unfold mT4
  by_cases e0 : z = Str.ofString "apart"
  · rw [if_pos e0, e0, h5]
  rw [if_neg e0]
  by_cases e1 : z = Str.ofString "row"
  · rw [if_pos e1, e1, h4]
  rw [if_neg e1]
  by_cases e2 : z = Str.ofString "signs"
  · rw [if_pos e2, e2, h2]
  rw [if_neg e2]
  by_cases e3 : z = Str.ofString "size"
  · rw [if_pos e3, e3, h1]
  rw [if_neg e3]
  by_cases e4 : z = Str.ofString "lists"
  · rw [if_pos e4, e4, h3]
  rw [if_neg e4]
  by_cases e5 : z = Str.ofString "back"
  · rw [if_pos e5, e5, h6]
  rw [if_neg e5]
  by_cases e6 : z = Str.ofString "plain"
  · rw [if_pos e6, e6, h7]
  rw [if_neg e6]
  by_cases e7 : z = Str.ofString "close"
  · rw [if_pos e7, e7, h8]
  rw [if_neg e7]
  by_cases e8 : z = Str.ofString "far"
  · rw [if_pos e8, e8, h9]
  rw [if_neg e8]
noncomputable def mT5 (S1 L1 : Nat) (n : Int) (tz : Tok) (y : Str) (tr : Tok) (x : Str) (ta : Tok) (bk : Int) (tb : Tok) (pl : Str) (tp : Tok) (cv : Str) (tc : Tok) (fv : Int) (tf : Tok) (lm : Int) (tl : Tok) (u : Str → Option Value) : Str → Option Value := fun z => if z = Str.ofString "apart" then some (.str x ta) else if z = Str.ofString "row" then some (.str y tr) else if z = Str.ofString "signs" then some (.ref S1) else if z = Str.ofString "size" then some (.int n tz) else if z = Str.ofString "lists" then some (.ref L1) else if z = Str.ofString "back" then some (.int bk tb) else if z = Str.ofString "plain" then some (.str pl tp) else if z = Str.ofString "close" then some (.str cv tc) else if z = Str.ofString "far" then some (.int fv tf) else if z = Str.ofString "limit" then some (.int lm tl) else u z
theorem mT5_of {S1 L1 : Nat} {n : Int} {tz : Tok} {y : Str} {tr : Tok} {x : Str} {ta : Tok} {bk : Int} {tb : Tok} {pl : Str} {tp : Tok} {cv : Str} {tc : Tok} {fv : Int} {tf : Tok} {lm : Int} {tl : Tok} {m : Str → Option Value} (h5 : m (Str.ofString "apart") = some (.str x ta)) (h4 : m (Str.ofString "row") = some (.str y tr)) (h2 : m (Str.ofString "signs") = some (.ref S1)) (h1 : m (Str.ofString "size") = some (.int n tz)) (h3 : m (Str.ofString "lists") = some (.ref L1)) (h6 : m (Str.ofString "back") = some (.int bk tb)) (h7 : m (Str.ofString "plain") = some (.str pl tp)) (h8 : m (Str.ofString "close") = some (.str cv tc)) (h9 : m (Str.ofString "far") = some (.int fv tf)) (h10 : m (Str.ofString "limit") = some (.int lm tl)) : m = mT5 S1 L1 n tz y tr x ta bk tb pl tp cv tc fv tf lm tl m := by
  funext z
  unfold mT5
  by_cases e0 : z = Str.ofString "apart"
  · rw [if_pos e0, e0, h5]
  rw [if_neg e0]
  by_cases e1 : z = Str.ofString "row"
  · rw [if_pos e1, e1, h4]
  rw [if_neg e1]
  by_cases e2 : z = Str.ofString "signs"
  · rw [if_pos e2, e2, h2]
  rw [if_neg e2]
  by_cases e3 : z = Str.ofString "size"
  · rw [if_pos e3, e3, h1]
  rw [if_neg e3]
  by_cases e4 : z = Str.ofString "lists"
  · rw [if_pos e4, e4, h3]
  rw [if_neg e4]
  by_cases e5 : z = Str.ofString "back"
  · rw [if_pos e5, e5, h6]
  rw [if_neg e5]
  by_cases e6 : z = Str.ofString "plain"
  · rw [if_pos e6, e6, h7]
  rw [if_neg e6]
  by_cases e7 : z = Str.ofString "close"
  · rw [if_pos e7, e7, h8]
  rw [if_neg e7]
  by_cases e8 : z = Str.ofString "far"
  · rw [if_pos e8, e8, h9]
  rw [if_neg e8]
  by_cases e9 : z = Str.ofString "limit"
  · rw [if_pos e9, e9, h10]
  rw [if_neg e9]
noncomputable def R4 (L D : Addr) (ws : List Value) (o' : Obj) (ns : List Int) (tz : Tok) (x : Str) (b : Bool) (m : Str → Option Value) (nx : List (Addr × Obj)) : Prop :=
  R3 L D ws o' ns tz x b m nx ∧ (∃ lm tl, m (Str.ofString "limit") = some (.int lm tl))
theorem law9e {w : World} {mean mg mb} {h₁ h₀ : Heap} {L a D P it DT : Addr} {o oD : Obj} {ps : Array Value} {cd : Value} {s : Shared} {ns : List Int} {tz : Tok} {ws : List Value} {o' : Obj} {x : Str} {b : Bool} {m : Str → Option Value} {nx : List (Addr × Obj)} (F : Fr h₀ L s.heap m) (N : News h₀ L s.heap ((it, o) :: (DT, oD) :: nx)) (J : R3 L D ws o' ns tz x b m nx)
   (X : (hd.heap_1 w.params).In h₀) (T : Top VW LS mean mg mb h₀) (B : Based h₁ h₀ 64 P ps) (G : AllBare s.gens) :
   wpAny (model PG w) (lawA L a cd) (exec (forBody.getD 4 default) (lawEnv L a cd)) (fun f s' => Kept (f = .next ∧ LB w mean mg mb h₁ P L it DT o oD s (R4 L D ws o' ns tz x b) s')) (fun _ _ => False) s := by
  refine fillIt ?_
  k_fill
  intro _
  unfold forBody
  ((unfold lawA lawEnv lawBody lawScope lawDef PySem.Challenge.pw_pu0021_01; dsimp only [bodyOf, scopeOf, List.getLast!, List.getLast, List.drop, List.take, Option.getD, List.getD, List.getElem?_cons_zero, List.getElem?_cons_succ]))
  refine hideG ?_
  intro Cg hCg
  obtain ⟨hp, gs, dr, tk0, os0⟩ := s
  refine hCg ?_
  clear hCg Cg
  refine hideG ?_
  intro Cg hCg
  obtain ⟨⟨⟨⟨U1, S1, L1, bl, tv, sv, oT, cu, ca, cl, tr, ta, rfl, dT, hbl, hgood, hinc, hDL, hsv, htv, e1, e2, e3, e4, e5⟩, ⟨tb, e6⟩, ⟨tp, e7⟩⟩, ⟨tc, e8⟩⟩, ⟨tf, e9⟩⟩ := J
  refine hCg ?_
  clear hCg Cg
  dsimp only at F N G
  rw [mT4_of e5 e4 e2 e1 e3 e6 e7 e8 e9] at F
  unfold mT4 at F
  (repeat' ((fail_if_success (with_reducible show PyProof.Rows.LCg.CompSrc _ _ _ _ _ _ _ _ _ _ _ _ _ _)); (fail_if_success (with_reducible show wpAny _ _ (eval (PySem.Expr.ListComp _ _ _ _) _) _ _ _)); (fail_if_success (with_reducible show wpAny _ _ (compareOp _ _ _) _ _ _)); (fail_if_success (with_reducible show wpAny _ _ (binaryOp _ (Value.ref _) _) _ _ _)); (fail_if_success (with_reducible show wpAny _ _ (call (Value.builtin "str.join") _) _ _ _)); (fail_if_success (with_reducible show wpAny _ _ (call (Value.ref _) _) _ _ _)); (fail_if_success (with_reducible show wpAny _ _ (pyIter _) _ _ _)); (fail_if_success (with_reducible show wpAny _ _ (PySem.exec (PySem.Stmt.For _ _ _ _ _) _) _ _ _)); (fail_if_success (with_reducible show Kept _)); (first | (k_unfold; (try dsimp only)) | (k_end; wrow_close) | (with_reducible ((with_reducible show wpAny _ _ (subscriptTail _ _ (Value.ref _) (Value.int _ _)) _ _ _); refine r_item' ‹News _ _ _ _› (by ((repeat (first | assumption | exact List.Mem.head _ | apply List.mem_cons_of_mem | apply List.mem_append_left)))) rfl (by assumption) (by omega) ?_ (by with_unfolding_all rfl); (try dsimp only))) | walk1 | ((with_reducible show wpAny _ _ (subscriptTail _ _ (Value.ref _) (Value.int _ _)) _ _ _); refine r_item' ‹News _ _ _ _› (by ((repeat (first | assumption | exact List.Mem.head _ | apply List.mem_cons_of_mem | apply List.mem_append_left)))) rfl (by assumption) (by omega) ?_ (by with_unfolding_all rfl); (try dsimp only)) | (dsimp only; walk1) | (leave1; walk_say "STEP leave1"; try dsimp only))))
  rename Fr _ _ _ _ => F5
  rename News _ _ _ _ => N5
  exact Kept.of ⟨trivial, rfl, G, _, _, _, _, B, X, T, F5, fun q hq => N5 q (.tail _ hq), ⟨⟨⟨⟨U1, S1, L1, bl, tv, sv, oT, cu, ca, cl, tr, ta, rfl, dT, hbl, hgood, hinc, hDL, hsv, htv, rfl, rfl, rfl, rfl, rfl⟩, ⟨_, rfl⟩, ⟨_, rfl⟩⟩, ⟨_, rfl⟩⟩, ⟨_, rfl⟩⟩, ⟨_, _, rfl⟩⟩
theorem far_dist (ns : List Int) (b : Bool) : DistIs (farV ns b) (lev (45 :: (rowOf (turN ns) b ++ [46])) (apartL (ordOf ns))) ∧ DistIs (farV ns b) (lev (apartL (ordOf ns)) (45 :: (rowOf (turN ns) b ++ [46]))) :=
  dist_law b (bOf_mem _) (trans_bOf _ (P5_comp ns)) (turN_mem ns)
theorem within_of {f : Int → Int} {far : Int} (D : DistIs far f) (lim : Int) : (if far ≤ lim then (f lim == far) else decide (lim < f lim)) = true := by
  split
  · rename_i h
    rw [D.1 lim h]
    simp
  · rename_i h
    exact decide_eq_true (D.2 lim (by omega))
noncomputable def leftL (ns : List Int) (b c : Bool) : List Nat := bif c then apartL (ordOf ns) else 45 :: (rowOf (turN ns) b ++ [46])
theorem leftL_len (ns : List Int) (b c : Bool) : (leftL ns b c).length ≤ 1000 := by
  have h1 : (apartL (ordOf ns)).length ≤ 1000 := by
    have h5 := (ord_five ns).1
    unfold apartL
    rw [List.length_append, List.length_flatMap]
    match ordOf ns, h5 with
    | [_, _, _, _, _], _ => exact Nat.le_of_ble_eq_true rfl
  cases c
  · cases b <;> exact Nat.le_of_ble_eq_true rfl
  · exact h1
theorem law9f {w : World} {mean mg mb} {h₁ h₀ : Heap} {L a D P it DT : Addr} {o oD : Obj} {ps : Array Value} {cd : Value} {s : Shared} {ns : List Int} {tz : Tok} {ws : List Value} {o' : Obj} {x : Str} {b : Bool} {m : Str → Option Value} {nx : List (Addr × Obj)} (F : Fr h₀ L s.heap m) (N : News h₀ L s.heap ((it, o) :: (DT, oD) :: nx)) (J : R4 L D ws o' ns tz x b m nx)
   (X : (hd.heap_1 w.params).In h₀) (T : Top VW LS mean mg mb h₀) (B : Based h₁ h₀ 64 P ps) (G : AllBare s.gens) (hx : x = ofL (apartL (ordOf ns))) :
   wpAny (model PG w) (lawA L a cd) (execs (forBody.drop 5) (lawEnv L a cd)) (fun f s' => Kept (f = .next ∧ LB w mean mg mb h₁ P L it DT o oD s (L6 L D ws o' ns tz x) s')) (fun _ _ => False) s := by
  refine fillIt ?_
  k_fill
  intro _
  unfold forBody
  ((unfold lawA lawEnv lawBody lawScope lawDef PySem.Challenge.pw_pu0021_01; dsimp only [bodyOf, scopeOf, List.getLast!, List.getLast, List.drop, List.take, Option.getD, List.getD, List.getElem?_cons_zero, List.getElem?_cons_succ]))
  refine hideG ?_
  intro Cg hCg
  obtain ⟨hp, gs, dr, tk0, os0⟩ := s
  refine hCg ?_
  clear hCg Cg
  refine hideG ?_
  intro Cg hCg
  obtain ⟨⟨⟨⟨⟨U1, S1, L1, bl, tv, sv, oT, cu, ca, cl, tr, ta, rfl, dT, hbl, hgood, hinc, hDL, hsv, htv, e1, e2, e3, e4, e5⟩, ⟨tb, e6⟩, ⟨tp, e7⟩⟩, ⟨tc, e8⟩⟩, ⟨tf, e9⟩⟩, ⟨lm, tl, e10⟩⟩ := J
  refine hCg ?_
  clear hCg Cg
  dsimp only at F N G
  subst hx
  rw [mT5_of e5 e4 e2 e1 e3 e6 e7 e8 e9 e10] at F
  unfold mT5 at F
  (repeat' ((fail_if_success (with_reducible show PyProof.Rows.LCg.CompSrc _ _ _ _ _ _ _ _ _ _ _ _ _ _)); (fail_if_success (with_reducible show wpAny _ _ (eval (PySem.Expr.ListComp _ _ _ _) _) _ _ _)); (fail_if_success (with_reducible show wpAny _ _ (compareOp _ _ _) _ _ _)); (fail_if_success (with_reducible show wpAny _ _ (binaryOp _ (Value.ref _) _) _ _ _)); (fail_if_success (with_reducible show wpAny _ _ (call (Value.builtin "str.join") _) _ _ _)); (fail_if_success (with_reducible show wpAny _ _ (call (Value.ref _) _) _ _ _)); (fail_if_success (with_reducible show wpAny _ _ (pyIter _) _ _ _)); (fail_if_success (with_reducible show wpAny _ _ (PySem.exec (PySem.Stmt.For _ _ _ _ _) _) _ _ _)); (fail_if_success (with_reducible show Kept _)); (first | (k_unfold; (try dsimp only)) | (k_end; wrow_close) | (with_reducible ((with_reducible show wpAny _ _ (subscriptTail _ _ (Value.ref _) (Value.int _ _)) _ _ _); refine r_item' ‹News _ _ _ _› (by ((repeat (first | assumption | exact List.Mem.head _ | apply List.mem_cons_of_mem | apply List.mem_append_left)))) rfl (by assumption) (by omega) ?_ (by with_unfolding_all rfl); (try dsimp only))) | walk1 | ((with_reducible show wpAny _ _ (subscriptTail _ _ (Value.ref _) (Value.int _ _)) _ _ _); refine r_item' ‹News _ _ _ _› (by ((repeat (first | assumption | exact List.Mem.head _ | apply List.mem_cons_of_mem | apply List.mem_append_left)))) rfl (by assumption) (by omega) ?_ (by with_unfolding_all rfl); (try dsimp only)) | (dsimp only; walk1) | (leave1; walk_say "STEP leave1"; try dsimp only))))
  rename Fr _ _ _ _ => F5
  rename News _ _ _ _ => N5
  obtain ⟨c, hc⟩ : ∃ c : Bool, (ns.length : Int).fmod 2 = (((bif c then 1 else 0) : Nat) : Int) := by
    have h0 := Int.fmod_nonneg_of_pos (ns.length : Int) (b := 2) (by decide)
    have h1 := Int.fmod_lt_of_pos (ns.length : Int) (b := 2) (by decide)
    rcases (by omega : (ns.length : Int).fmod 2 = 0 ∨ (ns.length : Int).fmod 2 = 1) with h | h
    · exact ⟨false, h⟩
    · exact ⟨true, h⟩
  refine r_item' (v := .str (ofL (leftL ns b c)) (bif c then ta else tc)) N5 (.head _) hc (by cases c <;> rfl) (by exact Nat.le_of_ble_eq_true rfl) ?_ (by with_unfolding_all rfl)
  (repeat' ((fail_if_success (with_reducible show PyProof.Rows.LCg.CompSrc _ _ _ _ _ _ _ _ _ _ _ _ _ _)); (fail_if_success (with_reducible show wpAny _ _ (eval (PySem.Expr.ListComp _ _ _ _) _) _ _ _)); (fail_if_success (with_reducible show wpAny _ _ (compareOp _ _ _) _ _ _)); (fail_if_success (with_reducible show wpAny _ _ (binaryOp _ (Value.ref _) _) _ _ _)); (fail_if_success (with_reducible show wpAny _ _ (call (Value.builtin "str.join") _) _ _ _)); (fail_if_success (with_reducible show wpAny _ _ (call (Value.ref _) _) _ _ _)); (fail_if_success (with_reducible show wpAny _ _ (pyIter _) _ _ _)); (fail_if_success (with_reducible show wpAny _ _ (PySem.exec (PySem.Stmt.For _ _ _ _ _) _) _ _ _)); (fail_if_success (with_reducible show Kept _)); (first | (k_unfold; (try dsimp only)) | (k_end; wrow_close) | (with_reducible ((with_reducible show wpAny _ _ (subscriptTail _ _ (Value.ref _) (Value.int _ _)) _ _ _); refine r_item' ‹News _ _ _ _› (by ((repeat (first | assumption | exact List.Mem.head _ | apply List.mem_cons_of_mem | apply List.mem_append_left)))) rfl (by assumption) (by omega) ?_ (by with_unfolding_all rfl); (try dsimp only))) | walk1 | ((with_reducible show wpAny _ _ (subscriptTail _ _ (Value.ref _) (Value.int _ _)) _ _ _); refine r_item' ‹News _ _ _ _› (by ((repeat (first | assumption | exact List.Mem.head _ | apply List.mem_cons_of_mem | apply List.mem_append_left)))) rfl (by assumption) (by omega) ?_ (by with_unfolding_all rfl); (try dsimp only)) | (dsimp only; walk1) | (leave1; walk_say "STEP leave1"; try dsimp only))))
  rename Fr _ _ _ _ => F6
  rename News _ _ _ _ => N6
  have hc2 : (1 : Int) - (ns.length : Int).fmod 2 = (((bif c then 0 else 1) : Nat) : Int) := by
    rw [hc]
    cases c <;> rfl
  refine r_item' (v := .str (ofL (leftL ns b !c)) (bif c then tc else ta)) N6 (.head _) hc2 (by cases c <;> rfl) (by exact Nat.le_of_ble_eq_true rfl) ?_ (by with_unfolding_all rfl)
  (repeat' ((fail_if_success (with_reducible show PyProof.Rows.LCg.CompSrc _ _ _ _ _ _ _ _ _ _ _ _ _ _)); (fail_if_success (with_reducible show wpAny _ _ (eval (PySem.Expr.ListComp _ _ _ _) _) _ _ _)); (fail_if_success (with_reducible show wpAny _ _ (compareOp _ _ _) _ _ _)); (fail_if_success (with_reducible show wpAny _ _ (binaryOp _ (Value.ref _) _) _ _ _)); (fail_if_success (with_reducible show wpAny _ _ (call (Value.builtin "str.join") _) _ _ _)); (fail_if_success (with_reducible show wpAny _ _ (call (Value.ref _) _) _ _ _)); (fail_if_success (with_reducible show wpAny _ _ (pyIter _) _ _ _)); (fail_if_success (with_reducible show wpAny _ _ (PySem.exec (PySem.Stmt.For _ _ _ _ _) _) _ _ _)); (fail_if_success (with_reducible show Kept _)); (first | (k_unfold; (try dsimp only)) | (k_end; wrow_close) | (with_reducible ((with_reducible show wpAny _ _ (subscriptTail _ _ (Value.ref _) (Value.int _ _)) _ _ _); refine r_item' ‹News _ _ _ _› (by ((repeat (first | assumption | exact List.Mem.head _ | apply List.mem_cons_of_mem | apply List.mem_append_left)))) rfl (by assumption) (by omega) ?_ (by with_unfolding_all rfl); (try dsimp only))) | walk1 | ((with_reducible show wpAny _ _ (subscriptTail _ _ (Value.ref _) (Value.int _ _)) _ _ _); refine r_item' ‹News _ _ _ _› (by ((repeat (first | assumption | exact List.Mem.head _ | apply List.mem_cons_of_mem | apply List.mem_append_left)))) rfl (by assumption) (by omega) ?_ (by with_unfolding_all rfl); (try dsimp only)) | (dsimp only; walk1) | (leave1; walk_say "STEP leave1"; try dsimp only))))
  rename Fr _ _ _ _ => F7
  rename News _ _ _ _ => N7
  have hD : DistIs (farV ns b) (lev (leftL ns b c) (leftL ns b !c)) := by
    cases c
    · exact (far_dist ns b).1
    · exact (far_dist ns b).2
  refine useL (c_lev (leftL ns b c) (leftL ns b !c) _ _ tl lm (leftL_len ns b c) (leftL_len ns b !c) _) rfl F7 X N7 T (by decide) (by decide) ?_
  rintro r tq h11 tk11 F11 N11 ⟨rfl, tg, rfl⟩
  simp only [List.nil_append] at N11
  dsimp only at F11 N11 ⊢
  have hW := within_of hD lm
  generalize lev (leftL ns b c) (leftL ns b !c) lm = gv at hW ⊢
  clear hD F7 N7
  (repeat' ((fail_if_success (with_reducible show PyProof.Rows.LCg.CompSrc _ _ _ _ _ _ _ _ _ _ _ _ _ _)); (fail_if_success (with_reducible show wpAny _ _ (eval (PySem.Expr.ListComp _ _ _ _) _) _ _ _)); (fail_if_success (with_reducible show wpAny _ _ (compareOp _ _ _) _ _ _)); (fail_if_success (with_reducible show wpAny _ _ (binaryOp _ (Value.ref _) _) _ _ _)); (fail_if_success (with_reducible show wpAny _ _ (call (Value.builtin "str.join") _) _ _ _)); (fail_if_success (with_reducible show wpAny _ _ (call (Value.ref _) _) _ _ _)); (fail_if_success (with_reducible show wpAny _ _ (pyIter _) _ _ _)); (fail_if_success (with_reducible show wpAny _ _ (PySem.exec (PySem.Stmt.For _ _ _ _ _) _) _ _ _)); (fail_if_success (with_reducible show Kept _)); (first | (k_unfold; (try dsimp only)) | (k_end; wrow_close) | (with_reducible ((with_reducible show wpAny _ _ (subscriptTail _ _ (Value.ref _) (Value.int _ _)) _ _ _); refine r_item' ‹News _ _ _ _› (by ((repeat (first | assumption | exact List.Mem.head _ | apply List.mem_cons_of_mem | apply List.mem_append_left)))) rfl (by assumption) (by omega) ?_ (by with_unfolding_all rfl); (try dsimp only))) | walk1 | ((with_reducible show wpAny _ _ (subscriptTail _ _ (Value.ref _) (Value.int _ _)) _ _ _); refine r_item' ‹News _ _ _ _› (by ((repeat (first | assumption | exact List.Mem.head _ | apply List.mem_cons_of_mem | apply List.mem_append_left)))) rfl (by assumption) (by omega) ?_ (by with_unfolding_all rfl); (try dsimp only)) | (dsimp only; walk1) | (leave1; walk_say "STEP leave1"; try dsimp only))))
  rename Fr _ _ _ _ => F8
  rename News _ _ _ _ => N8
  refine useL (c_within gv (farV ns b) lm _ _ _ _) rfl F8 X N8 T (by decide) (by decide) ?_
  rintro r tq h12 tk12 F12 N12 ⟨rfl, rfl⟩
  simp only [List.nil_append] at N12
  dsimp only at F12 N12 ⊢
  rw [hW]
  clear hW F8 N8
  (repeat' ((fail_if_success (with_reducible show PyProof.Rows.LCg.CompSrc _ _ _ _ _ _ _ _ _ _ _ _ _ _)); (fail_if_success (with_reducible show wpAny _ _ (eval (PySem.Expr.ListComp _ _ _ _) _) _ _ _)); (fail_if_success (with_reducible show wpAny _ _ (compareOp _ _ _) _ _ _)); (fail_if_success (with_reducible show wpAny _ _ (binaryOp _ (Value.ref _) _) _ _ _)); (fail_if_success (with_reducible show wpAny _ _ (call (Value.builtin "str.join") _) _ _ _)); (fail_if_success (with_reducible show wpAny _ _ (call (Value.ref _) _) _ _ _)); (fail_if_success (with_reducible show wpAny _ _ (pyIter _) _ _ _)); (fail_if_success (with_reducible show wpAny _ _ (PySem.exec (PySem.Stmt.For _ _ _ _ _) _) _ _ _)); (fail_if_success (with_reducible show Kept _)); (first | (k_unfold; (try dsimp only)) | (k_end; wrow_close) | (with_reducible ((with_reducible show wpAny _ _ (subscriptTail _ _ (Value.ref _) (Value.int _ _)) _ _ _); refine r_item' ‹News _ _ _ _› (by ((repeat (first | assumption | exact List.Mem.head _ | apply List.mem_cons_of_mem | apply List.mem_append_left)))) rfl (by assumption) (by omega) ?_ (by with_unfolding_all rfl); (try dsimp only))) | walk1 | ((with_reducible show wpAny _ _ (subscriptTail _ _ (Value.ref _) (Value.int _ _)) _ _ _); refine r_item' ‹News _ _ _ _› (by ((repeat (first | assumption | exact List.Mem.head _ | apply List.mem_cons_of_mem | apply List.mem_append_left)))) rfl (by assumption) (by omega) ?_ (by with_unfolding_all rfl); (try dsimp only)) | (dsimp only; walk1) | (leave1; walk_say "STEP leave1"; try dsimp only))))
  rename Fr _ _ _ _ => F13
  rename News _ _ _ _ => N13
  exact Kept.of ⟨rfl, rfl, G, _, _, _, _, B, X, T, F13, fun q hq => N13 q (.tail _ hq), ⟨U1, S1, L1, bl, tv, sv, oT, cu, ca, cl, tr, ta, rfl, dT, hbl, hgood, hinc, hDL, hsv, htv, rfl, rfl, rfl, rfl, rfl⟩⟩
end Mine
end
section
open PySem PySem.W PyProof.Rows PySem.Spec PySem.Calls
set_option maxRecDepth 100000
set_option maxHeartbeats 0
set_option pp.maxSteps 6000
namespace Mine
theorem apart_len (ns : List Int) : (ofL (apartL (ordOf ns))).length = 36 := by
  have h5 := (ord_five ns).1
  rw [ofL_len]
  match ordOf ns, h5 with
  | [_, _, _, _, _], _ => rfl
theorem lawTurn {w : World} {mean mg mb} {h₁ h₀ : Heap} {L a D P it DT : Addr} {o oD : Obj} {ps : Array Value} {cd : Value} {s : Shared} {ns : List Int} {tz tb : Tok} {ws : List Value} {o' : Obj} {x : Str} {b : Bool} {m : Str → Option Value} {nx : List (Addr × Obj)} (F : Fr h₀ L s.heap m) (N : News h₀ L s.heap ((it, o) :: (DT, oD) :: nx)) (J : L6 L D ws o' ns tz x m nx)
   (X : (hd.heap_1 w.params).In h₀) (T : Top VW LS mean mg mb h₀) (B : Based h₁ h₀ 64 P ps) (G : AllBare s.gens) (hb : m (Str.ofString "back") = some (.int (backOf b) tb)) (hx : x = ofL (apartL (ordOf ns))) :
   wpAny (model PG w) (lawA L a cd) (execs forBody (lawEnv L a cd)) (fun f s' => Kept (f = .next ∧ LB w mean mg mb h₁ P L it DT o oD s (L6 L D ws o' ns tz x) s')) (fun _ _ => False) s := by
  have e : forBody = forBody.getD 0 default :: forBody.getD 1 default :: forBody.getD 2 default :: forBody.getD 3 default :: forBody.getD 4 default :: forBody.drop 5 := rfl
  have hx36 : x.length = 36 := by rw [hx]; exact apart_len ns
  rw [e]
  with_reducible refine seqA _ (law9a F N J X T B G hb) ?_
  intro s1 hRg
  refine hideG ?_
  intro Cg hCg
  obtain ⟨ho1, G1, g1, ps1, m1, nx1, B1, X1, T1, F1, N1, J1⟩ := hRg
  refine hCg ?_
  clear hCg Cg
  with_reducible refine seqA _ (law9b F1 N1 J1 X1 T1 B1 G1) ?_
  intro s2 hRg
  refine hideG ?_
  intro Cg hCg
  obtain ⟨ho2, G2, g2, ps2, m2, nx2, B2, X2, T2, F2, N2, J2⟩ := hRg
  refine hCg ?_
  clear hCg Cg
  with_reducible refine seqA _ (law9c F2 N2 J2 X2 T2 B2 G2) ?_
  intro s3 hRg
  refine hideG ?_
  intro Cg hCg
  obtain ⟨ho3, G3, g3, ps3, m3, nx3, B3, X3, T3, F3, N3, J3⟩ := hRg
  refine hCg ?_
  clear hCg Cg
  with_reducible refine seqA _ (law9d F3 N3 J3 X3 T3 B3 G3 hx36) ?_
  intro s4 hRg
  refine hideG ?_
  intro Cg hCg
  obtain ⟨ho4, G4, g4, ps4, m4, nx4, B4, X4, T4, F4, N4, J4⟩ := hRg
  refine hCg ?_
  clear hCg Cg
  with_reducible refine seqA _ (law9e F4 N4 J4 X4 T4 B4 G4) ?_
  intro s5 hRg
  refine hideG ?_
  intro Cg hCg
  obtain ⟨ho5, G5, g5, ps5, m5, nx5, B5, X5, T5, F5, N5, J5⟩ := hRg
  refine hCg ?_
  clear hCg Cg
  refine wpAny_mono (law9f F5 N5 J5 X5 T5 B5 G5 hx) (fun f s' h => ?_) fun _ _ e => e
  obtain ⟨rfl, ho6, r⟩ := h
  exact Kept.of ⟨rfl, ho6.trans (ho5.trans (ho4.trans (ho3.trans (ho2.trans ho1)))), r⟩
theorem blk_cls : ∀ (l : List Blk) (k : Nat), ∀ p ∈ blkObjs k l, p.2.cls = .type "list"
  | [], _, p, hp => nomatch hp
  | b :: r, k, p, hp => by
    rcases List.mem_append.mp hp with hp | hp
    · simp only [Blk.objs, List.mem_cons, List.not_mem_nil, or_false] at hp
      rcases hp with rfl | rfl | rfl | rfl <;> rfl
    · exact blk_cls r (k + 1) p hp
theorem L6.apart {L D it : Addr} {ws : List Value} {o' : Obj} {ns : List Int} {tz : Tok} {x : Str} {m : Str → Option Value} {nx : List (Addr × Obj)} (J : L6 L D ws o' ns tz x m nx) (h : @LT.lt Nat _ (L + 1 + 1) it) : ∀ p ∈ nx, p.1 ≠ it ∨ p.2.cls ≠ .type "tuple_iterator" := by
  refine hideG ?_
  intro Cg hCg
  obtain ⟨U1, S1, L1, bl, tv, sv, oT, cu, ca, cl, tr, ta, rfl, _⟩ := J
  refine hCg ?_
  clear hCg Cg
  have hl : ∀ {q : Obj}, q.cls = .type "list" → q.cls ≠ .type "tuple_iterator" := fun e q => by rw [e] at q; simp at q
  intro p hp
  simp only [List.mem_cons] at hp
  rcases hp with rfl | rfl | rfl | rfl | rfl | rfl | hp
  · exact .inr (hl rfl)
  · exact .inr (hl rfl)
  · exact .inr (hl rfl)
  · exact .inr (hl rfl)
  · exact .inl (Nat.ne_of_lt h)
  · exact .inl (Nat.ne_of_lt (Nat.lt_trans (Nat.lt_succ_self _) h))
  · exact .inr (hl (blk_cls bl 0 p hp))
noncomputable def JT (w : World) (mean : ExcName → Option Value) (mg mb : Str → Option Value) (h₁ : Heap) (P L D : Addr) (os : OsState) (ws : List Value) (o' : Obj) (ns : List Int) (tz : Tok) (x : Str) (_ : Nat) (g : Heap) (m : Str → Option Value) (nx : List (Addr × Obj)) (s' : Shared) : Prop :=
  s'.os = os ∧ AllBare s'.gens ∧ (∃ ps, Based h₁ g 64 P ps) ∧ (hd.heap_1 w.params).In g ∧ Top VW LS mean mg mb g ∧ L6 L D ws o' ns tz x m nx
theorem law10 {w : World} {mean mg mb} {h₁ h₀ : Heap} {L a D P : Addr} {ps : Array Value} {cd : Value} {s : Shared} {ns : List Int} {tz : Tok} {ws : List Value} {o' : Obj} {x : Str} {m : Str → Option Value} {nx : List (Addr × Obj)} (F : Fr h₀ L s.heap m) (N : News h₀ L s.heap nx) (J : L6 L D ws o' ns tz x m nx)
   (X : (hd.heap_1 w.params).In h₀) (T : Top VW LS mean mg mb h₀) (B : Based h₁ h₀ 64 P ps) (G : AllBare s.gens) (hx : x = ofL (apartL (ordOf ns))) :
   wpAny (model PG w) (lawA L a cd) (exec (lawBody.getD 14 default) (lawEnv L a cd)) (fun f s' => Kept (f = .next ∧ LG w mean mg mb h₁ P L s (fun _ _ => True) s')) (fun _ _ => False) s := by
  refine fillIt ?_
  k_fill
  intro _
  ((unfold lawA lawEnv lawBody lawScope lawDef PySem.Challenge.pw_pu0021_01; dsimp only [bodyOf, scopeOf, List.getLast!, List.getLast, List.drop, List.take, Option.getD, List.getD, List.getElem?_cons_zero, List.getElem?_cons_succ]))
  refine hideG ?_
  intro Cg hCg
  obtain ⟨hp, gs, dr, tk0, os0⟩ := s
  refine hCg ?_
  clear hCg Cg
  refine hideG ?_
  intro Cg hCg
  obtain ⟨U1, S1, L1, bl, tv, sv, oT, cu, ca, cl, tr, ta, rfl, dT, hbl, hgood, hinc, hDL, hsv, htv, e1, e2, e3, e4, e5⟩ := J
  refine hCg ?_
  clear hCg Cg
  dsimp only at F N G
  rw [mAp_of e1 e2 e3 e4 e5] at F
  unfold mAp at F
  refine wpAny_For ?_
  (repeat' ((fail_if_success (with_reducible show PyProof.Rows.LCg.CompSrc _ _ _ _ _ _ _ _ _ _ _ _ _ _)); (fail_if_success (with_reducible show wpAny _ _ (eval (PySem.Expr.ListComp _ _ _ _) _) _ _ _)); (fail_if_success (with_reducible show wpAny _ _ (compareOp _ _ _) _ _ _)); (fail_if_success (with_reducible show wpAny _ _ (binaryOp _ (Value.ref _) _) _ _ _)); (fail_if_success (with_reducible show wpAny _ _ (call (Value.builtin "str.join") _) _ _ _)); (fail_if_success (with_reducible show wpAny _ _ (call (Value.ref _) _) _ _ _)); (fail_if_success (with_reducible show wpAny _ _ (pyIter _) _ _ _)); (fail_if_success (with_reducible show wpAny _ _ (PySem.exec (PySem.Stmt.For _ _ _ _ _) _) _ _ _)); (fail_if_success (with_reducible show Kept _)); (first | (k_unfold; (try dsimp only)) | (k_end; wrow_close) | (with_reducible ((with_reducible show wpAny _ _ (subscriptTail _ _ (Value.ref _) (Value.int _ _)) _ _ _); refine r_item' ‹News _ _ _ _› (by ((repeat (first | assumption | exact List.Mem.head _ | apply List.mem_cons_of_mem | apply List.mem_append_left)))) rfl (by assumption) (by omega) ?_ (by with_unfolding_all rfl); (try dsimp only))) | walk1 | ((with_reducible show wpAny _ _ (subscriptTail _ _ (Value.ref _) (Value.int _ _)) _ _ _); refine r_item' ‹News _ _ _ _› (by ((repeat (first | assumption | exact List.Mem.head _ | apply List.mem_cons_of_mem | apply List.mem_append_left)))) rfl (by assumption) (by omega) ?_ (by with_unfolding_all rfl); (try dsimp only)) | (dsimp only; walk1) | (leave1; walk_say "STEP leave1"; try dsimp only))))
  rename_i DT h5 F5 N5 l5
  refine forTupG (vs := [.int 0 tk0, .int 1 (tk0 + 1)]) rfl rfl ⟨_, rfl⟩ F5 N5 (JT w mean mg mb h₁ P L D os0 ws o' ns tz x) (fun _ _ _ _ _ _ h => h) ⟨rfl, G, ⟨ps, B⟩, X, T, ⟨U1, S1, L1, bl, tv, sv, oT, cu, ca, cl, tr, ta, rfl, dT, hbl, hgood, hinc, hDL, hsv, htv, rfl, rfl, rfl, rfl, rfl⟩⟩ ?turn ?done (by intro _ _; rfl)
  case done =>
    rintro g m₁ nx s₁ ⟨ho, hG, ⟨ps1, hB⟩, hX, hT, hJ⟩ F2 N2
    exact wpAny_execs_nil (Kept.of ⟨rfl, ho, hG, g, ps1, m₁, _, hB, hX, hT, F2, N2, trivial⟩)
  case turn =>
    rintro it i v g m₁ nx ⟨h1, g1, d1, k1, os1⟩ o hni hv ⟨ho, hG, ⟨ps1, hB⟩, hX, hT, hJ⟩ hne F2 N2
    have hit : @LT.lt Nat _ (L + 1 + 1) it := hni (L + 1 + 1, oT) (.tail _ (.tail _ (.tail _ (.tail _ (.tail _ (.head _))))))
    obtain ⟨b, tb, rfl⟩ : ∃ (b : Bool) (tb : Tok), v = .int (backOf b) tb := by
      match i, hv with
      | 0, hv => exact ⟨false, tk0, (Option.some.inj hv).symm⟩
      | 1, hv => exact ⟨true, tk0 + 1, (Option.some.inj hv).symm⟩
    clear hni hv hne F5 N5 B X T G hgood hinc hsv htv dT hbl hDL e1 e2 e3 e4 e5
    refine hideG ?_
    intro Cg hCg
    obtain ⟨U1, S1, L1, bl, tv, sv, oT, cu, ca, cl, tr, ta, rfl, dT, hbl, hgood, hinc, hDL, hsv, htv, e1, e2, e3, e4, e5⟩ := hJ
    refine hCg ?_
    clear hCg Cg
    dsimp only at F2 N2 hG ho
    rw [mAp_of e1 e2 e3 e4 e5] at F2
    unfold mAp at F2
    with_reducible refine wpAny_mono (Q := fun _ s₂ => Kept (∃ (h : Heap) (k : Nat), s₂ = ⟨h, g1, d1, k, os1⟩ ∧ Fr g L h (fun z => if z = Str.ofString "back" then some (.int (backOf b) tb) else if z = Str.ofString "apart" then some (.str x ta) else if z = Str.ofString "row" then some (.str (ofL (rowL (turN ns))) tr) else if z = Str.ofString "signs" then some (.ref S1) else if z = Str.ofString "size" then some (.int ns.length tz) else if z = Str.ofString "lists" then some (.ref L1) else m₁ z) ∧ News g L h ((it, o) :: (DT, ({ cls := .type "tuple", data := .seq #[.int 0 tk0, .int 1 (tk0 + 1)] } : Obj)) :: (U1, W.listOf tv.toArray cu) :: (S1, W.listOf sv.toArray ca) :: (L1, W.listOf (bl.map fun b => Value.ref b.P).toArray cl) :: (D, W.listOf ws.toArray 0) :: (L + 1 + 1, oT) :: (L + 1, o') :: blkObjs 0 bl))) (E := fun _ _ => False) ?as ?bd (fun _ _ e => e)
    case as =>
      (repeat' ((fail_if_success (with_reducible show PyProof.Rows.LCg.CompSrc _ _ _ _ _ _ _ _ _ _ _ _ _ _)); (fail_if_success (with_reducible show wpAny _ _ (eval (PySem.Expr.ListComp _ _ _ _) _) _ _ _)); (fail_if_success (with_reducible show wpAny _ _ (compareOp _ _ _) _ _ _)); (fail_if_success (with_reducible show wpAny _ _ (binaryOp _ (Value.ref _) _) _ _ _)); (fail_if_success (with_reducible show wpAny _ _ (call (Value.builtin "str.join") _) _ _ _)); (fail_if_success (with_reducible show wpAny _ _ (call (Value.ref _) _) _ _ _)); (fail_if_success (with_reducible show wpAny _ _ (pyIter _) _ _ _)); (fail_if_success (with_reducible show wpAny _ _ (PySem.exec (PySem.Stmt.For _ _ _ _ _) _) _ _ _)); (fail_if_success (with_reducible show Kept _)); (first | (k_unfold; (try dsimp only)) | (k_end; wrow_close) | (with_reducible ((with_reducible show wpAny _ _ (subscriptTail _ _ (Value.ref _) (Value.int _ _)) _ _ _); refine r_item' ‹News _ _ _ _› (by ((repeat (first | assumption | exact List.Mem.head _ | apply List.mem_cons_of_mem | apply List.mem_append_left)))) rfl (by assumption) (by omega) ?_ (by with_unfolding_all rfl); (try dsimp only))) | walk1 | ((with_reducible show wpAny _ _ (subscriptTail _ _ (Value.ref _) (Value.int _ _)) _ _ _); refine r_item' ‹News _ _ _ _› (by ((repeat (first | assumption | exact List.Mem.head _ | apply List.mem_cons_of_mem | apply List.mem_append_left)))) rfl (by assumption) (by omega) ?_ (by with_unfolding_all rfl); (try dsimp only)) | (dsimp only; walk1) | (leave1; walk_say "STEP leave1"; try dsimp only))))
      rename Fr _ _ _ _ => F3
      rename News _ _ _ _ => N3
      exact Kept.of ⟨_, _, rfl, F3, N3⟩
    case bd =>
      intro _ s₂ hRg
      refine hideG ?_
      intro Cg hCg
      obtain ⟨h3, k3, rfl, F3, N3⟩ := hRg
      refine hCg ?_
      clear hCg Cg
      refine wpAny_mono (lawTurn F3 N3 ⟨U1, S1, L1, bl, tv, sv, oT, cu, ca, cl, tr, ta, rfl, dT, hbl, hgood, hinc, hDL, hsv, htv, rfl, rfl, rfl, rfl, rfl⟩ hX hT hB hG rfl hx) (fun f s₃ h => ?_) (fun _ _ e => e)
      refine hideG ?_
      intro Cg hCg
      obtain ⟨rfl, ho6, G6, g6, ps6, m6, nx6, B6, X6, T6, F6, N6, J6⟩ := h
      refine hCg ?_
      clear hCg Cg
      exact TurnedG.intro nx6 F6 N6 (fun p hp => hp) (J6.apart hit) ⟨ho6.trans ho, G6, ⟨_, B6⟩, X6, T6, J6⟩
end Mine
end
section
open PySem PySem.W PyProof.Rows PySem.Spec PySem.Calls
set_option maxRecDepth 100000
set_option maxHeartbeats 0
set_option pp.maxSteps 6000
namespace Mine
theorem execs_app (env : Env) (b : List Stmt) : ∀ a : List Stmt, execs (a ++ b) env = (execs a env >>= fun f => match f with | .next => execs b env | f => pure f)
  | [] => by
    show execs b env = (pure Flow.next >>= _)
    rw [pure_bind]
  | st :: r => by
    rw [List.cons_append, execs_cons, execs_cons, bind_assoc, execs_app env b r]
    congr 1
    funext f
    cases f <;> simp only [pure_bind]
theorem wpC_execs_app {M : Model} {A : Around} {env : Env} {a b : List Stmt} {Q : Flow → Shared → Prop} {E : Value → Shared → Prop} {s : Shared} (P : Shared → Prop) (h1 : wpAny M A (execs a env) (fun f s' => Kept (f = .next ∧ P s')) (fun _ _ => False) s) (h2 : ∀ s', P s' → wpC M A (execs b env) Q E s') :
    wpC M A (execs (a ++ b) env) Q E s := by
  rw [execs_app]
  refine wpC_bindA (wpAny_mono h1 (fun f s' h => ?_) fun _ _ e => e.elim)
  obtain ⟨rfl, h⟩ := h
  exact h2 s' h
theorem platL_apart (ns : List Int) : platL (lawTexts (signs6 ns) (kinds6 ns) ns.length 6) = (cs6 ns).flatMap fun c => [45, 95, 95, 95, 95, c] := by
  obtain ⟨h1, h2, h3⟩ := cs6_ok ns
  rw [signs6_eq]
  exact plat_texts h1 h2 h3 (kinds_ok ns)
theorem apart_eq (ns : List Int) : (cs6 ns).flatMap (fun c => [45, 95, 95, 95, 95, c]) = apartL (ordOf ns) := by
  unfold cs6 apartL
  rw [List.flatMap_append, List.flatMap_map]
  rfl
theorem law12 {w : World} {mean mg mb} {h₁ : Heap} {L a P : Addr} {cd : Value} {s : Shared} {R : (Str → Option Value) → List (Addr × Obj) → Prop} (J : LG w mean mg mb h₁ P L s R s) :
   wpAny (model PG w) (lawA L a cd) (exec (lawBody.getD 15 default) (lawEnv L a cd)) (fun f s' => Kept (f = .ret (.bool true) ∧ LG w mean mg mb h₁ P L s (fun _ _ => True) s')) (fun _ _ => False) s := by
  refine hideG ?_
  intro Cg hCg
  obtain ⟨ho, hG, g, ps, m, nx, B, X, T, F, N, _⟩ := J
  refine hCg ?_
  clear hCg Cg
  refine fillIt ?_
  k_fill
  intro _
  ((unfold lawA lawEnv lawBody lawScope lawDef PySem.Challenge.pw_pu0021_01; dsimp only [bodyOf, scopeOf, List.getLast!, List.getLast, List.drop, List.take, Option.getD, List.getD, List.getElem?_cons_zero, List.getElem?_cons_succ]))
  (repeat' ((fail_if_success (with_reducible show PyProof.Rows.LCg.CompSrc _ _ _ _ _ _ _ _ _ _ _ _ _ _)); (fail_if_success (with_reducible show wpAny _ _ (eval (PySem.Expr.ListComp _ _ _ _) _) _ _ _)); (fail_if_success (with_reducible show wpAny _ _ (compareOp _ _ _) _ _ _)); (fail_if_success (with_reducible show wpAny _ _ (binaryOp _ (Value.ref _) _) _ _ _)); (fail_if_success (with_reducible show wpAny _ _ (call (Value.builtin "str.join") _) _ _ _)); (fail_if_success (with_reducible show wpAny _ _ (call (Value.ref _) _) _ _ _)); (fail_if_success (with_reducible show wpAny _ _ (pyIter _) _ _ _)); (fail_if_success (with_reducible show wpAny _ _ (PySem.exec (PySem.Stmt.For _ _ _ _ _) _) _ _ _)); (fail_if_success (with_reducible show Kept _)); (first | (k_unfold; (try dsimp only)) | (k_end; wrow_close) | (with_reducible ((with_reducible show wpAny _ _ (subscriptTail _ _ (Value.ref _) (Value.int _ _)) _ _ _); refine r_item' ‹News _ _ _ _› (by ((repeat (first | assumption | exact List.Mem.head _ | apply List.mem_cons_of_mem | apply List.mem_append_left)))) rfl (by assumption) (by omega) ?_ (by with_unfolding_all rfl); (try dsimp only))) | walk1 | ((with_reducible show wpAny _ _ (subscriptTail _ _ (Value.ref _) (Value.int _ _)) _ _ _); refine r_item' ‹News _ _ _ _› (by ((repeat (first | assumption | exact List.Mem.head _ | apply List.mem_cons_of_mem | apply List.mem_append_left)))) rfl (by assumption) (by omega) ?_ (by with_unfolding_all rfl); (try dsimp only)) | (dsimp only; walk1) | (leave1; walk_say "STEP leave1"; try dsimp only))))
  exact Kept.of ⟨rfl, rfl, hG, g, ps, m, nx, B, X, T, F, N, trivial⟩
theorem lawAll {w : World} {mean mg mb} {h₁ h₀ : Heap} {L a sa P : Addr} {ps : Array Value} {cd : Value} {s : Shared} {vs : List Value} {ns : List Int} {oT oN : Obj} (F : Fr h₀ L s.heap (mp [(Str.ofString "script", .ref sa)])) (N : News h₀ L s.heap [(L + 1 + 1, oT), (L + 1, oN)]) (dT : oT.data = .cell none) (dN : oN.data = .cell none)
   (X : (hd.heap_1 w.params).In h₀) (T : Top VW LS mean mg mb h₀) (B : Based h₁ h₀ 64 P ps) (G : AllBare s.gens) (hl : h₀.IsList sa vs.toArray) (hi : IntsAre vs ns) (hn : ns.length ≤ 63) :
   wpC (model PG w) (lawA L a cd) (execs lawBody (lawEnv L a cd)) (fun f s' => Kept (f = .ret (.bool true) ∧ LG w mean mg mb h₁ P L s (fun _ _ => True) s')) (fun _ _ => False) s := by
  rw [show lawBody = lawBody.take 5 ++ lawBody.drop 5 from (List.take_append_drop 5 lawBody).symm]
  refine wpC_execs_app _ (law0 F N dT dN X T hl hi hn) ?_
  intro s1 hRg
  refine hideG ?_
  intro Cg hCg
  obtain ⟨h1, k1, m1, nx1, rfl, F1, N1, D, T1, D1, L1, tz, ws, o', rfl, rfl, dN', hI, l1, l2, l3, l4⟩ := hRg
  refine hCg ?_
  clear hCg Cg
  refine law1 F1 N1 dT dN' X T hI hn l1 l2 l3 l4 ?_
  intro s2 hRg
  refine hideG ?_
  intro Cg hCg
  obtain ⟨h2, k2, m2, nx2, rfl, F2, N2, J2⟩ := hRg
  refine hCg ?_
  clear hCg Cg
  refine law2 F2 N2 J2 X T l1 l2 l3 l4 ?_
  intro s3 hRg
  refine hideG ?_
  intro Cg hCg
  obtain ⟨h3, k3, m3, nx3, rfl, F3, N3, J3⟩ := hRg
  refine hCg ?_
  clear hCg Cg
  have e8 : lawBody.drop 8 = lawBody.getD 8 default :: lawBody.getD 9 default :: lawBody.getD 10 default :: lawBody.getD 11 default :: lawBody.getD 12 default :: lawBody.getD 13 default :: lawBody.getD 14 default :: lawBody.getD 15 default :: [] := rfl
  rw [e8]
  with_reducible refine seqA _ (law3 F3 N3 J3 X T l1) ?_
  intro s4 hRg
  refine hideG ?_
  intro Cg hCg
  obtain ⟨h4, k4, m4, nx4, rfl, F4, N4, J4⟩ := hRg
  refine hCg ?_
  clear hCg Cg
  with_reducible refine seqA _ (law4 F4 N4 J4 X T l1) ?_
  intro s5 hRg
  refine hideG ?_
  intro Cg hCg
  obtain ⟨h5, k5, m5, nx5, rfl, F5, N5, J5⟩ := hRg
  refine hCg ?_
  clear hCg Cg
  with_reducible refine seqA _ (law5 F5 N5 J5 X T l1 dT dN' hI) ?_
  intro s6 hRg
  refine hideG ?_
  intro Cg hCg
  obtain ⟨h6, k6, m6, nx6, rfl, F6, N6, J6⟩ := hRg
  refine hCg ?_
  clear hCg Cg
  with_reducible refine seqA _ (law6 F6 N6 J6 X T l1 dN') ?_
  intro s7 hRg
  refine hideG ?_
  intro Cg hCg
  obtain ⟨h7, k7, m7, nx7, rfl, F7, N7, J7⟩ := hRg
  refine hCg ?_
  clear hCg Cg
  with_reducible refine seqA _ (law7 F7 N7 J7 X T B G dN' hI hn) ?_
  intro s8 hRg
  refine hideG ?_
  intro Cg hCg
  obtain ⟨x, ex, ho8, G8, g8, ps8, m8, nx8, B8, X8, T8, F8, N8, J8⟩ := hRg
  refine hCg ?_
  clear hCg Cg
  have ex2 := ex.trans (platL_apart ns)
  have hx : x = ofL (apartL (ordOf ns)) := by rw [of_toList x, ex2, apart_eq]
  with_reducible refine seqA _ (law8 F8 N8 J8 X8 T8 ex2) ?_
  intro s9 hRg
  refine hideG ?_
  intro Cg hCg
  obtain ⟨h9, k9, m9, nx9, rfl, F9, N9, J9⟩ := hRg
  refine hCg ?_
  clear hCg Cg
  with_reducible refine seqA _ (law10 F9 N9 J9 X8 T8 B8 G8 hx) ?_
  rintro s10 ⟨ho10, G10, r10⟩
  refine wpAny_execs_cons (wpAny_mono (law12 ⟨rfl, G10, r10⟩) (fun f s' h => ?_) fun _ _ e => e)
  refine hideG ?_
  intro Cg hCg
  obtain ⟨rfl, ho11, G11, r11⟩ := h
  refine hCg ?_
  clear hCg Cg
  exact Kept.of ⟨rfl, ho11.trans (ho10.trans ho8), G11, r11⟩
end Mine
end
section
open PySem PySem.W PyProof.Rows PySem.Spec PySem.Calls
set_option maxRecDepth 100000
set_option maxHeartbeats 0
namespace Mine
theorem enterC {prog : Program} {w : World} {A : Around} {s : Shared} {R : Result → Shared → Prop} {a : Addr} {o : Obj} {fd : FuncData} {body : List Stmt} {args : Args} {binds : List (Str × Value)}
    (hroom : A.depth < recursionLimit) (ho : s.heap.get? a = some o) (hdata : o.data = .func fd) (hlim : s.heap.NoLimit) (hcd : s.heap.CodeRec fd.code fd.qualname) (hbody : fd.body = .stmts body) (hclo : fd.closure = []) (hbind : BindsTo s fd args binds)
    (hkind : ∀ n, ∀ x ∈ binds, fd.scope.names.lookup x.1 = some .local ∨ (fd.scope.names.lookup x.1 = some .cell ∧ ((cellsFrom n fd.scope.names []).lookup x.1).isSome = true))
    (hnd : ((cellsFrom 0 fd.scope.names []).map (·.1)).Nodup)
    (h : ∀ L h₁ tk cells env, env = newEnv fd.scope L fd.globals (cellsFrom (L + 1) fd.scope.names []) (fd.qualname ++ ".<locals>.") (some a) fd.code none fd.builtins → Fr s.heap L h₁ (bindL env.kindOf binds fun _ => none) → News s.heap L h₁ cells →
      CellsAre (bindC env.kindOf binds fun _ => none) (cellsFrom (L + 1) fd.scope.names []) cells →
      wpC (model prog w) (A.deeper env) (execs body env) (fun f s' => R (.ok (.ret (match f with | .ret v => v | _ => .none))) s')
        (fun e s' => wpAny (model prog w) (A.deeper env) (leaving env e) (fun _ s'' => R (.error e) s'') (fun e' s'' => R (.error e') s'') s')
        { s with heap := h₁, toks := tk })
    (hco : fd.scope.isCoroutine = false) (hgen : fd.scope.isGenerator = false) (hk : fd.scope.kind = .function) :
    codeC (model prog w) A (.call (.ref a) args) R s := by
  refine codeC_call_function hroom ho hdata hco hgen hbody hcd (hbind _ _ _ _ ?_)
  rw [hclo]
  refine wpAny_newFunctionEnv_cells hk (hkind _) fun env' he s' x => ?_
  obtain ⟨h₁, tk, rfl, _⟩ := x.done
  have hk₁ := x.toInCall.keep
  refine ⟨hlim.keeps hk₁, codeC_func ?_⟩
  have ec : env'.cells = cellsFrom (s.heap.objs.size + 1) fd.scope.names [] := by rw [he]; rfl
  have el : env'.locals = s.heap.objs.size := by rw [he]; rfl
  obtain ⟨cells, NC, Y⟩ := Cl.news (h₀ := s.heap) (Nat.le_refl _) fun n c hm => ⟨x.cell n c (lookup_of_mem_nodup (by rw [ec]; exact cellsFrom_names fd.scope.names 0 (s.heap.objs.size + 1) [] [] rfl ▸ hnd) hm), el ▸ x.above n c hm⟩
  rw [ec] at Y
  refine h s.heap.objs.size h₁ tk cells env' he ⟨el ▸ x.toInCall.ns, fun b o e => hk₁ b o e, Nat.le_refl _⟩ NC Y
end Mine
end
section
open PySem PySem.W PyProof.Rows PySem.Spec PySem.Calls
set_option maxRecDepth 100000
set_option maxHeartbeats 0
namespace Mine
noncomputable def lawParams : Arguments := match lawDef with
  | .FunctionDef _ p _ _ _ _ _ _ _ _ => p
  | _ => default
noncomputable def lawPos : Pos := match lawDef with
  | .FunctionDef _ _ _ _ _ _ _ _ _ p => p
  | _ => default
noncomputable def dLaw : DefRec := ⟨Str.ofString "law", lawParams, lawBody, lawScope, lawPos⟩
theorem def_law : defOf hd.view_1 (Str.ofString "law") = some (dLaw, []) := by with_unfolding_all rfl
theorem prog_law : PySem.Challenge.rw_pu0021_01.row.prog.theDef (Str.ofString "law") = some (dLaw.params, dLaw.body, dLaw.scope) := by with_unfolding_all rfl
theorem plat_at (P : Params) : ∃ fd, (hd.heap_1 P).lookup 65 = some fd ∧ ∃ g, fd.data = .func g ∧ g.code = .ref 64 := by
  refine ⟨_, by with_unfolding_all rfl, _, by with_unfolding_all rfl, by with_unfolding_all rfl⟩
theorem plat_ns (P : Params) : nsIn (hd.heap_1 P) mainGlobals (Str.ofString "_platform") = some (some (.ref 65)) := by with_unfolding_all rfl
theorem plat_rec : ∃ d, (recsOf hd.view_1).find? (fun e => e.name == Str.ofString "_platform") = some d := ⟨_, by with_unfolding_all rfl⟩
theorem ints_items : ∀ xs : List WData, WShape.hasItems [] xs .int = true → ∃ ns : List Int, xs = ns.map .int
  | [], _ => ⟨[], rfl⟩
  | d :: r, h => by
    simp only [WShape.hasItems, Bool.and_eq_true] at h
    obtain ⟨i, rfl⟩ := hasW_int h.1
    obtain ⟨ns, rfl⟩ := ints_items r h.2
    exact ⟨i :: ns, rfl⟩
theorem args_are {args : List WData} (h : PySem.Challenge.rw_pu0021_01.row.toRowW.claim.pre args = true) : ∃ ns : List Int, args = [.list (ns.map .int)] ∧ ns.length ≤ 63 := by
  obtain ⟨h1, h2⟩ := pre_splitW h
  refine hideG ?_
  intro Cg hCg
  obtain ⟨d, r, rfl, h3, h4⟩ := hasAllW_cons (e := .list .int) (es := []) h1
  refine hCg ?_
  clear hCg Cg
  obtain rfl := hasAllW_nil h4
  obtain ⟨xs, rfl, h5⟩ := hasW_list h3
  obtain ⟨ns, rfl⟩ := ints_items xs h5
  refine ⟨ns, rfl, ?_⟩
  have h2 : WTm.holds [] (.and (.not (.lt (.lit (.int ((63 : Nat) : Int))) (.len (.arg 0)))) (.lit (.bool true))) { args := [WData.list (ns.map WData.int)] } = true := h2
  by_cases hn : ns.length ≤ 63
  · exact hn
  · exfalso
    simp [WTm.holds, WTm.value] at h2
    have e : W.less? (WData.int 63) (WData.int (ns.length : Int)) = some (decide ((63 : Int) < (ns.length : Int))) := rfl
    rw [e, decide_eq_true (by omega)] at h2
    simp at h2
theorem reads_ints {R : WRecords} {cl : Str → Option Addr} {h : Heap} : ∀ (ns : List Int) (vs : List Value) (as : List Addr), ReadsAllW R cl h vs (ns.map .int) as → IntsAre vs ns
  | [], vs, as, r => by
    cases r
    exact .nil
  | n :: ns, vs, as, r => by
    cases r with
    | cons a b =>
      cases a
      exact .cons _ _ (reads_ints ns _ _ b)
theorem vals_are {R : WRecords} {cl : Str → Option Addr} {h : Heap} {ns : List Int} {vals : List Value} {as : List Addr} (r : ReadsAllW R cl h vals [.list (ns.map .int)] as) : ∃ (sa : Addr) (vs : List Value), vals = [.ref sa] ∧ h.IsList sa vs.toArray ∧ IntsAre vs ns := by
  cases r with
  | cons a b =>
    cases b
    cases a with
    | list h1 h2 h3 h4 => exact ⟨_, _, rfl, ⟨_, h1, h2, _, by rw [h3]⟩, by simpa using reads_ints ns _ _ h4⟩
theorem dflts_nil {mg : Str → Option Value} {h : Heap} {dV kV : Value} (x : Dflts mg h dLaw.params [] dV kV) : dV = .none ∧ kV = .none := by
  refine ⟨?_, ?_⟩
  · rcases x.pos with ⟨_, e⟩ | ⟨e, _⟩
    · exact e
    · exact absurd (by with_unfolding_all rfl) e
  · rcases x.kw with ⟨_, e⟩ | ⟨e, _⟩
    · exact e
    · exact absurd rfl e
theorem walkLaw {a₁ : List Addr} {e : ∀ P, a₁ = (hd.heap_1 P).map (·.1)} : WalkC hd.view_1 [Str.ofString "_twin_re_1", Str.ofString "_ver_stages"] (XL hd.view_1 []) (Hook.says (kHook hd.heap_1 a₁ e)) PySem.Challenge.rw_pu0021_01.row.toRowW dLaw [] := by
  intro w s₀ s₁ mg mb G Y a o pm cd doc dV kV ho hdd hcd hD hmg hg args vals as hpre hlay hrd hwl hlo
  have X : (hd.heap_1 w.params).In s₁.heap := kIn_of Y
  have T := top0 G.T
  obtain ⟨ns, rfl, hn⟩ := args_are hpre
  refine hideG ?_
  intro Cg hCg
  obtain ⟨sa, vs, rfl, hl, hi⟩ := vals_are hrd
  refine hCg ?_
  clear hCg Cg
  have hpl : mg (Str.ofString "_platform") = some (.ref 65) := mg_of X T.g (plat_ns w.params)
  refine hideG ?_
  intro Cg hCg
  obtain ⟨o65, ho65, g65, hg65, hc65⟩ := plat_at w.params
  refine hCg ?_
  clear hCg Cg
  obtain ⟨d65, hd65⟩ := plat_rec
  refine hideG ?_
  intro Cg hCg
  obtain ⟨c, P, hcP, B⟩ := based_of_top G.T hd65 hpl (X _ _ ho65) hg65
  refine hCg ?_
  clear hCg Cg
  obtain rfl : c = 64 := by
    have := hc65.symm.trans hcP
    exact (Value.ref.inj this).symm
  refine wpC_call (enterC (body := lawBody) (binds := [(Str.ofString "script", .ref sa)]) (by decide) ho hdd T.nolimit hcd rfl rfl ?hbind ?hkind ?hnd ?_ rfl rfl rfl)
  case hbind =>
    obtain ⟨rfl, rfl⟩ := dflts_nil hD
    exact BindsTo.of_eq rfl
  case hkind =>
    intro n x hx
    obtain rfl := List.mem_singleton.mp hx
    exact .inl rfl
  case hnd =>
    show ((cellsFrom 0 lawScope.names []).map (·.1)).Nodup
    decide
  intro L h₁ tk cells env he F N Y2
  subst he
  refine hideG ?_
  intro Cg hCg
  obtain ⟨oT, oN, rfl, dT, dN⟩ := CellsAre.two (n := Str.ofString "turned") (n' := Str.ofString "numbers") (c := L + 1 + 1) (c' := L + 1) Y2
  refine hCg ?_
  clear hCg Cg
  have F' : Fr s₁.heap L h₁ (mp [(Str.ofString "script", .ref sa)]) := by
    refine cast (congrArg (fun m => Fr s₁.heap L h₁ m) ?_) F
    have e9 : (if (lawEnv L a cd).kindOf (Str.ofString "script") = some .local then fun y => if y = Str.ofString "script" then some (Value.ref sa) else none else fun _ => none) = mp [(Str.ofString "script", .ref sa)] := by
      rw [if_pos (by rfl)]
      rfl
    exact e9
  refine wpC_mono (lawAll (P := P) (s := { s₁ with heap := h₁, toks := tk }) F' N dT dN X T B (AllBare.of_eq hg) hl hi hn) (fun f s' h => ?_) fun _ _ e => e.elim
  refine hideG ?_
  intro Cg hCg
  obtain ⟨rfl, ho', hG', g, ps, m, nx, B', X', T', F2, N2, _⟩ := h
  refine hCg ?_
  clear hCg Cg
  exact ⟨.inl ⟨.bool true, .bool true, [], rfl, fun _ => rfl, .bool true, postW_of (X := true) rfl (by with_unfolding_all rfl) rfl, fun _ => ⟨.nil, fun _ ha => nomatch ha⟩⟩, B'.finish F2, ho', hG'⟩
end Mine
theorem PySem.Challenge.cw_pu0021_01_holds : PySem.Challenge.rw_pu0021_01.Holds := by
  refine ⟨by decide +kernel, ?_⟩
  obtain ⟨e, hl⟩ := Mine.hd.2
  exact Mine.holdsC (q := Mine.hd.view_1) (loose := [Str.ofString "_twin_re_1", Str.ofString "_ver_stages"]) (Xt := fun s => xlAt Mine.hd.view_1 [] s && recOk [] s) (XP := XL Mine.hd.view_1 []) (Yf := Hook.obs (kHook Mine.hd.heap_1 Mine.asL e)) (Ya := Hook.val (kHook Mine.hd.heap_1 Mine.asL e)) (YP := Hook.says (kHook Mine.hd.heap_1 Mine.asL e)) (N := 1696) (d := Mine.dLaw) (kwd := [])
    hl (Hook.of _) (Hook.keeps _) (fun s e => xl_of s (Bool.and_eq_true_iff.mp e).1) XL.keeps Mine.def_law Mine.prog_law (by rfl) (fun s e => recFacts_of (Bool.and_eq_true_iff.mp e).2) (by rfl) (by decide +kernel) (by decide +kernel) ⟨rfl, rfl, rfl, rfl, rfl, by decide +kernel⟩ ⟨[.list [.int 0]], by decide +kernel, by decide +kernel⟩ Mine.walkLaw
end
