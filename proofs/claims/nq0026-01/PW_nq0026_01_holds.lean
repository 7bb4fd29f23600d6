import PyProof.Rows.All
import Wide.All
import OpenK.AllK
import Wide.FinOn
import Lean
import PySem.Challenge.RW_nq0026_01
set_option Elab.async false
section
open PySem PySem.W PySem.W.X PyProof.Rows PySem.Calls
open Sem (wp)
set_option Elab.async false
set_option maxRecDepth 100000
set_option maxHeartbeats 8000000
namespace Mine
/-- a code of the claim's own caller lies in the stack -/
noncomputable def Called (Γ : Ctx) : Prop := (Γ.code.isCaller || Γ.below.any (·.1.isCaller)) = true
noncomputable def wpC {α : Type} (M : Model) (A : Around) (t : Sem α) (Q : α → Shared → Prop) (E : Value → Shared → Prop) (s : Shared) : Prop :=
  ∀ Γ p, Γ.In A → Called Γ → wp M Γ t (fun a _ s' => Q a s') (fun e _ s' => E e s') p s
noncomputable def codeC (M : Model) (A : Around) (c : Code) (R : Result → Shared → Prop) (s : Shared) : Prop :=
  ∀ Γ p, Γ.code = c → Γ.Below A → Γ.below.any (·.1.isCaller) = true → wpCode M Γ R p s
section
variable {α β : Type} {M : Model} {A : Around} {E : Value → Shared → Prop} {s : Shared}
theorem wpC_of_any {t : Sem α} {Q : α → Shared → Prop} (h : wpAny M A t Q E s) : wpC M A t Q E s := fun Γ p hΓ _ => h Γ p hΓ
theorem codeC_of_any {c : Code} {R : Result → Shared → Prop} (h : codeAny M A c R s) : codeC M A c R s := fun Γ p hc hΓ _ => h Γ p hc hΓ
theorem wpC_pure {a : α} {Q : α → Shared → Prop} (h : Q a s) : wpC M A (pure a) Q E s := fun _ _ _ _ => h
theorem wpC_mono {t : Sem α} {Q Q' : α → Shared → Prop} {E' : Value → Shared → Prop} (h : wpC M A t Q E s) (hQ : ∀ a s, Q a s → Q' a s) (hE : ∀ e s, E e s → E' e s) : wpC M A t Q' E' s :=
  fun Γ p hΓ hc => Sem.wp_mono M Γ t (fun a _ s => hQ a s) (fun e _ s => hE e s) p s (h Γ p hΓ hc)
theorem wpC_bind {m : Sem α} {f : α → Sem β} {Q : β → Shared → Prop} (h : wpC M A m (fun a s' => wpC M A (f a) Q E s') E s) : wpC M A (m >>= f) Q E s := fun Γ p hΓ hc => by
  rw [Sem.wp_bind']
  exact Sem.wp_mono M Γ m (fun a p' s' h' => h' Γ p' hΓ hc) (fun _ _ _ h' => h') p s (h Γ p hΓ hc)
end
theorem thread_ends_C {prog : Program} {w : World} {t : Sem Fin} {s : Shared} {R : Result → Shared → Prop} (hreg : s.asleep)
    (h : wpC (model prog w) callerA t (fun fin s' => ∃ f, fin = .done f ∧ (R (.ok f) s' ∧ leftWithCleanup s'.gens = false)) (fun e s' => R (.error e) s' ∧ leftWithCleanup s'.gens = false) s) :
    ∃ n r s' s'', runN (denote table) prog w n s ⟨t, .builtin "claim.caller" {}, default, []⟩ = .halted (outcomeOf r) s' ∧
      schedN (denote table) prog w n (.single s ⟨t, .builtin "claim.caller" {}, default, []⟩) = .halted (outcomeOf r) s' ∧ s'.forget = s''.forget ∧ R r s'' := by
  have h' : wp (model prog w) ⟨.builtin "claim.caller" {}, none, none, [], none⟩ t (Sem.finPost (model prog w) ⟨.builtin "claim.caller" {}, none, none, [], none⟩ (fun r s' => R r s' ∧ leftWithCleanup s'.gens = false)) (fun e _ s' => R (.error e) s' ∧ leftWithCleanup s'.gens = false) default s := by
    refine Sem.wp_mono _ _ t (fun fin p' s' hf => ?_) (fun _ _ _ hf => hf) default s (h ⟨.builtin "claim.caller" {}, none, none, [], none⟩ default caller_in rfl)
    obtain ⟨f, rfl, hf⟩ := hf
    exact hf
  obtain ⟨n, r, s₁, s₂, hs, hn, hfo, hR⟩ := wp_halts_full (M := model prog w) (R := R) hreg h'
  exact ⟨n, r, s₂, s₁, hn, hs, hfo, hR⟩
theorem callFrom_C {c : ClaimW} {tree : List Value → Sem Fin} {w : World} {s : Shared} {free : Addr → Prop} {gens : Prop} {kept : Heap → Prop} (hz : s.asleep) (hgens : s.gens = #[])
    (hspec : ∀ args, c.pre args = true → WData.layableAll args = true →
      ∀ ord : List DictEntry → List DictEntry, (∀ l, (ord l).Perm l) →
      ∃ vs s₁, layAllW c.records (classAt s.heap) w.params ord args s = some (vs, s₁) ∧
        wpC (model c.prog w) callerA (tree vs) (fun fin s' => ∃ f, fin = .done f ∧ (c.Ends s args vs s₁ (.ok f) s' ∧ s'.os = s.os ∧ AllBare s'.gens ∧ kept s'.heap))
          (fun e s' => c.Ends s args vs s₁ (.error e) s' ∧ s'.os = s.os ∧ AllBare s'.gens ∧ kept s'.heap) s₁) :
    c.CallFrom (fun vs => ⟨tree vs, .builtin "claim.caller" {}, default, []⟩) w free gens kept s := by
  intro args hpre hlay ord hord
  obtain ⟨vs, s₁, hlaid, hcode⟩ := hspec args hpre hlay ord hord
  have hal := layAllW_rest _ _ _ hlaid
  obtain ⟨k, r, s', s'', hrun, hsched, hfo, hcase, hos, hkp⟩ := thread_ends_C (prog := c.prog) (w := w) (t := tree vs) (s := s₁)
    (R := fun r s' => c.Ends s args vs s₁ r s' ∧ s'.os = s.os ∧ kept s'.heap) (Shared.asleep_of_life hal.2.2.2 hz)
    (wpC_mono hcode (fun fin s' hq => by
      obtain ⟨f, e, h1, h2, h3, h4⟩ := hq
      exact ⟨f, e, ⟨h1, h2, h4⟩, leftWithCleanup_false_of_bare h3⟩) (fun e s' hq => by
      obtain ⟨h1, h2, h3, h4⟩ := hq
      exact ⟨⟨h1, h2, h4⟩, leftWithCleanup_false_of_bare h3⟩))
  obtain ⟨eh, _, _, eo, _⟩ := Shared.forget_eq hfo
  have hcase := hcase.congr eh
  have hkp : kept s'.heap := by rw [eh]; exact hkp
  rw [← eo] at hos
  have hlife : s'.heap.life = s.heap.life := (runN_life _ _ _ hrun).trans hal.2.2.2
  refine ⟨vs, s₁, hlaid, k, _, s', hsched, ?_, (fun _ i x hx => by rw [hgens] at hx; simp at hx), hkp, by rw [hlife], Shared.rest_eq hos⟩
  rcases hcase with ⟨v, rfl, d1, d2, d3, d4, d5⟩ | ⟨e, ob, cls, rfl, d1, d2, d3, d4, d5⟩
  · exact .inl ⟨v, rfl, d1, d2, d3, fun b o y _ => d4 b o y, d5⟩
  · exact .inr ⟨e, ob, cls, rfl, d1, d2, d3, d4, fun b o y _ => d5 b o y⟩
/-- the run of the text from the state behind the start-up, by the library's quick twins -/
noncomputable def topQ (p : Program) (w : World) (N : Nat) (s₀ : Shared) : Option Shared :=
  match s₀.heap.isNs mainGlobals && s₀.gens.size == 0 with
  | true => (Fast.tw14082659384304107361 Fast.tw14364793385576792824 p w s₀.heap.objs.size (s₀.heap.nsMap mainGlobals "__annotations__") N s₀ (topStub p)).bind fun s₁ => match staticsOk (importedModules p.main.body) s₀.heap s₁.heap && namesBound p s₁.heap && gensDone s₁ && laidKept s₀.heap s₁.heap with
      | true => some s₁
      | false => none
  | false => none
theorem topQ_eq (p : Program) (w : World) (N : Nat) (s : Shared) : topQ p w N s = topFrom treeTable p w N s := by
  unfold topQ topFrom
  rw [← Fast.te14082659384304107361, ← Fast.te14364793385576792824]
  rfl
theorem leftO_boot {p q : Program} {loose : List Str} {Xt : Shared → Bool} {α : Type} {Yf : Shared → α} {Ya : World → α} {N : Nat}
    (e : opening p = plainProg p.main.scope.names) (hN : Nat.ble 600 N = true) (f : ∀ s, fenceModules? p s = some s)
    (run : ∀ w : World, (fun os => (topQ p w N ⟨boot_heap w.params, Array.mk [], boot_drawn, boot_toks, os⟩).map (fun s => (Fast.tw4187177175401517315 q loose (importedModules p.main.body) Xt true s, Yf s))) = fun _ => some (openGood q loose, Ya w)) : LeftO p q loose Xt Yf Ya N := fun w => by
  obtain ⟨⟨h, gs, d, k, os⟩, e1, e2⟩ := Option.map_eq_some_iff.mp (boot_open e hN f w)
  obtain ⟨h1, e2⟩ := Prod.mk.inj e2
  obtain ⟨h2, e2⟩ := Prod.mk.inj e2
  obtain ⟨h3, h4⟩ := Prod.mk.inj e2
  dsimp only at h1 h2 h3 h4
  subst h1 h2 h3 h4
  have r := congrFun (run w) os
  rw [topQ_eq] at r
  rw [← Fast.te4187177175401517315] at r
  unfold openEnds
  rw [e1]
  exact r
/-- what is left to show: the law's call, in contexts that hold the claim's caller -/
noncomputable abbrev WalkC (q : Program) (loose : List Str) (XP : (Str → Option Value) → Heap → Prop) (YP : World → Heap → Prop) (r : RowW) (d : DefRec) (kwd : List (Str × Expr)) (run : Value → List Value → Sem Value) : Prop :=
  ∀ (w : World) (s₀ s₁ : Shared) (mg mb : Str → Option Value), Ground q loose r.records XP w s₀ mg mb s₁.heap → YP w s₁.heap → ∀ (a : Addr) (o : Obj) (pm cd doc dV kV : Value), s₁.heap.get? a = some o →
    o.data = .func { docDef d.name d.params d.body d.scope pm cd doc with defaults := dV, kwdefaults := kV } → s₁.heap.CodeRec cd d.name → Dflts mg s₁.heap d.params kwd dV kV → mg d.name = some (.ref a) → s₁.gens = #[] →
    ∀ (args : List WData) (vals : List Value) (as : List Addr), r.claim.pre args = true → WData.layableAll args = true → ReadsAllW r.records (classAt s₀.heap) s₁.heap vals args as → WellAll w.params s₁.heap vals args → (∀ a ∈ as, (a == sysModules) = false) →
      wpC (model r.prog w) callerA (run (.ref a) vals) (fun v s' => GoodWG r.claim (classAt s₀.heap) (ExcName.means s₀.heap) args s₁ (.ok (.ret v)) s')
        (fun e s' => GoodWG r.claim (classAt s₀.heap) (ExcName.means s₀.heap) args s₁ (.error e) s') s₁
/-- the head, for the claim's own context alone (the library's head tactic finds it here by its name); the first premise is no `LeftO`, so that the tactic runs the text in one go: its pieces cost 6 MB -/
theorem PySem.W.holds_open {r : OpenRow} {q : Program} {loose : List Str} {Xt : Shared → Bool} {XP : (Str → Option Value) → Heap → Prop} {α : Type} {Yf : Shared → α} {Ya : World → α} {YP : World → Heap → Prop} {d : DefRec} {kwd : List (Str × Expr)} {N : Nat}
    (run : ∀ w : World, (fun os => (topQ r.prog w N ⟨boot_heap w.params, Array.mk [], boot_drawn, boot_toks, os⟩).map (fun s => (Fast.tw4187177175401517315 q loose (importedModules r.prog.main.body) Xt true s, Yf s))) = fun _ => some (openGood q loose, Ya w)) (hY : ∀ w s, Yf s = Ya w → YP w s.heap) (hYk : ∀ w h h', YP w h → (∀ b o, h.get? b = some o → h'.get? b = some o) → YP w h')
    (hX : ∀ s, Xt s = true → XP (s.heap.nsMap mainGlobals) s.heap) (hXk : ∀ mg h h', XP mg h → (∀ b o, h.get? b = some o → h'.get? b = some o) → XP mg h')
    (hdef : defOf q r.name = some (d, kwd)) (hp : r.prog.theDef r.name = some (d.params, d.body, d.scope)) (hk : kwWritten? d.params.kwonlyargs d.params.kw_defaults = some kwd) (hRf : ∀ s, Xt s = true → RecFacts r.records s.heap) (hwr : (!r.writes || r.records.isEmpty) = true)
    (k1 : r.wellSaid = true) (ok : (chainsOk q && opensWell r.prog && (frees r.toRowW && r.within.isEmpty)) = true) (hb : r.prog.bare) (hw : r.toRowW.promised)
    (call : WalkC q loose XP YP r.toRowW d kwd fun f vs => _root_.PySem.call f vs)
    (be : opening r.prog = plainProg r.prog.main.scope.names := by kernel_rfl) (bN : Nat.ble 600 N = true := by kernel_rfl) (bf : ∀ s, fenceModules? r.prog s = some s := by intro s; kernel_rfl) : r.Holds := by
  have left : LeftO r.prog q loose Xt Yf Ya N := leftO_boot be bN bf run
  refine ⟨k1, hw, ?_⟩
  obtain ⟨ok, k5⟩ := Bool.and_eq_true_iff.mp ok
  obtain ⟨hch, o1⟩ := Bool.and_eq_true_iff.mp ok
  obtain ⟨k5, k6⟩ := Bool.and_eq_true_iff.mp k5
  obtain ⟨hsame, hu, ha, hap, hm⟩ := frees_parts k5
  refine ⟨⟨hb, o1, by show r.toRowW.makers.map _ = []; rw [hm]; rfl⟩, hw.witness, fun w => ⟨(left.behind hX hch w).1, fun s' hs' => ?_⟩⟩
  obtain ⟨s₀, hf, hg0, s, hT, hz, hgens, hg, G00, y⟩ := (left.behind (XP := fun mg h => XP mg h ∧ RecFacts r.records h) (fun s hs => ⟨hX s hs, hRf s hs⟩) hch w).2 s' hs'
  have G0 : Ground q loose [] XP w s (s.heap.nsMap mainGlobals) (s.heap.nsMap builtinsNs) s.heap := ⟨G00.T, G00.B, G00.D, G00.TE, G00.TD, G00.W, G00.X.1, G00.cls, G00.has, G00.apart, G00.once, G00.K⟩
  have RF := G00.X.2
  refine ⟨s₀, hf, hg0, s, hT, (fun n hn => ?_), RF.1, RF.2.1, ?_⟩
  · obtain rfl : n = r.name := by split at hn <;> simp_all
    exact pinned_of_view hg G0 hdef hp hk
  have hgens : s.gens = #[] := Array.eq_empty_of_size_eq_zero (beq_iff_eq.mp hgens)
  have G : Ground q loose r.records XP w s _ _ s.heap := RF.ground G0
  refine callFrom_C (c := r.toRowW.claim) (tree := fun vs => do match ← nsGet mainNs r.name with
      | some f => do ret (← _root_.PySem.call f vs)
      | none => unsupported "claim.caller:no-such-global") hz hgens fun args hpre hlay ord hord => ?_
  obtain ⟨⟨vs, s₁⟩, hlaid⟩ := Option.isSome_iff_exists.mp (layAllW_isSome (P := w.params) (ord := ord) G.has args r.args s (pre_splitW hpre).1)
  have keeps := layAllW_keeps _ _ _ hlaid
  have hal := layAllW_rest _ _ _ hlaid
  obtain ⟨as, hrd, hin, hold⟩ := reads_layAllW hord _ _ _ hlaid hlay s₁.heap (fun _ _ e => e)
  have L : Laid r.records w s s₁ args vs as := ⟨⟨ord, hord, hlaid⟩, hrd, hin, hold, keeps, hal.1.trans hgens, hal.2.2.1⟩
  have G₁ := G.keeps hXk keeps
  obtain ⟨a, o, pm, cd, doc, dV, kV, h1, h2, h3, h4, h5⟩ := G₁.fn hdef
  have h := call w s s₁ _ _ G₁ (hYk _ _ _ (hY w s y) keeps) a o pm cd doc dV kV h2 h3 h4 h5 (defOf_name hdef ▸ h1) L.gens args vs as hpre hlay L.reads L.well (L.low G.low)
  have hi := ident_freeW hu ha hap
  have hwi : r.toRowW.claim.within = [] := List.isEmpty_iff.mp k6
  refine ⟨vs, s₁, hlaid, ?_⟩
  refine wpC_bind (wpC_of_any (wpAny_nsGet G₁.T.g ?_))
  rw [h1]
  exact wpC_bind (wpC_mono h (fun v s' g => wpC_pure ⟨_, rfl, have z := g.laid (c := r.toRowW.claim) hsame hwi hi L; ⟨z.1, z.2.1, z.2.2, fun q => ⟨namesKept_of hT hg _ keeps g.2.1.old, noTable hwr q⟩⟩⟩)
    fun e s' g => have z := g.laid (c := r.toRowW.claim) hsame hwi hi L; ⟨z.1, z.2.1, z.2.2, fun q => ⟨namesKept_of hT hg _ keeps g.2.1.old, noTable hwr q⟩⟩)

open_top hdx for _root_.PySem.Challenge.rw_nq0026_01
section
variable {α β : Type} {M : Model} {A : Around} {E : Value → Shared → Prop} {s : Shared}
theorem codeC_mono {c : Code} {R R' : Result → Shared → Prop} (h : codeC M A c R s) (hR : ∀ r s, R r s → R' r s) : codeC M A c R' s :=
  fun Γ p hc hΓ hb => wpCode_mono hR (h Γ p hc hΓ hb)
theorem wpC_onRaise {m : Sem α} {k : Value → Sem Unit} {Q : α → Shared → Prop}
    (h : wpC M A m Q (fun e s' => wpC M A (k e) (fun _ s'' => E e s'') E s') s) : wpC M A (m.onRaise k) Q E s := fun Γ p hΓ hc => by
  rw [Sem.wp_onRaise]
  exact Sem.wp_mono M Γ m (fun _ _ _ h' => h') (fun e p' s' h' => h' Γ p' hΓ hc) p s (h Γ p hΓ hc)
theorem wpC_tryCatch {m : Sem α} {k : Value → Sem α} {Q : α → Shared → Prop} (h : wpC M A m Q (fun e s' => wpC M A (k e) Q E s') s) : wpC M A (tryCatch m k) Q E s := fun Γ p hΓ hc => by
  rw [Sem.wp_tryCatch']
  exact Sem.wp_mono M Γ m (fun _ _ _ h' => h') (fun e p' s' h' => h' Γ p' hΓ hc) p s (h Γ p hΓ hc)
theorem wpC_attempt {m : Sem α} {Q : Except Value α → Shared → Prop} (h : wpC M A m (fun a => Q (.ok a)) (fun e => Q (.error e)) s) : wpC M A m.attempt Q E s := fun Γ p hΓ hc => by rw [Sem.wp_attempt]; exact h Γ p hΓ hc
theorem wpC_holding {vs : List Value} {m : Sem α} {Q : α → Shared → Prop} (h : wpC M A m Q E s) : wpC M A (holding vs m) Q E s := fun Γ p hΓ hc => by rw [Sem.wp_holding]; exact h Γ p hΓ hc
theorem called_enter {Γ : Ctx} (c : Code) (h : Option Value) (p : Pos) (hc : Called Γ) : (Γ.enter c h p).below.any (·.1.isCaller) = true := by
  show (((Γ.code, p) :: Γ.below).any (·.1.isCaller)) = true
  rw [List.any_cons]; exact hc
theorem wpC_run {c : Code} {h : Option Value} {Q : Flow → Shared → Prop}
    (hc : codeC M (A.mark h) c (fun r s' => match r with | .ok f => Q f s' | .error e => E e s') s) (hnb : h ≠ some byPass := by intro x; cases x) : wpC M A (run c h) Q E s :=
  fun Γ p hΓ hd => by rw [Sem.wp_run]; exact hc _ p rfl (hΓ.enter c h p hnb) (called_enter c h p hd)
theorem wpC_runValue {c : Code} {Q : Value → Shared → Prop}
    (hc : codeC M A c (fun r s' => match r with | .ok (.ret v) => Q v s' | .ok _ => False | .error e => E e s') s) : wpC M A (runValue c) Q E s :=
  fun Γ p hΓ hd => by rw [Sem.wp_runValue]; exact hc _ p rfl (hΓ.enter c none p (by intro x; cases x)) (called_enter c none p hd)
theorem wpC_call {f : Value} {pos : List Value} {kw : List (Str × Value)} {Q : Value → Shared → Prop}
    (hc : codeC M A (.call f ⟨pos, kw⟩) (fun r s' => match r with | .ok (.ret v) => Q v s' | .ok _ => False | .error e => E e s') s) : wpC M A (call f pos kw) Q E s := wpC_runValue hc
theorem codeC_of_tree {c : Code} {R : Result → Shared → Prop}
    (h : wpC M (A.under c) (M.den c) (fun fin s' => match fin with | .done f => R (.ok f) s' | .again c' => c'.quiet = true ∧ codeC M A c' R s') (fun e s' => R (.error e) s') s) : codeC M A c R s := fun Γ p hc hΓ hb => by
  rw [wpCode_iff_wp, hc]
  refine Sem.wp_mono M Γ _ (fun fin p' s' h' => ?_) (fun _ _ _ h' => h') p s (h Γ p (hc ▸ hΓ.in) (by show (_ || _) = true; rw [hb, Bool.or_true]))
  cases fin with
  | done f => exact h'
  | again c' => exact ⟨h'.1, h'.2 (Γ.goto c') p' rfl (hΓ.goto c') hb⟩
theorem codeC_loop {c : Code} {R : Result → Shared → Prop} (hq : c.quiet = true) (I : Nat → Shared → Prop)
    (turn : ∀ n s, I n s → wpC M (A.under c) (M.den c)
      (fun fin s' => match fin with | .done f => R (.ok f) s' | .again c' => c' = c ∧ ∃ m, m < n ∧ I m s') (fun e s' => R (.error e) s') s)
    (n : Nat) (h : I n s) : codeC M A c R s := by
  induction n using Nat.strongRecOn generalizing s with
  | ind n ih =>
    refine codeC_of_tree (wpC_mono (turn n s h) (fun fin s' hf => ?_) fun _ _ h' => h')
    cases fin with
    | done f => exact hf
    | again c' => obtain ⟨rfl, m, hm, hI⟩ := hf; exact ⟨hq, ih m hm hI⟩
theorem not_and3 {b c d : Bool} (h : b = true) : ((!b && c) && d) = false := by subst h; rfl
theorem caller_eq : (fun c : Code => match c with | .builtin "claim.caller" _ => true | _ => false) = Code.isCaller := by
  funext c; unfold Code.isCaller; rfl
theorem not_made {own : List String} {codes : List Code} (h : codes.any Code.isCaller = true) : pythonCodeMadeTheCall own codes = false := by
  unfold pythonCodeMadeTheCall
  exact not_and3 h
theorem wpC_mark {own : List String} {e : Value} {Q : Unit → Shared → Prop} (h : Q () s) : wpC M A (markTheRefusal own e) Q E s := fun Γ p hΓ hc => by
  have e1 : pythonCodeMadeTheCall own (((Γ.code, p) :: Γ.below).map (·.1)) = false := not_made (by
    rw [List.any_map]
    show (((Γ.code, p) :: Γ.below).any (fun x => x.1.isCaller)) = true
    rw [List.any_cons]; exact hc)
  unfold markTheRefusal
  rw [Sem.wp_bind']
  show wp M Γ (if pythonCodeMadeTheCall own (((Γ.code, p) :: Γ.below).map (·.1)) = true then _ else _) _ _ p s
  rw [e1]
  exact h
end
noncomputable abbrev prog := _root_.PySem.Challenge.pw_nq0026_01
noncomputable def mark (_ : Params → Frag) (_ : OpenLaw) : Prop := True
noncomputable abbrev tupObj (vs : List Value) : Obj := { cls := .type "tuple", data := .seq vs.toArray }
end Mine
end
section
open PySem PySem.W PySem.W.X PyProof.Rows PySem.Calls PySem.Builtin
set_option Elab.async false
set_option maxRecDepth 100000
set_option maxHeartbeats 8000000
namespace Mine
section
variable {α β : Type} {M : Model} {A : Around} {E : Value → Shared → Prop} {s : Shared}
theorem b_eq {m : Sem α} {a : α} {f : α → Sem β} {Q : β → Shared → Prop} (e : m = pure a) (h : wpAny M A (f a) Q E s) : wpAny M A (m >>= f) Q E s := wpAny_bind (wpAny_of_eq e h)
theorem b_lk {m : Sem α} {a : α} {f : α → Sem β} {Q : β → Shared → Prop} (e : Looks M s.heap m a) (h : wpAny M A (f a) Q E s) : wpAny M A (m >>= f) Q E s := wpAny_bind (e A _ E s (fun _ _ x => x) h)
theorem forIn_one {x : α} {b : β} {f : α → β → Sem (ForInStep β)} {γ : Type} {k : β → Sem γ} {Q : γ → Shared → Prop} {b' : β} (e : f x b = pure (ForInStep.yield b')) (h : wpAny M A (k b') Q E s) : wpAny M A (forIn [x] b f >>= k) Q E s := by
  rw [List.forIn_cons, e]
  exact h
theorem forIn_lk {b : β} {f : α → β → Sem (ForInStep β)} {γ : Type} {k : β → Sem γ} {Q : γ → Shared → Prop} : ∀ {l : List α} (_ : ∀ x ∈ l, Looks M s.heap (f x b) (ForInStep.yield b)) (_ : wpAny M A (k b) Q E s), wpAny M A (forIn l b f >>= k) Q E s
  | [], _, h => h
  | x :: l, hl, h => by
    rw [List.forIn_cons, bind_assoc]
    exact b_lk (hl x (.head _)) (forIn_lk (fun y hy => hl y (.tail _ hy)) h)
theorem lk_inst {h : Heap} {a : Addr} {o : Obj} {t : Value} {b : Bool} (ho : h.get? a = some o) (e : isSubtype o.cls t = pure b) : Looks M h (isInstance (.ref a) t) b :=
  (Looks.ld ho).andThen (Looks.of_pure e)
theorem lk_special {h : Heap} {a : Addr} {o : Obj} {n : Str} {r : Option Value} (ho : h.get? a = some o) (e : typeLookup o.cls n = pure r) : Looks M h (specialOf (.ref a) n) r :=
  ((Looks.ld ho).andThen Looks.now).andThen (Looks.of_pure e)
theorem lk_ns {h : Heap} {a : Addr} {o : Obj} {n : Str} {r : Option Value} (ho : h.get? a = some o) (e : lookIn n o = some r) : Looks M h (nsGet a n) r :=
  (Looks.ld ho).andThen (Looks.of_pure (nsLook_of e))
end
theorem nsIn_of {K : Frag} {ns : Addr} {o : Obj} {name : Str} {r : Option Value} (e : K.lookup ns = some o) (hl : lookIn name o = some r) : nsIn K ns name = some r := by
  obtain ⟨c, d, dt, sl⟩ := o
  unfold lookIn at hl
  unfold nsIn
  rw [e]
  cases dt <;> first | exact hl | cases hl
theorem find_K {K : Frag} {c : Addr} {x : Value} {y : Option Addr} {cd : ClassData} {z : Array (Option Value)} {o2 : Obj} {name : Str} (hc : K.lookup c = some ⟨x, y, .cls cd, z⟩) (hm : cd.mro = [.ref c, .type "object"]) (hn : K.lookup cd.ns = some o2) :
    (∀ v, lookIn name o2 = some (some v) → findIn K (.ref c) name = some (some v)) ∧ (lookIn name o2 = some none → findIn K (.ref c) name = some (fastBuiltinOwn "object" name)) := by
  have e1 : findIn K (.ref c) name = alongIn K name [.ref c, .type "object"] := by
    show (match K.lookup c with | some ⟨_, _, .cls cd, _⟩ => alongIn K name cd.mro | _ => none) = _
    rw [hc]; dsimp only; rw [hm]
  have e2 : ownIn K name (.ref c) = nsIn K cd.ns name := by
    show (match K.lookup c with | some ⟨_, _, .cls cd, _⟩ => nsIn K cd.ns name | _ => none) = _
    rw [hc]
  refine ⟨fun v hl => ?_, fun hl => ?_⟩
  · rw [e1]; unfold alongIn; rw [e2, nsIn_of hn hl]
  · rw [e1]; unfold alongIn; rw [e2, nsIn_of hn hl]
    show alongIn K name [.type "object"] = _
    unfold alongIn
    show (match some (fastBuiltinOwn "object" name) with | some (some v) => some (some v) | some none => alongIn K name [] | none => none) = _
    cases fastBuiltinOwn "object" name <;> rfl
theorem lk_find {M : Model} {h : Heap} {c : Addr} {x : Value} {y : Option Addr} {cd : ClassData} {z : Array (Option Value)} {o2 : Obj} {name : Str} (hc : h.get? c = some ⟨x, y, .cls cd, z⟩) (hm : cd.mro = [.ref c, .type "object"]) (hn : h.get? cd.ns = some o2) {r : Option Value}
    (hr : (∃ v, lookIn name o2 = some (some v) ∧ r = some v) ∨ (lookIn name o2 = some none ∧ fastBuiltinOwn "object" name = r)) : Looks M h (typeLookup (.ref c) name) r := by
  have hne : (cd.ns == c) = false := by
    rw [beq_eq_false_iff_ne]
    intro e
    rw [e, hc] at hn
    cases hn
    rcases hr with ⟨v, h1, _⟩ | ⟨h1, _⟩ <;> cases h1
  have X : Frag.In [(c, ⟨x, y, .cls cd, z⟩), (cd.ns, o2)] h := by
    intro a o e
    simp only [List.lookup] at e
    split at e
    · rename_i q; cases e; rw [beq_iff_eq.mp q]; exact hc
    · split at e
      · rename_i q; cases e; rw [beq_iff_eq.mp q]; exact hn
      · cases e
  have l1 : List.lookup c [(c, (⟨x, y, .cls cd, z⟩ : Obj)), (cd.ns, o2)] = some ⟨x, y, .cls cd, z⟩ := by simp [List.lookup]
  have l2 : List.lookup cd.ns [(c, (⟨x, y, .cls cd, z⟩ : Obj)), (cd.ns, o2)] = some o2 := by simp [List.lookup, hne]
  have F := find_K (name := name) l1 hm l2
  rcases hr with ⟨v, h1, rfl⟩ | ⟨h1, rfl⟩
  · exact looks_findIn X (F.1 v h1)
  · exact looks_findIn X (F.2 h1)
theorem mem_to {h₀ h : Heap} {chg news news' : List (Addr × Obj)} (D : Mem h₀ h chg news) (e : news = news') : Mem h₀ h chg news' := e ▸ D
section
variable {β : Type} {M : Model} {A : Around} {E : Value → Shared → Prop} {h₀ h : Heap} {g : Array GenState} {d : Drawn} {tk : Tok} {os : OsState} {chg news : List (Addr × Obj)} {Q : β → Shared → Prop}
theorem m_alloc {o : Obj} {f : Addr → Sem β} (D : Mem h₀ h chg news) (hf : o.isFreed = false) (k : ∀ a h', Mem h₀ h' chg ((a, o) :: news) → wpAny M A (f a) Q E ⟨h', g, d, tk, os⟩) :
    wpAny M A (alloc o >>= f) Q E ⟨h, g, d, tk, os⟩ := wpAny_bind (wpAny_alloc' (k _ _ (D.alloc hf)))
theorem m_upd {a : Addr} {part : Option Value} {fn : Obj → Obj} {f : Unit → Sem β} {o : Obj} (D : Mem h₀ h chg news) (i : Nat) (hi : news[i]? = some (a, o)) (hf : (fn o).isFreed = false)
    (k : ∀ h', Mem h₀ h' chg (news.set i (a, fn o)) → wpAny M A (f ()) Q E ⟨h', g, d, tk, os⟩) : wpAny M A (updatePart a part fn >>= f) Q E ⟨h, g, d, tk, os⟩ :=
  wpAny_bind (wpAny_updatePart' (D.at i a o hi) (k _ (D.update hi hf)))
theorem s_hash {name : Str} {s : Shared} {Q : Int → Shared → Prop} (k : ∀ x, Q x s) : wpAny M A (strHash name) Q E s := by
  unfold strHash
  exact wpAny_bind (nd_ask (nd_pure (wpAny_pure (k _))))
theorem m_nsSet0 {a : Addr} {name : Str} {v : Value} {Q : Unit → Shared → Prop} {c : Value} {dd : Option Addr} {es : Array DictEntry} {n : Nat} {sl : Array (Option Value)} (D : Mem h₀ h chg news) (i : Nat) (hi : news[i]? = some (a, ⟨c, dd, .dict es n, sl⟩))
    (hr : aRefKeyMayBeTheName name es = false) (hf : ∀ x y, (Obj.putName name x y v ⟨c, dd, .dict es n, sl⟩).isFreed = false)
    (k : ∀ x h', Mem h₀ h' chg (news.set i (a, Obj.putName name x (.str name tk) v ⟨c, dd, .dict es n, sl⟩)) → Q () ⟨h', g, d, tk + 1, os⟩) : wpAny M A (nsSet a name v) Q E ⟨h, g, d, tk, os⟩ := by
  have ho := D.at i a _ hi
  unfold nsSet
  refine wpAny_bind (s_hash fun x => ?_)
  refine wpAny_bind (wpAny_mkText ?_)
  refine wpAny_bind (wpAny_loadPart ho ?_)
  dsimp only
  refine wpAny_ite_false (by rw [hr]; rfl) ?_
  exact wpAny_updatePart' ho (k x _ (D.update hi (hf _ _)))
theorem m_nsSet {a : Addr} {name : Str} {v : Value} {f : Unit → Sem β} {c : Value} {dd : Option Addr} {es : Array DictEntry} {n : Nat} {sl : Array (Option Value)} (D : Mem h₀ h chg news) (i : Nat) (hi : news[i]? = some (a, ⟨c, dd, .dict es n, sl⟩))
    (hr : aRefKeyMayBeTheName name es = false) (hf : ∀ x y, (Obj.putName name x y v ⟨c, dd, .dict es n, sl⟩).isFreed = false)
    (k : ∀ x h', Mem h₀ h' chg (news.set i (a, Obj.putName name x (.str name tk) v ⟨c, dd, .dict es n, sl⟩)) → wpAny M A (f ()) Q E ⟨h', g, d, tk + 1, os⟩) : wpAny M A (nsSet a name v >>= f) Q E ⟨h, g, d, tk, os⟩ :=
  wpAny_bind (m_nsSet0 D i hi hr hf k)
theorem m_nsDel {a : Addr} {name : Str} {f : Bool → Sem β} {o : Obj} (D : Mem h₀ h chg news) (i : Nat) (hi : news[i]? = some (a, o))
    (hr : nsHas name o = pure true) (hf : (Obj.dropName name o).isFreed = false)
    (k : ∀ h', Mem h₀ h' chg (news.set i (a, Obj.dropName name o)) → wpAny M A (f true) Q E ⟨h', g, d, tk, os⟩) : wpAny M A (nsDel a name >>= f) Q E ⟨h, g, d, tk, os⟩ := by
  have ho := D.at i a _ hi
  unfold nsDel
  refine wpAny_bind (wpAny_bind (wpAny_loadPart ho ?_))
  rw [hr]
  refine wpAny_bind (wpAny_pure ?_)
  refine wpAny_ite_true (by rfl) ?_
  refine wpAny_bind (wpAny_updatePart' ho ?_)
  exact wpAny_pure (k _ (D.update hi hf))
theorem m_setSlot {a : Addr} {j : Nat} {v : Option Value} {f : Unit → Sem β} {o : Obj} (D : Mem h₀ h chg news) (i : Nat) (hi : news[i]? = some (a, o)) (hj : Nat.blt j 1000 = true) (hf : ({ o with slots := (o.slots ++ Array.replicate (j + 1 - o.slots.size) none).setIfInBounds j v } : Obj).isFreed = false)
    (k : ∀ h', Mem h₀ h' chg (news.set i (a, { o with slots := (o.slots ++ Array.replicate (j + 1 - o.slots.size) none).setIfInBounds j v })) → wpAny M A (f ()) Q E ⟨h', g, d, tk, os⟩) : wpAny M A (setSlotAt a j v >>= f) Q E ⟨h, g, d, tk, os⟩ := by
  unfold setSlotAt
  rw [if_neg (by have := Nat.le_of_ble_eq_true hj; rw [sizeLine_eq]; omega)]
  exact m_upd D i hi hf k
theorem m_cls0 {a : Addr} {fn : ClassData → ClassData} {Q : Unit → Shared → Prop} {c : Value} {dd : Option Addr} {cd : ClassData} {sl : Array (Option Value)} (D : Mem h₀ h chg news) (i : Nat) (hi : news[i]? = some (a, ⟨c, dd, .cls cd, sl⟩)) (hf : (⟨c, dd, .cls (fn cd), sl⟩ : Obj).isFreed = false)
    (hp : (Data.cls (fn cd)).pastItsLine = none)
    (k : ∀ h', Mem h₀ h' chg (news.set i (a, ⟨c, dd, .cls (fn cd), sl⟩)) → Q () ⟨h', g, d, tk, os⟩) : wpAny M A (updateCls a fn) Q E ⟨h, g, d, tk, os⟩ := by
  have ho := D.at i a _ hi
  unfold updateCls
  refine wpAny_bind (wpAny_load' ho ?_)
  dsimp only
  refine m_upd D i hi hf fun h' D' => ?_
  have hl : i < news.length := (List.getElem?_eq_some_iff.mp hi).1
  refine wpAny_lookBehind (o := ⟨c, dd, .cls (fn cd), sl⟩) (D'.at i a _ (by rw [List.getElem?_set_self hl]; rfl)) hp ?_
  exact k h' D'
theorem m_cls {a : Addr} {fn : ClassData → ClassData} {f : Unit → Sem β} {c : Value} {dd : Option Addr} {cd : ClassData} {sl : Array (Option Value)} (D : Mem h₀ h chg news) (i : Nat) (hi : news[i]? = some (a, ⟨c, dd, .cls cd, sl⟩)) (hf : (⟨c, dd, .cls (fn cd), sl⟩ : Obj).isFreed = false)
    (hp : (Data.cls (fn cd)).pastItsLine = none)
    (k : ∀ h', Mem h₀ h' chg (news.set i (a, ⟨c, dd, .cls (fn cd), sl⟩)) → wpAny M A (f ()) Q E ⟨h', g, d, tk, os⟩) : wpAny M A (updateCls a fn >>= f) Q E ⟨h, g, d, tk, os⟩ :=
  wpAny_bind (m_cls0 D i hi hf hp k)
end
end Mine
namespace Mine
section
variable {α β γ : Type} {M : Model} {A : Around} {E : Value → Shared → Prop} {s : Shared} {Q : γ → Shared → Prop}
theorem forIn_w1 {x : α} {b : β} {f : α → β → Sem (ForInStep β)} {k : β → Sem γ} (h : wpAny M A (f x b) (fun r s' => ∃ b', r = .yield b' ∧ wpAny M A (k b') Q E s') E s) : wpAny M A (forIn [x] b f >>= k) Q E s := by
  rw [List.forIn_cons, bind_assoc]
  refine wpAny_bind (wpAny_mono h (fun r s' hr => ?_) fun _ _ e => e)
  obtain ⟨b', rfl, hk⟩ := hr
  exact hk
theorem forIn_arr {l : List α} {b : β} {f : α → β → Sem (ForInStep β)} {k : β → Sem γ} (hl : ∀ x ∈ l, Looks M s.heap (f x b) (ForInStep.yield b)) (h : wpAny M A (k b) Q E s) : wpAny M A (forIn l.toArray b f >>= k) Q E s := by
  rw [List.forIn_toArray]
  exact forIn_lk hl h
end
theorem q_sn_fn : typeLookup (.type "function") (Str.ofString "__set_name__") = pure none := by rw [typeLookup_type, builtinLookup_eq_fast]; kernel_rfl
theorem q_sn_list : typeLookup (.type "list") (Str.ofString "__set_name__") = pure none := by rw [typeLookup_type, builtinLookup_eq_fast]; kernel_rfl
theorem q_sn_tup : typeLookup (.type "tuple") (Str.ofString "__set_name__") = pure none := by rw [typeLookup_type, builtinLookup_eq_fast]; kernel_rfl
theorem q_sn_mem : typeLookup (.type "member_descriptor") (Str.ofString "__set_name__") = pure none := by rw [typeLookup_type, builtinLookup_eq_fast]; kernel_rfl
theorem q_sn_str (x : Str) (t : Tok) : specialOf (.str x t) (Str.ofString "__set_name__") = pure none := by show typeLookup (.type "str") _ = _; rw [typeLookup_type, builtinLookup_eq_fast]; kernel_rfl
theorem q_sn_int (x : Int) (t : Tok) : specialOf (.int x t) (Str.ofString "__set_name__") = pure none := by show typeLookup (.type "int") _ = _; rw [typeLookup_type, builtinLookup_eq_fast]; kernel_rfl
theorem q_sn_none : specialOf .none (Str.ofString "__set_name__") = pure none := by show typeLookup (.type "NoneType") _ = _; rw [typeLookup_type, builtinLookup_eq_fast]; kernel_rfl
end Mine
namespace Mine
theorem lk_mro {M : Model} {h : Heap} {c : Addr} {x : Value} {y : Option Addr} {cd : ClassData} {z : Array (Option Value)} (hc : h.get? c = some ⟨x, y, .cls cd, z⟩) : Looks M h (mroOf (.ref c)) cd.mro :=
  ((Looks.ld hc).andThen (Looks.of_pure rfl)).andThen Looks.now
end Mine
end
section
open PySem PySem.W PySem.W.X PyProof.Rows PySem.Calls PySem.Builtin
set_option Elab.async false
set_option maxRecDepth 100000
set_option maxHeartbeats 8000000
namespace Mine
theorem q_tt : isSubtype (.type "tuple") (.type "tuple") = pure true := by rw [isSubtype_type]; kernel_rfl
theorem q_dd : isSubtype (.type "dict") (.type "dict") = pure true := by rw [isSubtype_type]; kernel_rfl
theorem q_turned : notOverATurnedClass [.type "object"] = pure () := by kernel_rfl
theorem q_ext : extendedBase [.type "object"] = pure (.type "object") := by kernel_rfl
theorem q_iter : typeLookup (.type "dict") "__iter__" = pure (some (.builtin "dict.__iter__")) := by rw [typeLookup_type, builtinLookup_eq_fast]; kernel_rfl
theorem q_best : Slots.bestBase [.type "object"] = pure (.type "object") := by kernel_rfl
theorem q_sn : Builtin.Slots.slotNamesOf (.type "object") = pure [] := by kernel_rfl
theorem q_gd : Slots.givesDict (.type "object") = pure false := by kernel_rfl
theorem q_gw : Slots.givesWeak (.type "object") = pure false := by kernel_rfl
theorem q_vs : Slots.varSize (.type "object") = pure false := by kernel_rfl
theorem q_mro : mroHook? (.type "type") = pure none := by kernel_rfl
theorem q_lin : linearize [.type "object"] mroOf = pure [.type "object"] := by kernel_rfl
theorem q_made : Bind.madeBy (.type "object") = pure (some "object.__new__") := by kernel_rfl
noncomputable abbrev ent (h : Int) (n : String) (t : Tok) (v : Value) : DictEntry := ⟨h, .str (Str.ofString n) t, v⟩
/-- the names of the class body, as they lie when the body is through -/
noncomputable def esK (hs : Nat → Int) (ts : Nat → Tok) (m0 : Str) (sL fI fL fG fE fLe fGe sT : Addr) : Array DictEntry :=
  #[ent (hs 0) "__module__" (ts 0) (.str m0 (ts 20)), ent (hs 1) "__qualname__" (ts 1) (.str (Str.ofString "cmp_to_key.<locals>.K") (ts 21)),
    ent (hs 2) "__firstlineno__" (ts 2) (.int 28 (ts 22)), ent (hs 3) "__slots__" (ts 3) (.ref sL), ent (hs 4) "__init__" (ts 4) (.ref fI), ent (hs 5) "__lt__" (ts 5) (.ref fL), ent (hs 6) "__gt__" (ts 6) (.ref fG), ent (hs 7) "__eq__" (ts 7) (.ref fE),
    ent (hs 8) "__le__" (ts 8) (.ref fLe), ent (hs 9) "__ge__" (ts 9) (.ref fGe), ent (hs 10) "__hash__" (ts 10) .none, ent (hs 11) "__static_attributes__" (ts 11) (.ref sT)]
section
variable {prog : Program} {w : World} {A : Around} {E : Value → Shared → Prop} {h₀ h : Heap} {g : Array GenState} {d : Drawn} {tk : Tok} {os : OsState} {chg news : List (Addr × Obj)}
  {hs : Nat → Int} {ts : Nat → Tok} {m0 : Str} {sL fI fL fG fE fLe fGe sT : Addr} {tO : Tok}
theorem slots_read {Q : Slots.Plan → Shared → Prop} (hS : h.get? sL = some ⟨.type "list", none, .seq #[.str (Str.ofString "obj") tO] 0, #[]⟩)
   (k : ∀ h', (∀ b o, h.get? b = some o → h'.get? b = some o) → Q { names := [Str.ofString "obj"], dict := false, weak := false, inherited := [] } ⟨h', g, d, tk, os⟩) :
   wpAny (model prog w) A (Slots.read (Str.ofString "K") [.type "object"] (esK hs ts m0 sL fI fL fG fE fLe fGe sT)) Q E ⟨h, g, d, tk, os⟩ := by
  unfold Slots.read
  refine b_eq q_best ?_
  refine b_eq q_sn ?_
  refine b_eq q_gd ?_
  refine b_eq q_gw ?_
  refine b_eq q_vs ?_
  have hfind : (esK hs ts m0 sL fI fL fG fE fLe fGe sT).find? (fun x => x.key.isStr (Str.ofString "__slots__")) = some (ent (hs 3) "__slots__" (ts 3) (.ref sL)) := by kernel_rfl
  rw [hfind]
  refine wpAny_bind (wpAny_rule ?_)
  refine b_lk (a := none) (Looks.andThen (Looks.ld hS) (Looks.of_pure rfl)) ?_
  refine wpAny_ite_false (by rfl) ?_
  refine wpAny_bind (wpAny_collect_seq sL (.inl rfl) hS rfl rfl fun h' keep => ?_)
  refine wpAny_ite_true (by rfl) ?_
  refine b_eq q_vs ?_
  refine wpAny_ite_false (by rfl) ?_
  refine wpAny_of_eq (a := { names := [Str.ofString "obj"], dict := false, weak := false, inherited := [] }) (by kernel_rfl) (k h' keep)
end
end Mine
end
section
open PySem PySem.W PySem.W.X PyProof.Rows
set_option Elab.async false
set_option compiler.extract_closed false
set_option maxRecDepth 100000
set_option maxHeartbeats 8000000
namespace Mine
/-- an Around of which nothing but its room is known -/
noncomputable abbrev AX (hd : Option Value) : Around := { handled := hd, depth := 500, frames := none, guards := none, units := 5000 }
theorem of_AX {α : Type} {M : Model} {A : Around} {t : Sem α} {Q : α → Shared → Prop} {E : Value → Shared → Prop} {s : Shared} (hd : A.depth ≤ 500) (hu : A.units ≤ 5000) (h : wpAny M (AX A.handled) t Q E s) : wpAny M A t Q E s :=
  fun Γ p hΓ => h Γ p ⟨hΓ.1, Nat.le_trans hΓ.2.1 hd, fun _ e => (nomatch e), fun _ e => (nomatch e), Nat.le_trans hΓ.2.2.2.2 hu⟩
local macro_rules | `(tactic| x_close) => `(tactic| (with_reducible assumption))
theorem str_own49 (w : World) (s : Shared) (KX : Frag.In (hdx.heap_39 w.params) s.heap) (hd : Option Value) (e t : Addr) (d : Option Addr) (l : List Value) (sl : Array (Option Value)) (dt : Option Addr) (nt : Nat) (slt : Array (Option Value)) (Y : Str) (tk : Tok)
   (he : s.heap.get? e = some ⟨.ref 49, d, .fields ⟨.ref t :: l⟩, sl⟩) (ht : s.heap.get? t = some ⟨.type "tuple", dt, .seq ⟨[.str Y tk]⟩ nt, slt⟩) (Q : Value → Shared → Prop) (E : Value → Shared → Prop) (hQ : Q (.str Y tk) ⟨s.heap, s.gens, s.drawn, s.toks, s.os⟩) :
   wpAny (model prog w) (AX hd) (call (.type "str") [.ref e]) Q E s := by
  x_run
theorem str_own37 (w : World) (s : Shared) (KX : Frag.In (hdx.heap_39 w.params) s.heap) (hd : Option Value) (e t : Addr) (d : Option Addr) (l : List Value) (sl : Array (Option Value)) (dt : Option Addr) (nt : Nat) (slt : Array (Option Value)) (Y : Str) (tk : Tok)
   (he : s.heap.get? e = some ⟨.ref 37, d, .fields ⟨.ref t :: l⟩, sl⟩) (ht : s.heap.get? t = some ⟨.type "tuple", dt, .seq ⟨[.str Y tk]⟩ nt, slt⟩) (Q : Value → Shared → Prop) (E : Value → Shared → Prop) (hQ : Q (.str Y tk) ⟨s.heap, s.gens, s.drawn, s.toks, s.os⟩) :
   wpAny (model prog w) (AX hd) (call (.type "str") [.ref e]) Q E s := by
  x_run
theorem str_got {w : World} {A : Around} {s : Shared} {g : Heap} {L e t : Addr} {c : Nat} {m : Str → Option Value} {news : List (Addr × Obj)} {Y : Str} {tk : Tok} {Q E : Value → Shared → Prop} (X : (hdx.heap_39 w.params).In g) (F : Fr g L s.heap m) (N : News g L s.heap news) (G : Got news e t (.ref c) [.str Y tk])
    (hc : c = 37 ∨ c = 49) (hd : A.depth ≤ 500) (hu : A.units ≤ 5000) (h : Q (.str Y tk) s) : wpAny (model prog w) A (call (.type "str") [.ref e]) Q E s := by
  obtain ⟨⟨oc, od, odt, osl⟩, ⟨tc, td, tdt, tsl⟩, ws, nt, h1, h2, h3, h4, h5, h6, h7⟩ := G
  dsimp only at h3 h4 h6 h7
  subst h3 h4 h6 h7
  obtain ⟨ws⟩ := ws
  cases ws with
  | nil => simp at h5
  | cons x l =>
    have hx : x = .ref t := by simpa using h5
    subst hx
    refine of_AX hd hu ?_
    rcases hc with rfl | rfl
    · exact str_own37 w s (X.keeps F.keep) _ e t od l osl td nt tsl Y tk (N.get h1) (N.get h2) Q E h
    · exact str_own49 w s (X.keeps F.keep) _ e t od l osl td nt tsl Y tk (N.get h1) (N.get h2) Q E h
end Mine
end
section
open PySem PySem.W PySem.W.X PyProof.Rows
set_option Elab.async false
set_option compiler.extract_closed false
set_option maxRecDepth 100000
set_option maxHeartbeats 8000000
namespace Mine
noncomputable def cdK (ns : Addr) (mro : List Value) (hd : Bool) (sn : List Str) : ClassData := { name := Str.ofString "K", bases := [.type "object"], mro := mro, ns := ns, qualname := Str.ofString "cmp_to_key.<locals>.K", hasDict := hd, slotNames := sn }
noncomputable abbrev clsO (ns : Addr) (mro : List Value) (hd : Bool) (sn : List Str) (sl : Array (Option Value)) : Obj := ⟨.type "type", none, .cls (cdK ns mro hd sn), sl⟩
noncomputable abbrev supO (c : Addr) : Obj := ⟨.type "super", none, .fields #[.ref c, .ref c, .ref c], #[]⟩
noncomputable abbrev bfmO (i : String) (c : Addr) : Obj := ⟨.type "builtin_function_or_method", none, .fields #[.builtin i, .ref c], #[]⟩
local macro_rules | `(tactic| x_close) => `(tactic| (rename ∀ _ h', Mem _ h' _ _ → _ => hq; exact hq _ _ (mem_to (by assumption) (by kernel_rfl))))
theorem super_X (w : World) (h : Heap) (g : Array GenState) (d : Drawn) (tk : Tok) (os : OsState) (hd : Option Value) (c ns : Addr) (sl : Array (Option Value))
   (hc : h.get? c = some ⟨.type "type", none, .cls (cdK ns [.ref c, .type "object"] false [Str.ofString "obj"]), sl⟩) (Q : Value → Shared → Prop) (E : Value → Shared → Prop) (hQ : ∀ a h', Mem h h' [] [(a, supO c)] → Q (.ref a) ⟨h', g, d, tk, os⟩) :
   wpAny (model prog w) (AX hd) (call (.type "super") [.ref c, .ref c]) Q E ⟨h, g, d, tk, os⟩ := by
  x_run
local macro_rules | `(tactic| x_close) => `(tactic| (with_reducible assumption))
theorem initsub_X (w : World) (h : Heap) (g : Array GenState) (d : Drawn) (tk : Tok) (os : OsState) (hd : Option Value) (c ns f : Addr) (bT : Addr) (t t2 : Tok)
   (hc : h.get? c = some ⟨.type "type", none, .cls (cdK ns [.ref c, .type "object"] false [Str.ofString "obj"]), #[some (.ref bT), none, some (.str (Str.ofString "K") t), some (.str (Str.ofString "cmp_to_key.<locals>.K") t2), some (.builtin "object.__new__"), some (.bool false)]⟩)
   (hf : h.get? f = some ⟨.type "builtin_function_or_method", none, .fields #[.builtin "object.__init_subclass__", .ref c], #[]⟩) (Q : Value → Shared → Prop) (E : Value → Shared → Prop) (hQ : Q .none ⟨h, g, d, tk, os⟩) :
   wpAny (model prog w) (AX hd) (call (.ref f) []) Q E ⟨h, g, d, tk, os⟩ := by
  x_run
end Mine
end
section
open PySem PySem.W PySem.W.X PyProof.Rows
set_option Elab.async false
set_option compiler.extract_closed false
set_option maxRecDepth 100000
set_option maxHeartbeats 8000000
namespace Mine
local macro_rules | `(tactic| x_close) => `(tactic| (rename ∀ _ h', Mem _ h' _ _ → _ => hq; exact hq _ _ (mem_to (by assumption) (by kernel_rfl))))
theorem cmget_X (w : World) (h : Heap) (g : Array GenState) (d : Drawn) (tk : Tok) (os : OsState) (hd : Option Value) (c ns : Addr) (sl : Array (Option Value))
   (hc : h.get? c = some ⟨.type "type", none, .cls (cdK ns [.ref c, .type "object"] false [Str.ofString "obj"]), sl⟩) (Q : Value → Shared → Prop) (E : Value → Shared → Prop) (hQ : ∀ a h', Mem h h' [] [(a, bfmO "object.__init_subclass__" c)] → Q (.ref a) ⟨h', g, d, tk, os⟩) :
   wpAny (model prog w) (AX hd) (call (.builtin "classmethod_descriptor.__get__") [.builtin "object.__init_subclass__", .none, .ref c]) Q E ⟨h, g, d, tk, os⟩ := by
  x_run
theorem q_own_is : builtinOwn "object" (Str.ofString "__init_subclass__") = some (.builtin "object.__init_subclass__") := by rw [builtinOwn_eq_fast]; kernel_rfl
theorem q_ty_is : typeOf (.builtin "object.__init_subclass__") = pure (.type "classmethod_descriptor") := by show builtinType _ = _; rw [builtinType_eq_fast]; kernel_rfl
theorem q_get_cm : typeLookup (.type "classmethod_descriptor") (Str.ofString "__get__") = pure (some (.builtin "classmethod_descriptor.__get__")) := by rw [typeLookup_type, builtinLookup_eq_fast]; kernel_rfl
theorem super_ga {w : World} {A : Around} {h : Heap} {g : Array GenState} {d : Drawn} {t : Nat} {os : OsState} {so c ns : Addr} {sl : Array (Option Value)} {tk : Tok} {Q : PySem.Fin → Shared → Prop} {E : Value → Shared → Prop} (hA : A.depth ≤ 500 ∧ A.units ≤ 5000)
    (hso : h.get? so = some (supO c)) (hno : Looks (model prog w) h (opaqueClassAbove (.ref c)) none)
    (hc : h.get? c = some (clsO ns [.ref c, .type "object"] false [Str.ofString "obj"] sl))
    (hq : ∀ a h', Mem h h' [] [(a, bfmO "object.__init_subclass__" c)] → Q (.done (.ret (.ref a))) ⟨h', g, d, t, os⟩) :
    wpAny (model prog w) A (Builtin.«super.__getattribute__» ⟨[.ref so, .str (Str.ofString "__init_subclass__") tk], []⟩) Q E ⟨h, g, d, t, os⟩ := by
  have hfl : ∀ i, Looks (model prog w) h (field (.ref so) i) ((#[.ref c, .ref c, .ref c] : Array Value).getD i .none) → True := fun _ _ => trivial
  have hdt : (supO c).data = .fields #[.ref c, .ref c, .ref c] := rfl
  have f0 : (#[.ref c, .ref c, .ref c] : Array Value)[0]? = some (.ref c) := rfl
  have f1 : (#[.ref c, .ref c, .ref c] : Array Value)[1]? = some (.ref c) := rfl
  have f2 : (#[.ref c, .ref c, .ref c] : Array Value)[2]? = some (.ref c) := rfl
  unfold Builtin.«super.__getattribute__»
  refine b_eq (a := some (Str.ofString "__init_subclass__")) rfl ?_
  refine wpAny_ite_false (by rfl) ?_
  refine b_eq (a := some (Str.ofString "__init_subclass__")) rfl ?_
  refine wpAny_bind (wpAny_field hso hdt f0 ?_)
  refine wpAny_bind (wpAny_field hso hdt f1 ?_)
  refine wpAny_bind (wpAny_field hso hdt f2 ?_)
  refine wpAny_ite_false (by rfl) ?_
  refine wpAny_bind (ks_wpAny_notOpaque hno ?_)
  refine wpAny_ite_false (by rfl) ?_
  refine b_lk (lk_mro hc) ?_
  have hdr : (((cdK ns [.ref c, .type "object"] false [Str.ofString "obj"]).mro.dropWhile (fun x => x != Value.ref c)).drop 1) = [.type "object"] := by
    show (([.ref c, .type "object"] : List Value).dropWhile (fun x => x != Value.ref c)).drop 1 = _
    simp
  dsimp only
  rw [hdr]
  rw [List.forIn_cons]
  have hb : (if (Value.ref c == Value.ref c) = true then Value.none else Value.ref c) = Value.none := by simp
  rw [hb]
  refine wpAny_bind (wpAny_bind ?_)
  refine b_eq (show classOwn (Value.type "object") (Str.ofString "__init_subclass__") = pure (some (.builtin "object.__init_subclass__")) from congrArg pure q_own_is) ?_
  refine b_eq q_ty_is ?_
  refine b_eq q_get_cm ?_
  refine wpAny_bind (wpAny_holding (of_AX hA.1 hA.2 (cmget_X w h g d t os A.handled c ns sl hc _ _ fun a h' D => ?_)))
  refine wpAny_bind (wpAny_pure (wpAny_pure (wpAny_pure (wpAny_pure (hq a h' D)))))
theorem hook_tail {w : World} {A : Around} {h : Heap} {g : Array GenState} {d : Drawn} {t : Nat} {os : OsState} {c ns bT : Addr} {t1 t2 : Tok} {Q : Unit → Shared → Prop} {E : Value → Shared → Prop} (hA : A.depth ≤ 400 ∧ A.units ≤ 4000)
    (hno : Looks (model prog w) h (opaqueClassAbove (.ref c)) none)
    (hc : h.get? c = some (clsO ns [.ref c, .type "object"] false [Str.ofString "obj"] #[some (.ref bT), none, some (.str (Str.ofString "K") t1), some (.str (Str.ofString "cmp_to_key.<locals>.K") t2), some (.builtin "object.__new__"), some (.bool false)]))
    (hq : ∀ h' tk', (∀ b o, h.get? b = some o → h'.get? b = some o) → Q () ⟨h', g, d, tk', os⟩) :
    wpAny (model prog w) A (do
      let sup ← call (.type "super") [.ref c, .ref c]
      let f ← holding [sup] (getAttr sup (Str.ofString "__init_subclass__"))
      let _ ← call f [] []
      pure ()) Q E ⟨h, g, d, t, os⟩ := by
  have keep : ∀ {h h' : Heap} {news : List (Addr × Obj)}, Mem h h' [] news → ∀ b o, h.get? b = some o → h'.get? b = some o := fun D b o e => D.keep b o e (by simp [away])
  refine wpAny_bind (of_AX (Nat.le_trans hA.1 (by decide)) (Nat.le_trans hA.2 (by decide)) (super_X w h g d t os A.handled c ns _ hc _ _ fun so h1 D1 => ?_))
  have hso := D1.at 0 so _ rfl
  have hc1 := keep D1 _ _ hc
  have hlk := F.ks_slot_super_ga.lookup
  have hT : ∀ t', (⟨h1, g, d, t', os⟩ : Shared).TypeIs (.ref so) "super" := fun _ => ⟨_, hso, rfl⟩
  refine wpAny_bind (wpAny_holding ?_)
  unfold getAttr getAttrBy
  refine wpAny_bind (wpAny_mkText (wpAny_holding (wpAny_bind (wpAny_typeOf (hT _) (wpAny_bind (wpAny_of_eq hlk ?_))))))
  show wpAny _ _ (getAttrByItsOwn (.ref so) (.str (Str.ofString "__init_subclass__") t) (.type "super") (.builtin "super.__getattribute__") true false) _ _ _
  unfold getAttrByItsOwn hookBefore callGetattribute boundAndCalled
  refine wpAny_bind (wpAny_of_eq (show (if onTheHeap (.type "super") then typeLookup (.type "super") "__getattr__" else pure none) = pure none from rfl) ?_)
  refine wpAny_bind (wpAny_attempt (wpAny_holding ?_))
  show wpAny _ _ (bindSpecial (.builtin "super.__getattribute__") (.ref so) >>= _) _ _ _
  refine wpAny_bind (wpAny_of_eq (F.ks_slot_super_ga.bind _) ?_)
  refine wpAny_mono (Q := fun v s' => ∃ a h', Mem h1 h' [] [(a, bfmO "object.__init_subclass__" c)] ∧ v = .ref a ∧ s' = ⟨h', g, d, t + 1, os⟩) (E := fun _ _ => False)
    (wpAny_call_entry F.ks_slot_super_ga (hT _) F.ks_entry_super_ga (super_ga ⟨?_, ?_⟩ hso (hno.keeps (keep D1)) hc1 fun a h' D => ⟨_, rfl, a, h', D, rfl, rfl⟩) (F.ks_gaArgs_super _ _)) (fun v s' hv => ?_) fun _ _ z => z.elim
  · exact Nat.le_trans hA.1 (by decide)
  · show A.units + 1 ≤ 5000; omega
  obtain ⟨f, h2, D2, rfl, rfl⟩ := hv
  have hf := D2.at 0 f _ rfl
  have hc2 := keep D2 _ _ hc1
  refine wpAny_pure ?_
  refine wpAny_bind (of_AX (Nat.le_trans hA.1 (by decide)) (Nat.le_trans hA.2 (by decide)) (initsub_X w h2 g d _ os A.handled c ns f bT t1 t2 hc2 hf _ _ ?_))
  exact wpAny_pure (hq _ _ fun b o e => keep D2 _ _ (keep D1 _ _ e))
end Mine
end
section
open PySem PySem.W PySem.W.X PyProof.Rows PySem.Calls PySem.Builtin
set_option Elab.async false
set_option maxRecDepth 100000
set_option maxHeartbeats 8000000
namespace Mine
noncomputable abbrev dObj (es : Array DictEntry) (n : Nat) : Obj := ⟨.type "dict", none, .dict es n, #[]⟩
/-- the dict of the class, before its own additions -/
noncomputable def esK1 (hs : Nat → Int) (ts : Nat → Tok) (m0 : Str) (sL fI fL fG fE fLe fGe sT : Addr) : List DictEntry :=
  [ent (hs 0) "__module__" (ts 0) (.str m0 (ts 20)), ent (hs 2) "__firstlineno__" (ts 2) (.int 28 (ts 22)), ent (hs 3) "__slots__" (ts 3) (.ref sL), ent (hs 4) "__init__" (ts 4) (.ref fI), ent (hs 5) "__lt__" (ts 5) (.ref fL), ent (hs 6) "__gt__" (ts 6) (.ref fG), ent (hs 7) "__eq__" (ts 7) (.ref fE),
    ent (hs 8) "__le__" (ts 8) (.ref fLe), ent (hs 9) "__ge__" (ts 9) (.ref fGe), ent (hs 10) "__hash__" (ts 10) .none, ent (hs 11) "__static_attributes__" (ts 11) (.ref sT)]
noncomputable abbrev slK (bT : Addr) (t t2 : Tok) : List (Option Value) := [some (.ref bT), none, some (.str (Str.ofString "K") t), some (.str (Str.ofString "cmp_to_key.<locals>.K") t2)]
noncomputable abbrev memO (c : Addr) (tm : Tok) : Obj := ⟨.type "member_descriptor", none, .fields #[.str (Str.ofString "obj") tm, .ref c, .builtin "proto.slot", .builtin "proto.slot#set", rawInt 0], #[]⟩
noncomputable abbrev slK2 (bT : Addr) (t t2 : Tok) : List (Option Value) := slK bT t t2 ++ [some (Value.builtin "object.__new__"), some (.bool false)]
/-- the dict of the class, whole -/
noncomputable def esK2 (hs : Nat → Int) (ts : Nat → Tok) (m0 : Str) (sL fI fL fG fE fLe fGe sT md : Addr) (x y : Int) (tx ty : Tok) : List DictEntry :=
  esK1 hs ts m0 sL fI fL fG fE fLe fGe sT ++ [ent x "obj" tx (.ref md), ent y "__doc__" ty .none]
theorem type_new (w : World) (A : Around) (Q : PySem.Fin → Shared → Prop) (E : Value → Shared → Prop) (h : Heap) (g : Array GenState) (d : Drawn) (tk : Tok) (os : OsState)
   (t tO : Tok) (bT nA sL fI fL fG fE fLe fGe sT : Addr) (hs : Nat → Int) (ts : Nat → Tok) (m0 : Str) (nn : Nat)
   (hb : h.get? bT = some ⟨.type "tuple", none, .seq #[.type "object"] 0, #[]⟩)
   (hn : h.get? nA = some (dObj (esK hs ts m0 sL fI fL fG fE fLe fGe sT) nn)) (hsys : (nA == sysModules) = false)
   (hS : h.get? sL = some ⟨.type "list", none, .seq #[.str (Str.ofString "obj") tO] 0, #[]⟩) (hT : ∃ o, h.get? sT = some o ∧ o.cls = .type "tuple") (hF : ∀ a ∈ [fI, fL, fG, fE, fLe, fGe], ∃ o, h.get? a = some o ∧ o.cls = .type "function")
   (hA : A.depth ≤ 400 ∧ A.units ≤ 4000) (oS : Obj) (hst : h.get? cStatics = some oS) (hop : lookIn "thirdparty.any" oS = some none)
   (hQ : ∀ c ns md h' tk' x1 x2 t3 t4 t5, (∀ b o, h.get? b = some o → h'.get? b = some o) → h.get? c = none → h.get? ns = none → h.get? md = none →
      h'.get? c = some (clsO ns [.ref c, .type "object"] false [Str.ofString "obj"] (slK2 bT t (ts 21)).toArray) → h'.get? ns = some (dObj (esK2 hs ts m0 sL fI fL fG fE fLe fGe sT md x1 x2 t3 t4).toArray 3) → h'.get? md = some (memO c t5) →
      Q (.done (.ret (.ref c))) ⟨h', g, d, tk', os⟩) :
   wpAny (model prog w) A (Builtin.«type.__new__» ⟨[.type "type", .str (Str.ofString "K") t, .ref bT, .ref nA], []⟩) Q E ⟨h, g, d, tk, os⟩ := by
  unfold Builtin.«type.__new__»
  refine b_eq (a := some (Str.ofString "K")) rfl ?_
  refine b_lk (lk_inst hb q_tt) ?_
  refine b_lk (lk_inst hn q_dd) ?_
  refine b_lk (a := some #[.type "object"]) (Looks.andThen (Looks.ld hb) (Looks.of_pure rfl)) ?_
  refine wpAny_ite_false (by decide) ?_
  refine forIn_one (b' := PUnit.unit) (by kernel_rfl) ?_
  refine forIn_one (b' := Value.type "type") (by kernel_rfl) ?_
  refine wpAny_ite_false (by rfl) ?_
  refine b_eq q_turned ?_
  refine b_eq q_ext ?_
  refine wpAny_ite_false (by rw [hsys]; rfl) ?_
  refine b_lk (a := esK hs ts m0 sL fI fL fG fE fLe fGe sT) (Looks.andThen (Looks.ld hn) (Looks.of_pure rfl)) ?_
  refine b_lk (lk_special hn q_iter) ?_
  refine wpAny_ite_true (by simp) ?_
  refine b_eq rfl ?_
  refine wpAny_bind (wpAny_holding (slots_read hS fun h1 k1 => ?_))
  -- from here over Mem from the heap h1
  have D := Mem.start h1
  refine wpAny_bind (?_ : wpAny _ _ (newObj _ _) _ _ _)
  refine m_alloc D rfl fun ns h2 D => ?_
  refine wpAny_pure ?_
  refine wpAny_ite_false (by kernel_rfl) ?_
  refine b_eq (a := ()) (by kernel_rfl) ?_
  refine wpAny_ite_false (by kernel_rfl) ?_
  refine b_lk (lk_ns (r := some (.str (Str.ofString "cmp_to_key.<locals>.K") (ts 21))) (D.at 0 _ _ rfl) (by kernel_rfl)) ?_
  refine b_lk (lk_ns (r := some (.str (Str.ofString "cmp_to_key.<locals>.K") (ts 21))) (D.at 0 _ _ rfl) (by kernel_rfl)) ?_
  refine b_eq (a := some (Str.ofString "cmp_to_key.<locals>.K")) rfl ?_
  refine b_eq rfl ?_
  refine b_lk (lk_ns (r := none) (D.at 0 _ _ rfl) (by kernel_rfl)) ?_
  refine m_alloc D rfl fun c h3 D => ?_
  refine wpAny_ite_true (by rfl) ?_
  refine m_setSlot D 0 rfl rfl rfl fun h4 D => ?_
  refine m_setSlot D 0 rfl rfl rfl fun h5 D => ?_
  refine m_setSlot D 0 rfl rfl rfl fun h6 D => ?_
  refine m_nsDel D 1 rfl (by kernel_rfl) rfl fun h7 D => ?_
  replace D := mem_to (news' := [(c, clsO ns [] true [] (slK bT t (ts 21)).toArray), (ns, dObj (esK1 hs ts m0 sL fI fL fG fE fLe fGe sT).toArray 1)]) D (by kernel_rfl)
  refine b_lk (lk_ns (r := none) (D.at 1 _ _ rfl) (by kernel_rfl)) ?_
  refine forIn_lk (b := PUnit.unit) (fun x hx => ?_) ?_
  · simp only [List.mem_cons, List.not_mem_nil, or_false] at hx
    rcases hx with rfl | rfl
    · exact (lk_ns (r := none) (D.at 1 _ _ rfl) (by kernel_rfl)).andThen Looks.now
    · exact (lk_ns (r := none) (D.at 1 _ _ rfl) (by kernel_rfl)).andThen Looks.now
  refine b_lk (lk_ns (r := none) (D.at 1 _ _ rfl) (by kernel_rfl)) ?_
  refine b_lk (lk_ns (r := none) (D.at 1 _ _ rfl) (by kernel_rfl)) ?_
  refine b_eq q_mro ?_
  refine b_eq q_lin ?_
  refine b_eq rfl ?_
  have hflt : List.filter (fun x => x != Value.ref c) [Value.ref c, Value.type "object"] = [Value.type "object"] := by simp
  refine b_eq (a := false) ((congrArg (List.anyM _) hflt).trans (by kernel_rfl)) ?_
  refine m_cls D 0 rfl rfl (by kernel_rfl) fun h8 D => ?_
  refine b_eq q_made ?_
  refine m_setSlot D 0 rfl rfl rfl fun h9 D => ?_
  replace D := mem_to (news' := [(c, clsO ns [.ref c, .type "object"] true [] (slK bT t (ts 21) ++ [some (Value.builtin "object.__new__")]).toArray), (ns, dObj (esK1 hs ts m0 sL fI fL fG fE fLe fGe sT).toArray 1)]) D (by kernel_rfl)
  refine b_lk (a := ()) ?_ ?_
  · unfold Bind.refreshMaker
    refine Looks.andThen (Looks.andThen (Looks.ld (D.at 0 _ _ rfl)) Looks.now) ?_
    refine Looks.andThen (lk_find (r := some (Value.builtin "object.__new__")) (D.at 0 _ _ rfl) rfl (D.at 1 _ _ rfl) (.inr ⟨by kernel_rfl, by kernel_rfl⟩)) ?_
    exact Looks.of_pure (by kernel_rfl)
  unfold Slots.install
  refine wpAny_bind ?_
  refine forIn_w1 ?_
  refine b_lk (lk_ns (r := none) (D.at 1 _ _ rfl) (by kernel_rfl)) ?_
  refine wpAny_ite_true (by rfl) ?_
  refine wpAny_bind (wpAny_mkStr' ?_)
  refine wpAny_bind (?_ : wpAny _ _ (newObj _ _) _ _ _)
  refine m_alloc D rfl fun md h10 D => ?_
  refine wpAny_pure ?_
  unfold nsSetByValue
  refine wpAny_bind (wpAny_bind (wpAny_loadPart (D.at 2 _ _ rfl) ?_))
  refine wpAny_ite_false (by kernel_rfl) ?_
  refine m_nsSet0 D 2 rfl (by kernel_rfl) (fun _ _ => rfl) fun x1 h11 D => ?_
  refine wpAny_pure ⟨_, rfl, ?_⟩
  refine forIn_one (b' := false) (by kernel_rfl) ?_
  refine wpAny_ite_false (by kernel_rfl) ?_
  refine m_cls0 D 1 rfl rfl (by kernel_rfl) fun h12 D => ?_
  refine b_eq q_gw ?_
  refine m_setSlot D 1 rfl rfl rfl fun h13 D => ?_
  refine wpAny_ite_false (by kernel_rfl) ?_
  refine wpAny_ite_false (by kernel_rfl) ?_
  refine b_lk (lk_ns (r := none) (D.at 2 _ _ rfl) (by kernel_rfl)) ?_
  refine wpAny_ite_true (by rfl) ?_
  refine m_nsSet D 2 rfl (by kernel_rfl) (fun _ _ => rfl) fun x2 h14 D => ?_
  replace D := mem_to (news' := [(md, memO c tk), (c, clsO ns [.ref c, .type "object"] false [Str.ofString "obj"] (slK2 bT t (ts 21)).toArray), (ns, dObj (esK2 hs ts m0 sL fI fL fG fE fLe fGe sT md x1 x2 (tk + 1) (tk + 1 + 1)).toArray 3)]) D (by kernel_rfl)
  refine b_lk (lk_ns (r := some (.ref fE)) (D.at 2 _ _ rfl) (by kernel_rfl)) ?_
  refine wpAny_ite_true (by rfl) ?_
  refine b_lk (lk_ns (r := some .none) (D.at 2 _ _ rfl) (by kernel_rfl)) ?_
  refine wpAny_ite_false (by rfl) ?_
  refine forIn_one (b' := PUnit.unit) (by kernel_rfl) ?_
  refine wpAny_bind (wpAny_tryCatch (wpAny_holding ?_))
  refine b_lk (a := (esK2 hs ts m0 sL fI fL fG fE fLe fGe sT md x1 x2 (tk + 1) (tk + 1 + 1)).toArray) (Looks.andThen (Looks.ld (D.at 2 _ _ rfl)) (Looks.of_pure rfl)) ?_
  refine b_eq (a := false) (by kernel_rfl) ?_
  refine wpAny_ite_false (by rfl) ?_
  refine b_lk (a := (esK2 hs ts m0 sL fI fL fG fE fLe fGe sT md x1 x2 (tk + 1) (tk + 1 + 1)).toArray) (Looks.andThen (Looks.ld (D.at 2 _ _ rfl)) (Looks.of_pure rfl)) ?_
  refine forIn_arr (b := PUnit.unit) (fun e he => ?_) ?_
  · suffices hh : laidUnderItsOwnName e.key e.val = false ∧ Looks (model prog w) h14 (specialOf e.val (Str.ofString "__set_name__")) none by
      intro A' Q' E' s' k' q'
      exact wpAny_ite_false (by rw [hh.1]; rfl) (wpAny_bind (hh.2 A' _ E' s' k' (wpAny_pure q')))
    have keep : ∀ b o, h.get? b = some o → h14.get? b = some o := fun b o e => D.keep b o (k1 b o e) (by simp [away])
    have fnn : ∀ a ∈ [fI, fL, fG, fE, fLe, fGe], Looks (model prog w) h14 (specialOf (.ref a) (Str.ofString "__set_name__")) none := fun a ha => by
      obtain ⟨o, ho, hcl⟩ := hF a ha
      exact lk_special (keep _ _ ho) (by rw [hcl]; exact q_sn_fn)
    obtain ⟨oT, hoT, hclT⟩ := hT
    unfold esK2 esK1 at he
    simp only [List.cons_append, List.nil_append, List.mem_cons, List.not_mem_nil, or_false] at he
    rcases he with rfl | rfl | rfl | rfl | rfl | rfl | rfl | rfl | rfl | rfl | rfl | rfl | rfl
    · exact ⟨by kernel_rfl, Looks.of_pure (q_sn_str _ _)⟩
    · exact ⟨by kernel_rfl, Looks.of_pure (q_sn_int _ _)⟩
    · exact ⟨by kernel_rfl, lk_special (keep _ _ hS) q_sn_list⟩
    · exact ⟨by kernel_rfl, fnn _ (by simp)⟩
    · exact ⟨by kernel_rfl, fnn _ (by simp)⟩
    · exact ⟨by kernel_rfl, fnn _ (by simp)⟩
    · exact ⟨by kernel_rfl, fnn _ (by simp)⟩
    · exact ⟨by kernel_rfl, fnn _ (by simp)⟩
    · exact ⟨by kernel_rfl, fnn _ (by simp)⟩
    · exact ⟨by kernel_rfl, Looks.of_pure q_sn_none⟩
    · exact ⟨by kernel_rfl, lk_special (keep _ _ hoT) (by rw [hclT]; exact q_sn_tup)⟩
    · exact ⟨by kernel_rfl, lk_special (D.at 0 _ _ rfl) q_sn_mem⟩
    · exact ⟨by kernel_rfl, Looks.of_pure q_sn_none⟩
  have keep : ∀ b o, h.get? b = some o → h14.get? b = some o := fun b o e => D.keep b o (k1 b o e) (by simp [away])
  have new : ∀ a, h1.get? a = none → h.get? a = none := fun a e => by
    cases q : h.get? a with
    | none => rfl
    | some o => rw [k1 a o q] at e; cases e
  have X : Frag.In [(cStatics, oS)] h14 := by
    intro a o e
    simp only [List.lookup] at e
    split at e
    · rename_i q; cases e; rw [beq_iff_eq.mp q]; exact keep _ _ hst
    · cases e
  refine hook_tail hA (looks_opaque X (nsIn_of (by simp [List.lookup]) hop)) (D.at 1 _ _ rfl) fun h' tk' k' => ?_
  refine wpAny_pure ?_
  exact hQ c ns md h' tk' x1 x2 _ _ _ (fun b o e => k' _ _ (keep b o e)) (new _ (D.nw _ (List.mem_of_getElem? (i := 1) rfl)).2) (new _ (D.nw _ (List.mem_of_getElem? (i := 2) rfl)).2) (new _ (D.nw _ (List.mem_of_getElem? (i := 0) rfl)).2)
    (k' _ _ (D.at 1 _ _ rfl)) (k' _ _ (D.at 2 _ _ rfl)) (k' _ _ (D.at 0 _ _ rfl))
end Mine
end
section
open PySem PySem.W PySem.W.X PyProof.Rows PySem.Calls PySem.Builtin
set_option Elab.async false
set_option compiler.extract_closed false
set_option maxRecDepth 100000
set_option maxHeartbeats 8000000
namespace Mine
local macro_rules | `(tactic| x_close) => `(tactic| (with_reducible assumption))
theorem tinit_X (w : World) (h : Heap) (g : Array GenState) (d : Drawn) (tk : Tok) (os : OsState) (hd : Option Value) (c ns bT nA : Addr) (t : Tok) (sl : Array (Option Value))
   (hc : h.get? c = some ⟨.type "type", none, .cls (cdK ns [.ref c, .type "object"] false [Str.ofString "obj"]), sl⟩) (Q : Value → Shared → Prop) (E : Value → Shared → Prop) (hQ : Q .none ⟨h, g, d, tk, os⟩) :
   wpAny (model prog w) (AX hd) (call (.builtin "type.__init__") [.ref c, .str (Str.ofString "K") t, .ref bT, .ref nA]) Q E ⟨h, g, d, tk, os⟩ := by
  x_run
theorem q_tmro : mroOf (.type "type") = pure [.type "type", .type "object"] := by rw [mroOf_type]; kernel_rfl
theorem q_tmade : Bind.madeBy (.type "type") = pure (some "type.__new__") := by kernel_rfl
theorem q_tsub : isSubtype (.type "type") (.type "type") = pure true := by rw [isSubtype_type]; kernel_rfl
theorem q_tinit : typeLookup (.type "type") (Str.ofString "__init__") = pure (some (.builtin "type.__init__")) := by rw [typeLookup_type, builtinLookup_eq_fast]; kernel_rfl
theorem q_tbind (v : Value) : bindSpecial (.builtin "type.__init__") v = pure (.builtin "type.__init__", [v]) := by kernel_rfl
theorem q_tcheck (t : Tok) (a b : Addr) : checkTypeCall "type" ⟨[.str (Str.ofString "K") t, .ref a, .ref b], []⟩ = pure () := by kernel_rfl
theorem q_ncheck (t : Tok) (a b : Addr) : checkBuiltinCall "type.__new__" ⟨[.type "type", .str (Str.ofString "K") t, .ref a, .ref b], []⟩ = pure () := by kernel_rfl
theorem q_nplain : plainId "type.__new__" = true := by decide +kernel
theorem q_nentry : entryFor table "type.__new__" = some Builtin.«type.__new__» := entryFor_of_tree (by kernel_rfl)
theorem type_call (w : World) (A : Around) (Q : Value → Shared → Prop) (E : Value → Shared → Prop) (h : Heap) (g : Array GenState) (d : Drawn) (tk : Tok) (os : OsState)
   (t tO : Tok) (bT nA sL fI fL fG fE fLe fGe sT : Addr) (hs : Nat → Int) (ts : Nat → Tok) (m0 : Str) (nn : Nat)
   (hb : h.get? bT = some ⟨.type "tuple", none, .seq #[.type "object"] 0, #[]⟩)
   (hn : h.get? nA = some (dObj (esK hs ts m0 sL fI fL fG fE fLe fGe sT) nn)) (hsys : (nA == sysModules) = false)
   (hS : h.get? sL = some ⟨.type "list", none, .seq #[.str (Str.ofString "obj") tO] 0, #[]⟩) (hT : ∃ o, h.get? sT = some o ∧ o.cls = .type "tuple") (hF : ∀ a ∈ [fI, fL, fG, fE, fLe, fGe], ∃ o, h.get? a = some o ∧ o.cls = .type "function")
   (hA : A.depth ≤ 390 ∧ A.units ≤ 3900) (oS : Obj) (hst : h.get? cStatics = some oS) (hop : lookIn "thirdparty.any" oS = some none)
   (hQ : ∀ c ns md h' tk' x1 x2 t3 t4 t5, (∀ b o, h.get? b = some o → h'.get? b = some o) → h.get? c = none → h.get? ns = none → h.get? md = none →
      h'.get? c = some (clsO ns [.ref c, .type "object"] false [Str.ofString "obj"] (slK2 bT t (ts 21)).toArray) → h'.get? ns = some (dObj (esK2 hs ts m0 sL fI fL fG fE fLe fGe sT md x1 x2 t3 t4).toArray 3) → h'.get? md = some (memO c t5) →
      Q (.ref c) ⟨h', g, d, tk', os⟩) :
   wpAny (model prog w) A (call (.type "type") [.str (Str.ofString "K") t, .ref bT, .ref nA]) Q E ⟨h, g, d, tk, os⟩ := by
  refine wpAny_call (codeAny_of_tree ?_)
  show wpAny _ _ (callAny (.type "type") _) _ _ _
  refine wpAny_pure ⟨Code.quiet_builtin _ (by decide +kernel), codeAny_builtin F.entry_type_call ?_⟩
  rw [Around.under_plain (weight_type_call_type "type" _ []) (units_type_call_type "type" _ [])]
  unfold Builtin.«type.__call__»
  refine wpAny_ite_true (by rfl) ?_
  refine wpAny_ite_false (by rfl) ?_
  refine wpAny_ite_false (by rfl) ?_
  refine wpAny_ite_false (by kernel_rfl) ?_
  refine b_eq (q_tcheck _ _ _) ?_
  refine b_eq q_tmro ?_
  refine wpAny_ite_false (by rfl) ?_
  refine b_eq q_tmade ?_
  refine b_eq rfl ?_
  refine wpAny_bind (wpAny_holding ?_)
  refine wpAny_call (codeAny_call_builtin q_nplain q_nentry (wpAny_of_eq (q_ncheck _ _ _) ?_))
  refine type_new w _ _ _ h g d tk os t tO bT nA sL fI fL fG fE fLe fGe sT hs ts m0 nn hb hn hsys hS hT hF ⟨Nat.le_trans hA.1 (by decide), ?_⟩ oS hst hop ?_
  · show A.units + 1 + 1 ≤ 4000; omega
  intro c ns md h' tk' x1 x2 t3 t4 t5 keep n1 n2 n3 g1 g2 g3
  have hq := hQ c ns md h' tk' x1 x2 t3 t4 t5 keep n1 n2 n3 g1 g2 g3
  show wpAny _ _ _ _ _ _
  refine b_lk (lk_inst g1 q_tsub) ?_
  refine wpAny_ite_false (by rfl) ?_
  refine wpAny_bind (wpAny_holding ?_)
  unfold callSpecial?
  refine b_lk (lk_special g1 q_tinit) ?_
  refine wpAny_holding ?_
  refine b_eq (q_tbind _) ?_
  refine wpAny_bind (of_AX ?_ ?_ (tinit_X w h' g d tk' os _ c ns bT nA t _ g1 _ _ ?_))
  · exact Nat.le_trans hA.1 (by decide)
  · show A.units + 1 ≤ 5000; omega
  refine wpAny_pure ?_
  refine wpAny_ite_false (by rfl) ?_
  exact wpAny_pure hq
end Mine
end
section
open PySem PySem.W PySem.W.X PyProof.Rows PySem.Calls PySem.Builtin
set_option Elab.async false
set_option maxRecDepth 100000
set_option maxHeartbeats 8000000
namespace Mine
section
variable {M : Model} {A : Around} {E : Value → Shared → Prop} {h : Heap} {g : Array GenState} {d : Drawn} {tk : Tok} {os : OsState} {Q : Value → Shared → Prop}
/-- the code of a class statement, made for the first time -/
theorem class_code_new {env : Env} {c P : Addr} {pos : Pos} {fl : Nat} {name qual : Str} {scope : Scope} (hc : env.code = .ref c) (C : CodeHd h c P) (hP : h.get? P = some (tabObj #[]))
    (k : ∀ c' P' h' tk', (∀ b o, h.get? b = some o → b ≠ P → h'.get? b = some o) → h.get? P' = none → h.get? c' = none → h'.CodeRec (.ref c') qual → CodeHd h' c' P' → h'.get? P' = some (tabObj #[]) →
      h'.get? P = some (tabObj #[rawInt pos.line, rawInt pos.col, .ref c']) → Q (.ref c') ⟨h', g, d, tk', os⟩) :
    wpAny M A (classCode env pos fl name qual scope) Q E ⟨h, g, d, tk, os⟩ := by
  obtain ⟨o, vs, file, tf, flags, tg, inF, text, tt, op, ho, hd, h11, h2, h7, h9, h10, hop, hpd, _, hne⟩ := C.code hP trivial
  obtain rfl : op = tabObj #[] := Option.some.inj (hop.symm.trans hP)
  unfold classCode codeAt
  rw [hc]
  refine wpAny_ite_false (by rfl) ?_
  refine wpAny_bind (wpAny_fieldsOf ho hd ?_)
  rw [h11]
  refine wpAny_bind (wpAny_fieldsOf hop hpd ?_)
  rw [h2, h7, h9, h10]
  dsimp only [codeAmong]
  refine wpAny_bind (wpAny_newCodeX fun c' P' h1 tk' keep lc lP hcode htab hrec => ?_)
  have hop1 := keep _ _ hop
  refine wpAny_bind (wpAny_updateFieldsOfTheText hop1 hpd ?_)
  have hget := Heap.get?_update_self (h := h1) (Obj.mapFields fun vs => if (codeAmong pos vs.toList).isSome = true then vs else vs ++ #[rawInt pos.line, rawInt pos.col, .ref c']) hop1 rfl
  have hother : ∀ b o, b ≠ P → h1.get? b = some o → (h1.update P (Obj.mapFields fun vs => if (codeAmong pos vs.toList).isSome = true then vs else vs ++ #[rawInt pos.line, rawInt pos.col, .ref c'])).get? b = some o := fun b o hb e => (Heap.SameBut.update ..).extBut b o hb e
  refine wpAny_bind (wpAny_fieldsOf hget (vs := #[rawInt pos.line, rawInt pos.col, .ref c']) rfl ?_)
  have hca : codeAmong pos (#[rawInt pos.line, rawInt pos.col, Value.ref c'] : Array Value).toList = some (.ref c') := by
    show codeAmong pos [rawInt pos.line, rawInt pos.col, .ref c'] = _
    unfold rawInt codeAmong
    simp
  rw [hca]
  have ltP := Heap.lt_size hop
  have nP : P' ≠ P := Nat.ne_of_gt (Nat.lt_of_lt_of_le ltP lP)
  have nc : c' ≠ P := Nat.ne_of_gt (Nat.lt_of_lt_of_le ltP lc)
  have fr : ∀ a, h.objs.size ≤ a → h.get? a = none := fun a ha => by
    cases q : h.get? a with
    | none => rfl
    | some o' => exact absurd (Heap.lt_size q) (Nat.not_lt.mpr ha)
  refine wpAny_pure (k c' P' _ _ (fun b o' e hb => hother b o' hb (keep b o' e)) (fr _ lP) (fr _ lc) ?_ ?_ (hother _ _ nP htab.2) hget)
  · obtain ⟨c₂, o₂, vs₂, t₂, e₂, g₂, r₂⟩ := hrec
    cases e₂
    exact ⟨_, o₂, vs₂, t₂, rfl, hother _ _ nc g₂, r₂⟩
  · obtain ⟨o', vs', f1, f2, f3, f4, f5, f6, f7, e, r⟩ := CodeHd.of hcode htab
    exact ⟨o', vs', f1, f2, f3, f4, f5, f6, f7, hother _ _ nc e, r⟩
end
end Mine
end
section
open PySem PySem.W PySem.W.X PyProof.Rows PySem.Calls PySem.Builtin
set_option Elab.async false
set_option compiler.extract_closed false
set_option maxRecDepth 100000
set_option maxHeartbeats 8000000
namespace Mine
noncomputable abbrev prepO : Obj := ⟨.type "builtin_function_or_method", none, .fields #[.builtin "type.__prepare__", .type "type"], #[]⟩
local macro_rules | `(tactic| x_close) => `(tactic| (rename ∀ _ h', Mem _ h' _ _ → _ => hq; exact hq _ _ (mem_to (by assumption) (by kernel_rfl))))
theorem tga_X (w : World) (h : Heap) (g : Array GenState) (d : Drawn) (tk : Tok) (os : OsState) (hd : Option Value) (t : Tok) (Q : Value → Shared → Prop) (E : Value → Shared → Prop) (hQ : ∀ a h', Mem h h' [] [(a, prepO)] → Q (.ref a) ⟨h', g, d, tk, os⟩) :
   wpAny (model prog w) (AX hd) (call (.builtin "type.__getattribute__") [.type "type", .str (Str.ofString "__prepare__") t]) Q E ⟨h, g, d, tk, os⟩ := by
  x_run
theorem prep_X (w : World) (h : Heap) (g : Array GenState) (d : Drawn) (tk : Tok) (os : OsState) (hd : Option Value) (t : Tok) (p b : Addr)
   (hp : h.get? p = some ⟨.type "builtin_function_or_method", none, .fields #[.builtin "type.__prepare__", .type "type"], #[]⟩) (Q : Value → Shared → Prop) (E : Value → Shared → Prop) (hQ : ∀ a h', Mem h h' [] [(a, dObj #[] 0)] → Q (.ref a) ⟨h', g, d, tk, os⟩) :
   wpAny (model prog w) (AX hd) (call (.ref p) [.str (Str.ofString "K") t, .ref b]) Q E ⟨h, g, d, tk, os⟩ := by
  x_run
-- the texts of the program, by their places
noncomputable def bodyOf (s : Stmt) : List Stmt := match s with | .FunctionDef _ _ b _ _ _ _ _ _ _ => b | .ClassDef _ _ _ b _ _ _ _ _ _ _ => b | _ => []
noncomputable def scopeOf (s : Stmt) : Scope := match s with | .FunctionDef _ _ _ _ _ _ sc _ _ _ => sc | .ClassDef _ _ _ _ _ _ sc _ _ _ _ => sc | _ => default
noncomputable def paramsOf (s : Stmt) : Arguments := match s with | .FunctionDef _ a _ _ _ _ _ _ _ _ => a | _ => default
noncomputable def nameOf (s : Stmt) : Str := match s with | .FunctionDef n _ _ _ _ _ _ _ _ _ => n | .ClassDef n _ _ _ _ _ _ _ _ _ _ => n | _ => default
noncomputable def posOf (s : Stmt) : Pos := match s with | .FunctionDef _ _ _ _ _ _ _ _ _ p => p | .ClassDef _ _ _ _ _ _ _ _ _ _ p => p | _ => default
noncomputable def cmpS : Stmt := prog.main.body.getD 6 (.Pass default)
noncomputable def kS : Stmt := (bodyOf cmpS).getD 0 (.Pass default)
noncomputable def kF (i : Nat) : Stmt := (bodyOf kS).getD i (.Pass default)
end Mine
end
section
open PySem PySem.W PySem.W.X PyProof.Rows PySem.Calls PySem.Builtin
set_option Elab.async false
set_option maxRecDepth 100000
set_option maxHeartbeats 8000000
namespace Mine
noncomputable abbrev envC (L cC cl : Addr) : Env := envX (Str.ofString "cmp_to_key") (scopeOf cmpS) L 65 (.ref cC) [(Str.ofString "mycmp", cl)]
noncomputable abbrev qK : Str := Str.ofString "cmp_to_key.<locals>.K"
theorem q_isTt : PySem.isType (.type "type") = pure true := by kernel_rfl
theorem q_objT : typeOf (.type "object") = pure (.type "type") := by kernel_rfl
theorem q_tga : typeLookup (.type "type") (Str.ofString "__getattribute__") = pure (some (.builtin "type.__getattribute__")) := by rw [typeLookup_type, builtinLookup_eq_fast]; kernel_rfl
theorem q_tga_bind (v : Value) : bindSpecial (.builtin "type.__getattribute__") v = pure (.builtin "type.__getattribute__", [v]) := by kernel_rfl
theorem q_tofT : typeOf (.type "type") = pure (.type "type") := by kernel_rfl
/-- type.__prepare__, fetched and called -/
theorem prepare_get {w : World} {A : Around} {h : Heap} {g : Array GenState} {d : Drawn} {tk : Tok} {os : OsState} {Q : Option Value → Shared → Prop} {E : Value → Shared → Prop} (hA : A.depth ≤ 400 ∧ A.units ≤ 4000)
   (k : ∀ a h', Mem h h' [] [(a, prepO)] → Q (some (.ref a)) ⟨h', g, d, tk + 1, os⟩) : wpAny (model prog w) A (getAttr? (.type "type") (Str.ofString "__prepare__")) Q E ⟨h, g, d, tk, os⟩ := by
  unfold getAttr? getAttrBy? getAttrBy
  refine wpAny_bind (wpAny_mkText ?_)
  refine wpAny_bind (wpAny_attempt (wpAny_holding ?_))
  refine b_eq q_tofT ?_
  refine b_eq q_tga ?_
  show wpAny _ _ (getAttrByItsOwn _ _ _ (.builtin "type.__getattribute__") _ _) _ _ _
  unfold getAttrByItsOwn hookBefore callGetattribute boundAndCalled
  refine b_eq (a := none) (by rfl) ?_
  refine wpAny_bind (wpAny_attempt (wpAny_holding ?_))
  refine b_eq (q_tga_bind _) ?_
  refine of_AX (Nat.le_trans hA.1 (by decide)) (Nat.le_trans hA.2 (by decide)) (tga_X w h g d _ os A.handled _ _ _ fun a h' D => ?_)
  refine wpAny_of_eq (a := .ref a) (by rfl) ?_
  exact wpAny_pure (k a h' D)
theorem mkeep {h h' : Heap} {news : List (Addr × Obj)} (D : Mem h h' [] news) : ∀ b o, h.get? b = some o → h'.get? b = some o := fun b o e => D.keep b o e (by simp [away])
theorem none_back {h h' : Heap} (k : ∀ b o, h.get? b = some o → h'.get? b = some o) {a : Addr} (e : h'.get? a = none) : h.get? a = none := by
  cases q : h.get? a with
  | none => rfl
  | some o => rw [k a o q] at e; cases e
theorem q_getitem : typeLookup (.type "dict") (Str.ofString "__getitem__") = pure (some (.builtin "dict.__getitem__")) := by rw [typeLookup_type, builtinLookup_eq_fast]; kernel_rfl
end Mine
end
section
open PySem PySem.W PySem.W.X PyProof.Rows PySem.Calls PySem.Builtin
set_option Elab.async false
set_option maxRecDepth 100000
set_option maxHeartbeats 8000000
namespace Mine
/-- a code object of class code, that knows its name -/
noncomputable def CodeO (h : Heap) (c : Addr) (q : Str) : Prop := ∃ od vs sl tq, h.get? c = some ⟨.type "code", od, .fields vs, sl⟩ ∧ vs[1]? = some (.str q tq)
section
variable {M : Model} {A : Around} {E : Value → Shared → Prop} {h : Heap} {g : Array GenState} {d : Drawn} {tk : Tok} {os : OsState} {name qual : Str} {params : Arguments} {body : List Stmt} {scope : Scope} {env : Env} {c P : Addr} {ps : Array Value} {pos : Pos} {firstLine : Nat} {mg : Str → Option Value}
  {clos : List (Str × Addr)} {Q : Value → Shared → Prop}
theorem codeO_of {h : Heap} {c P : Addr} {q : Str} {ps : Array Value} (x : h.CodeRec (.ref c) q) (y : h.TableAt c P ps) : CodeO h c q := by
  obtain ⟨c2, oc, vs, tq, e, h1, h2, h3⟩ := x
  cases e
  obtain ⟨⟨o, vs', e1, e2, e3, _⟩, _⟩ := y
  rw [h1] at e1
  cases e1
  obtain ⟨cls, od, dt, sl⟩ := oc
  cases e2
  cases h2
  exact ⟨od, vs, sl, tq, h1, h3⟩
theorem fn_own (hcl : closureFor scope env = pure clos) (hge0 : env.globals = mainGlobals) (hg : h.Ns mainGlobals mg) (hcode : env.code = .ref c) (C : CodeHd h c P) (hP : h.get? P = some (tabObj ps)) (ht : TriplesOk ps.toList)
    (hnf : codeAmong pos ps.toList = none) (hgP : mainGlobals ≠ P) (hb : h.BuiltinsAt mg P) (hdoc : docOf body = none)
    (k : ∀ c' ctv h' tk', (∀ b o, h.get? b = some o → b ≠ P → h'.get? b = some o) → h.objs.size ≤ c' → c' < h'.objs.size → CodeO h' c' qual → h'.get? P = some (tabObj (ps ++ #[rawInt pos.line, rawInt pos.col, .ref c'])) →
      Q (.ref h'.objs.size) ⟨h'.push (fnMade name qual params body scope clos .none ((mg "__name__").getD .none) c' ctv), g, d, tk', os⟩) :
    wpAny M A (makeFunction name qual params (.stmts body) scope env [] [] [] pos firstLine) Q E ⟨h, g, d, tk, os⟩ := by
  obtain ⟨bm, ob, hbm, hne0, _, hneP, hbo, hcls, hdict, hdata⟩ := hb
  rw [makeFunction_eq]
  simp only [List.zip_nil_right, List.filterMap_nil, List.isEmpty_nil, if_true, pure_bind]
  unfold makeTail
  rw [hcl, hge0]
  refine wpAny_bind (wpAny_pure ?_)
  have fin : ∀ (ctv : Value) (h1 : Heap) (tk1 : Tok) (code : Value) (c' : Addr), code = .ref c' → (∀ b o, h.get? b = some o → b ≠ P → h1.get? b = some o) → h.objs.size ≤ c' → c' < h1.objs.size → CodeO h1 c' qual → h1.get? P = some (tabObj (ps ++ #[rawInt pos.line, rawInt pos.col, .ref c'])) →
      wpAny M A (do
        let builtins ← builtinsFor mainGlobals env.builtins
        let nm ← nsGet mainGlobals (Str.ofString "__name__")
        let doc ← (match docOf body with | some s => mkText s | none => pure .none)
        newObj (.type "function") (.func { name, qualname := qual, params, body := .stmts body, scope, globals := mainGlobals, closure := clos, defaults := .none, kwdefaults := .none, doc, pyModule := nm.getD .none, annotations := none, code, closureTuple := ctv, builtins })) Q E ⟨h1, g, d, tk1, os⟩ := by
    intro ctv h1 tk1 code c' e1 kx hge hlt hco htb
    subst e1
    have hg1 : h1.Ns mainGlobals mg := by
      obtain ⟨o, es, ep, e, r⟩ := hg
      exact ⟨o, es, ep, kx _ _ e hgP, r⟩
    refine wpAny_bind (wpAny_builtinsFor hg1 hbm hne0 (kx _ _ hbo hneP) hcls hdict hdata ?_)
    refine wpAny_bind (wpAny_nsGet hg1 ?_)
    rw [hdoc]
    refine b_eq rfl ?_
    exact wpAny_newObj_type (k c' ctv h1 tk1 kx hge hlt hco htb) (by size_fits)
  cases clos with
  | nil =>
    refine wpAny_ite_true (by rfl) ?_
    refine b_eq rfl ?_
    refine wpAny_bind (wpAny_functionCodeX hcode (C.code hP ht) (C.tab hP) hnf fun c' h' tk' hx hge hlt _ hrec htb ⟨P', _, _, htb'⟩ => ?_)
    exact fin _ h' _ _ c' rfl (fun b o e hb => hx b o hb e) hge hlt (codeO_of hrec htb') htb.2
  | cons q r =>
    refine wpAny_ite_false (by rfl) ?_
    refine wpAny_bind (wpAny_newTextTuple ?_)
    refine wpAny_bind (wpAny_functionCodeX hcode ((C.keeps fun b o e => Heap.get?_push_of_some _ e).code (Heap.get?_push_of_some _ hP) ht) ((C.keeps fun b o e => Heap.get?_push_of_some _ e).tab (Heap.get?_push_of_some _ hP)) hnf fun c' h' tk' hx hge hlt _ hrec htb ⟨P', _, _, htb'⟩ => ?_)
    have hge' : h.objs.size ≤ c' := Nat.le_trans (by rw [Heap.size_push]; exact Nat.le_succ _) hge
    exact fin _ h' _ _ c' rfl (fun b o e hb => hx b o hb (Heap.get?_push_of_some _ e)) hge' hlt (codeO_of hrec htb') htb.2
end
end Mine
end
section
open PySem PySem.W PySem.W.X PyProof.Rows PySem.Calls PySem.Builtin
set_option Elab.async false
set_option maxRecDepth 100000
set_option maxHeartbeats 8000000
namespace Mine
noncomputable abbrev envK (nA cK fr cl : Addr) : Env := { scope := scopeOf kS, locals := nA, globals := mainGlobals, cells := [(Str.ofString "mycmp", cl)], qual := qK ++ Str.ofString ".", code := .ref cK, frame := some fr, builtins := builtinsNs }
section
variable {M : Model} {A : Around} {E : Value → Shared → Prop} {h : Heap} {g : Array GenState} {d : Drawn} {tk : Tok} {os : OsState}
theorem ns_set {a : Addr} {name : Str} {v : Value} {Q : Unit → Shared → Prop} {c : Value} {dd : Option Addr} {es : Array DictEntry} {n : Nat} {sl : Array (Option Value)} (ho : h.get? a = some ⟨c, dd, .dict es n, sl⟩)
    (hr : aRefKeyMayBeTheName name es = false) (hf : ∀ x y, (Obj.putName name x y v ⟨c, dd, .dict es n, sl⟩).isFreed = false)
    (k : ∀ x h', h'.get? a = some (Obj.putName name x (.str name tk) v ⟨c, dd, .dict es n, sl⟩) → Heap.SameBut a h h' → Q () ⟨h', g, d, tk + 1, os⟩) : wpAny M A (nsSet a name v) Q E ⟨h, g, d, tk, os⟩ := by
  unfold nsSet
  refine wpAny_bind (s_hash fun x => ?_)
  refine wpAny_bind (wpAny_mkText ?_)
  refine wpAny_bind (wpAny_loadPart ho ?_)
  dsimp only
  refine wpAny_ite_false (by rw [hr]; rfl) ?_
  exact wpAny_updatePart' ho (k x _ (Heap.get?_update_self _ ho (hf _ _)) (Heap.SameBut.update ..))
/-- a store in the class's body -/
theorem cls_store {nA cK fr cl : Addr} {name : Str} {v : Value} {Q : Unit → Shared → Prop} {es : Array DictEntry} {n : Nat} (ho : h.get? nA = some (dObj es n))
    (he : storeName (envK nA cK fr cl) name v = localSet (envK nA cK fr cl) name v) (hr : aRefKeyMayBeTheName name es = false)
    (hf : ∀ x y, (Obj.putName name x y v (dObj es n)).isFreed = false)
    (k : ∀ x h', h'.get? nA = some (Obj.putName name x (.str name tk) v (dObj es n)) → (∀ b, b ≠ nA → h'.get? b = h.get? b) → h'.objs.size = h.objs.size → Q () ⟨h', g, d, tk + 1, os⟩) :
    wpAny M A (storeName (envK nA cK fr cl) name v) Q E ⟨h, g, d, tk, os⟩ := by
  rw [he]
  unfold localSet
  refine wpAny_bind (wpAny_load' ho ?_)
  refine wpAny_ite_true (by rfl) ?_
  exact ns_set ho hr hf fun x h' h1 h2 => k x h' h1 (fun b hb => h2.2 b hb) h2.1
end
noncomputable def qF (j : Nat) : Str := qK ++ Str.ofString "." ++ nameOf (kF j)
noncomputable def closK (j : Nat) (cl : Addr) : List (Str × Addr) := if j = 2 then [] else [(Str.ofString "mycmp", cl)]
noncomputable abbrev fnK (j : Nat) (cl : Addr) (doc pm cv ctv : Value) : Obj := { cls := .type "function", data := .func (fnX (nameOf (kF j)) (qF j) (paramsOf (kF j)) (bodyOf (kF j)) (scopeOf (kF j)) (closK j cl) .none .none doc pm none cv ctv) }
/-- a method of K as it lies, its code apart from PK -/
noncomputable def OkF (PK cl : Addr) (pm : Value) (h : Heap) (j : Nat) (f : Addr) : Prop := ∃ doc c oc vs tq ctv, h.get? f = some (fnK j cl doc pm (.ref c) ctv) ∧ h.get? c = some oc ∧ oc.data = .fields vs ∧ vs[1]? = some (.str (qF j) tq) ∧ c ≠ PK ∧ oc.cls = .type "code"
theorem OkF.step {PK cl nA : Addr} {pm : Value} {h h' : Heap} {j : Nat} {f : Addr} {ps : Array Value} {es : Array DictEntry} {n : Nat} (x : OkF PK cl pm h j f) (hP : h.get? PK = some (tabObj ps)) (hn : h.get? nA = some (dObj es n))
    (k : ∀ b o, h.get? b = some o → b ≠ PK → b ≠ nA → h'.get? b = some o) : OkF PK cl pm h' j f := by
  obtain ⟨doc, c, oc, vs, tq, ctv, h1, h2, h3, h4, h5⟩ := x
  refine ⟨doc, c, oc, vs, tq, ctv, k _ _ h1 (fun e => ?_) (fun e => ?_), k _ _ h2 h5.1 (fun e => ?_), h3, h4, h5⟩
  · rw [e, hP] at h1; injection h1 with h1; injection h1 with q _ _ _; cases q
  · rw [e, hn] at h1; injection h1 with h1; injection h1 with _ _ q _; cases q
  · rw [e, hn] at h2; injection h2 with h2; rw [← h2] at h3; cases h3
theorem get_to {h : Heap} {a : Addr} {o o' : Obj} (e : h.get? a = some o) (q : o = o') : h.get? a = some o' := q ▸ e
theorem OkF.code {PK cl : Addr} {pm : Value} {h : Heap} {j : Nat} {f : Addr} (x : OkF PK cl pm h j f) : ∃ o, h.get? f = some o ∧ o.cls = .type "function" := by
  obtain ⟨doc, c, oc, vs, tq, ctv, h1, _⟩ := x
  exact ⟨_, h1, rfl⟩
/-- the making of the j-th method -/
noncomputable def MkOk (w : World) (h₀ : Heap) (nA cK fr cl PK : Addr) (pm : Value) (j : Nat) (I I' : Heap → Prop) : Prop :=
  ∀ (A : Around) (Q : Value → Shared → Prop) (E : Value → Shared → Prop) (h : Heap) (g : Array GenState) (d : Drawn) (tk : Tok) (os : OsState), I h → (∀ b o, h₀.get? b = some o → h.get? b = some o) →
    (∀ f h' tk', (∀ b o, h.get? b = some o → b ≠ PK → h'.get? b = some o) → h.get? f = none → OkF PK cl pm h' j f → I' h' → Q (.ref f) ⟨h', g, d, tk', os⟩) →
    wpAny (model prog w) A (makeFunction (nameOf (kF j)) (qF j) (paramsOf (kF j)) (.stmts (bodyOf (kF j))) (scopeOf (kF j)) (envK nA cK fr cl) [] [] [] (posOf (kF j)) (posOf (kF j)).line) Q E ⟨h, g, d, tk, os⟩
/-- the names of the class body when its last statement is through -/
noncomputable def esB (hs : Nat → Int) (ts : Nat → Tok) (sL fI fL fG fE fLe fGe : Addr) : List DictEntry :=
  [ent (hs 0) "__module__" (ts 0) (.str (Str.ofString "cpy313.functools") (ts 20)), ent (hs 1) "__qualname__" (ts 1) (.str (Str.ofString "cmp_to_key.<locals>.K") (ts 21)),
    ent (hs 2) "__firstlineno__" (ts 2) (.int 28 (ts 22)), ent (hs 3) "__slots__" (ts 3) (.ref sL), ent (hs 4) "__init__" (ts 4) (.ref fI), ent (hs 5) "__lt__" (ts 5) (.ref fL), ent (hs 6) "__gt__" (ts 6) (.ref fG), ent (hs 7) "__eq__" (ts 7) (.ref fE),
    ent (hs 8) "__le__" (ts 8) (.ref fLe), ent (hs 9) "__ge__" (ts 9) (.ref fGe), ent (hs 10) "__hash__" (ts 10) .none]
noncomputable abbrev slotsL (tO : Tok) : Obj := ⟨.type "list", none, .seq #[.str (Str.ofString "obj") tO] 0, #[]⟩
theorem body_K (w : World) (A : Around) (Q : Flow → Shared → Prop) (E : Value → Shared → Prop) (h₀ h : Heap) (g : Array GenState) (d : Drawn) (tk : Tok) (os : OsState) (nA cK fr cl PK : Addr) (pm : Value) (I : Nat → Heap → Prop)
   (hIt : ∀ i h, I i h → ∃ ps, h.get? PK = some (tabObj ps)) (hIs : ∀ i h h' es n, I i h → h.get? nA = some (dObj es n) → (∀ b o, h.get? b = some o → b ≠ nA → h'.get? b = some o) → I i h')
   (mk : ∀ i, i < 6 → MkOk w h₀ nA cK fr cl PK pm (i + 2) (I i) (I (i + 1)))
   (x0 x1 x2 : Int) (t0 t1 t2 t3 t4 : Tok) (v0 : Value) (hn : h.get? nA = some (dObj #[ent x0 "__module__" t0 v0, ent x1 "__qualname__" t1 (.str qK t3), ent x2 "__firstlineno__" t2 (.int 28 t4)] 3)) (hI : I 0 h) (S : ∀ b o, h₀.get? b = some o → h.get? b = some o) (hn0 : h₀.get? nA = none) (hP0 : h₀.get? PK = none)
   (kk : ∀ h' tk' hs ts sL fI fL fG fE fLe fGe tO, h'.get? nA = some (dObj (esB hs ts sL fI fL fG fE fLe fGe).toArray 11) → h'.get? sL = some (slotsL tO) → OkF PK cl pm h' 2 fI → OkF PK cl pm h' 3 fL → OkF PK cl pm h' 4 fG → OkF PK cl pm h' 5 fE → OkF PK cl pm h' 6 fLe → OkF PK cl pm h' 7 fGe →
      I 6 h' → (∀ b o, h.get? b = some o → b ≠ PK → b ≠ nA → h'.get? b = some o) → Q .next ⟨h', g, d, tk', os⟩)
   : wpAny (model prog w) A (execs (bodyOf kS) (envK nA cK fr cl)) Q E ⟨h, g, d, tk, os⟩ := by
  refine wpAny_execs_cons ?_
  refine wpAny_Assign_Name ?_
  refine wpAny_Constant_str ?_
  refine cls_store hn (by kernel_rfl) (by kernel_rfl) (fun _ _ => rfl) fun y0 h1 n1 k1 _ => ?_
  replace n1 := get_to (o' := dObj #[ent x0 "__module__" t0 (.str (Str.ofString "cpy313.functools") tk), ent x1 "__qualname__" t1 (.str qK t3), ent x2 "__firstlineno__" t2 (.int 28 t4)] 3) n1 (by kernel_rfl)
  have I1 := hIs 0 h h1 _ _ hI hn fun b o e hb => (k1 b hb).trans e
  refine wpAny_execs_cons ?_
  refine wpAny_Assign_Name ?_
  refine wpAny_List ?_
  refine spliced_cons (Constant_str (k := 0) (pos := default) ?_)
  refine spliced_nil ⟨by show (1 : Nat) ≤ sizeLine; rw [sizeLine_eq]; decide, ?_⟩
  have neN : ∀ b o, h₀.get? b = some o → b ≠ nA := fun b o e q => by rw [q, hn0] at e; cases e
  have neK : ∀ b o, h₀.get? b = some o → b ≠ PK := fun b o e q => by rw [q, hP0] at e; cases e
  have neN' : ∀ {h : Heap} {es : Array DictEntry} {n : Nat} {o : Obj} {b : Addr}, h.get? nA = some (dObj es n) → h.get? b = some o → (∀ es n, o ≠ dObj es n) → b ≠ nA := fun h1 h2 h3 q => by
    rw [q, h1] at h2; exact h3 _ _ (Option.some.inj h2).symm
  have neK' : ∀ {h : Heap} {ps : Array Value} {o : Obj} {b : Addr}, h.get? PK = some (tabObj ps) → h.get? b = some o → (∀ ps, o ≠ tabObj ps) → b ≠ PK := fun h1 h2 h3 q => by
    rw [q, h1] at h2; exact h3 _ (Option.some.inj h2).symm
  -- the list of the slots
  have hsL : (h1.push ⟨.type "list", none, .seq #[.str (Str.ofString "obj") (tk + 1 + 1)] 0, #[]⟩).get? h1.objs.size = some ⟨.type "list", none, .seq #[.str (Str.ofString "obj") (tk + 1 + 1)] 0, #[]⟩ := Heap.get?_push_size _ rfl
  have hpush : ∀ b o, h1.get? b = some o → (h1.push ⟨.type "list", none, .seq #[.str (Str.ofString "obj") (tk + 1 + 1)] 0, #[]⟩).get? b = some o := fun b o e => Heap.get?_push_of_some _ e
  show wpAny _ _ (storeName _ _ (.ref h1.objs.size)) _ _ ⟨h1.push ⟨.type "list", none, .seq #[.str (Str.ofString "obj") (tk + 1 + 1)] 0, #[]⟩, g, d, tk + 1 + 1 + 1, os⟩
  generalize hsLe : h1.objs.size = sL at hsL ⊢
  generalize (h1.push ⟨.type "list", none, .seq #[.str (Str.ofString "obj") (tk + 1 + 1)] 0, #[]⟩) = h2 at hsL hpush ⊢
  have n2 := hpush _ _ n1
  refine cls_store n2 (by kernel_rfl) (by kernel_rfl) (fun _ _ => rfl) fun y1 h3 n3 k3 _ => ?_
  replace n3 := get_to (o' := dObj #[ent x0 "__module__" t0 (.str (Str.ofString "cpy313.functools") tk), ent x1 "__qualname__" t1 (.str qK t3), ent x2 "__firstlineno__" t2 (.int 28 t4), ent y1 "__slots__" (tk + 1 + 1 + 1) (.ref sL)] 4) n3 (by kernel_rfl)
  have neSn : ∀ {h : Heap} {es : Array DictEntry} {n : Nat} {t : Tok}, h.get? nA = some (dObj es n) → h.get? sL = some (⟨.type "list", none, .seq #[.str (Str.ofString "obj") t] 0, #[]⟩ : Obj) → sL ≠ nA := fun h1 h2 => neN' h1 h2 fun es n q => by injection q with _ _ q _; cases q
  have neSk : ∀ {h : Heap} {ps : Array Value} {t : Tok}, h.get? PK = some (tabObj ps) → h.get? sL = some (⟨.type "list", none, .seq #[.str (Str.ofString "obj") t] 0, #[]⟩ : Obj) → sL ≠ PK := fun h1 h2 => neK' h1 h2 fun ps q => by injection q with q _ _ _; cases q
  obtain ⟨pp, hPp⟩ := hIt _ _ hI
  have neP0 : nA ≠ PK := fun q => by rw [q, hPp] at hn; injection hn with hn; injection hn with q _ _ _; cases q
  have I0 := hIs 0 _ _ _ _ hI hn fun b o e hb => (k3 b hb).trans (hpush _ _ ((k1 b hb).trans e))
  have S0 : ∀ b o, h₀.get? b = some o → h3.get? b = some o := fun b o e => (k3 b (neN b o e)).trans (hpush _ _ ((k1 b (neN b o e)).trans (S b o e)))
  have K0 : ∀ b o, h.get? b = some o → b ≠ PK → b ≠ nA → h3.get? b = some o := fun b o e _ hb => (k3 b hb).trans (hpush _ _ ((k1 b hb).trans e))
  have kS0 : h3.get? sL = some ⟨.type "list", none, .seq #[.str (Str.ofString "obj") (tk + 1 + 1)] 0, #[]⟩ := (k3 _ (neSn n2 hsL)).trans hsL
  obtain ⟨p0, hP0'⟩ := hIt _ _ I0
  have n0 := n3
  have hP0 := hP0'
  refine wpAny_execs_cons (nestDef_K rfl rfl rfl ?_)
  refine mk 0 (by decide) _ _ _ _ _ _ _ _ I0 S0 fun f0 ha0 tk0 ka0 fn0 ok0 Ia0 => ?_
  have na0 := ka0 _ _ n0 neP0
  obtain ⟨pa0, hPa0⟩ := hIt _ _ Ia0
  have nePa0 : nA ≠ PK := neP0
  refine cls_store na0 (by kernel_rfl) (by kernel_rfl) (fun _ _ => rfl) fun z0 hb0 nb0 kb0 _ => ?_
  replace nb0 := get_to (o' := dObj #[ent x0 "__module__" t0 (.str (Str.ofString "cpy313.functools") tk), ent x1 "__qualname__" t1 (.str qK t3), ent x2 "__firstlineno__" t2 (.int 28 t4), ent y1 "__slots__" (tk + 1 + 1 + 1) (.ref sL), ent z0 "__init__" tk0 (.ref f0)] 5) nb0 (by kernel_rfl)
  have n1 := nb0
  have I1 := hIs 1 _ _ _ _ Ia0 na0 fun b o e hb => (kb0 b hb).trans e
  have S1 : ∀ b o, h₀.get? b = some o → hb0.get? b = some o := fun b o e => (kb0 b (neN b o e)).trans (ka0 _ _ (S0 b o e) (neK b o e))
  have ok0 := ok0.step hPa0 na0 fun b o e _ h2 => (kb0 b h2).trans e
  have K1 : ∀ b o, h.get? b = some o → b ≠ PK → b ≠ nA → hb0.get? b = some o := fun b o e h1 h2 => (kb0 b h2).trans (ka0 _ _ (K0 b o e h1 h2) h1)
  have kS1 : hb0.get? sL = some ⟨.type "list", none, .seq #[.str (Str.ofString "obj") (tk + 1 + 1)] 0, #[]⟩ := (kb0 _ (neSn na0 (ka0 _ _ kS0 (neSk hP0 kS0)))).trans (ka0 _ _ kS0 (neSk hP0 kS0))
  obtain ⟨p1, hP1⟩ := hIt _ _ I1
  have neP1 : nA ≠ PK := neP0
  refine wpAny_execs_cons (nestDef_K rfl rfl rfl ?_)
  refine mk 1 (by decide) _ _ _ _ _ _ _ _ I1 S1 fun f1 ha1 tk1 ka1 fn1 ok1 Ia1 => ?_
  have na1 := ka1 _ _ n1 neP1
  obtain ⟨pa1, hPa1⟩ := hIt _ _ Ia1
  have nePa1 : nA ≠ PK := neP1
  have ok0 := ok0.step hP1 n1 fun b o e h1 _ => ka1 b o e h1
  refine cls_store na1 (by kernel_rfl) (by kernel_rfl) (fun _ _ => rfl) fun z1 hb1 nb1 kb1 _ => ?_
  replace nb1 := get_to (o' := dObj #[ent x0 "__module__" t0 (.str (Str.ofString "cpy313.functools") tk), ent x1 "__qualname__" t1 (.str qK t3), ent x2 "__firstlineno__" t2 (.int 28 t4), ent y1 "__slots__" (tk + 1 + 1 + 1) (.ref sL), ent z0 "__init__" tk0 (.ref f0), ent z1 "__lt__" tk1 (.ref f1)] 6) nb1 (by kernel_rfl)
  have n2 := nb1
  have I2 := hIs 2 _ _ _ _ Ia1 na1 fun b o e hb => (kb1 b hb).trans e
  have S2 : ∀ b o, h₀.get? b = some o → hb1.get? b = some o := fun b o e => (kb1 b (neN b o e)).trans (ka1 _ _ (S1 b o e) (neK b o e))
  have ok0 := ok0.step hPa1 na1 fun b o e _ h2 => (kb1 b h2).trans e
  have ok1 := ok1.step hPa1 na1 fun b o e _ h2 => (kb1 b h2).trans e
  have K2 : ∀ b o, h.get? b = some o → b ≠ PK → b ≠ nA → hb1.get? b = some o := fun b o e h1 h2 => (kb1 b h2).trans (ka1 _ _ (K1 b o e h1 h2) h1)
  have kS2 : hb1.get? sL = some ⟨.type "list", none, .seq #[.str (Str.ofString "obj") (tk + 1 + 1)] 0, #[]⟩ := (kb1 _ (neSn na1 (ka1 _ _ kS1 (neSk hP1 kS1)))).trans (ka1 _ _ kS1 (neSk hP1 kS1))
  obtain ⟨p2, hP2⟩ := hIt _ _ I2
  have neP2 : nA ≠ PK := neP1
  refine wpAny_execs_cons (nestDef_K rfl rfl rfl ?_)
  refine mk 2 (by decide) _ _ _ _ _ _ _ _ I2 S2 fun f2 ha2 tk2 ka2 fn2 ok2 Ia2 => ?_
  have na2 := ka2 _ _ n2 neP2
  obtain ⟨pa2, hPa2⟩ := hIt _ _ Ia2
  have nePa2 : nA ≠ PK := neP2
  have ok0 := ok0.step hP2 n2 fun b o e h1 _ => ka2 b o e h1
  have ok1 := ok1.step hP2 n2 fun b o e h1 _ => ka2 b o e h1
  refine cls_store na2 (by kernel_rfl) (by kernel_rfl) (fun _ _ => rfl) fun z2 hb2 nb2 kb2 _ => ?_
  replace nb2 := get_to (o' := dObj #[ent x0 "__module__" t0 (.str (Str.ofString "cpy313.functools") tk), ent x1 "__qualname__" t1 (.str qK t3), ent x2 "__firstlineno__" t2 (.int 28 t4), ent y1 "__slots__" (tk + 1 + 1 + 1) (.ref sL), ent z0 "__init__" tk0 (.ref f0), ent z1 "__lt__" tk1 (.ref f1), ent z2 "__gt__" tk2 (.ref f2)] 7) nb2 (by kernel_rfl)
  have n3 := nb2
  have I3 := hIs 3 _ _ _ _ Ia2 na2 fun b o e hb => (kb2 b hb).trans e
  have S3 : ∀ b o, h₀.get? b = some o → hb2.get? b = some o := fun b o e => (kb2 b (neN b o e)).trans (ka2 _ _ (S2 b o e) (neK b o e))
  have ok0 := ok0.step hPa2 na2 fun b o e _ h2 => (kb2 b h2).trans e
  have ok1 := ok1.step hPa2 na2 fun b o e _ h2 => (kb2 b h2).trans e
  have ok2 := ok2.step hPa2 na2 fun b o e _ h2 => (kb2 b h2).trans e
  have K3 : ∀ b o, h.get? b = some o → b ≠ PK → b ≠ nA → hb2.get? b = some o := fun b o e h1 h2 => (kb2 b h2).trans (ka2 _ _ (K2 b o e h1 h2) h1)
  have kS3 : hb2.get? sL = some ⟨.type "list", none, .seq #[.str (Str.ofString "obj") (tk + 1 + 1)] 0, #[]⟩ := (kb2 _ (neSn na2 (ka2 _ _ kS2 (neSk hP2 kS2)))).trans (ka2 _ _ kS2 (neSk hP2 kS2))
  obtain ⟨p3, hP3⟩ := hIt _ _ I3
  have neP3 : nA ≠ PK := neP2
  refine wpAny_execs_cons (nestDef_K rfl rfl rfl ?_)
  refine mk 3 (by decide) _ _ _ _ _ _ _ _ I3 S3 fun f3 ha3 tk3 ka3 fn3 ok3 Ia3 => ?_
  have na3 := ka3 _ _ n3 neP3
  obtain ⟨pa3, hPa3⟩ := hIt _ _ Ia3
  have nePa3 : nA ≠ PK := neP3
  have ok0 := ok0.step hP3 n3 fun b o e h1 _ => ka3 b o e h1
  have ok1 := ok1.step hP3 n3 fun b o e h1 _ => ka3 b o e h1
  have ok2 := ok2.step hP3 n3 fun b o e h1 _ => ka3 b o e h1
  refine cls_store na3 (by kernel_rfl) (by kernel_rfl) (fun _ _ => rfl) fun z3 hb3 nb3 kb3 _ => ?_
  replace nb3 := get_to (o' := dObj #[ent x0 "__module__" t0 (.str (Str.ofString "cpy313.functools") tk), ent x1 "__qualname__" t1 (.str qK t3), ent x2 "__firstlineno__" t2 (.int 28 t4), ent y1 "__slots__" (tk + 1 + 1 + 1) (.ref sL), ent z0 "__init__" tk0 (.ref f0), ent z1 "__lt__" tk1 (.ref f1), ent z2 "__gt__" tk2 (.ref f2), ent z3 "__eq__" tk3 (.ref f3)] 8) nb3 (by kernel_rfl)
  have n4 := nb3
  have I4 := hIs 4 _ _ _ _ Ia3 na3 fun b o e hb => (kb3 b hb).trans e
  have S4 : ∀ b o, h₀.get? b = some o → hb3.get? b = some o := fun b o e => (kb3 b (neN b o e)).trans (ka3 _ _ (S3 b o e) (neK b o e))
  have ok0 := ok0.step hPa3 na3 fun b o e _ h2 => (kb3 b h2).trans e
  have ok1 := ok1.step hPa3 na3 fun b o e _ h2 => (kb3 b h2).trans e
  have ok2 := ok2.step hPa3 na3 fun b o e _ h2 => (kb3 b h2).trans e
  have ok3 := ok3.step hPa3 na3 fun b o e _ h2 => (kb3 b h2).trans e
  have K4 : ∀ b o, h.get? b = some o → b ≠ PK → b ≠ nA → hb3.get? b = some o := fun b o e h1 h2 => (kb3 b h2).trans (ka3 _ _ (K3 b o e h1 h2) h1)
  have kS4 : hb3.get? sL = some ⟨.type "list", none, .seq #[.str (Str.ofString "obj") (tk + 1 + 1)] 0, #[]⟩ := (kb3 _ (neSn na3 (ka3 _ _ kS3 (neSk hP3 kS3)))).trans (ka3 _ _ kS3 (neSk hP3 kS3))
  obtain ⟨p4, hP4⟩ := hIt _ _ I4
  have neP4 : nA ≠ PK := neP3
  refine wpAny_execs_cons (nestDef_K rfl rfl rfl ?_)
  refine mk 4 (by decide) _ _ _ _ _ _ _ _ I4 S4 fun f4 ha4 tk4 ka4 fn4 ok4 Ia4 => ?_
  have na4 := ka4 _ _ n4 neP4
  obtain ⟨pa4, hPa4⟩ := hIt _ _ Ia4
  have nePa4 : nA ≠ PK := neP4
  have ok0 := ok0.step hP4 n4 fun b o e h1 _ => ka4 b o e h1
  have ok1 := ok1.step hP4 n4 fun b o e h1 _ => ka4 b o e h1
  have ok2 := ok2.step hP4 n4 fun b o e h1 _ => ka4 b o e h1
  have ok3 := ok3.step hP4 n4 fun b o e h1 _ => ka4 b o e h1
  refine cls_store na4 (by kernel_rfl) (by kernel_rfl) (fun _ _ => rfl) fun z4 hb4 nb4 kb4 _ => ?_
  replace nb4 := get_to (o' := dObj #[ent x0 "__module__" t0 (.str (Str.ofString "cpy313.functools") tk), ent x1 "__qualname__" t1 (.str qK t3), ent x2 "__firstlineno__" t2 (.int 28 t4), ent y1 "__slots__" (tk + 1 + 1 + 1) (.ref sL), ent z0 "__init__" tk0 (.ref f0), ent z1 "__lt__" tk1 (.ref f1), ent z2 "__gt__" tk2 (.ref f2), ent z3 "__eq__" tk3 (.ref f3), ent z4 "__le__" tk4 (.ref f4)] 9) nb4 (by kernel_rfl)
  have n5 := nb4
  have I5 := hIs 5 _ _ _ _ Ia4 na4 fun b o e hb => (kb4 b hb).trans e
  have S5 : ∀ b o, h₀.get? b = some o → hb4.get? b = some o := fun b o e => (kb4 b (neN b o e)).trans (ka4 _ _ (S4 b o e) (neK b o e))
  have ok0 := ok0.step hPa4 na4 fun b o e _ h2 => (kb4 b h2).trans e
  have ok1 := ok1.step hPa4 na4 fun b o e _ h2 => (kb4 b h2).trans e
  have ok2 := ok2.step hPa4 na4 fun b o e _ h2 => (kb4 b h2).trans e
  have ok3 := ok3.step hPa4 na4 fun b o e _ h2 => (kb4 b h2).trans e
  have ok4 := ok4.step hPa4 na4 fun b o e _ h2 => (kb4 b h2).trans e
  have K5 : ∀ b o, h.get? b = some o → b ≠ PK → b ≠ nA → hb4.get? b = some o := fun b o e h1 h2 => (kb4 b h2).trans (ka4 _ _ (K4 b o e h1 h2) h1)
  have kS5 : hb4.get? sL = some ⟨.type "list", none, .seq #[.str (Str.ofString "obj") (tk + 1 + 1)] 0, #[]⟩ := (kb4 _ (neSn na4 (ka4 _ _ kS4 (neSk hP4 kS4)))).trans (ka4 _ _ kS4 (neSk hP4 kS4))
  obtain ⟨p5, hP5⟩ := hIt _ _ I5
  have neP5 : nA ≠ PK := neP4
  refine wpAny_execs_cons (nestDef_K rfl rfl rfl ?_)
  refine mk 5 (by decide) _ _ _ _ _ _ _ _ I5 S5 fun f5 ha5 tk5 ka5 fn5 ok5 Ia5 => ?_
  have na5 := ka5 _ _ n5 neP5
  obtain ⟨pa5, hPa5⟩ := hIt _ _ Ia5
  have nePa5 : nA ≠ PK := neP5
  have ok0 := ok0.step hP5 n5 fun b o e h1 _ => ka5 b o e h1
  have ok1 := ok1.step hP5 n5 fun b o e h1 _ => ka5 b o e h1
  have ok2 := ok2.step hP5 n5 fun b o e h1 _ => ka5 b o e h1
  have ok3 := ok3.step hP5 n5 fun b o e h1 _ => ka5 b o e h1
  have ok4 := ok4.step hP5 n5 fun b o e h1 _ => ka5 b o e h1
  refine cls_store na5 (by kernel_rfl) (by kernel_rfl) (fun _ _ => rfl) fun z5 hb5 nb5 kb5 _ => ?_
  replace nb5 := get_to (o' := dObj #[ent x0 "__module__" t0 (.str (Str.ofString "cpy313.functools") tk), ent x1 "__qualname__" t1 (.str qK t3), ent x2 "__firstlineno__" t2 (.int 28 t4), ent y1 "__slots__" (tk + 1 + 1 + 1) (.ref sL), ent z0 "__init__" tk0 (.ref f0), ent z1 "__lt__" tk1 (.ref f1), ent z2 "__gt__" tk2 (.ref f2), ent z3 "__eq__" tk3 (.ref f3), ent z4 "__le__" tk4 (.ref f4), ent z5 "__ge__" tk5 (.ref f5)] 10) nb5 (by kernel_rfl)
  have n6 := nb5
  have I6 := hIs 6 _ _ _ _ Ia5 na5 fun b o e hb => (kb5 b hb).trans e
  have S6 : ∀ b o, h₀.get? b = some o → hb5.get? b = some o := fun b o e => (kb5 b (neN b o e)).trans (ka5 _ _ (S5 b o e) (neK b o e))
  have ok0 := ok0.step hPa5 na5 fun b o e _ h2 => (kb5 b h2).trans e
  have ok1 := ok1.step hPa5 na5 fun b o e _ h2 => (kb5 b h2).trans e
  have ok2 := ok2.step hPa5 na5 fun b o e _ h2 => (kb5 b h2).trans e
  have ok3 := ok3.step hPa5 na5 fun b o e _ h2 => (kb5 b h2).trans e
  have ok4 := ok4.step hPa5 na5 fun b o e _ h2 => (kb5 b h2).trans e
  have ok5 := ok5.step hPa5 na5 fun b o e _ h2 => (kb5 b h2).trans e
  have K6 : ∀ b o, h.get? b = some o → b ≠ PK → b ≠ nA → hb5.get? b = some o := fun b o e h1 h2 => (kb5 b h2).trans (ka5 _ _ (K5 b o e h1 h2) h1)
  have kS6 : hb5.get? sL = some ⟨.type "list", none, .seq #[.str (Str.ofString "obj") (tk + 1 + 1)] 0, #[]⟩ := (kb5 _ (neSn na5 (ka5 _ _ kS5 (neSk hP5 kS5)))).trans (ka5 _ _ kS5 (neSk hP5 kS5))
  obtain ⟨p6, hP6⟩ := hIt _ _ I6
  have neP6 : nA ≠ PK := neP5

  refine wpAny_execs_cons ?_
  refine wpAny_Assign_Name ?_
  refine wpAny_Constant_none ?_
  refine cls_store n6 (by kernel_rfl) (by kernel_rfl) (fun _ _ => rfl) fun zh h9 n9 k9 _ => ?_
  replace n9 := get_to (o' := dObj (esB (fun i => [x0, x1, x2, y1, z0, z1, z2, z3, z4, z5, zh].getD i 0) (fun i => [t0, t1, t2, tk + 1 + 1 + 1, tk0, tk1, tk2, tk3, tk4, tk5, tk5 + 1, 0, 0, 0, 0, 0, 0, 0, 0, 0, tk, t3, t4].getD i 0) sL f0 f1 f2 f3 f4 f5).toArray 11) n9 (by kernel_rfl)
  refine wpAny_pure ?_
  have st : ∀ {j f}, OkF PK cl pm hb5 j f → OkF PK cl pm h9 j f := fun x => x.step hP6 n6 fun b o e _ h2 => (k9 b h2).trans e
  exact kk h9 _ _ _ sL f0 f1 f2 f3 f4 f5 _ n9 ((k9 _ (neSn n6 kS6)).trans kS6) (st ok0) (st ok1) (st ok2) (st ok3) (st ok4) (st ok5) (hIs 6 _ _ _ _ I6 n6 fun b o e hb => (k9 b hb).trans e)
    fun b o e h1 h2 => (k9 b h2).trans (K6 b o e h1 h2)
end Mine
end
section
open PySem PySem.W PySem.W.X PyProof.Rows PySem.Calls PySem.Builtin
set_option Elab.async false
set_option maxRecDepth 100000
set_option maxHeartbeats 8000000
namespace Mine
noncomputable def tripsFrom : Nat → List Value → List Value
  | _, [] => []
  | k, v :: vs => rawInt (posOf (kF k)).line :: rawInt (posOf (kF k)).col :: v :: tripsFrom (k + 1) vs
theorem trips_ok : ∀ (k : Nat) (cs : List Value), (∀ v ∈ cs, ∃ c, v = .ref c) → TriplesOk (tripsFrom k cs)
  | _, [], _ => trivial
  | k, v :: vs, h => by
    obtain ⟨c, rfl⟩ := h v (.head _)
    unfold tripsFrom rawInt
    exact trips_ok (k + 1) vs fun x hx => h x (.tail _ hx)
theorem trips_snoc (v : Value) : ∀ (k : Nat) (cs : List Value), tripsFrom k (cs ++ [v]) = tripsFrom k cs ++ [rawInt (posOf (kF (k + cs.length))).line, rawInt (posOf (kF (k + cs.length))).col, v]
  | k, [] => rfl
  | k, c :: cs => by
    show rawInt _ :: rawInt _ :: c :: tripsFrom (k + 1) (cs ++ [v]) = rawInt _ :: rawInt _ :: c :: (tripsFrom (k + 1) cs ++ _)
    rw [trips_snoc v (k + 1) cs]
    have e : k + 1 + cs.length = k + (c :: cs).length := by simp; lia
    rw [e]
noncomputable def CR (PK : Addr) (h : Heap) (cv : Value) (q : Str) : Prop := ∃ c oc vs tq, cv = .ref c ∧ h.get? c = some oc ∧ oc.data = .fields vs ∧ vs[1]? = some (.str q tq) ∧ c ≠ PK ∧ oc.cls = .type "code"
/-- the tables of K's code with the codes `cs` of its first methods -/
noncomputable def IK (cK PK : Addr) (cs : List Value) (h : Heap) : Prop := CodeHd h cK PK ∧ h.get? PK = some (tabObj (tripsFrom 2 cs).toArray) ∧ ∀ j (hj : j < cs.length), CR PK h cs[j] (qF (j + 2))
theorem IK.keeps {cK PK nA : Addr} {cs : List Value} {h h' : Heap} {es : Array DictEntry} {n : Nat} (x : IK cK PK cs h) (hn : h.get? nA = some (dObj es n)) (k : ∀ b o, h.get? b = some o → b ≠ nA → h'.get? b = some o) : IK cK PK cs h' := by
  obtain ⟨C, hP, hc⟩ := x
  refine ⟨?_, k _ _ hP (fun q => ?_), fun j hj => ?_⟩
  · obtain ⟨o, vs, f1, f2, f3, f4, f5, f6, f7, e, e2, e3, r⟩ := C
    refine ⟨o, vs, f1, f2, f3, f4, f5, f6, f7, k _ _ e (fun q => ?_), e2, e3, r⟩
    rw [q, hn] at e; injection e with e; rw [← e] at e3; cases e3
  · rw [q, hn] at hP; injection hP with hP; injection hP with q _ _ _; cases q
  · obtain ⟨c, oc, vs, tq, h1, h2, h3, r⟩ := hc j hj
    refine ⟨c, oc, vs, tq, h1, k _ _ h2 (fun q => ?_), h3, r⟩
    rw [q, hn] at h2; injection h2 with h2; rw [← h2] at h3; cases h3
theorem six : ∀ {i : Nat}, i < 6 → i = 0 ∨ i = 1 ∨ i = 2 ∨ i = 3 ∨ i = 4 ∨ i = 5 := by decide
theorem len_s {cs : List Value} {n : Nat} (h : cs.length = n + 1) : ∃ a l, cs = a :: l ∧ l.length = n := by
  cases cs with
  | nil => cases h
  | cons a l => exact ⟨a, l, rfl, Nat.succ.inj h⟩
theorem not_there {i : Nat} (hi : i < 6) (cs : List Value) (hl : cs.length = i) : codeAmong (posOf (kF (i + 2))) (tripsFrom 2 cs) = none := by
  rcases six hi with rfl | rfl | rfl | rfl | rfl | rfl
  · obtain rfl := List.eq_nil_of_length_eq_zero hl
    kernel_rfl
  all_goals obtain ⟨_, _, rfl, h1⟩ := len_s hl
  · obtain rfl := List.eq_nil_of_length_eq_zero h1
    kernel_rfl
  all_goals obtain ⟨_, _, rfl, h2⟩ := len_s h1
  · obtain rfl := List.eq_nil_of_length_eq_zero h2
    kernel_rfl
  all_goals obtain ⟨_, _, rfl, h3⟩ := len_s h2
  · obtain rfl := List.eq_nil_of_length_eq_zero h3
    kernel_rfl
  all_goals obtain ⟨_, _, rfl, h4⟩ := len_s h3
  · obtain rfl := List.eq_nil_of_length_eq_zero h4
    kernel_rfl
  obtain ⟨_, _, rfl, h5⟩ := len_s h4
  obtain rfl := List.eq_nil_of_length_eq_zero h5
  kernel_rfl
theorem six_of (cs : List Value) (hl : cs.length = 6) : ∃ a b c d e f, cs = [a, b, c, d, e, f] := by
  obtain ⟨_, _, rfl, h1⟩ := len_s hl
  obtain ⟨_, _, rfl, h2⟩ := len_s h1
  obtain ⟨_, _, rfl, h3⟩ := len_s h2
  obtain ⟨_, _, rfl, h4⟩ := len_s h3
  obtain ⟨_, _, rfl, h5⟩ := len_s h4
  obtain ⟨_, _, rfl, h6⟩ := len_s h5
  obtain rfl := List.eq_nil_of_length_eq_zero h6
  exact ⟨_, _, _, _, _, _, rfl⟩
theorem is_there {i : Nat} (hi : i < 6) (cs : List Value) (hl : cs.length = 6) : codeAmong (posOf (kF (i + 2))) (tripsFrom 2 cs) = some (cs[i]'(by lia)) := by
  obtain ⟨_, _, _, _, _, _, rfl⟩ := six_of cs hl
  rcases six hi with rfl | rfl | rfl | rfl | rfl | rfl
  · kernel_rfl
  · kernel_rfl
  · kernel_rfl
  · kernel_rfl
  · kernel_rfl
  · kernel_rfl
theorem clos_is {i : Nat} (hi : i < 6) (nA cK fr cl : Addr) : closureFor (scopeOf (kF (i + 2))) (envK nA cK fr cl) = pure (closK (i + 2) cl) := by
  rcases six hi with rfl | rfl | rfl | rfl | rfl | rfl
  · kernel_rfl
  · kernel_rfl
  · kernel_rfl
  · kernel_rfl
  · kernel_rfl
  · kernel_rfl
theorem doc_none {i : Nat} (hi : i < 6) : docOf (bodyOf (kF (i + 2))) = none := by
  rcases six hi with rfl | rfl | rfl | rfl | rfl | rfl
  · kernel_rfl
  · kernel_rfl
  · kernel_rfl
  · kernel_rfl
  · kernel_rfl
  · kernel_rfl
section
variable {w : World} {h₀ : Heap} {p : Program} {loose : List Str} {mean : ExcName → Option Value} {mg mb : Str → Option Value}
theorem bmain_at {h : Heap} {PK : Addr} {ps : Array Value} (T : Top p loose mean mg mb h₀) (S : ∀ b o, h₀.get? b = some o → h.get? b = some o) (hP : h.get? PK = some (tabObj ps)) : mainGlobals ≠ PK ∧ h.BuiltinsAt mg PK := by
  have hgs := T.g.keeps S
  obtain ⟨bm, ob, b1, b2, b3, b4, b5, b6⟩ := T.bmain
  refine ⟨fun q => ?_, bm, ob, b1, b2, fun q => ?_, fun q => ?_, S _ _ b3, b4, b5, b6⟩
  · obtain ⟨o, es, ep, e, hd, _⟩ := hgs
    rw [q, hP] at e; cases e; cases hd
  · obtain ⟨o, es, ep, e, hd, _⟩ := T.g
    rw [q, e] at b3; cases b3; rw [hd] at b6; cases b6
  · have e := S _ _ b3
    rw [q, hP] at e; cases e; cases b4
theorem mk_fresh (T : Top p loose mean mg mb h₀) {nA cK fr cl PK : Addr} {i : Nat} (hi : i < 6) : MkOk w h₀ nA cK fr cl PK ((mg "__name__").getD .none) (i + 2)
    (fun h => ∃ cs : List Value, cs.length = i ∧ (∀ v ∈ cs, ∃ c, v = .ref c) ∧ IK cK PK cs h) (fun h => ∃ cs : List Value, cs.length = i + 1 ∧ (∀ v ∈ cs, ∃ c, v = .ref c) ∧ IK cK PK cs h) := by
  rintro A Q E h g d tk os ⟨cs, hl, hr, C, hP, hc⟩ S k
  obtain ⟨hgP, hB⟩ := bmain_at T S hP
  refine fn_own (mg := mg) (clos_is hi nA cK fr cl) rfl (T.g.keeps S) rfl C hP (by rw [List.toList_toArray]; exact trips_ok _ _ hr) (by rw [List.toList_toArray]; exact not_there hi cs hl) hgP hB (doc_none hi) fun c' ctv h' tk' hx hge hlt hco htb => ?_
  obtain ⟨ocd, vs, osl, tq, hoc, hv⟩ := hco
  have hPlt : PK < h.objs.size := Heap.lt_size hP
  have hge' : h.objs.size ≤ c' := hge
  have ncP : c' ≠ PK := Nat.ne_of_gt (Nat.lt_of_lt_of_le hPlt hge')
  have kx : ∀ b o, h.get? b = some o → b ≠ PK → (h'.push (fnMade (nameOf (kF (i + 2))) (qF (i + 2)) (paramsOf (kF (i + 2))) (bodyOf (kF (i + 2))) (scopeOf (kF (i + 2))) (closK (i + 2) cl) .none ((mg "__name__").getD .none) c' ctv)).get? b = some o := fun b o e hb => Heap.get?_push_of_some _ (hx b o e hb)
  refine k _ _ _ kx (Heap.get?_none_of_le (by lia)) ⟨.none, c', _, vs, tq, ctv, Heap.get?_push_size _ rfl, Heap.get?_push_of_some _ hoc, rfl, hv, ncP, rfl⟩ ⟨cs ++ [.ref c'], by simp [hl], ?_, ?_, ?_, ?_⟩
  · intro v hv'
    rcases List.mem_append.mp hv' with q | q
    · exact hr v q
    · exact ⟨c', List.mem_singleton.mp q⟩
  · obtain ⟨o, vs', f1, f2, f3, f4, f5, f6, f7, e, r1, r2, r3, r4, r5, r6, r7, r8, ne⟩ := C
    exact ⟨o, vs', f1, f2, f3, f4, f5, f6, f7, kx _ _ e ne, r1, r2, r3, r4, r5, r6, r7, r8, ne⟩
  · rw [trips_snoc]
    refine Heap.get?_push_of_some _ ?_
    rw [htb, hl, Nat.add_comm 2 i]
    simp
  · intro j hj
    rw [List.length_append, List.length_singleton] at hj
    by_cases hji : j < cs.length
    · rw [List.getElem_append_left hji]
      obtain ⟨c, oc', vs', tq', h1, h2, h3, h4, h5⟩ := hc j hji
      exact ⟨c, oc', vs', tq', h1, kx _ _ h2 h5.1, h3, h4, h5⟩
    · have hje : j = i := by lia
      subst hje
      rw [List.getElem_append_right (by lia)]
      simp only [hl, Nat.sub_self, List.getElem_cons_zero]
      exact ⟨c', _, vs, tq, rfl, Heap.get?_push_of_some _ hoc, rfl, hv, ncP, rfl⟩
theorem mk_hits (T : Top p loose mean mg mb h₀) {nA cK fr cl PK : Addr} {cs : List Value} (hl : cs.length = 6) (hr : ∀ v ∈ cs, ∃ c, v = .ref c) {i : Nat} (hi : i < 6) (J : Heap → Prop) (hJ : ∀ h h', J h → (∀ b o, h.get? b = some o → h'.get? b = some o) → J h') :
    MkOk w h₀ nA cK fr cl PK ((mg "__name__").getD .none) (i + 2) (fun h => IK cK PK cs h ∧ J h) (fun h => IK cK PK cs h ∧ J h) := by
  rintro A Q E h g d tk os ⟨⟨C, hP, hc⟩, hj⟩ S k
  obtain ⟨hgP, hB⟩ := bmain_at T S hP
  obtain ⟨c, oc, vs, tq, h1, h2, h3, h4, h5⟩ := hc i (by lia)
  refine makeFunction_hit (s := ⟨h, g, d, tk, os⟩) (mg := mg) (clos_is hi nA cK fr cl) rfl (T.g.keeps S) rfl C hP (by rw [List.toList_toArray]; exact trips_ok _ _ hr) (by rw [List.toList_toArray]; exact is_there hi cs hl) hB fun ctv doc h' tk' hk hsz => ?_
  rw [h1]
  have kx : ∀ (o' : Obj) b o, h.get? b = some o → (h'.push o').get? b = some o := fun o' b o e => Heap.get?_push_of_some _ (hk b o e)
  have hsz' : h.objs.size ≤ h'.objs.size := hsz
  refine k _ _ _ (fun b o e _ => kx _ b o e) (Heap.get?_none_of_le hsz') ⟨doc, c, oc, vs, tq, ctv, Heap.get?_push_size _ rfl, kx _ _ _ h2, h3, h4, h5⟩ ⟨⟨C.keeps (kx _), kx _ _ _ hP, fun j hj' => ?_⟩, hJ _ _ hj (kx _)⟩
  obtain ⟨c, oc', vs', tq', h1, h2, h3, h4, h5⟩ := hc j hj'
  exact ⟨c, oc', vs', tq', h1, kx _ _ _ h2, h3, h4, h5⟩
end
end Mine
end
section
open PySem PySem.W PySem.W.X PyProof.Rows PySem.Calls PySem.Builtin
set_option Elab.async false
set_option maxRecDepth 100000
set_option maxHeartbeats 8000000
namespace Mine
/-- what the class statement's code gives: the code cK of the class, its table PK -/
noncomputable def CodeSpec (w : World) (L cC cl : Addr) (J : Heap → Prop) (Z : Addr → Addr → Heap → Heap → Prop) : Prop :=
  ∀ (A : Around) (Q : Value → Shared → Prop) (E : Value → Shared → Prop) (h : Heap) (g : Array GenState) (d : Drawn) (tk : Tok) (os : OsState), J h → (∀ cK PK h' tk', Z cK PK h h' → Q (.ref cK) ⟨h', g, d, tk', os⟩) →
    wpAny (model prog w) A (classCode (envC L cC cl) (posOf kS) 28 (Str.ofString "K") qK (scopeOf kS)) Q E ⟨h, g, d, tk, os⟩
theorem lk_name {M : Model} {h : Heap} {nA cK fr cl : Addr} {mg : Str → Option Value} {v0 : Value} {n : Nat} (hn : h.get? nA = some (dObj #[] n)) (hg : h.Ns mainGlobals mg) (hv : mg "__name__" = some v0) : Looks M h (loadName (envK nA cK fr cl) (Str.ofString "__name__")) v0 := by
  intro A Q E s k q
  unfold loadName
  refine wpAny_ite_false (by kernel_rfl) ?_
  refine wpAny_ite_false (by kernel_rfl) ?_
  refine wpAny_bind ?_
  refine wpAny_bind (wpAny_load (k _ _ hn) ?_)
  refine wpAny_ite_true (by rfl) ?_
  refine lk_ns (r := none) (k _ _ hn) (by kernel_rfl) _ _ _ _ (fun _ _ e => e) ?_
  unfold loadGlobal
  refine wpAny_bind (wpAny_nsGet (hg.keeps k) ?_)
  rw [show mg (Str.ofString "__name__") = some v0 from hv]
  exact wpAny_pure q
theorem build_K (w : World) (A : Around) (Q : Value → Shared → Prop) (E : Value → Shared → Prop) (h₀ h : Heap) (g : Array GenState) (d : Drawn) (tk : Tok) (os : OsState) (L cC cl PC : Addr) (hA : A.depth ≤ 330 ∧ A.units ≤ 3000) (oM : Obj) (hsm : h₀.get? sysModules = some oM)
   {p : Program} {loose : List Str} {mean : ExcName → Option Value} {mg mb : Str → Option Value} (T : Top p loose mean mg mb h₀) (S : ∀ b o, h₀.get? b = some o → h.get? b = some o) (v0 : Value) (hv0 : mg "__name__" = some v0) (hC0 : h₀.get? PC = none) (hPC : ∃ ps, h.get? PC = some (tabObj ps))
   (oS : Obj) (hst : h₀.get? cStatics = some oS) (hop : lookIn "thirdparty.any" oS = some none)
   (J : Heap → Prop) (hJ : ∀ h h', J h → (∀ b o, h.get? b = some o → h'.get? b = some o) → J h') (hj : J h) (Z : Addr → Addr → Heap → Heap → Prop) (cs : CodeSpec w L cC cl J Z) (I : Addr → Addr → Nat → Heap → Prop)
   (hZ : ∀ cK PK h h', Z cK PK h h' → (∀ b o, h.get? b = some o → b ≠ PC → h'.get? b = some o) ∧ I cK PK 0 h' ∧ h₀.get? PK = none ∧ ∃ ps, h'.get? PC = some (tabObj ps))
   (hIt : ∀ cK PK i h, I cK PK i h → ∃ ps, h.get? PK = some (tabObj ps)) (hIs : ∀ cK PK i h h' nA es n, I cK PK i h → h.get? nA = some (dObj es n) → (∀ b o, h.get? b = some o → b ≠ nA → h'.get? b = some o) → I cK PK i h')
   (mk : ∀ nA cK PK fr i, i < 6 → MkOk w h₀ nA cK fr cl PK v0 (i + 2) (I cK PK i) (I cK PK (i + 1)))
   (kk : ∀ cK PK nA hZ hZ' c ns md h' tk' hs ts sL fI fL fG fE fLe fGe sT bT t x1 x2 t3 t4 t5, Z cK PK hZ hZ' → (∀ b o, h.get? b = some o → hZ.get? b = some o) → (∀ b o, hZ'.get? b = some o → b ≠ nA → b ≠ PK → h'.get? b = some o) → h.get? nA = none →
      h.get? c = none → h.get? ns = none → I cK PK 6 h' →
      OkF PK cl v0 h' 2 fI → OkF PK cl v0 h' 3 fL → OkF PK cl v0 h' 4 fG →
      h'.get? c = some (clsO ns [.ref c, .type "object"] false [Str.ofString "obj"] (slK2 bT t (ts 21)).toArray) → h'.get? ns = some (dObj (esK2 hs ts (Str.ofString "cpy313.functools") sL fI fL fG fE fLe fGe sT md x1 x2 t3 t4).toArray 3) → h'.get? md = some (memO c t5) →
      Q (.ref c) ⟨h', g, d, tk', os⟩)
   : wpAny (model prog w) A (buildClass (Str.ofString "K") qK [.type "object"] [] (bodyOf kS) (scopeOf kS) [Str.ofString "obj"] 28 (envC L cC cl) (posOf kS) none) Q E ⟨h, g, d, tk, os⟩ := by
  unfold buildClass
  have D := Mem.start h
  refine wpAny_bind (?_ : wpAny _ _ (newObj _ _) _ _ _)
  refine m_alloc D rfl fun bT h1 D => ?_
  refine wpAny_pure ?_
  refine forIn_one (b' := ([.type "object"], false)) (by kernel_rfl) ?_
  refine b_eq q_objT ?_
  refine b_eq q_isTt ?_
  refine wpAny_ite_true (by rfl) ?_
  refine forIn_one (b' := Value.type "type") (by kernel_rfl) ?_
  refine wpAny_bind (wpAny_mkText ?_)
  refine wpAny_ite_false (by rfl) ?_
  refine b_eq rfl ?_
  refine wpAny_holding ?_
  refine wpAny_bind (prepare_get ⟨Nat.le_trans hA.1 (by decide), Nat.le_trans hA.2 (by decide)⟩ fun p h2 D2 => ?_)
  refine wpAny_bind (of_AX (Nat.le_trans hA.1 (by decide)) (Nat.le_trans hA.2 (by decide)) (prep_X w h2 g d _ os A.handled _ p bT (D2.at 0 _ _ rfl) _ _ fun nA h3 D3 => ?_))
  have hnA : h3.get? nA = some (dObj #[] 0) := D3.at 0 _ _ rfl
  have hbT : h3.get? bT = some ⟨.type "tuple", none, .seq #[.type "object"] 0, #[]⟩ := mkeep D3 _ _ (mkeep D2 _ _ (D.at 0 _ _ rfl))
  have k3 : ∀ b o, h.get? b = some o → h3.get? b = some o := fun b o e => mkeep D3 _ _ (mkeep D2 _ _ (mkeep D _ _ e))
  have nn : h.get? nA = none := none_back (fun b o e => mkeep D2 _ _ (mkeep D _ _ e)) (D3.nw _ (.head _)).2
  have nb : h.get? bT = none := (D.nw _ (.head _)).2
  have hn0 : h₀.get? nA = none := none_back S nn
  have hsys : (nA == sysModules) = false := by
    rw [beq_eq_false_iff_ne]
    intro q
    rw [q, hsm] at hn0
    cases hn0
  refine b_eq (a := ()) (by unfold notTheModulesDict; rw [hsys]; rfl) ?_
  refine b_lk (lk_special hnA q_getitem) ?_
  refine wpAny_ite_false (by rfl) ?_
  refine wpAny_holding ?_
  refine wpAny_ite_false (by kernel_rfl) ?_
  refine b_eq rfl ?_
  refine wpAny_ite_false (by kernel_rfl) ?_
  refine b_eq rfl ?_
  refine wpAny_bind (cs _ _ _ _ _ _ _ _ (hJ _ _ hj k3) fun cK PK h4 tk4 z => ?_)
  obtain ⟨k4, I4, hP0, psC', hPC4⟩ := hZ _ _ _ _ z
  obtain ⟨psC, hPC⟩ := hPC
  have neC : ∀ a, h.get? a = none → a ≠ PC := fun a e q => by rw [q, hPC] at e; cases e
  have n4 := k4 _ _ hnA (neC _ nn)
  have b4 := k4 _ _ hbT (neC _ nb)
  have S4 : ∀ b o, h₀.get? b = some o → h4.get? b = some o := fun b o e => k4 _ _ (k3 _ _ (S _ _ e)) fun q => by rw [q, hC0] at e; cases e
  obtain ⟨bm, ob, b1, b2, b3, b5, b6, b7⟩ := T.bmain
  refine wpAny_bind (wpAny_builtinsFor (T.g.keeps S4) b1 b2 (S4 _ _ b3) b5 b6 b7 ?_)
  unfold newBodyFrame
  refine wpAny_bind (wpAny_bind (wpAny_nsGet (T.g.keeps S4) ?_))
  refine wpAny_alloc' ?_
  generalize hfr : h4.objs.size = fr
  have k5 : ∀ b o, h4.get? b = some o → (h4.push { cls := .type "frame", slots := #[some (Value.ref cK), some (.ref (envC L cC cl).globals), some (.ref nA), none, some ((mg (Str.ofString "__name__")).getD .none), none, some (.ref builtinsNs)] }).get? b = some o := fun b o e => Heap.get?_push_of_some _ e
  generalize (h4.push { cls := .type "frame", slots := #[some (Value.ref cK), some (.ref (envC L cC cl).globals), some (.ref nA), none, some ((mg (Str.ofString "__name__")).getD .none), none, some (.ref builtinsNs)] }) = h5 at k5 ⊢
  have I5 : I cK PK 0 h5 := hIs _ _ _ _ _ nA _ _ I4 n4 fun b o e _ => k5 b o e
  have S5 : ∀ b o, h₀.get? b = some o → h5.get? b = some o := fun b o e => k5 _ _ (S4 _ _ e)
  have n5 := k5 _ _ n4
  refine b_eq (a := [(Str.ofString "mycmp", cl)]) (by kernel_rfl) ?_
  refine wpAny_holding ?_
  refine wpAny_bind (wpAny_enterFrame (T.nolimit.keeps S5) (Nat.lt_of_le_of_lt hA.1 (by decide)) ?_)
  refine wpAny_bind (wpAny_onRaise ?_)
  refine b_lk (lk_name (cK := cK) (fr := fr) (cl := cl) n5 (T.g.keeps S5) hv0) ?_
  refine wpAny_bind (cls_store (cK := cK) (fr := fr) (cl := cl) n5 (by kernel_rfl) (by kernel_rfl) (fun _ _ => rfl) fun x0 h6 n6 e6 _ => ?_)
  refine wpAny_bind (wpAny_mkText ?_)
  refine wpAny_bind (cls_store (cK := cK) (fr := fr) (cl := cl) n6 (by kernel_rfl) (by kernel_rfl) (fun _ _ => rfl) fun x1 h7 n7 e7 _ => ?_)
  refine wpAny_bind (wpAny_mkInt ?_)
  refine wpAny_bind (cls_store (cK := cK) (fr := fr) (cl := cl) n7 (by kernel_rfl) (by kernel_rfl) (fun _ _ => rfl) fun x2 h8 n8 e8 _ => ?_)
  refine wpAny_pure ?_
  replace n8 := get_to (o' := dObj #[ent x0 "__module__" tk4 v0, ent x1 "__qualname__" (tk4 + 1 + 1) (.str qK (tk4 + 1)), ent x2 "__firstlineno__" (tk4 + 1 + 1 + 1 + 1) (.int 28 (tk4 + 1 + 1 + 1))] 3) n8 (by kernel_rfl)
  have k8 : ∀ b o, h5.get? b = some o → b ≠ nA → h8.get? b = some o := fun b o e hb => (e8 b hb).trans ((e7 b hb).trans ((e6 b hb).trans e))
  have I8 : I cK PK 0 h8 := hIs _ _ _ _ _ nA _ _ I5 n5 k8
  have S8 : ∀ b o, h₀.get? b = some o → h8.get? b = some o := fun b o e => k8 _ _ (S5 _ _ e) fun q => by rw [q, hn0] at e; cases e
  refine wpAny_bind (wpAny_run (codeAny_of_tree ?_))
  show wpAny _ _ (do blockStart (bodyOf kS) (envK nA cK fr cl); return Fin.done (← (execs (bodyOf kS) (envK nA cK fr cl)).onRaise (leaving (envK nA cK fr cl)))) _ _ _
  refine b_eq (a := ()) (by kernel_rfl) ?_
  refine wpAny_bind (wpAny_onRaise ?_)
  refine body_K w _ _ _ h₀ h8 g d _ os nA cK fr cl PK v0 (I cK PK) (hIt cK PK) (fun i h h' es n a b c => hIs _ _ i h h' nA es n a b c) (fun i hi => mk nA cK PK fr i hi) x0 x1 x2 _ _ _ _ _ v0 n8 I8 S8 hn0 hP0 ?_
  intro h9 tk9 hs ts sL fI fL fG fE fLe fGe tO n9 hsL o2 o3 o4 o5 o6 o7 I9 k9
  refine wpAny_pure ?_
  refine wpAny_bind (wpAny_onRaise ?_)
  refine wpAny_bind (wpAny_mkStrs fun vs => ?_)
  refine wpAny_bind (wpAny_newTextTuple ?_)
  have hsT : (h9.push { cls := .type "tuple", data := .seq vs.toArray }).get? h9.objs.size = some { cls := .type "tuple", data := .seq vs.toArray } := Heap.get?_push_size _ rfl
  have k10 : ∀ b o, h9.get? b = some o → (h9.push { cls := .type "tuple", data := .seq vs.toArray }).get? b = some o := fun b o e => Heap.get?_push_of_some _ e
  show wpAny _ _ (storeName _ _ (.ref h9.objs.size) >>= _) _ _ ⟨h9.push { cls := .type "tuple", data := .seq vs.toArray }, g, d, tk9 + 1, os⟩
  generalize h9.objs.size = sT at hsT ⊢
  generalize (h9.push { cls := .type "tuple", data := .seq vs.toArray }) = h10 at hsT k10 ⊢
  have n10 := k10 _ _ n9
  refine wpAny_bind (cls_store (cK := cK) (fr := fr) (cl := cl) n10 (by kernel_rfl) (by kernel_rfl) (fun _ _ => rfl) fun x9 h11 n11 e11 _ => ?_)
  replace n11 := get_to (o' := dObj (esK (fun i => if i = 11 then x9 else hs i) (fun i => if i = 11 then tk9 + 1 else ts i) (Str.ofString "cpy313.functools") sL fI fL fG fE fLe fGe sT) 12) n11 (by kernel_rfl)
  refine wpAny_pure ?_
  refine wpAny_ite_false (by rfl) ?_
  obtain ⟨pz, hPz⟩ := hIt _ _ _ _ I9
  have st : ∀ {j f}, OkF PK cl v0 h9 j f → OkF PK cl v0 h11 j f := fun x => (x.step hPz n9 fun b o e _ _ => k10 b o e).step (k10 _ _ hPz) n10 fun b o e _ h2 => (e11 b h2).trans e
  have neD : ∀ {a : Addr} {o : Obj}, h10.get? a = some o → (∀ es n, o.data ≠ .dict es n) → a ≠ nA := fun e q r => by rw [r, n10] at e; injection e with e; exact q _ _ (by rw [← e])
  have hsL11 : h11.get? sL = some (slotsL tO) := (e11 _ (neD (k10 _ _ hsL) fun es n q => by cases q)).trans (k10 _ _ hsL)
  have hsT11 : h11.get? sT = some { cls := .type "tuple", data := .seq vs.toArray } := (e11 _ (neD hsT fun es n q => by cases q)).trans hsT
  have neP : nA ≠ PK := fun q => by
    obtain ⟨pq, hq⟩ := hIt _ _ _ _ I4
    rw [q, hq] at n4; injection n4 with n4; injection n4 with q _ _ _; cases q
  have kZ : ∀ b o, h4.get? b = some o → b ≠ nA → b ≠ PK → h11.get? b = some o := fun b o e q1 q2 => (e11 b q1).trans (k10 _ _ (k9 _ _ (k8 _ _ (k5 _ _ e) q1) q2 q1))
  have hb11 : h11.get? bT = some ⟨.type "tuple", none, .seq #[.type "object"] 0, #[]⟩ := kZ _ _ b4 (fun q => by rw [q, n4] at b4; injection b4 with b4; injection b4 with _ _ q _; cases q) (fun q => by
    obtain ⟨pq, hq⟩ := hIt _ _ _ _ I4
    rw [q, hq] at b4; injection b4 with b4; injection b4 with q _ _ _; cases q)
  have S11 : ∀ b o, h₀.get? b = some o → h11.get? b = some o := fun b o e => kZ _ _ (S4 _ _ e) (fun q => by rw [q, hn0] at e; cases e) (fun q => by rw [q, hP0] at e; cases e)
  have hF : ∀ a ∈ [fI, fL, fG, fE, fLe, fGe], ∃ o, h11.get? a = some o ∧ o.cls = .type "function" := fun a ha => by
    simp only [List.mem_cons, List.not_mem_nil, or_false] at ha
    rcases ha with rfl | rfl | rfl | rfl | rfl | rfl
    · exact (st o2).code
    · exact (st o3).code
    · exact (st o4).code
    · exact (st o5).code
    · exact (st o6).code
    · exact (st o7).code
  refine wpAny_bind (type_call w A _ _ h11 g d _ os _ tO bT nA sL fI fL fG fE fLe fGe sT _ _ _ 12 hb11 n11 hsys hsL11 ⟨_, hsT11, rfl⟩ hF ⟨Nat.le_trans hA.1 (by decide), Nat.le_trans hA.2 (by decide)⟩ oS (S11 _ _ hst) hop ?_)
  intro c ns md h12 tk12 y1 y2 t3 t4 t5 k12 c1 c2 c3 g1 g2 g3
  refine wpAny_pure ?_
  have hPK11 : h11.get? PK = some (tabObj pz) := (e11 _ neP.symm).trans (k10 _ _ hPz)
  have st2 : ∀ {j f}, OkF PK cl v0 h9 j f → OkF PK cl v0 h12 j f := fun x => (st x).step hPK11 n11 fun b o e _ _ => k12 b o e
  have I12 : I cK PK 6 h12 := hIs _ _ _ _ _ nA _ _ (hIs _ _ _ _ _ nA _ _ I9 n9 fun b o e hb => (e11 b hb).trans (k10 _ _ e)) n11 fun b o e _ => k12 b o e
  have back : ∀ a, h11.get? a = none → h.get? a = none := fun a e => by
    cases q : h.get? a with
    | none => rfl
    | some o =>
      have han : a ≠ nA := fun r => by rw [r, nn] at q; cases q
      by_cases hK : a = PK
      · rw [hK, hPK11] at e; cases e
      · by_cases hC : a = PC
        · have := kZ _ _ hPC4 (hC ▸ han) (hC ▸ hK)
          rw [hC, this] at e; cases e
        · have := kZ _ _ (k4 _ _ (k3 _ _ q) hC) han hK
          rw [this] at e; cases e
  exact kk cK PK nA h3 h4 c ns md h12 tk12 (fun i => if i = 11 then x9 else hs i) (fun i => if i = 11 then tk9 + 1 else ts i) sL fI fL fG fE fLe fGe sT bT _ y1 y2 t3 t4 t5 z k3 (fun b o e q1 q2 => k12 _ _ (kZ b o e q1 q2)) nn (back c c1) (back ns c2) I12 (st2 o2) (st2 o3) (st2 o4) g1 g2 g3
end Mine
end
section
open PySem PySem.W PySem.W.X PyProof.Rows PySem.Calls PySem.Builtin
set_option Elab.async false
set_option maxRecDepth 100000
set_option maxHeartbeats 8000000
namespace Mine
noncomputable abbrev tripC (cK : Addr) : Array Value := #[rawInt (posOf kS).line, rawInt (posOf kS).col, .ref cK]
/-- the tables of cmp_to_key's code and of K's, once they are made -/
noncomputable def KTab (h₀ : Heap) (cC PC : Addr) (h : Heap) : Prop := ∃ cK PK cs, cs.length = 6 ∧ (∀ v ∈ cs, ∃ c, v = Value.ref c) ∧ CodeHd h cC PC ∧ h.get? PC = some (tabObj (tripC cK)) ∧ IK cK PK cs h ∧ PK ≠ PC ∧ h₀.get? PK = none
/-- the class K, made by cmp_to_key with the cell cl -/
noncomputable def KCls (h : Heap) (v0 : Value) (cl c : Addr) : Prop := ∃ PK ns md hs ts m0 sL fI fL fG fE fLe fGe sT bT t x1 x2 t3 t4 t5, OkF PK cl v0 h 2 fI ∧ OkF PK cl v0 h 3 fL ∧ OkF PK cl v0 h 4 fG ∧
  h.get? c = some (clsO ns [.ref c, .type "object"] false [Str.ofString "obj"] (slK2 bT t (ts 21)).toArray) ∧ h.get? ns = some (dObj (esK2 hs ts m0 sL fI fL fG fE fLe fGe sT md x1 x2 t3 t4).toArray 3) ∧ h.get? md = some (memO c t5)
/-- the same, with the class's dict not in the heap hb -/
noncomputable def KClsN (hb h : Heap) (v0 : Value) (cl c : Addr) : Prop := ∃ PK ns md hs ts m0 sL fI fL fG fE fLe fGe sT bT t x1 x2 t3 t4 t5, OkF PK cl v0 h 2 fI ∧ OkF PK cl v0 h 3 fL ∧ OkF PK cl v0 h 4 fG ∧
  h.get? c = some (clsO ns [.ref c, .type "object"] false [Str.ofString "obj"] (slK2 bT t (ts 21)).toArray) ∧ h.get? ns = some (dObj (esK2 hs ts m0 sL fI fL fG fE fLe fGe sT md x1 x2 t3 t4).toArray 3) ∧ h.get? md = some (memO c t5) ∧ hb.get? ns = none
/-- an address at which a dict lies -/
noncomputable def DictAt (h : Heap) (L : Addr) : Prop := ∃ o es n, h.get? L = some o ∧ o.data = .dict es n
theorem DictAt.ne {h : Heap} {L a : Addr} {o : Obj} (x : DictAt h L) (e : h.get? a = some o) (q : ∀ es n, o.data ≠ .dict es n) : a ≠ L := fun r => by
  obtain ⟨o', es, n, e', hd⟩ := x
  rw [r, e'] at e
  exact q es n (Option.some.inj e ▸ hd)
theorem OkF.but {PK cl L : Addr} {pm : Value} {h h' : Heap} {j : Nat} {f : Addr} (x : OkF PK cl pm h j f) (hL : DictAt h L) (k : ∀ b o, h.get? b = some o → b ≠ L → h'.get? b = some o) : OkF PK cl pm h' j f := by
  obtain ⟨doc, c, oc, vs, tq, ctv, h1, h2, h3, h4, h5⟩ := x
  exact ⟨doc, c, oc, vs, tq, ctv, k _ _ h1 (hL.ne h1 fun _ _ q => by cases q), k _ _ h2 (hL.ne h2 fun _ _ q => by rw [h3] at q; cases q), h3, h4, h5⟩
theorem IK.but {cK PK L : Addr} {cs : List Value} {h h' : Heap} (x : IK cK PK cs h) (hL : DictAt h L) (k : ∀ b o, h.get? b = some o → b ≠ L → h'.get? b = some o) : IK cK PK cs h' := by
  obtain ⟨C, hP, hc⟩ := x
  refine ⟨?_, k _ _ hP (hL.ne hP fun _ _ q => by cases q), fun j hj => ?_⟩
  · obtain ⟨o, vs, f1, f2, f3, f4, f5, f6, f7, e, e2, e3, r⟩ := C
    exact ⟨o, vs, f1, f2, f3, f4, f5, f6, f7, k _ _ e (hL.ne e fun _ _ q => by rw [e3] at q; cases q), e2, e3, r⟩
  · obtain ⟨c, oc, vs, tq, h1, h2, h3, r⟩ := hc j hj
    exact ⟨c, oc, vs, tq, h1, k _ _ h2 (hL.ne h2 fun _ _ q => by rw [h3] at q; cases q), h3, r⟩
theorem KTab.but {h₀ : Heap} {cC PC L : Addr} {h h' : Heap} (x : KTab h₀ cC PC h) (hL : DictAt h L) (k : ∀ b o, h.get? b = some o → b ≠ L → h'.get? b = some o) : KTab h₀ cC PC h' := by
  obtain ⟨cK, PK, cs, hl, hr, C, hP, hI, hne⟩ := x
  refine ⟨cK, PK, cs, hl, hr, ?_, k _ _ hP (hL.ne hP fun _ _ q => by cases q), hI.but hL k, hne⟩
  obtain ⟨o, vs, f1, f2, f3, f4, f5, f6, f7, e, e2, e3, r⟩ := C
  exact ⟨o, vs, f1, f2, f3, f4, f5, f6, f7, k _ _ e (hL.ne e fun _ _ q => by rw [e3] at q; cases q), e2, e3, r⟩
theorem KTab.keeps {h₀ : Heap} {cC PC : Addr} {h h' : Heap} (x : KTab h₀ cC PC h) (k : ∀ b o, h.get? b = some o → h'.get? b = some o) : KTab h₀ cC PC h' := by
  obtain ⟨cK, PK, cs, hl, hr, C, hP, hI, hne⟩ := x
  refine ⟨cK, PK, cs, hl, hr, C.keeps k, k _ _ hP, ⟨hI.1.keeps k, k _ _ hI.2.1, fun j hj => ?_⟩, hne⟩
  obtain ⟨c, oc, vs, tq, h1, h2, r⟩ := hI.2.2 j hj
  exact ⟨c, oc, vs, tq, h1, k _ _ h2, r⟩
theorem KClsN.but {hb h h' : Heap} {v0 : Value} {cl c L : Addr} (x : KClsN hb h v0 cl c) (hL : DictAt h L) (hbL : ∃ o, hb.get? L = some o) (k : ∀ b o, h.get? b = some o → b ≠ L → h'.get? b = some o) : KCls h' v0 cl c := by
  obtain ⟨PK, ns, md, hs, ts, m0, sL, fI, fL, fG, fE, fLe, fGe, sT, bT, t, x1, x2, t3, t4, t5, o2, o3, o4, g1, g2, g3, nn⟩ := x
  obtain ⟨o, hbL⟩ := hbL
  exact ⟨PK, ns, md, hs, ts, m0, sL, fI, fL, fG, fE, fLe, fGe, sT, bT, t, x1, x2, t3, t4, t5, o2.but hL k, o3.but hL k, o4.but hL k, k _ _ g1 (hL.ne g1 fun _ _ q => by cases q), k _ _ g2 (fun q => by rw [q, hbL] at nn; cases nn), k _ _ g3 (hL.ne g3 fun _ _ q => by cases q)⟩
theorem OkF.keeps {PK cl : Addr} {pm : Value} {h h' : Heap} {j : Nat} {f : Addr} (x : OkF PK cl pm h j f) (k : ∀ b o, h.get? b = some o → h'.get? b = some o) : OkF PK cl pm h' j f := by
  obtain ⟨doc, c, oc, vs, tq, ctv, h1, h2, h3, h4, h5⟩ := x
  exact ⟨doc, c, oc, vs, tq, ctv, k _ _ h1, k _ _ h2, h3, h4, h5⟩
theorem IK.all {cK PK : Addr} {cs : List Value} {h h' : Heap} (x : IK cK PK cs h) (k : ∀ b o, h.get? b = some o → h'.get? b = some o) : IK cK PK cs h' := by
  obtain ⟨C, hP, hc⟩ := x
  refine ⟨C.keeps k, k _ _ hP, fun j hj => ?_⟩
  obtain ⟨c, oc, vs, tq, h1, h2, r⟩ := hc j hj
  exact ⟨c, oc, vs, tq, h1, k _ _ h2, r⟩
section
variable {w : World} {A : Around} {Q : Value → Shared → Prop} {E : Value → Shared → Prop} {h₀ h : Heap} {g : Array GenState} {d : Drawn} {tk : Tok} {os : OsState} {L cC cl PC : Addr} {p : Program} {loose : List Str} {mean : ExcName → Option Value} {mg mb : Str → Option Value}
theorem build_fresh (hA : A.depth ≤ 330 ∧ A.units ≤ 3000) {oM : Obj} (hsm : h₀.get? sysModules = some oM) (T : Top p loose mean mg mb h₀) (S : ∀ b o, h₀.get? b = some o → h.get? b = some o) {v0 : Value} (hv0 : mg "__name__" = some v0) (hC0 : h₀.get? PC = none)
   {oS : Obj} (hst : h₀.get? cStatics = some oS) (hop : lookIn "thirdparty.any" oS = some none) (C : CodeHd h cC PC) (hP : h.get? PC = some (tabObj #[]))
   (k : ∀ c h' tk', KTab h₀ cC PC h' → KClsN h h' v0 cl c → h.get? c = none → (∀ b o, h.get? b = some o → b ≠ PC → h'.get? b = some o) → Q (.ref c) ⟨h', g, d, tk', os⟩) :
   wpAny (model prog w) A (buildClass (Str.ofString "K") qK [.type "object"] [] (bodyOf kS) (scopeOf kS) [Str.ofString "obj"] 28 (envC L cC cl) (posOf kS) none) Q E ⟨h, g, d, tk, os⟩ := by
  refine build_K w A Q E h₀ h g d tk os L cC cl PC hA oM hsm T S v0 hv0 hC0 ⟨_, hP⟩ oS hst hop (fun h => CodeHd h cC PC ∧ h.get? PC = some (tabObj #[]) ∧ ∀ b o, h₀.get? b = some o → h.get? b = some o) (fun h h' x y => ⟨x.1.keeps y, y _ _ x.2.1, fun b o e => y _ _ (x.2.2 b o e)⟩) ⟨C, hP, S⟩
    (fun cK PK h h' => (∀ b o, h.get? b = some o → b ≠ PC → h'.get? b = some o) ∧ IK cK PK [] h' ∧ h.get? PK = none ∧ h₀.get? PK = none ∧ CodeHd h' cC PC ∧ h'.get? PC = some (tabObj (tripC cK)) ∧ PK ≠ PC) ?_
    (fun cK PK i h => ∃ cs : List Value, cs.length = i ∧ (∀ v ∈ cs, ∃ c, v = .ref c) ∧ IK cK PK cs h) ?_ ?_ ?_ ?_ ?_
  · intro A Q E h g d tk os hj hk
    refine class_code_new rfl hj.1 hj.2.1 fun c' P' h' tk' keep n1 n2 hrec hd' hP' hPC => hk c' P' h' tk' ⟨keep, ⟨hd', hP', fun j hj => absurd hj (Nat.not_lt_zero _)⟩, n1, none_back hj.2.2 n1, ?_, hPC, fun q => ?_⟩
    · obtain ⟨o, vs', f1, f2, f3, f4, f5, f6, f7, e, r1, r2, r3, r4, r5, r6, r7, r8, ne⟩ := hj.1
      exact ⟨o, vs', f1, f2, f3, f4, f5, f6, f7, keep _ _ e ne, r1, r2, r3, r4, r5, r6, r7, r8, ne⟩
    · rw [q, hj.2.1] at n1; cases n1
  · rintro cK PK h h' ⟨z1, z2, z3, z4, z5, z6, z7⟩
    exact ⟨z1, ⟨[], rfl, fun _ hv => absurd hv List.not_mem_nil, z2⟩, z4, tripC cK, z6⟩
  · rintro cK PK i h ⟨cs, _, _, x⟩
    exact ⟨_, x.2.1⟩
  · rintro cK PK i h h' nA es n ⟨cs, a, b, x⟩ hn kk
    exact ⟨cs, a, b, x.keeps hn kk⟩
  · intro nA cK PK fr i hi
    have := mk_fresh (w := w) T (nA := nA) (cK := cK) (fr := fr) (cl := cl) (PK := PK) hi
    rwa [show (mg "__name__").getD .none = v0 by rw [hv0]; rfl] at this
  · intro cK PK nA hz hz' c ns md h' tk' hs ts sL fI fL fG fE fLe fGe sT bT t x1 x2 t3 t4 t5 z kz kh nn nc nns I6 o2 o3 o4 g1 g2 g3
    obtain ⟨z1, z2, z3, z4, z5, z6, z7⟩ := z
    obtain ⟨cs, hl, hr, I6⟩ := I6
    have neN : PC ≠ nA := fun q => by rw [← q, hP] at nn; cases nn
    have ncN : ∀ {a o}, h.get? a = some o → a ≠ nA := fun e q => by rw [q, nn] at e; cases e
    refine k c h' tk' ⟨cK, PK, cs, hl, hr, ?_, kh _ _ z6 neN z7.symm, I6, z7, z4⟩ ⟨PK, ns, md, hs, ts, _, sL, fI, fL, fG, fE, fLe, fGe, sT, bT, t, x1, x2, t3, t4, t5, o2, o3, o4, g1, g2, g3, nns⟩ nc fun b o e hb => kh _ _ (z1 _ _ (kz _ _ e) hb) (ncN e) (fun q => by rw [q] at e; rw [kz _ _ e] at z3; cases z3)
    obtain ⟨o, vs', f1, f2, f3, f4, f5, f6, f7, e, r1, r2, r3, r4, r5, r6, r7, r8, ne⟩ := z5
    have e0 : ∃ o', h.get? cC = some o' := by
      obtain ⟨o', _, _, _, _, _, _, _, _, e', _⟩ := C
      exact ⟨o', e'⟩
    obtain ⟨o', e'⟩ := e0
    exact ⟨o, vs', f1, f2, f3, f4, f5, f6, f7, kh _ _ e (ncN e') (fun q => by rw [q] at e'; rw [kz _ _ e'] at z3; cases z3), r1, r2, r3, r4, r5, r6, r7, r8, ne⟩
theorem build_hit (hA : A.depth ≤ 330 ∧ A.units ≤ 3000) {oM : Obj} (hsm : h₀.get? sysModules = some oM) (T : Top p loose mean mg mb h₀) (S : ∀ b o, h₀.get? b = some o → h.get? b = some o) {v0 : Value} (hv0 : mg "__name__" = some v0) (hC0 : h₀.get? PC = none)
   {oS : Obj} (hst : h₀.get? cStatics = some oS) (hop : lookIn "thirdparty.any" oS = some none) (K : KTab h₀ cC PC h)
   (k : ∀ c h' tk', KClsN h h' v0 cl c → h.get? c = none → (∀ b o, h.get? b = some o → h'.get? b = some o) → Q (.ref c) ⟨h', g, d, tk', os⟩) :
   wpAny (model prog w) A (buildClass (Str.ofString "K") qK [.type "object"] [] (bodyOf kS) (scopeOf kS) [Str.ofString "obj"] 28 (envC L cC cl) (posOf kS) none) Q E ⟨h, g, d, tk, os⟩ := by
  obtain ⟨cK₀, PK₀, cs, hl, hr, C, hP, hI, hne, hK0⟩ := K
  refine build_K w A Q E h₀ h g d tk os L cC cl PC hA oM hsm T S v0 hv0 hC0 ⟨_, hP⟩ oS hst hop (fun h => CodeHd h cC PC ∧ h.get? PC = some (tabObj (tripC cK₀)) ∧ IK cK₀ PK₀ cs h) (fun h h' x y => ⟨x.1.keeps y, y _ _ x.2.1, x.2.2.all y⟩) ⟨C, hP, hI⟩
    (fun cK PK h h' => cK = cK₀ ∧ PK = PK₀ ∧ h' = h ∧ h.get? PC = some (tabObj (tripC cK₀)) ∧ IK cK₀ PK₀ cs h) ?_
    (fun cK PK i h => cK = cK₀ ∧ PK = PK₀ ∧ IK cK₀ PK₀ cs h) ?_ ?_ ?_ ?_ ?_
  · intro A Q E h g d tk os hj hk
    refine wpAny_codeAt_hit (c' := .ref cK₀) rfl (hj.1.code hj.2.1 trivial) (by kernel_rfl) (hk cK₀ PK₀ h tk ⟨rfl, rfl, rfl, hj.2.1, hj.2.2⟩)
  · rintro cK PK h1 h' ⟨rfl, rfl, rfl, z1, z2⟩
    exact ⟨fun b o e _ => e, ⟨rfl, rfl, z2⟩, hK0, _, z1⟩
  · rintro cK PK i h ⟨rfl, rfl, x⟩
    exact ⟨_, x.2.1⟩
  · rintro cK PK i h h' nA es n ⟨rfl, rfl, x⟩ hn kk
    exact ⟨rfl, rfl, x.keeps hn kk⟩
  · intro nA cK PK fr i hi A Q E h g d tk os hI' S' kk
    obtain ⟨rfl, rfl, x⟩ := hI'
    have := mk_hits (w := w) T (nA := nA) (cK := cK) (fr := fr) (cl := cl) (PK := PK) hl hr hi (fun _ => True) (fun _ _ _ _ => trivial)
    rw [show (mg "__name__").getD .none = v0 by rw [hv0]; rfl] at this
    exact this A Q E h g d tk os ⟨x, trivial⟩ S' fun f h' tk' a b c d => kk f h' tk' a b c ⟨rfl, rfl, d.1⟩
  · intro cK PK nA hz hz' c ns md h' tk' hs ts sL fI fL fG fE fLe fGe sT bT t x1 x2 t3 t4 t5 z kz kh nn nc nns I6 o2 o3 o4 g1 g2 g3
    obtain ⟨rfl, rfl, rfl, z1, z2⟩ := z
    obtain ⟨_, _, I6⟩ := I6
    have ncN : ∀ {a o}, h.get? a = some o → a ≠ nA := fun e q => by rw [q, nn] at e; cases e
    refine k c h' tk' ⟨PK, ns, md, hs, ts, _, sL, fI, fL, fG, fE, fLe, fGe, sT, bT, t, x1, x2, t3, t4, t5, o2, o3, o4, g1, g2, g3, nns⟩ nc fun b o e => ?_
    by_cases hb : b = PK
    · rw [hb, hI.2.1] at e; rw [hb, ← e]; exact I6.2.1
    · exact kh _ _ (kz _ _ e) (ncN e) hb
end
end Mine
end
section
open PySem PySem.W PySem.W.X PyProof.Rows PySem.Calls PySem.Builtin
set_option Elab.async false
set_option maxRecDepth 100000
set_option maxHeartbeats 8000000
namespace Mine
noncomputable abbrev cmpFd (doc pm ct : Value) (cC : Addr) : FuncData := fnX (Str.ofString "cmp_to_key") (Str.ofString "cmp_to_key") (paramsOf cmpS) (bodyOf cmpS) (scopeOf cmpS) [] .none .none doc pm none (.ref cC) ct
section
variable {w : World} {A : Around} {Q : Value → Shared → Prop} {E : Value → Shared → Prop} {h₀ h : Heap} {g : Array GenState} {d : Drawn} {tk : Tok} {os : OsState} {cC PC : Addr} {p : Program} {loose : List Str} {mean : ExcName → Option Value} {mg mb : Str → Option Value}
theorem ns_move {h1 h2 : Heap} {L : Addr} {m : Str → Option Value} (x : h1.Ns L m) (k : ∀ o, h1.get? L = some o → h2.get? L = some o) : h2.Ns L m := by
  obtain ⟨o, es, ep, e, r⟩ := x
  exact ⟨o, es, ep, k o e, r⟩
theorem cmp_of (hA : A.depth ≤ 320 ∧ A.units ≤ 2900) (T : Top p loose mean mg mb h₀) (S : ∀ b o, h₀.get? b = some o → h.get? b = some o) {v0 : Value} {oc : Value} {od : Option Addr} {doc pm ct : Value} {osl : Array (Option Value)} (ho : h₀.get? 65 = some ⟨oc, od, .func (cmpFd doc pm ct cC), osl⟩)
   (hcd : h₀.CodeRec (.ref cC) (Str.ofString "cmp_to_key")) (hob : mg "object" = none) (tf : Value)
   (P : Addr → Addr → Heap → Heap → Prop) (hP : ∀ cl c h1 h' a, P cl c h1 h' → h.get? a = none → ∀ o, h1.get? a = some o → h'.get? a = some o)
   (hb : ∀ (A' : Around) (Q' E') L cl h1 tk1, A'.depth ≤ 330 ∧ A'.units ≤ 3000 → (∀ b o, h.get? b = some o → h1.get? b = some o) → (∀ c h' tk', P cl c h1 h' → Q' (.ref c) ⟨h', g, d, tk', os⟩) →
      wpAny (model prog w) A' (buildClass (Str.ofString "K") qK [.type "object"] [] (bodyOf kS) (scopeOf kS) [Str.ofString "obj"] 28 (envC L cC cl) (posOf kS) none) Q' E' ⟨h1, g, d, tk1, os⟩)
   (k : ∀ cl c h1 h2 h' tk', (∀ b o, h.get? b = some o → h1.get? b = some o) → P cl c h1 h2 → (∃ L, h.get? L = none ∧ DictAt h2 L ∧ (∃ o, h1.get? L = some o) ∧ ∀ b o, h2.get? b = some o → b ≠ L → h'.get? b = some o) → (h.get? cl = none) → h'.IsCell cl (some tf) → Q (.ref c) ⟨h', g, d, tk', os⟩) :
   wpAny (model prog w) A (call (.ref 65) [tf]) Q E ⟨h, g, d, tk, os⟩ := by
  refine wpAny_call (codeAny_call_cells (s := ⟨h, g, d, tk, os⟩) (fd := cmpFd doc pm ct cC) (binds := [(Str.ofString "mycmp", tf)]) (Nat.lt_of_le_of_lt hA.1 (by decide)) (S _ _ ho) rfl (T.nolimit.keeps S) (hcd.keeps S) rfl (by kernel_rfl) rfl ?_ ?_)
  · intro x hx
    rw [List.mem_singleton] at hx
    subst hx
    exact .inr ⟨by kernel_rfl, by kernel_rfl⟩
  · intro s₁ x
    obtain ⟨h1, tk1, rfl, k1⟩ := x.done
    have henv : callEnvC (cmpFd doc pm ct cC) h.objs.size 65 = envC h.objs.size cC (h.objs.size + 1) := by kernel_rfl
    have hcell := x.cell (Str.ofString "mycmp") (h.objs.size + 1) (by kernel_rfl)
    have hns := x.toInCall.ns
    have S1 : ∀ b o, h₀.get? b = some o → h1.get? b = some o := fun b o e => k1 _ _ (S _ _ e)
    dsimp only at hcell hns ⊢
    rw [henv] at hns ⊢
    have hcell' : h1.IsCell (h.objs.size + 1) (some tf) := hcell
    have nL : ∀ a, h.objs.size ≤ a → h.get? a = none := fun a ha => Heap.get?_none_of_le ha
    generalize h.objs.size = L at hcell' hns nL ⊢
    refine wpAny_execs_cons ?_
    show wpAny _ _ (exec (.ClassDef _ _ _ _ _ [] _ _ _ _ _) _) _ _ _
    rw [arm_exec_ClassDef]
    refine b_eq (a := []) rfl ?_
    refine wpAny_bind (wpAny_standAt ?_)
    unfold buildClassGuard
    refine wpAny_bind (wpAny_bind (wpAny_nsGet (T.b.keeps S1) ?_))
    rw [show mb (Str.ofString "__build_class__") = some (.builtin "__build_class__") from (T.builtins _ (by decide +kernel)).trans (by kernel_rfl)]
    refine wpAny_pure ?_
    refine wpAny_bind (wpAny_holding ?_)
    unfold evalArgs
    refine wpAny_bind ?_
    refine wpAny_bind (spliced_cons ?_)
    refine Name_function_global (x := Str.ofString "object") (pos := ⟨28, 12, 28, 18⟩) rfl (by kernel_rfl) (loadGlobal_builtin (T.g.keeps S1) hob (T.b.keeps S1) ((T.builtins _ (by decide +kernel)).trans (by kernel_rfl : bootBuiltins (Str.ofString "object") = some (.type "object"))) ?_) (by decide +kernel)
    refine spliced_nil ?_
    refine wpAny_pure ?_
    refine wpAny_bind (wpAny_standAt ?_)
    refine wpAny_holding ?_
    refine hb _ _ _ L (L + 1) h1 _ ?_ k1 fun c h2 tk2 hPc => ?_
    · exact ⟨Nat.le_trans (Nat.succ_le_succ hA.1) (by decide), Nat.le_trans (Nat.add_le_add_right hA.2 3) (by decide)⟩
    refine b_eq rfl ?_
    refine wpAny_bind (wpAny_standAt ?_)
    have n2 : ∀ a, h.get? a = none → ∀ o, h1.get? a = some o → h2.get? a = some o := fun a => hP _ _ _ _ a hPc
    have hns2 := ns_move hns (n2 L (nL L (Nat.le_refl _)))
    refine wpAny_bind (wpAny_bindName (wpAny_storeName_local (by kernel_rfl) hns2 (fun h3 hn3 hs3 => ?_) rfl))
    refine wpAny_pure ?_
    refine wpAny_execs_cons ?_
    refine wpAny_Return_some ?_
    refine wpAny_Name (wpAny_loadName_local rfl (by kernel_rfl) hn3 (v := .ref c) (by rfl) ?_) (by decide +kernel)
    have nc : h.get? (L + 1) = none := nL _ (Nat.le_succ _)
    refine k (L + 1) c h1 h2 h3 _ k1 hPc ⟨L, nL L (Nat.le_refl _), ?_, ?_, fun b o e hb => (hs3.2 b hb).trans e⟩ nc ?_
    · obtain ⟨o, es, ep, e, hd, _⟩ := hns2
      exact ⟨o, es, ep, e, hd⟩
    · obtain ⟨o, es, ep, e, _⟩ := hns
      exact ⟨o, e⟩
    · obtain ⟨o, e, r⟩ := hcell'
      exact ⟨o, (hs3.2 _ (Nat.succ_ne_self L)).trans (n2 _ nc o e), r⟩
theorem cmp_first (hA : A.depth ≤ 320 ∧ A.units ≤ 2900) {oM : Obj} (hsm : h₀.get? sysModules = some oM) (T : Top p loose mean mg mb h₀) (S : ∀ b o, h₀.get? b = some o → h.get? b = some o) {v0 : Value} (hv0 : mg "__name__" = some v0) (hC0 : h₀.get? PC = none)
   {oS : Obj} (hst : h₀.get? cStatics = some oS) (hop : lookIn "thirdparty.any" oS = some none)
   {oc : Value} {od : Option Addr} {doc pm ct : Value} {osl : Array (Option Value)} (ho : h₀.get? 65 = some ⟨oc, od, .func (cmpFd doc pm ct cC), osl⟩)
   (hcd : h₀.CodeRec (.ref cC) (Str.ofString "cmp_to_key")) (hob : mg "object" = none) (tf : Value) (C : CodeHd h cC PC) (hPC : h.get? PC = some (tabObj #[]))
   (k : ∀ cl c h' tk', KTab h₀ cC PC h' → KCls h' v0 cl c → h'.IsCell cl (some tf) → h.get? c = none → (∀ b o, h.get? b = some o → b ≠ PC → h'.get? b = some o) → Q (.ref c) ⟨h', g, d, tk', os⟩) :
   wpAny (model prog w) A (call (.ref 65) [tf]) Q E ⟨h, g, d, tk, os⟩ := by
  refine cmp_of (v0 := v0) hA T S ho hcd hob tf (fun cl c h1 h2 => KTab h₀ cC PC h2 ∧ KClsN h1 h2 v0 cl c ∧ h1.get? c = none ∧ ∀ b o, h1.get? b = some o → b ≠ PC → h2.get? b = some o) ?_ ?_ ?_
  · rintro cl c h1 h' a ⟨_, _, _, q⟩ ha o e
    exact q a o e fun r => by rw [r, hPC] at ha; cases ha
  · intro A' Q' E' L cl h1 tk1 hA' k1 hq
    exact build_fresh hA' hsm T (fun b o e => k1 _ _ (S _ _ e)) hv0 hC0 hst hop (C.keeps k1) (k1 _ _ hPC) fun c h' tk' a b c' d => hq c h' tk' ⟨a, b, c', d⟩
  · rintro cl c h1 h2 h' tk' k1 ⟨z1, z2, z3, z4⟩ ⟨L, nL, dL, hL, kL⟩ ncl hcell
    refine k cl c h' tk' (z1.but dL kL) (z2.but dL hL kL) hcell (none_back k1 z3) fun b o e hb => kL _ _ (z4 _ _ (k1 _ _ e) hb) fun q => by rw [q, nL] at e; cases e
theorem cmp_later (hA : A.depth ≤ 320 ∧ A.units ≤ 2900) {oM : Obj} (hsm : h₀.get? sysModules = some oM) (T : Top p loose mean mg mb h₀) (S : ∀ b o, h₀.get? b = some o → h.get? b = some o) {v0 : Value} (hv0 : mg "__name__" = some v0) (hC0 : h₀.get? PC = none)
   {oS : Obj} (hst : h₀.get? cStatics = some oS) (hop : lookIn "thirdparty.any" oS = some none)
   {oc : Value} {od : Option Addr} {doc pm ct : Value} {osl : Array (Option Value)} (ho : h₀.get? 65 = some ⟨oc, od, .func (cmpFd doc pm ct cC), osl⟩)
   (hcd : h₀.CodeRec (.ref cC) (Str.ofString "cmp_to_key")) (hob : mg "object" = none) (tf : Value) (K : KTab h₀ cC PC h)
   (k : ∀ cl c h' tk', KCls h' v0 cl c → h'.IsCell cl (some tf) → h.get? c = none → (∀ b o, h.get? b = some o → h'.get? b = some o) → Q (.ref c) ⟨h', g, d, tk', os⟩) :
   wpAny (model prog w) A (call (.ref 65) [tf]) Q E ⟨h, g, d, tk, os⟩ := by
  refine cmp_of (v0 := v0) hA T S ho hcd hob tf (fun cl c h1 h2 => KClsN h1 h2 v0 cl c ∧ h1.get? c = none ∧ ∀ b o, h1.get? b = some o → h2.get? b = some o) ?_ ?_ ?_
  · rintro cl c h1 h' a ⟨_, _, q⟩ ha o e
    exact q a o e
  · intro A' Q' E' L cl h1 tk1 hA' k1 hq
    exact build_hit hA' hsm T (fun b o e => k1 _ _ (S _ _ e)) hv0 hC0 hst hop (K.keeps k1) fun c h' tk' a b c' => hq c h' tk' ⟨a, b, c'⟩
  · rintro cl c h1 h2 h' tk' k1 ⟨z2, z3, z4⟩ ⟨L, nL, dL, hL, kL⟩ ncl hcell
    refine k cl c h' tk' (z2.but dL hL kL) hcell (none_back k1 z3) fun b o e => kL _ _ (z4 _ _ (k1 _ _ e)) fun q => by rw [q, nL] at e; cases e
end
end Mine
end
section
open PySem PySem.W PySem.W.X PyProof.Rows PySem.Calls PySem.Builtin
set_option Elab.async false
set_option compiler.extract_closed false
set_option maxRecDepth 100000
set_option maxHeartbeats 8000000
namespace Mine
noncomputable def isTab (o : Obj) : Bool := match o.cls, o.data with | .none, .fields _ => true | _, _ => false
/-- the written part of the top, without the code tables -/
noncomputable def K2 (P : Params) : Frag := (hdx.heap_39 P).filter fun q => !isTab q.2
noncomputable abbrev instK (c dx : Addr) (v : Value) : Obj := ⟨.ref c, some dx, .plain, #[some v]⟩
local macro_rules | `(tactic| x_close) => `(tactic| (rename ∀ _ _ _ _ h' _ _, Mem _ h' _ _ → _ => hq; exact hq _ _ _ _ _ _ _ (by assumption) rfl rfl rfl))
theorem kmake_X (w : World) (h : Heap) (g : Array GenState) (d : Drawn) (tk : Tok) (os : OsState) (hd : Option Value) (KX : Frag.In (K2 w.params) h) (c ns md sL fI fL fG fE fLe fGe sT bT ci cl : Addr) (hs : Nat → Int) (ts : Nat → Tok) (m0 : Str) (t x1 x2 t3 t4 t5 : _) (doc pm ctv a0 : Value) (tq : Tok) (l : List Value) (ocd : Option Addr) (osl : Array (Option Value)) (v : Addr)
   (hc : h.get? c = some ⟨.type "type", none, .cls (cdK ns [.ref c, .type "object"] false [Str.ofString "obj"]), (slK2 bT t (ts 21)).toArray⟩)
   (hn : h.get? ns = some ⟨.type "dict", none, .dict (esK2 hs ts m0 sL fI fL fG fE fLe fGe sT md x1 x2 t3 t4).toArray 3, #[]⟩) (hm : h.get? md = some ⟨.type "member_descriptor", none, .fields #[.str (Str.ofString "obj") t5, .ref c, .builtin "proto.slot", .builtin "proto.slot#set", rawInt 0], #[]⟩)
   (hf : h.get? fI = some ⟨.type "function", none, .func (fnX (nameOf (kF 2)) (qF 2) (paramsOf (kF 2)) (bodyOf (kF 2)) (scopeOf (kF 2)) (closK 2 cl) .none .none doc pm none (.ref ci) ctv), #[]⟩) (hci : h.get? ci = some ⟨.type "code", ocd, .fields ⟨a0 :: .str (qF 2) tq :: l⟩, osl⟩)
   (Q : Value → Shared → Prop) (E : Value → Shared → Prop) (hQ : ∀ (x dx : Addr) (o od : Obj) (h' : Heap) (tk' : Tok) (news : List (Addr × Obj)), Mem h h' [] news → news[1]? = some (x, o) → news[2]? = some (dx, od) → o = instK c dx (.ref v) → Q (.ref x) ⟨h', g, d, tk', os⟩) :
   wpAny (model prog w) (AX hd) (call (.ref c) [.ref v]) Q E ⟨h, g, d, tk, os⟩ := by
  x_run
end Mine
end
section
open PySem PySem.W PySem.W.X PyProof.Rows PySem.Calls PySem.Builtin
set_option Elab.async false
set_option compiler.extract_closed false
set_option maxRecDepth 100000
set_option maxHeartbeats 8000000
namespace Mine
local macro_rules | `(tactic| x_close) => `(tactic| (with_reducible assumption))
theorem kattr_X (w : World) (h : Heap) (g : Array GenState) (d : Drawn) (tk : Tok) (os : OsState) (hd : Option Value) (c ns md sL fI fL fG fE fLe fGe sT bT x dx : Addr) (hs : Nat → Int) (ts : Nat → Tok) (m0 : Str) (t x1 x2 t3 t4 t5 tn : _) (v : Addr)
   (hc : h.get? c = some ⟨.type "type", none, .cls (cdK ns [.ref c, .type "object"] false [Str.ofString "obj"]), (slK2 bT t (ts 21)).toArray⟩)
   (hn : h.get? ns = some ⟨.type "dict", none, .dict (esK2 hs ts m0 sL fI fL fG fE fLe fGe sT md x1 x2 t3 t4).toArray 3, #[]⟩) (hm : h.get? md = some ⟨.type "member_descriptor", none, .fields #[.str (Str.ofString "obj") t5, .ref c, .builtin "proto.slot", .builtin "proto.slot#set", rawInt 0], #[]⟩)
   (hx : h.get? x = some ⟨.ref c, some dx, .plain, #[some (.ref v)]⟩)
   (Q : Value → Shared → Prop) (E : Value → Shared → Prop) (hQ : Q (.ref v) ⟨h, g, d, tk, os⟩) :
   wpAny (model prog w) (AX hd) (runValue (.builtin "proto.getattr_hooked" ⟨[.ref x, .str (Str.ofString "obj") tn], []⟩)) Q E ⟨h, g, d, tk, os⟩ := by
  x_run
theorem q_oga : fastBuiltinOwn "object" (Str.ofString "__getattribute__") = some (.builtin "object.__getattribute__") := by kernel_rfl
/-- the attribute obj of an object of K -/
theorem kattr {w : World} {A : Around} {Q : Value → Shared → Prop} {E : Value → Shared → Prop} {h : Heap} {g : Array GenState} {d : Drawn} {tk : Tok} {os : OsState} (hA : A.depth ≤ 400 ∧ A.units ≤ 4000) {v0 : Value} {cl c x dx v : Addr} (K : KCls h v0 cl c) (hx : h.get? x = some (instK c dx (.ref v)))
   (k : ∀ tk', Q (.ref v) ⟨h, g, d, tk', os⟩) : wpAny (model prog w) A (getAttr (.ref x) (Str.ofString "obj") true) Q E ⟨h, g, d, tk, os⟩ := by
  obtain ⟨PK, ns, md, hs, ts, m0, sL, fI, fL, fG, fE, fLe, fGe, sT, bT, t, x1, x2, t3, t4, t5, _, _, _, g1, g2, g3⟩ := K
  unfold getAttr getAttrBy
  refine wpAny_bind (wpAny_mkText (wpAny_holding ?_))
  refine b_lk (a := .ref c) ((Looks.ld hx).andThen Looks.now) ?_
  refine b_lk (lk_find (r := some (.builtin "object.__getattribute__")) g1 rfl g2 (.inr ⟨by kernel_rfl, q_oga⟩)) ?_
  refine wpAny_ite_true (by rfl) ?_
  unfold getAttrEveryday
  refine wpAny_bind (wpAny_onRaise (of_AX (Nat.le_trans hA.1 (by decide)) (Nat.le_trans hA.2 (by decide)) (kattr_X w h g d _ os A.handled c ns md sL fI fL fG fE fLe fGe sT bT x dx hs ts m0 t x1 x2 t3 t4 t5 _ v g1 g2 g3 hx _ _ ?_)))
  exact wpAny_of_eq (a := .ref v) (by rfl) (k _)
end Mine
end
section
open PySem PySem.W PySem.W.X PyProof.Rows PySem.Calls PySem.Builtin
set_option Elab.async false
set_option maxRecDepth 100000
set_option maxHeartbeats 8000000
namespace Mine
theorem KCls.keeps {h h' : Heap} {v0 : Value} {cl c : Addr} (x : KCls h v0 cl c) (k : ∀ b o, h.get? b = some o → h'.get? b = some o) : KCls h' v0 cl c := by
  obtain ⟨PK, ns, md, hs, ts, m0, sL, fI, fL, fG, fE, fLe, fGe, sT, bT, t, x1, x2, t3, t4, t5, o2, o3, o4, g1, g2, g3⟩ := x
  exact ⟨PK, ns, md, hs, ts, m0, sL, fI, fL, fG, fE, fLe, fGe, sT, bT, t, x1, x2, t3, t4, t5, o2.keeps k, o3.keeps k, o4.keeps k, k _ _ g1, k _ _ g2, k _ _ g3⟩
theorem any_Call {M : Model} {A : Around} {E : Value → Shared → Prop} {s : Shared} {env : Env} {func : Expr} {args : List Expr} {pos : Pos} {Q : Value → Shared → Prop}
    (h : wpAny M A (eval func env) (fun f s₁ => wpAny M A (callWith pos f [] (backTo pos (starEach args env)) []) Q E s₁) E s)
    (he : eval (.Call func args [] pos) env = (do callWith pos (← eval func env) [] (backTo pos (starEach args env)) (backToKw pos (keywordEach [] env))) := by rfl) :
    wpAny M A (eval (.Call func args [] pos) env) Q E s := by
  rw [he]; exact wpAny_bind h
/-- the comparison tf, asked of the pairs p and q, answers the int r -/
noncomputable def TurnOk (w : World) (h : Heap) (g : Array GenState) (d : Drawn) (os : OsState) (tf p q : Addr) (r : Int) : Prop :=
  ∀ (A : Around) (Q : Value → Shared → Prop) (E : Value → Shared → Prop) (h1 : Heap) (tk : Tok), A.depth ≤ 400 ∧ A.units ≤ 4000 → (∀ b o, h.get? b = some o → h1.get? b = some o) → (∀ h2 tk2 t, (∀ b o, h1.get? b = some o → h2.get? b = some o) → Q (.int r t) ⟨h2, g, d, tk2, os⟩) →
    wpAny (model prog w) A (call (.ref tf) [.ref p, .ref q]) Q E ⟨h1, g, d, tk, os⟩
theorem lt_call {w : World} {A : Around} {Q : Value → Shared → Prop} {E : Value → Shared → Prop} {h : Heap} {g : Array GenState} {d : Drawn} {tk : Tok} {os : OsState} (hA : A.depth ≤ 350 ∧ A.units ≤ 3500) (hlim : h.NoLimit) {v0 : Value} {cl c cl2 c2 x dx y dy p q : Addr} {PK f : Addr} (K : KCls h v0 cl c) (Ky : KCls h v0 cl2 c2) (hf : OkF PK cl v0 h 3 f)
   (hx : h.get? x = some (instK c dx (.ref p))) (hy : h.get? y = some (instK c2 dy (.ref q))) {tf : Addr} (hcl : h.IsCell cl (some (.ref tf))) (hfn : FnAt tf h) (r : Int) (tc : TurnOk w h g d os tf p q r)
   (k : ∀ h' tk', (∀ b o, h.get? b = some o → h'.get? b = some o) → Q (.bool (decide (r < 0))) ⟨h', g, d, tk', os⟩) : wpAny (model prog w) A (call (.ref f) [.ref x, .ref y]) Q E ⟨h, g, d, tk, os⟩ := by
  obtain ⟨doc, ci, oc, vs, tq, ctv, h1, h2, h3, h4, h5⟩ := hf
  refine wpAny_call (codeAny_call_def (s := ⟨h, g, d, tk, os⟩) (binds := [(Str.ofString "self", .ref x), (Str.ofString "other", .ref y)]) (Nat.lt_of_le_of_lt hA.1 (by decide)) h1 rfl hlim ⟨ci, oc, vs, tq, rfl, h2, h3, h4⟩ rfl (BindsTo.of_eq (by kernel_rfl)) (show ∀ x ∈ (scopeOf (kF 3)).names, x.2 ≠ .cell by decide +kernel) (locs (by kernel_rfl)) ?_)
  intro h' hns k1
  dsimp only at hns k1 ⊢
  have hcl1 := hcl.keeps k1
  have K1 := K.keeps k1
  have K2 := Ky.keeps k1
  have hA1 : (A.deeper (callEnv (fnX (nameOf (kF 3)) (qF 3) (paramsOf (kF 3)) (bodyOf (kF 3)) (scopeOf (kF 3)) (closK 3 cl) .none .none doc v0 none (.ref ci) ctv) h.objs.size f)).depth ≤ 400 ∧ (A.deeper (callEnv (fnX (nameOf (kF 3)) (qF 3) (paramsOf (kF 3)) (bodyOf (kF 3)) (scopeOf (kF 3)) (closK 3 cl) .none .none doc v0 none (.ref ci) ctv) h.objs.size f)).units ≤ 4000 := ⟨Nat.le_trans (Nat.succ_le_succ hA.1) (by decide), Nat.le_trans (Nat.add_le_add_right hA.2 3) (by decide)⟩
  generalize h.objs.size = L at hns hA1 ⊢
  refine wpAny_execs_cons ?_
  refine wpAny_Return_some ?_
  refine wpAny_Compare1 ?_
  refine any_Call ?_
  refine wpAny_Name (wpAny_loadName_free (c := cl) rfl (by kernel_rfl) (by kernel_rfl) hcl1 ?_) (by decide +kernel)
  obtain ⟨fo, fd1, fd2, fd3, hfo⟩ := hfn
  refine callWith_F ⟨fo, fd1, fd2, fd3, k1 _ _ hfo⟩ ?_
  refine spliced_cons ?_
  refine Attribute_name (n := Str.ofString "self") (np := ⟨36, 25, 36, 29⟩) (attr := Str.ofString "obj") (pos := ⟨36, 25, 36, 33⟩) ?_
  refine wpAny_Name (wpAny_loadName_local rfl (by kernel_rfl) hns (v := .ref x) (by kernel_rfl) ?_) (by decide +kernel)
  refine kattr hA1 K1 (k1 _ _ hx) fun tk1 => ?_
  refine spliced_cons ?_
  refine Attribute_name (n := Str.ofString "other") (np := ⟨36, 35, 36, 40⟩) (attr := Str.ofString "obj") (pos := ⟨36, 35, 36, 44⟩) ?_
  refine wpAny_Name (wpAny_loadName_local rfl (by kernel_rfl) hns (v := .ref y) (by kernel_rfl) ?_) (by decide +kernel)
  refine kattr hA1 K2 (k1 _ _ hy) fun tk2 => ?_
  refine spliced_nil ⟨⟨fo, fd1, fd2, fd3, k1 _ _ hfo⟩, ?_⟩
  refine tc _ _ _ h' _ hA1 k1 fun h2 tk3 t k2 => ?_
  refine wpAny_Constant_int ?_
  refine PyProof.Rows.lt_int ?_
  exact k h2 _ fun b o e => k2 _ _ (k1 _ _ e)
theorem gt_call {w : World} {A : Around} {Q : Value → Shared → Prop} {E : Value → Shared → Prop} {h : Heap} {g : Array GenState} {d : Drawn} {tk : Tok} {os : OsState} (hA : A.depth ≤ 350 ∧ A.units ≤ 3500) (hlim : h.NoLimit) {v0 : Value} {cl c cl2 c2 x dx y dy p q : Addr} {PK f : Addr} (K : KCls h v0 cl c) (Ky : KCls h v0 cl2 c2) (hf : OkF PK cl v0 h 4 f)
   (hx : h.get? x = some (instK c dx (.ref p))) (hy : h.get? y = some (instK c2 dy (.ref q))) {tf : Addr} (hcl : h.IsCell cl (some (.ref tf))) (hfn : FnAt tf h) (r : Int) (tc : TurnOk w h g d os tf p q r)
   (k : ∀ h' tk', (∀ b o, h.get? b = some o → h'.get? b = some o) → Q (.bool (decide (0 < r))) ⟨h', g, d, tk', os⟩) : wpAny (model prog w) A (call (.ref f) [.ref x, .ref y]) Q E ⟨h, g, d, tk, os⟩ := by
  obtain ⟨doc, ci, oc, vs, tq, ctv, h1, h2, h3, h4, h5⟩ := hf
  refine wpAny_call (codeAny_call_def (s := ⟨h, g, d, tk, os⟩) (binds := [(Str.ofString "self", .ref x), (Str.ofString "other", .ref y)]) (Nat.lt_of_le_of_lt hA.1 (by decide)) h1 rfl hlim ⟨ci, oc, vs, tq, rfl, h2, h3, h4⟩ rfl (BindsTo.of_eq (by kernel_rfl)) (show ∀ x ∈ (scopeOf (kF 4)).names, x.2 ≠ .cell by decide +kernel) (locs (by kernel_rfl)) ?_)
  intro h' hns k1
  dsimp only at hns k1 ⊢
  have hcl1 := hcl.keeps k1
  have K1 := K.keeps k1
  have K2 := Ky.keeps k1
  have hA1 : (A.deeper (callEnv (fnX (nameOf (kF 4)) (qF 4) (paramsOf (kF 4)) (bodyOf (kF 4)) (scopeOf (kF 4)) (closK 4 cl) .none .none doc v0 none (.ref ci) ctv) h.objs.size f)).depth ≤ 400 ∧ (A.deeper (callEnv (fnX (nameOf (kF 4)) (qF 4) (paramsOf (kF 4)) (bodyOf (kF 4)) (scopeOf (kF 4)) (closK 4 cl) .none .none doc v0 none (.ref ci) ctv) h.objs.size f)).units ≤ 4000 := ⟨Nat.le_trans (Nat.succ_le_succ hA.1) (by decide), Nat.le_trans (Nat.add_le_add_right hA.2 3) (by decide)⟩
  generalize h.objs.size = L at hns hA1 ⊢
  refine wpAny_execs_cons ?_
  refine wpAny_Return_some ?_
  refine wpAny_Compare1 ?_
  refine any_Call ?_
  refine wpAny_Name (wpAny_loadName_free (c := cl) rfl (by kernel_rfl) (by kernel_rfl) hcl1 ?_) (by decide +kernel)
  obtain ⟨fo, fd1, fd2, fd3, hfo⟩ := hfn
  refine callWith_F ⟨fo, fd1, fd2, fd3, k1 _ _ hfo⟩ ?_
  refine spliced_cons ?_
  refine Attribute_name (n := Str.ofString "self") (np := ⟨39, 25, 39, 29⟩) (attr := Str.ofString "obj") (pos := ⟨39, 25, 39, 33⟩) ?_
  refine wpAny_Name (wpAny_loadName_local rfl (by kernel_rfl) hns (v := .ref x) (by kernel_rfl) ?_) (by decide +kernel)
  refine kattr hA1 K1 (k1 _ _ hx) fun tk1 => ?_
  refine spliced_cons ?_
  refine Attribute_name (n := Str.ofString "other") (np := ⟨39, 35, 39, 40⟩) (attr := Str.ofString "obj") (pos := ⟨39, 35, 39, 44⟩) ?_
  refine wpAny_Name (wpAny_loadName_local rfl (by kernel_rfl) hns (v := .ref y) (by kernel_rfl) ?_) (by decide +kernel)
  refine kattr hA1 K2 (k1 _ _ hy) fun tk2 => ?_
  refine spliced_nil ⟨⟨fo, fd1, fd2, fd3, k1 _ _ hfo⟩, ?_⟩
  refine tc _ _ _ h' _ hA1 k1 fun h2 tk3 t k2 => ?_
  refine wpAny_Constant_int ?_
  refine PyProof.Rows.gt_int ?_
  exact k h2 _ fun b o e => k2 _ _ (k1 _ _ e)
end Mine
end
section
open PySem PySem.W PyProof.Rows PySem.SeqAt PySem.MeetsSeq PySem.MeetsSeq2 PySem.MeetsSeq3
open AutoSeq1 (wpAny_loadPart')
set_option Elab.async false
set_option maxRecDepth 100000
set_option maxHeartbeats 8000000
namespace Mine
/-- richCompare with op answers the bool b, state as it was -/
noncomputable def CmpAt (op : CmpOp) (A : Around) (s : Shared) (y x : Value) (b : Bool) : Prop :=
  ∀ (prog : Program) (w : World) (E : Value → Shared → Prop) (Q : Value → Shared → Prop), Q (.bool b) s → wpAny (model prog w) A (richCompare op y x) Q E s
noncomputable def firstDiff (e c : Nat → Bool) (sz : Bool) : Nat → Nat → Bool
  | 0, _ => sz
  | k + 1, i => match e i with | true => firstDiff e c sz k (i + 1) | false => c i
theorem lt_loop (l b : Addr) (items items2 : Array Value) (n n2 : Nat) (dd dd2 : Option Addr) (sl sl2 : Array (Option Value)) (e c : Nat → Bool) (k : Nat) :
    ∀ i : Nat, min items.size items2.size - i = k → i ≤ min items.size items2.size → Meets (Builtin.«list.__eq__.loop» ⟨[.ref l, .ref b, rawInt i, rawInt 0], []⟩)
      (fun A R s => s.heap.get? l = some { cls := .type "list", dict := dd, data := .seq items n, slots := sl } ∧ s.heap.get? b = some { cls := .type "list", dict := dd2, data := .seq items2 n2, slots := sl2 } ∧
        (∀ j (h1 : j < items.size) (h2 : j < items2.size), EqAt A.in1 s items[j] items2[j] (e j)) ∧
        (∀ j (h1 : j < items.size) (h2 : j < items2.size), e j = false → CmpAt .Lt A.in1 s items[j] items2[j] (c j)) ∧
        R (.ok (.ret (.bool (firstDiff e c (decide (items.size < items2.size)) k i)))) s) := by
  induction k with
  | zero =>
    intro i hk hi prog w A R s h
    obtain ⟨hp, g, d, tk, os⟩ := s; obtain ⟨hl, hb, he, hc, h⟩ := h
    wp_walk using wpAny_loadPart' hl, wpAny_loadPart' hb
    have hi0 : items[((i : Nat) : Int).toNat]? = none ∨ items2[((i : Nat) : Int).toNat]? = none := by
      rcases Nat.le_total items.size items2.size with q | q
      · left; simp; omega
      · right; simp; omega
    rcases hi0 with hi1 | hi1
    · rw [hi1]
      wp_walk using wpAny_loadPart' hl, wpAny_loadPart' hb
      exact h
    · rw [hi1]
      cases items[((i : Nat) : Int).toNat]? <;> (wp_walk using wpAny_loadPart' hl, wpAny_loadPart' hb; exact h)
  | succ k ih =>
    intro i hk hi prog w A R s h
    obtain ⟨hp, g, d, tk, os⟩ := s; obtain ⟨hl, hb, he, hc, h⟩ := h
    wp_walk using wpAny_loadPart' hl, wpAny_loadPart' hb
    have hlt : i < items.size := by omega
    have hlt2 : i < items2.size := by omega
    have hi1 : items[((i : Nat) : Int).toNat]? = some items[i] := by simp [hlt]
    have hi2 : items2[((i : Nat) : Int).toNat]? = some items2[i] := by simp [hlt2]
    have hcc : ((i : Int) + 1) = ((i + 1 : Nat) : Int) := by push_cast; rfl
    rw [hi1, hi2]
    refine wpAny_bind (he i hlt hlt2 prog w _ _ ?_)
    unfold firstDiff at h
    cases hb' : e i with
    | true =>
      rw [hb'] at h
      wp_walk
      rw [hcc]
      exact ⟨plainId_quiet plain_eq_loop _, codeAny_builtin entry_eq_loop (by
        rw [Around.under_plainId plain_eq_loop _]
        exact ih (i + 1) (by omega) (by omega) prog w A R _ ⟨hl, hb, he, hc, h⟩)⟩
    | false =>
      rw [hb'] at h
      wp_walk using wpAny_loadPart' hl, wpAny_loadPart' hb
      rw [hi1, hi2]
      refine wpAny_bind (hc i hlt hlt2 hb' prog w _ _ ?_)
      wp_walk
      exact h
theorem gt_loop (l b : Addr) (items items2 : Array Value) (n n2 : Nat) (dd dd2 : Option Addr) (sl sl2 : Array (Option Value)) (e c : Nat → Bool) (k : Nat) :
    ∀ i : Nat, min items.size items2.size - i = k → i ≤ min items.size items2.size → Meets (Builtin.«list.__eq__.loop» ⟨[.ref l, .ref b, rawInt i, rawInt 4], []⟩)
      (fun A R s => s.heap.get? l = some { cls := .type "list", dict := dd, data := .seq items n, slots := sl } ∧ s.heap.get? b = some { cls := .type "list", dict := dd2, data := .seq items2 n2, slots := sl2 } ∧
        (∀ j (h1 : j < items.size) (h2 : j < items2.size), EqAt A.in1 s items[j] items2[j] (e j)) ∧
        (∀ j (h1 : j < items.size) (h2 : j < items2.size), e j = false → CmpAt .Gt A.in1 s items[j] items2[j] (c j)) ∧
        R (.ok (.ret (.bool (firstDiff e c (decide (items.size > items2.size)) k i)))) s) := by
  induction k with
  | zero =>
    intro i hk hi prog w A R s h
    obtain ⟨hp, g, d, tk, os⟩ := s; obtain ⟨hl, hb, he, hc, h⟩ := h
    wp_walk using wpAny_loadPart' hl, wpAny_loadPart' hb
    have hi0 : items[((i : Nat) : Int).toNat]? = none ∨ items2[((i : Nat) : Int).toNat]? = none := by
      rcases Nat.le_total items.size items2.size with q | q
      · left; simp; omega
      · right; simp; omega
    rcases hi0 with hi1 | hi1
    · rw [hi1]
      wp_walk using wpAny_loadPart' hl, wpAny_loadPart' hb
      exact h
    · rw [hi1]
      cases items[((i : Nat) : Int).toNat]? <;> (wp_walk using wpAny_loadPart' hl, wpAny_loadPart' hb; exact h)
  | succ k ih =>
    intro i hk hi prog w A R s h
    obtain ⟨hp, g, d, tk, os⟩ := s; obtain ⟨hl, hb, he, hc, h⟩ := h
    wp_walk using wpAny_loadPart' hl, wpAny_loadPart' hb
    have hlt : i < items.size := by omega
    have hlt2 : i < items2.size := by omega
    have hi1 : items[((i : Nat) : Int).toNat]? = some items[i] := by simp [hlt]
    have hi2 : items2[((i : Nat) : Int).toNat]? = some items2[i] := by simp [hlt2]
    have hcc : ((i : Int) + 1) = ((i + 1 : Nat) : Int) := by push_cast; rfl
    rw [hi1, hi2]
    refine wpAny_bind (he i hlt hlt2 prog w _ _ ?_)
    unfold firstDiff at h
    cases hb' : e i with
    | true =>
      rw [hb'] at h
      wp_walk
      rw [hcc]
      exact ⟨plainId_quiet plain_eq_loop _, codeAny_builtin entry_eq_loop (by
        rw [Around.under_plainId plain_eq_loop _]
        exact ih (i + 1) (by omega) (by omega) prog w A R _ ⟨hl, hb, he, hc, h⟩)⟩
    | false =>
      rw [hb'] at h
      wp_walk using wpAny_loadPart' hl, wpAny_loadPart' hb
      rw [hi1, hi2]
      refine wpAny_bind (hc i hlt hlt2 hb' prog w _ _ ?_)
      wp_walk
      exact h
theorem list_lt (l b : Addr) (items items2 : Array Value) (n n2 : Nat) (dd dd2 : Option Addr) (sl sl2 : Array (Option Value)) (e c : Nat → Bool) :
    Meets (Builtin.«list.__lt__» ⟨[.ref l, .ref b], []⟩)
      (fun A R s => s.heap.get? l = some { cls := .type "list", dict := dd, data := .seq items n, slots := sl } ∧ s.heap.get? b = some { cls := .type "list", dict := dd2, data := .seq items2 n2, slots := sl2 } ∧
        (∀ j (h1 : j < items.size) (h2 : j < items2.size), EqAt A.in1 s items[j] items2[j] (e j)) ∧
        (∀ j (h1 : j < items.size) (h2 : j < items2.size), e j = false → CmpAt .Lt A.in1 s items[j] items2[j] (c j)) ∧
        R (.ok (.ret (.bool (firstDiff e c (decide (items.size < items2.size)) (min items.size items2.size) 0)))) s) := by
  intro prog w A R s h
  obtain ⟨hp, g, d, tk, os⟩ := s; obtain ⟨hl, hb, he, hc, h⟩ := h
  have f3 := AutoSeq1.sub_list_list
  wp_walk using wpAny_loadPart' hl, wpAny_loadPart' hb
  exact ⟨plainId_quiet plain_eq_loop _, codeAny_builtin entry_eq_loop (by
    rw [Around.under_plainId plain_eq_loop _]
    exact lt_loop l b items items2 n n2 dd dd2 sl sl2 e c _ 0 rfl (Nat.zero_le _) prog w A R _ ⟨hl, hb, he, hc, h⟩)⟩
theorem cmp_lists_lt {A : Around} {s : Shared} {l b : Addr} {items items2 : Array Value} {e c : Nat → Bool} (hl : s.heap.IsList l items) (hb : s.heap.IsList b items2) (hu : A.units < cLine)
    (he : ∀ j (h1 : j < items.size) (h2 : j < items2.size), EqAt A.in1 s items[j] items2[j] (e j)) (hc : ∀ j (h1 : j < items.size) (h2 : j < items2.size), e j = false → CmpAt .Lt A.in1 s items[j] items2[j] (c j)) :
    CmpAt .Lt A s (.ref l) (.ref b) (firstDiff e c (decide (items.size < items2.size)) (min items.size items2.size) 0) := fun prog w E Q h => by
  obtain ⟨⟨cls, dd, data, sl⟩, ho, hcl, n, hd⟩ := id hl
  obtain ⟨⟨cls2, dd2, data2, sl2⟩, ho2, hc2, n2, hd2⟩ := id hb
  simp only at hcl hd hc2 hd2
  subst hcl hd hc2 hd2
  exact richCompare_meets_room (op := .Lt) ⟨_, ho, rfl⟩ ⟨_, ho2, rfl⟩ F.slot_list_lt F.entry_list_lt (F.args_list_lt_2 _ _) (list_lt l b items items2 n n2 dd dd2 sl sl2 e c)
    ⟨ho, ho2, he, hc, show Value.bool _ ≠ Value.notImplemented ∧ Q (.bool _) s from ⟨(fun x => nomatch x), h⟩⟩ hu
theorem list_gt (l b : Addr) (items items2 : Array Value) (n n2 : Nat) (dd dd2 : Option Addr) (sl sl2 : Array (Option Value)) (e c : Nat → Bool) :
    Meets (Builtin.«list.__gt__» ⟨[.ref l, .ref b], []⟩)
      (fun A R s => s.heap.get? l = some { cls := .type "list", dict := dd, data := .seq items n, slots := sl } ∧ s.heap.get? b = some { cls := .type "list", dict := dd2, data := .seq items2 n2, slots := sl2 } ∧
        (∀ j (h1 : j < items.size) (h2 : j < items2.size), EqAt A.in1 s items[j] items2[j] (e j)) ∧
        (∀ j (h1 : j < items.size) (h2 : j < items2.size), e j = false → CmpAt .Gt A.in1 s items[j] items2[j] (c j)) ∧
        R (.ok (.ret (.bool (firstDiff e c (decide (items.size > items2.size)) (min items.size items2.size) 0)))) s) := by
  intro prog w A R s h
  obtain ⟨hp, g, d, tk, os⟩ := s; obtain ⟨hl, hb, he, hc, h⟩ := h
  have f3 := AutoSeq1.sub_list_list
  wp_walk using wpAny_loadPart' hl, wpAny_loadPart' hb
  exact ⟨plainId_quiet plain_eq_loop _, codeAny_builtin entry_eq_loop (by
    rw [Around.under_plainId plain_eq_loop _]
    exact gt_loop l b items items2 n n2 dd dd2 sl sl2 e c _ 0 rfl (Nat.zero_le _) prog w A R _ ⟨hl, hb, he, hc, h⟩)⟩
theorem cmp_lists_gt {A : Around} {s : Shared} {l b : Addr} {items items2 : Array Value} {e c : Nat → Bool} (hl : s.heap.IsList l items) (hb : s.heap.IsList b items2) (hu : A.units < cLine)
    (he : ∀ j (h1 : j < items.size) (h2 : j < items2.size), EqAt A.in1 s items[j] items2[j] (e j)) (hc : ∀ j (h1 : j < items.size) (h2 : j < items2.size), e j = false → CmpAt .Gt A.in1 s items[j] items2[j] (c j)) :
    CmpAt .Gt A s (.ref l) (.ref b) (firstDiff e c (decide (items.size > items2.size)) (min items.size items2.size) 0) := fun prog w E Q h => by
  obtain ⟨⟨cls, dd, data, sl⟩, ho, hcl, n, hd⟩ := id hl
  obtain ⟨⟨cls2, dd2, data2, sl2⟩, ho2, hc2, n2, hd2⟩ := id hb
  simp only at hcl hd hc2 hd2
  subst hcl hd hc2 hd2
  exact richCompare_meets_room (op := .Gt) ⟨_, ho, rfl⟩ ⟨_, ho2, rfl⟩ F.slot_list_gt F.entry_list_gt (F.args_list_gt_2 _ _) (list_gt l b items items2 n n2 dd dd2 sl sl2 e c)
    ⟨ho, ho2, he, hc, show Value.bool _ ≠ Value.notImplemented ∧ Q (.bool _) s from ⟨(fun x => nomatch x), h⟩⟩ hu
end Mine
end
section
open PySem PySem.W PySem.W.X PyProof.Rows PySem.Calls PySem.Builtin
set_option Elab.async false
set_option maxRecDepth 100000
set_option maxHeartbeats 8000000
namespace Mine
noncomputable def lawS : Stmt := prog.main.body.getD 12 (.Pass default)
noncomputable def valueOf (s : Stmt) : Expr := match s with | .Assign _ v _ => v | .Return (some v) _ => v | _ => default
noncomputable def lamBody (e : Expr) : Expr := match e with | .Lambda _ b _ _ => b | _ => default
noncomputable def lamArgs (e : Expr) : Arguments := match e with | .Lambda a _ _ _ => a | _ => default
noncomputable def lamScope (e : Expr) : Scope := match e with | .Lambda _ _ s _ => s | _ => default
noncomputable def turnE : Expr := valueOf ((bodyOf lawS).getD 3 (.Pass default))
theorem q_list_gi : typeLookup (.type "list") (Str.ofString "__getitem__") = pure (some (.builtin "list.__getitem__")) := by rw [typeLookup_type, builtinLookup_eq_fast]; kernel_rfl
/-- x[0] of a list that lies under the name x -/
theorem sub0 {w : World} {A : Around} {Q : Value → Shared → Prop} {E : Value → Shared → Prop} {h : Heap} {g : Array GenState} {d : Drawn} {tk : Tok} {os : OsState} {env : Env} {n : Str} {np cp pos : Pos} {k : Nat} {m : Str → Option Value} {l : Addr} {v : Value} {vs : Array Value}
   (hk : env.scope.kind = .function) (hl : env.kindOf n = some .local) (hns : h.Ns env.locals m) (hv : m n = some (.ref l)) (hd : (n == ("__debug__" : Str)) = false) (hL : h.IsList l vs) (h0 : vs[0]? = some v)
   (kk : ∀ tk', Q v ⟨h, g, d, tk', os⟩) : wpAny (model prog w) A (eval (.Subscript (.Name n np) (.Constant (.int 0) k cp) pos) env) Q E ⟨h, g, d, tk, os⟩ := by
  refine Subscript_Constant ?_
  refine wpAny_Name (wpAny_loadName_local hk hl hns hv ?_) hd
  refine wpAny_Constant_int ?_
  obtain ⟨o, ho, hc, ne, hdt⟩ := id hL
  exact ⟨"list", "list.__getitem__", q_list_gi, ⟨o, ho, hc⟩, wpAny_getItem_list hL (by decide) (by decide) h0 (kk _)⟩
theorem list_keeps {h h' : Heap} {l : Addr} {vs : Array Value} (x : h.IsList l vs) (k : ∀ b o, h.get? b = some o → h'.get? b = some o) : h'.IsList l vs := by
  obtain ⟨o, ho, r⟩ := x
  exact ⟨o, k _ _ ho, r⟩
noncomputable abbrev turnO (nm ql : Str) (pm ctv : Value) (ci : Addr) : Obj := ⟨.type "function", none, .func (kla_fn nm ql (lamArgs turnE) (lamBody turnE) (lamScope turnE) [] pm (.ref ci) ctv), #[]⟩
theorem turn_ok {w : World} {h : Heap} {g : Array GenState} {d : Drawn} {os : OsState} {tf p q kp kq ci : Addr} {vp vq pm ctv : Value} {nm ql : Str} (hlim : h.NoLimit) (hf : h.get? tf = some (turnO nm ql pm ctv ci)) (hcd : h.CodeRec (.ref ci) ql)
   (hp : h.IsList p #[.ref kp, vp]) (hq : h.IsList q #[.ref kq, vq]) (bg bl : Bool)
   (hgt : ∀ (A : Around) (s : Shared), (∀ b o, h.get? b = some o → s.heap.get? b = some o) → A.units ≤ 4500 → CmpAt .Gt A s (.ref kp) (.ref kq) bg)
   (hlt : ∀ (A : Around) (s : Shared), (∀ b o, h.get? b = some o → s.heap.get? b = some o) → A.units ≤ 4500 → CmpAt .Lt A s (.ref kp) (.ref kq) bl) :
   TurnOk w h g d os tf p q (if bg then 2 else if bl then -3 else 0) := by
  intro A Q E h1 tk hA k1 kk
  refine wpAny_call (kla_callFunE (s := ⟨h1, g, d, tk, os⟩) (Nat.lt_of_le_of_lt hA.1 (by decide)) (k1 _ _ hf) rfl rfl rfl rfl (hcd.keeps k1) ?_)
  refine wpAny_of_eq (a := [(Str.ofString "one", .ref p), (Str.ofString "two", .ref q)]) (by kernel_rfl) ?_
  refine wpAny_newFunctionEnv (show ∀ x ∈ (lamScope turnE).names, x.2 ≠ .cell by decide +kernel) (locs (by kernel_rfl)) (fun h2 hns hsb => ?_) rfl
  have k2 : ∀ b o, h1.get? b = some o → h2.get? b = some o := fun b o e => hsb.extBut b o (Nat.ne_of_lt (Heap.lt_size e)) (Heap.get?_push_of_some _ e)
  have kh : ∀ b o, h.get? b = some o → h2.get? b = some o := fun b o e => k2 _ _ (k1 _ _ e)
  refine ⟨hlim.keeps kh, kla_codeExpr ?_⟩
  dsimp only at hns ⊢
  generalize h1.objs.size = L at hns ⊢
  have hp2 := list_keeps hp kh
  have hq2 := list_keeps hq kh
  have hu : (A.deeper (newEnv (lamScope turnE) L mainGlobals [] (ql ++ Str.ofString ".<locals>.") (some tf) (.ref ci) none builtinsNs)).units ≤ 4500 := Nat.le_trans (Nat.add_le_add_right hA.2 3) (by decide)
  show wpAny _ _ (eval (.IfExp _ _ _ _) _) _ _ _
  rw [arm_eval_IfExp]
  refine wpAny_bind (wpAny_isTrue_Compare1 ?_)
  refine sub0 rfl (by kernel_rfl) hns (by kernel_rfl) (by decide +kernel) hp2 rfl fun tk1 => ?_
  refine sub0 rfl (by kernel_rfl) hns (by kernel_rfl) (by decide +kernel) hq2 rfl fun tk2 => ?_
  refine hgt _ _ kh hu _ _ _ _ ?_
  refine wpAny_truthy_bool ?_
  cases bg with
  | true => exact wpAny_Constant_int (k := 0) (pos := default) (kk _ _ _ k2)
  | false =>
    refine wpAny_ite_false (by rfl) ?_
    rw [arm_eval_IfExp]
    refine wpAny_bind (wpAny_isTrue_Compare1 ?_)
    refine sub0 rfl (by kernel_rfl) hns (by kernel_rfl) (by decide +kernel) hp2 rfl fun tk3 => ?_
    refine sub0 rfl (by kernel_rfl) hns (by kernel_rfl) (by decide +kernel) hq2 rfl fun tk4 => ?_
    refine hlt _ _ kh hu _ _ _ _ ?_
    refine wpAny_truthy_bool ?_
    cases bl with
    | true =>
      refine wpAny_ite_true (by rfl) ?_
      refine wpAny_UnaryOp (wpAny_Constant_int ?_)
      exact neg_int (kk _ _ _ k2)
    | false => exact wpAny_Constant_int (k := 0) (pos := default) (kk _ _ _ k2)
end Mine
end
section
open PySem PySem.W PySem.W.X PyProof.Rows PySem.Calls PySem.Builtin PySem.SeqAt
set_option Elab.async false
set_option maxRecDepth 100000
set_option maxHeartbeats 8000000
namespace Mine
inductive KD where
  | ok (b : Bool) (n : Int)
  | no (c : Int)
noncomputable abbrev sA : Str := Str.ofString "a"
noncomputable abbrev sB : Str := Str.ofString "b"
noncomputable def KD.enc : KD → List Value → Prop
  | .ok b n, vs => ∃ t0 t1 t2, vs = [.int 0 t0, .str (if b then sB else sA) t1, .int n t2]
  | .no c, vs => ∃ t, vs = [.int c t]
noncomputable def KD.rk : KD → Int
  | .ok b n => (if b then 100 else 0) + n
  | .no c => 200 + c
noncomputable def KD.wf : KD → Prop
  | .ok _ n => 0 ≤ n ∧ n < 100
  | .no c => 1 ≤ c
noncomputable def KeyAt (h : Heap) (k : Addr) (x : KD) : Prop := x.wf ∧ ∃ vs, x.enc vs ∧ h.IsList k vs.toArray
noncomputable def vEqB : Value → Value → Bool
  | .int a _, .int b _ => a == b
  | .str a _, .str b _ => a == b
  | _, _ => false
noncomputable def strLt (a b : Str) : Bool := decide (a.cps.toList < b.cps.toList)
noncomputable def vLtB : Value → Value → Bool
  | .int a _, .int b _ => decide (a < b)
  | .str a _, .str b _ => strLt a b
  | _, _ => false
noncomputable def kin : Value → Value → Bool
  | .int _ _, .int _ _ => true
  | .str _ _, .str _ _ => true
  | _, _ => false
section
variable {A : Around} {s : Shared}
theorem kin_cases {v u : Value} (h : kin v u = true) : (∃ a t b t', v = .int a t ∧ u = .int b t') ∨ (∃ a t b t', v = .str a t ∧ u = .str b t') := by
  unfold kin at h
  split at h
  · exact .inl ⟨_, _, _, _, rfl, rfl⟩
  · exact .inr ⟨_, _, _, _, rfl, rfl⟩
  · cases h
theorem eq_kin {v u : Value} (h : kin v u = true) : EqAt A s v u (vEqB v u) := by
  rcases kin_cases h with ⟨a, t, b, t', rfl, rfl⟩ | ⟨a, t, b, t', rfl, rfl⟩
  · exact EqAt.int_int _ _ _ _
  · exact EqAt.str_str _ _ _ _
theorem lt_kin {v u : Value} (h : kin v u = true) : CmpAt .Lt A s v u (vLtB v u) := by
  rcases kin_cases h with ⟨a, t, b, t', rfl, rfl⟩ | ⟨a, t, b, t', rfl, rfl⟩
  · intro prog w E Q q; exact PyProof.Rows.lt_int q
  · intro prog w E Q q; exact PyProof.Rows.lt_str q
theorem gt_kin {v u : Value} (h : kin v u = true) : CmpAt .Gt A s v u (vLtB u v) := by
  rcases kin_cases h with ⟨a, t, b, t', rfl, rfl⟩ | ⟨a, t, b, t', rfl, rfl⟩
  · intro prog w E Q q; exact PyProof.Rows.gt_int q
  · intro prog w E Q q; exact PySem.P.gt_str q
theorem lt_vals {l b : Addr} {vs us : List Value} (hl : s.heap.IsList l vs.toArray) (hb : s.heap.IsList b us.toArray) (hu : A.units < cLine) (hk : ∀ j (h1 : j < vs.length) (h2 : j < us.length), kin vs[j] us[j] = true) :
    CmpAt .Lt A s (.ref l) (.ref b) (firstDiff (fun j => vEqB (vs.getD j .none) (us.getD j .none)) (fun j => vLtB (vs.getD j .none) (us.getD j .none)) (decide (vs.length < us.length)) (min vs.length us.length) 0) := by
  have := cmp_lists_lt (A := A) (s := s) (e := fun j => vEqB (vs.getD j .none) (us.getD j .none)) (c := fun j => vLtB (vs.getD j .none) (us.getD j .none)) hl hb hu (fun j h1 h2 => ?_) (fun j h1 h2 _ => ?_)
  · simpa using this
  · have h1' : j < vs.length := by simpa using h1
    have h2' : j < us.length := by simpa using h2
    have := eq_kin (A := A.in1) (s := s) (hk j h1' h2')
    simpa [h1', h2'] using this
  · have h1' : j < vs.length := by simpa using h1
    have h2' : j < us.length := by simpa using h2
    have := lt_kin (A := A.in1) (s := s) (hk j h1' h2')
    simpa [h1', h2'] using this
theorem gt_vals {l b : Addr} {vs us : List Value} (hl : s.heap.IsList l vs.toArray) (hb : s.heap.IsList b us.toArray) (hu : A.units < cLine) (hk : ∀ j (h1 : j < vs.length) (h2 : j < us.length), kin vs[j] us[j] = true) :
    CmpAt .Gt A s (.ref l) (.ref b) (firstDiff (fun j => vEqB (vs.getD j .none) (us.getD j .none)) (fun j => vLtB (us.getD j .none) (vs.getD j .none)) (decide (vs.length > us.length)) (min vs.length us.length) 0) := by
  have := cmp_lists_gt (A := A) (s := s) (e := fun j => vEqB (vs.getD j .none) (us.getD j .none)) (c := fun j => vLtB (us.getD j .none) (vs.getD j .none)) hl hb hu (fun j h1 h2 => ?_) (fun j h1 h2 _ => ?_)
  · simpa using this
  · have h1' : j < vs.length := by simpa using h1
    have h2' : j < us.length := by simpa using h2
    have := eq_kin (A := A.in1) (s := s) (hk j h1' h2')
    simpa [h1', h2'] using this
  · have h1' : j < vs.length := by simpa using h1
    have h2' : j < us.length := by simpa using h2
    have := gt_kin (A := A.in1) (s := s) (hk j h1' h2')
    simpa [h1', h2'] using this
end
theorem ab_lt : strLt sA sB = true := by decide +kernel
theorem ba_lt : strLt sB sA = false := by decide +kernel
theorem aa_lt : strLt sA sA = false := by decide +kernel
theorem bb_lt : strLt sB sB = false := by decide +kernel
theorem ab_eq : (sA == sB) = false := by decide +kernel
theorem ba_eq : (sB == sA) = false := by decide +kernel
theorem aa_eq : (sA == sA) = true := by decide +kernel
theorem bb_eq : (sB == sB) = true := by decide +kernel
theorem kin_enc {x y : KD} {vs us : List Value} (hx : x.enc vs) (hy : y.enc us) : ∀ j (h1 : j < vs.length) (h2 : j < us.length), kin vs[j] us[j] = true := by
  cases x with
  | ok b n =>
    obtain ⟨t0, t1, t2, rfl⟩ := hx
    cases y with
    | ok b' n' =>
      obtain ⟨u0, u1, u2, rfl⟩ := hy
      intro j h1 h2
      match j, h1 with
      | 0, _ => rfl
      | 1, _ => rfl
      | 2, _ => rfl
    | no c =>
      obtain ⟨u, rfl⟩ := hy
      intro j h1 h2
      match j, h2 with
      | 0, _ => rfl
  | no c =>
    obtain ⟨t, rfl⟩ := hx
    cases y with
    | ok b' n' =>
      obtain ⟨u0, u1, u2, rfl⟩ := hy
      intro j h1 h2
      match j, h1 with
      | 0, _ => rfl
    | no c' =>
      obtain ⟨u, rfl⟩ := hy
      intro j h1 h2
      match j, h1 with
      | 0, _ => rfl
theorem lt_rank {x y : KD} {vs us : List Value} (hx : x.enc vs) (hy : y.enc us) (wx : x.wf) (wy : y.wf) :
    firstDiff (fun j => vEqB (vs.getD j .none) (us.getD j .none)) (fun j => vLtB (vs.getD j .none) (us.getD j .none)) (decide (vs.length < us.length)) (min vs.length us.length) 0 = decide (x.rk < y.rk) := by
  cases x with
  | ok b n =>
    obtain ⟨t0, t1, t2, rfl⟩ := hx
    obtain ⟨w1, w2⟩ := wx
    cases y with
    | ok b' n' =>
      obtain ⟨u0, u1, u2, rfl⟩ := hy
      obtain ⟨w3, w4⟩ := wy
      have key : (match n == n' with | true => false | false => decide (n < n')) = decide (n < n') := by
        by_cases q : n = n'
        · subst q; simp
        · have : (n == n') = false := by simpa using q
          rw [this]
      cases b <;> cases b' <;> simp [firstDiff, vEqB, vLtB, KD.rk, ab_lt, ba_lt, ab_eq, ba_eq, aa_eq, bb_eq] <;> first | exact key | omega
    | no c =>
      obtain ⟨u, rfl⟩ := hy
      have w : 1 ≤ c := wy
      have e0 : ((0 : Int) == c) = false := by simp; omega
      cases b <;> simp [firstDiff, vEqB, vLtB, KD.rk, e0] <;> omega
  | no c =>
    obtain ⟨t, rfl⟩ := hx
    have w : 1 ≤ c := wx
    cases y with
    | ok b' n' =>
      obtain ⟨u0, u1, u2, rfl⟩ := hy
      obtain ⟨w3, w4⟩ := wy
      have e0 : (c == (0 : Int)) = false := by simp; omega
      cases b' <;> simp [firstDiff, vEqB, vLtB, KD.rk, e0] <;> omega
    | no c' =>
      obtain ⟨u, rfl⟩ := hy
      by_cases q : c = c'
      · subst q; simp [firstDiff, vEqB, vLtB, KD.rk]
      · have e0 : (c == c') = false := by simpa using q
        simp [firstDiff, vEqB, vLtB, KD.rk, e0]
theorem vEq_none (v : Value) : vEqB v .none = false := by cases v <;> rfl
theorem none_vEq (v : Value) : vEqB .none v = false := rfl
theorem kin_enc' {x y : KD} {vs us : List Value} (hx : x.enc vs) (hy : y.enc us) (j : Nat) : vEqB (vs.getD j .none) (us.getD j .none) = vEqB (us.getD j .none) (vs.getD j .none) := by
  by_cases h1 : j < vs.length
  · by_cases h2 : j < us.length
    · have h := kin_enc hx hy j h1 h2
      rw [List.getD_eq_getElem?_getD, List.getD_eq_getElem?_getD, List.getElem?_eq_getElem h1, List.getElem?_eq_getElem h2]
      show vEqB vs[j] us[j] = vEqB us[j] vs[j]
      rcases kin_cases h with ⟨a, t, b, t', e1, e2⟩ | ⟨a, t, b, t', e1, e2⟩
      · rw [e1, e2]; exact Bool.beq_comm
      · rw [e1, e2]; exact Bool.beq_comm
    · have e : us.getD j .none = .none := by rw [List.getD_eq_getElem?_getD, List.getElem?_eq_none (Nat.not_lt.mp h2)]; rfl
      rw [e, vEq_none, none_vEq]
  · have e : vs.getD j .none = .none := by rw [List.getD_eq_getElem?_getD, List.getElem?_eq_none (Nat.not_lt.mp h1)]; rfl
    rw [e, vEq_none, none_vEq]
theorem gt_rank {x y : KD} {vs us : List Value} (hx : x.enc vs) (hy : y.enc us) (wx : x.wf) (wy : y.wf) :
    firstDiff (fun j => vEqB (vs.getD j .none) (us.getD j .none)) (fun j => vLtB (us.getD j .none) (vs.getD j .none)) (decide (vs.length > us.length)) (min vs.length us.length) 0 = decide (y.rk < x.rk) := by
  have h := lt_rank hy hx wy wx
  have e : (fun j => vEqB (vs.getD j .none) (us.getD j .none)) = fun j => vEqB (us.getD j .none) (vs.getD j .none) := funext fun j => kin_enc' hx hy j
  rw [e, Nat.min_comm]
  exact h
theorem KeyAt.keeps {h h' : Heap} {k : Addr} {x : KD} (q : KeyAt h k x) (kk : ∀ b o, h.get? b = some o → h'.get? b = some o) : KeyAt h' k x := by
  obtain ⟨w, vs, e, l⟩ := q
  exact ⟨w, vs, e, list_keeps l kk⟩
theorem key_lt {A : Around} {s : Shared} {k k' : Addr} {x y : KD} (hx : KeyAt s.heap k x) (hy : KeyAt s.heap k' y) (hu : A.units < cLine) : CmpAt .Lt A s (.ref k) (.ref k') (decide (x.rk < y.rk)) := by
  obtain ⟨wx, vs, ex, lx⟩ := hx
  obtain ⟨wy, us, ey, ly⟩ := hy
  rw [← lt_rank ex ey wx wy]
  exact lt_vals lx ly hu (kin_enc ex ey)
theorem key_gt {A : Around} {s : Shared} {k k' : Addr} {x y : KD} (hx : KeyAt s.heap k x) (hy : KeyAt s.heap k' y) (hu : A.units < cLine) : CmpAt .Gt A s (.ref k) (.ref k') (decide (y.rk < x.rk)) := by
  obtain ⟨wx, vs, ex, lx⟩ := hx
  obtain ⟨wy, us, ey, ly⟩ := hy
  rw [← gt_rank ex ey wx wy]
  exact gt_vals lx ly hu (kin_enc ex ey)
end Mine
end
section
open PySem PySem.W PySem.W.X PyProof.Rows PySem.Calls PySem.Builtin
set_option Elab.async false
set_option maxRecDepth 100000
set_option maxHeartbeats 8000000
namespace Mine
theorem arr_two {vs : Array Value} {y : Value} (h : vs[1]? = some y) : ∃ a l, vs = ⟨a :: y :: l⟩ := by
  obtain ⟨l⟩ := vs
  match l, h with
  | [], h => simp at h
  | [a], h => simp at h
  | a :: b :: l, h =>
    have : b = y := by simpa using h
    exact ⟨a, l, by rw [this]⟩
/-- K(v): a new object -/
theorem kmake {w : World} {A : Around} {Q : Value → Shared → Prop} {E : Value → Shared → Prop} {h : Heap} {g : Array GenState} {d : Drawn} {tk : Tok} {os : OsState} (hA : A.depth ≤ 400 ∧ A.units ≤ 4000) (KX : Frag.In (K2 w.params) h) {v0 : Value} {cl c v : Addr} (K : KCls h v0 cl c)
   (k : ∀ x dx h' tk', h'.get? x = some (instK c dx (.ref v)) → h.get? x = none → (∀ b o, h.get? b = some o → h'.get? b = some o) → Q (.ref x) ⟨h', g, d, tk', os⟩) : wpAny (model prog w) A (call (.ref c) [.ref v]) Q E ⟨h, g, d, tk, os⟩ := by
  obtain ⟨PK, ns, md, hs, ts, m0, sL, fI, fL, fG, fE, fLe, fGe, sT, bT, t, x1, x2, t3, t4, t5, o2, _, _, g1, g2, g3⟩ := K
  obtain ⟨doc, ci, ⟨ocl, ocd, odt, osl⟩, vs, tq, ctv, h1, h2, h3, h4, h5, h6⟩ := o2
  obtain ⟨a0, l, rfl⟩ := arr_two h4
  dsimp only at h3 h6
  subst h3 h6
  refine of_AX (Nat.le_trans hA.1 (by decide)) (Nat.le_trans hA.2 (by decide)) (kmake_X w h g d tk os A.handled KX c ns md sL fI fL fG fE fLe fGe sT bT ci cl hs ts m0 t x1 x2 t3 t4 t5 doc v0 ctv a0 tq l ocd osl v g1 g2 g3 h1 h2 Q E ?_)
  intro x dx o od h' tk' news D e1 e2 eo
  subst eo
  exact k x dx h' tk' (D.at 1 _ _ e1) (D.nw _ (List.mem_of_getElem? e1)).2 (mkeep D)
end Mine
end
section
open PySem PySem.W PySem.W.X PyProof.Rows PySem.Calls PySem.Builtin
set_option Elab.async false
set_option maxRecDepth 100000
set_option maxHeartbeats 8000000
namespace Mine
theorem lk_bind {M : Model} {h : Heap} {f : Addr} {o : Obj} (self : Value) (ho : h.get? f = some o) (hc : o.cls = .type "function") : Looks M h (bindSpecial (.ref f) self) (.ref f, [self]) := by
  unfold bindSpecial
  refine Looks.andThen (a := .type "function") ?_ (Looks.of_pure (by rfl))
  exact (Looks.ld ho).andThen (Looks.of_pure (by rw [hc]))
theorem ifBound_own {M : Model} {A : Around} {E : Value → Shared → Prop} {s : Shared} {x c f : Addr} {name : Str} {args : List Value} {Q : Option Value → Shared → Prop} (ht : Looks M s.heap (typeOf (.ref x)) (.ref c)) (hs : Looks M s.heap (typeLookup (.ref c) name) (some (.ref f))) (hf : Looks M s.heap (bindSpecial (.ref f) (.ref x)) (.ref f, [.ref x]))
    (h : wpAny M A (call (.ref f) (.ref x :: args)) (fun v => Q (some v)) E s) : wpAny M A (callSpecialIfBound? (.ref x) name args) Q E s := by
  simp only [callSpecialIfBound?, bindSpecialIfBound?]
  refine wpAny_holding (wpAny_bind (wpAny_bind (wpAny_bind (ht.here (hs.here ?_)))))
  refine wpAny_bind (wpAny_askSetting (wpAny_ite ?_))
  have fin : wpAny M A (call (.ref f) ([.ref x] ++ args) >>= fun v => pure (some v)) Q E s := wpAny_bind (wpAny_mono h (fun v s' h' => wpAny_pure h') fun _ _ h' => h')
  split
  · exact wpAny_bind (hf.here (wpAny_pure (by exact fin)))
  · exact wpAny_tryCatch (wpAny_bind (hf.here (wpAny_pure (by exact fin))))
section
variable {w : World} {A : Around} {E : Value → Shared → Prop} {h : Heap} {g : Array GenState} {d : Drawn} {tk : Tok} {os : OsState} {v0 : Value} {cl c x dx y dy p q tf : Addr} {r : Int}
/-- the methods of K as the lookups find them -/
theorem find_lt {M : Model} (K : KCls h v0 cl c) : ∃ PK f, OkF PK cl v0 h 3 f ∧ Looks M h (typeLookup (.ref c) (Str.ofString "__lt__")) (some (.ref f)) := by
  obtain ⟨PK, ns, md, hs, ts, m0, sL, fI, fL, fG, fE, fLe, fGe, sT, bT, t, x1, x2, t3, t4, t5, o2, o3, o4, g1, g2, g3⟩ := K
  exact ⟨PK, fL, o3, lk_find g1 rfl g2 (.inl ⟨.ref fL, by kernel_rfl, rfl⟩)⟩
theorem find_gt {M : Model} (K : KCls h v0 cl c) : ∃ PK f, OkF PK cl v0 h 4 f ∧ Looks M h (typeLookup (.ref c) (Str.ofString "__gt__")) (some (.ref f)) := by
  obtain ⟨PK, ns, md, hs, ts, m0, sL, fI, fL, fG, fE, fLe, fGe, sT, bT, t, x1, x2, t3, t4, t5, o2, o3, o4, g1, g2, g3⟩ := K
  exact ⟨PK, fG, o4, lk_find g1 rfl g2 (.inl ⟨.ref fG, by kernel_rfl, rfl⟩)⟩
theorem klt_sort {Q : Bool → Shared → Prop} (hA : A.depth ≤ 350 ∧ A.units ≤ 3500) (hlim : h.NoLimit) (K : KCls h v0 cl c)
   (hx : h.get? x = some (instK c dx (.ref p))) (hy : h.get? y = some (instK c dy (.ref q))) (hcl : h.IsCell cl (some (.ref tf))) (hfn : FnAt tf h) (tc : TurnOk w h g d os tf p q r)
   (k : ∀ h' tk', (∀ b o, h.get? b = some o → h'.get? b = some o) → Q (decide (r < 0)) ⟨h', g, d, tk', os⟩) : wpAny (model prog w) A (keyLt' oneType' (.ref x) (.ref y)) Q E ⟨h, g, d, tk, os⟩ := by
  obtain ⟨PK, f, ok, hfind⟩ := find_lt (M := model prog w) K
  obtain ⟨of, hof, hcf⟩ := ok.code
  rw [keyLt'_oneType, oneLt'_eq]
  simp only [if_true]
  refine wpAny_bind (wpAny_cRoomFor (Nat.lt_of_le_of_lt hA.2 (by decide)) ?_)
  refine wpAny_bind (ifBound_own (c := c) ((Looks.ld hx).andThen Looks.now) hfind (lk_bind _ hof hcf) ?_)
  refine lt_call hA hlim K K ok hx hy hcl hfn r tc fun h' tk' kk => ?_
  exact wpAny_truthy_bool (k h' tk' kk)
theorem kcmp_lt {Q : Value → Shared → Prop} {cl2 c2 : Addr} (hA : A.depth ≤ 350 ∧ A.units ≤ 3500) (hlim : h.NoLimit) (K : KCls h v0 cl c) (Ky : KCls h v0 cl2 c2)
   (hx : h.get? x = some (instK c dx (.ref p))) (hy : h.get? y = some (instK c2 dy (.ref q))) (hcl : h.IsCell cl (some (.ref tf))) (hfn : FnAt tf h) (tc : TurnOk w h g d os tf p q r)
   (k : ∀ h' tk', (∀ b o, h.get? b = some o → h'.get? b = some o) → Q (.bool (decide (r < 0))) ⟨h', g, d, tk', os⟩) : wpAny (model prog w) A (richCompare .Lt (.ref x) (.ref y)) Q E ⟨h, g, d, tk, os⟩ := by
  obtain ⟨PK, f, ok, hfind⟩ := find_lt (M := model prog w) K
  obtain ⟨of, hof, hcf⟩ := ok.code
  have tx : Looks (model prog w) h (typeOf (.ref x)) (.ref c) := (Looks.ld hx).andThen Looks.now
  have ty : Looks (model prog w) h (typeOf (.ref y)) (.ref c2) := (Looks.ld hy).andThen Looks.now
  have one : wpAny (model prog w) A (tryCompare (.ref x) (Str.ofString "__lt__") (.ref y)) (fun r s' => ∃ v, r = some v ∧ Q v s') E ⟨h, g, d, tk, os⟩ := by
    unfold tryCompare
    refine wpAny_bind (ifBound_own (c := c) tx hfind (lk_bind _ hof hcf) ?_)
    refine lt_call hA hlim K Ky ok hx hy hcl hfn r tc fun h' tk' kk => ?_
    exact wpAny_pure ⟨_, rfl, k h' tk' kk⟩
  unfold richCompare
  simp only [oneThing_ref]
  refine wpAny_holding (wpAny_bind (wpAny_cRoomFor (Nat.lt_of_le_of_lt hA.2 (by decide)) ?_))
  refine wpAny_bind (tx.here (wpAny_bind (ty.here ?_)))
  have fin : wpAny (model prog w) A (tryCompare (.ref x) (cmpInfo .Lt).2.1 (.ref y)) (fun r s' => ∃ v, r = some v ∧ Q v s') E ⟨h, g, d, tk, os⟩ := one
  split
  · rename_i hne
    have hne' : c2 ≠ c := fun e => by rw [e] at hne; simp at hne
    obtain ⟨PK', ns, md, hs, ts, m0, sL, fI, fL, fG, fE, fLe, fGe, sT, bT, t, x1, x2, t3, t4, t5, o2, o3, o4, g1, g2, g3⟩ := Ky
    have hsub : Looks (model prog w) h (isSubtype (.ref c2) (.ref c)) false := by
      unfold isSubtype
      refine (lk_mro g1).andThen ?_
      refine Looks.of_pure ?_
      show (if List.isEmpty [Value.ref c2, Value.type "object"] = true then _ else pure (List.contains [Value.ref c2, Value.type "object"] (.ref c))) = pure false
      have e : List.contains [Value.ref c2, Value.type "object"] (Value.ref c) = false := by simp [hne'.symm]
      rw [e]; rfl
    refine wpAny_bind (hsub.here ?_)
    simp only [Bool.false_eq_true, if_false]
    refine wpAny_bind (wpAny_mono fin (fun r s' z => ?_) fun _ _ e => e)
    obtain ⟨v, rfl, hq⟩ := z
    exact wpAny_pure hq
  · refine wpAny_bind (wpAny_pure ?_)
    simp only [Bool.false_eq_true, if_false]
    refine wpAny_bind (wpAny_mono fin (fun r s' z => ?_) fun _ _ e => e)
    obtain ⟨v, rfl, hq⟩ := z
    exact wpAny_pure hq
theorem kcmp_gt {Q : Value → Shared → Prop} {cl2 c2 : Addr} (hA : A.depth ≤ 350 ∧ A.units ≤ 3500) (hlim : h.NoLimit) (K : KCls h v0 cl c) (Ky : KCls h v0 cl2 c2)
   (hx : h.get? x = some (instK c dx (.ref p))) (hy : h.get? y = some (instK c2 dy (.ref q))) (hcl : h.IsCell cl (some (.ref tf))) (hfn : FnAt tf h) (tc : TurnOk w h g d os tf p q r)
   (k : ∀ h' tk', (∀ b o, h.get? b = some o → h'.get? b = some o) → Q (.bool (decide (0 < r))) ⟨h', g, d, tk', os⟩) : wpAny (model prog w) A (richCompare .Gt (.ref x) (.ref y)) Q E ⟨h, g, d, tk, os⟩ := by
  obtain ⟨PK, f, ok, hfind⟩ := find_gt (M := model prog w) K
  obtain ⟨of, hof, hcf⟩ := ok.code
  have tx : Looks (model prog w) h (typeOf (.ref x)) (.ref c) := (Looks.ld hx).andThen Looks.now
  have ty : Looks (model prog w) h (typeOf (.ref y)) (.ref c2) := (Looks.ld hy).andThen Looks.now
  have one : wpAny (model prog w) A (tryCompare (.ref x) (Str.ofString "__gt__") (.ref y)) (fun r s' => ∃ v, r = some v ∧ Q v s') E ⟨h, g, d, tk, os⟩ := by
    unfold tryCompare
    refine wpAny_bind (ifBound_own (c := c) tx hfind (lk_bind _ hof hcf) ?_)
    refine gt_call hA hlim K Ky ok hx hy hcl hfn r tc fun h' tk' kk => ?_
    exact wpAny_pure ⟨_, rfl, k h' tk' kk⟩
  unfold richCompare
  simp only [oneThing_ref]
  refine wpAny_holding (wpAny_bind (wpAny_cRoomFor (Nat.lt_of_le_of_lt hA.2 (by decide)) ?_))
  refine wpAny_bind (tx.here (wpAny_bind (ty.here ?_)))
  have fin : wpAny (model prog w) A (tryCompare (.ref x) (cmpInfo .Gt).2.1 (.ref y)) (fun r s' => ∃ v, r = some v ∧ Q v s') E ⟨h, g, d, tk, os⟩ := one
  split
  · rename_i hne
    have hne' : c2 ≠ c := fun e => by rw [e] at hne; simp at hne
    obtain ⟨PK', ns, md, hs, ts, m0, sL, fI, fL, fG, fE, fLe, fGe, sT, bT, t, x1, x2, t3, t4, t5, o2, o3, o4, g1, g2, g3⟩ := Ky
    have hsub : Looks (model prog w) h (isSubtype (.ref c2) (.ref c)) false := by
      unfold isSubtype
      refine (lk_mro g1).andThen ?_
      refine Looks.of_pure ?_
      show (if List.isEmpty [Value.ref c2, Value.type "object"] = true then _ else pure (List.contains [Value.ref c2, Value.type "object"] (.ref c))) = pure false
      have e : List.contains [Value.ref c2, Value.type "object"] (Value.ref c) = false := by simp [hne'.symm]
      rw [e]; rfl
    refine wpAny_bind (hsub.here ?_)
    simp only [Bool.false_eq_true, if_false]
    refine wpAny_bind (wpAny_mono fin (fun r s' z => ?_) fun _ _ e => e)
    obtain ⟨v, rfl, hq⟩ := z
    exact wpAny_pure hq
  · refine wpAny_bind (wpAny_pure ?_)
    simp only [Bool.false_eq_true, if_false]
    refine wpAny_bind (wpAny_mono fin (fun r s' z => ?_) fun _ _ e => e)
    obtain ⟨v, rfl, hq⟩ := z
    exact wpAny_pure hq
end
end Mine
end
section
open PySem PySem.W PyProof.Rows
set_option Elab.async false
set_option maxRecDepth 100000
set_option maxHeartbeats 8000000
namespace Mine
/-- the sort's questions, answered by lt -/
noncomputable def kev {α : Type} (lt : Nat → Nat → Bool) : KasT α → α
  | .ret a => a
  | .ask i j k => kev lt (k (lt i j))
theorem kev_bind {α β : Type} (lt : Nat → Nat → Bool) (f : α → KasT β) : ∀ t : KasT α, kev lt (t.bind f) = kev lt (f (kev lt t))
  | .ret _ => rfl
  | .ask i j k => kev_bind lt f (k (lt i j))
noncomputable def gd (p : Array Nat) (k : Nat) : Nat := p.getD k 0
theorem gd_eq {p q : Array Nat} {k m : Nat} (h : p[k]? = q[m]?) : gd p k = gd q m := by
  unfold gd
  rw [Array.getD_eq_getD_getElem?, Array.getD_eq_getD_getElem?, h]
theorem gd_rev {p : Array Nat} {i j : Nat} (hj : j ≤ p.size) (k : Nat) : gd (kas_rev p i j) k = if i ≤ k ∧ k < j then gd p (i + j - 1 - k) else gd p k := by
  have := getElem?_mirror_all (xs := p) (i := i) hj k
  unfold kas_rev
  split
  · rename_i h; rw [if_pos h] at this; exact gd_eq this
  · rename_i h; rw [if_neg h] at this; exact gd_eq this
theorem gd_bub {p : Array Nat} {src l : Nat} (hs : src < p.size) (hl : l ≤ src) (k : Nat) : gd (bubble p src (src - l)) k = if k = l then gd p src else if l < k ∧ k ≤ src then gd p (k - 1) else gd p k := by
  have := getElem?_bubble hs (src - l) (by lia) k
  rw [show src - (src - l) = l by lia] at this
  split
  · rename_i h; rw [if_pos h] at this; exact gd_eq this
  · rename_i h
    rw [if_neg h] at this
    split
    · rename_i h2; rw [if_pos h2] at this; exact gd_eq this
    · rename_i h2; rw [if_neg h2] at this; exact gd_eq this
section
variable (rk : Nat → Int)
noncomputable abbrev ltR (i j : Nat) : Bool := decide (rk i < rk j)
noncomputable def Lex (a b : Nat) : Prop := rk a < rk b ∨ (rk a = rk b ∧ a < b)
/-- the first n lie in order, and are the numbers below n; the others lie as they lay -/
structure Good (N : Nat) (p : Array Nat) (n : Nat) : Prop where
  size : p.size = N
  le : n ≤ N
  srt : ∀ i j, i < j → j < n → Lex rk (gd p i) (gd p j)
  bd : ∀ i, i < n → gd p i < n
  tail : ∀ k, n ≤ k → k < N → gd p k = k
theorem good_next {N : Nat} {p : Array Nat} {n : Nat} (G : Good rk N p n) (h1 : 1 ≤ n) (hn : n < N) (h : ¬ rk (gd p n) < rk (gd p (n - 1))) : Good rk N p (n + 1) := by
  refine ⟨G.size, hn, fun i j hij hj => ?_, fun i hi => ?_, fun k hk hkN => G.tail k (by lia) hkN⟩
  · by_cases hjn : j < n
    · exact G.srt i j hij hjn
    · have hje : j = n := by lia
      subst hje
      have e : gd p j = j := G.tail j (Nat.le_refl _) hn
      have hb := G.bd i hij
      have hr : rk (gd p i) ≤ rk (gd p (j - 1)) := by
        by_cases hi : i = j - 1
        · rw [hi]; exact Int.le_refl _
        · rcases G.srt i (j - 1) (by lia) (by lia) with q | ⟨q, _⟩ <;> lia
      unfold Lex
      rw [e] at h ⊢
      lia
  · by_cases hin : i < n
    · have := G.bd i hin; lia
    · have : i = n := by lia
      subst this
      rw [G.tail i (Nat.le_refl _) hn]; lia
theorem asc_good {N : Nat} {p : Array Nat} : ∀ (f n : Nat), Good rk N p n → 1 ≤ n → n + f ≤ N → ∃ m, kev (ltR rk) (kas_asc p f n) = m ∧ n ≤ m ∧ m ≤ n + f ∧ Good rk N p m ∧ (m < n + f → rk (gd p m) < rk (gd p (m - 1)))
  | 0, n, G, _, _ => ⟨n, rfl, Nat.le_refl _, Nat.le_refl _, G, fun h => absurd h (Nat.lt_irrefl _)⟩
  | f + 1, n, G, h1, hf => by
    by_cases q : rk (gd p n) < rk (gd p (n - 1))
    · refine ⟨n, ?_, Nat.le_refl _, by lia, G, fun _ => q⟩
      show kev (ltR rk) (if decide (rk (gd p n) < rk (gd p (n - 1))) = true then KasT.ret n else kas_asc p f (n + 1)) = n
      rw [if_pos (decide_eq_true q)]; rfl
    · obtain ⟨m, e, a, b, c, d⟩ := asc_good f (n + 1) (good_next rk G h1 (by lia) q) (by lia) (by lia)
      refine ⟨m, ?_, by lia, by lia, c, fun h => d (by lia)⟩
      show kev (ltR rk) (if decide (rk (gd p n) < rk (gd p (n - 1))) = true then KasT.ret n else kas_asc p f (n + 1)) = m
      rw [if_neg (by simpa using q)]; exact e
theorem good_insert {N : Nat} {p : Array Nat} {k l : Nat} (G : Good rk N p k) (hk : k < N) (hl : l ≤ k) (h1 : ∀ i, i < l → rk (gd p i) ≤ rk k) (h2 : ∀ i, l ≤ i → i < k → rk k < rk (gd p i)) : Good rk N (bubble p k (k - l)) (k + 1) := by
  have hs : k < p.size := by rw [G.size]; exact hk
  have e : gd p k = k := G.tail k (Nat.le_refl _) hk
  have gb := fun m => gd_bub hs hl m
  refine ⟨(bubble_size _ _ _).trans G.size, hk, fun i j hij hj => ?_, fun i hi => ?_, fun m hm hmN => ?_⟩
  · rw [gb i, gb j]
    by_cases hi : i = l
    · rw [if_pos hi, if_neg (by lia), if_pos (by lia), e]
      have := h2 (j - 1) (by lia) (by lia)
      exact .inl this
    · rw [if_neg hi]
      by_cases hjl : j = l
      · rw [if_pos hjl, if_neg (by lia), e]
        have := h1 i (by lia)
        have := G.bd i (by lia)
        unfold Lex; lia
      · rw [if_neg hjl]
        by_cases hil : l < i ∧ i ≤ k
        · rw [if_pos hil, if_pos (by lia)]
          exact G.srt (i - 1) (j - 1) (by lia) (by lia)
        · rw [if_neg hil]
          by_cases hjl' : l < j ∧ j ≤ k
          · rw [if_pos hjl']
            exact G.srt i (j - 1) (by lia) (by lia)
          · rw [if_neg hjl']
            exact G.srt i j hij (by lia)
  · rw [gb i]
    split
    · lia
    · split
      · have := G.bd (i - 1) (by lia); lia
      · have := G.bd i (by lia); lia
  · rw [gb m, if_neg (by lia), if_neg (by lia)]
    exact G.tail m (by lia) hmN
theorem place_good {N : Nat} {p : Array Nat} {k : Nat} (G : Good rk N p k) (hk : k < N) : ∀ (f l r : Nat), r - l ≤ f → l ≤ r → r ≤ k → (∀ i, i < l → rk (gd p i) ≤ rk k) → (∀ i, r ≤ i → i < k → rk k < rk (gd p i)) →
    ∃ m, kev (ltR rk) (kas_place p k f l r) = m ∧ m ≤ k ∧ (∀ i, i < m → rk (gd p i) ≤ rk k) ∧ (∀ i, m ≤ i → i < k → rk k < rk (gd p i))
  | 0, l, r, hf, hlr, hr, h1, h2 => ⟨l, rfl, by lia, h1, fun i hi => h2 i (by lia)⟩
  | f + 1, l, r, hf, hlr, hr, h1, h2 => by
    have e : gd p k = k := G.tail k (Nat.le_refl _) hk
    by_cases q : l ≥ r
    · refine ⟨l, ?_, by lia, h1, fun i hi => h2 i (by lia)⟩
      unfold kas_place
      rw [if_pos q]; rfl
    · have e1 : kev (ltR rk) (kas_place p k (f + 1) l r) = kev (ltR rk) (if decide (rk (gd p k) < rk (gd p ((l + r) / 2))) = true then kas_place p k f l ((l + r) / 2) else kas_place p k f ((l + r) / 2 + 1) r) := by
        conv => lhs; unfold kas_place
        rw [if_neg q]; rfl
      by_cases c : rk (gd p k) < rk (gd p ((l + r) / 2))
      · rw [e1, if_pos (decide_eq_true c)]
        refine place_good G hk f l ((l + r) / 2) (by lia) (by lia) (by lia) h1 fun i hi hik => ?_
        rw [e] at c
        by_cases hi' : i = (l + r) / 2
        · rw [hi']; exact c
        · rcases G.srt ((l + r) / 2) i (by lia) hik with z | ⟨z, _⟩ <;> lia
      · rw [e1, if_neg (by simpa using c)]
        refine place_good G hk f ((l + r) / 2 + 1) r (by lia) (by lia) hr (fun i hi => ?_) h2
        rw [e] at c
        by_cases hi' : i = (l + r) / 2
        · rw [hi']; lia
        · rcases G.srt i ((l + r) / 2) (by lia) (by lia) with z | ⟨z, _⟩ <;> lia
theorem bin_good {N : Nat} : ∀ (f : Nat) (p : Array Nat) (k : Nat), Good rk N p k → k + f ≤ N → Good rk N (kev (ltR rk) (kas_bin f p k)) (k + f)
  | 0, p, k, G, _ => G
  | f + 1, p, k, G, hf => by
    have e1 : kev (ltR rk) (kas_bin (f + 1) p k) = kev (ltR rk) (kas_bin f (bubble p k (k - kev (ltR rk) (kas_place p k k 0 k))) (k + 1)) := by
      conv => lhs; unfold kas_bin
      rw [kev_bind]
    obtain ⟨m, em, a, b, c⟩ := place_good rk G (by lia) k 0 k (by lia) (by lia) (Nat.le_refl _) (fun i hi => absurd hi (Nat.not_lt_zero _)) (fun i h1 h2 => absurd h2 (by lia))
    rw [e1, em]
    have := bin_good f _ (k + 1) (good_insert rk G (by lia) a b c) (by lia)
    rwa [show k + 1 + f = k + (f + 1) by lia] at this
end
end Mine
end
section
open PySem PySem.W PyProof.Rows
set_option Elab.async false
set_option maxRecDepth 100000
set_option maxHeartbeats 8000000
namespace Mine
section
variable (rk : Nat → Int)
/-- a run that goes down: groups of like ranks, the done ones turned, the last one (q + 1 long) not yet -/
structure Down (N : Nat) (p : Array Nat) (n q : Nat) : Prop where
  size : p.size = N
  le : n ≤ N
  qn : q + 1 ≤ n
  done : ∀ i j, i < j → j < n - (q + 1) → Lex rk (gd p j) (gd p i)
  over : ∀ i j, i < n - (q + 1) → n - (q + 1) ≤ j → j < n → rk (gd p j) < rk (gd p i)
  grp : ∀ i j, n - (q + 1) ≤ i → i < j → j < n → rk (gd p i) = rk (gd p j) ∧ gd p i < gd p j
  bd : ∀ i, i < n → gd p i < n
  tail : ∀ k, n ≤ k → k < N → gd p k = k
/-- all groups turned -/
structure Turned (N : Nat) (p : Array Nat) (n : Nat) : Prop where
  size : p.size = N
  le : n ≤ N
  done : ∀ i j, i < j → j < n → Lex rk (gd p j) (gd p i)
  bd : ∀ i, i < n → gd p i < n
  tail : ∀ k, n ≤ k → k < N → gd p k = k
theorem down_turn {N : Nat} {p : Array Nat} {n q : Nat} (D : Down rk N p n q) : Turned rk N (kas_rev p (n - (q + 1)) n) n := by
  have hq := D.qn
  have hle := D.le
  have gr := fun k => gd_rev (p := p) (i := n - (q + 1)) (j := n) (by rw [D.size]; exact D.le) k
  refine ⟨(mirror_size _ _ _ _).trans D.size, D.le, fun i j hij hj => ?_, fun i hi => ?_, fun k hk hkN => ?_⟩
  · by_cases hi : n - (q + 1) ≤ i
    · have ei := (gr i).trans (if_pos ⟨hi, by lia⟩)
      have ej := (gr j).trans (if_pos ⟨by lia, hj⟩)
      rw [ei, ej]
      obtain ⟨a, b⟩ := D.grp (n - (q + 1) + n - 1 - j) (n - (q + 1) + n - 1 - i) (by lia) (by lia) (by lia)
      exact .inr ⟨a, b⟩
    · have ei := (gr i).trans (if_neg (by lia))
      rw [ei]
      by_cases hj' : n - (q + 1) ≤ j
      · have ej := (gr j).trans (if_pos ⟨hj', hj⟩)
        rw [ej]
        exact .inl (D.over i _ (by lia) (by lia) (by lia))
      · have ej := (gr j).trans (if_neg (by lia))
        rw [ej]
        exact D.done i j hij (by lia)
  · rw [gr i]
    split
    · exact D.bd _ (by lia)
    · exact D.bd _ hi
  · rw [gr k, if_neg (by lia)]
    exact D.tail k hk hkN
theorem down_turn0 {N : Nat} {p : Array Nat} {n : Nat} (D : Down rk N p n 0) : Turned rk N p n := by
  have hq := D.qn
  refine ⟨D.size, D.le, fun i j hij hj => ?_, D.bd, D.tail⟩
  by_cases hj' : j < n - (0 + 1)
  · exact D.done i j hij hj'
  · exact .inl (D.over i j (by lia) (by lia) hj)
/-- a turned run, one lower behind it -/
theorem turned_next {N : Nat} {p : Array Nat} {n : Nat} (D : Turned rk N p n) (hn : n < N) (h1 : 1 ≤ n) (h : rk n < rk (gd p (n - 1))) : Down rk N p (n + 1) 0 := by
  have e : gd p n = n := D.tail n (Nat.le_refl _) hn
  refine ⟨D.size, hn, by lia, fun i j hij hj => D.done i j hij (by lia), fun i j hi hj hjn => ?_, fun i j hi hij hj => absurd hij (by lia), fun i hi => ?_, fun k hk hkN => D.tail k (by lia) hkN⟩
  · have hje : j = n := by lia
    subst hje
    rw [e]
    by_cases hi' : i = j - 1
    · rw [hi']; exact h
    · rcases D.done i (j - 1) (by lia) (by lia) with q | ⟨q, _⟩ <;> lia
  · by_cases hin : i < n
    · have := D.bd i hin; lia
    · have : i = n := by lia
      subst this; rw [e]; lia
theorem down_like {N : Nat} {p : Array Nat} {n q : Nat} (D : Down rk N p n q) (hn : n < N) (h : rk n = rk (gd p (n - 1))) : Down rk N p (n + 1) (q + 1) := by
  have hq := D.qn
  have e : gd p n = n := D.tail n (Nat.le_refl _) hn
  have es : n + 1 - (q + 1 + 1) = n - (q + 1) := by lia
  have gl : ∀ i, n - (q + 1) ≤ i → i < n → rk (gd p i) = rk n := fun i h1 h2 => by
    by_cases hi : i = n - 1
    · rw [hi, h]
    · rw [(D.grp i (n - 1) h1 (by lia) (by lia)).1, h]
  refine ⟨D.size, hn, by lia, fun i j hij hj => D.done i j hij (by lia), fun i j hi hj hjn => ?_, fun i j hi hij hj => ?_, fun i hi => ?_, fun k hk hkN => D.tail k (by lia) hkN⟩
  · rw [es] at hi hj
    by_cases hje : j = n
    · subst hje
      rw [e, h]
      exact D.over i (j - 1) hi (by lia) (by lia)
    · exact D.over i j hi hj (by lia)
  · rw [es] at hi
    by_cases hje : j = n
    · subst hje
      rw [e]
      exact ⟨gl i hi hij, D.bd i hij⟩
    · exact D.grp i j hi hij (by lia)
  · by_cases hin : i < n
    · have := D.bd i hin; lia
    · have : i = n := by lia
      subst this; rw [e]; lia
theorem desc_good {N : Nat} : ∀ (f : Nat) (p : Array Nat) (n q : Nat), Down rk N p n q → n + f ≤ N → ∃ r, kev (ltR rk) (kas_desc f p n q) = r ∧ Down rk N r.1 r.2.1 r.2.2 ∧ n ≤ r.2.1 ∧ r.2.1 ≤ n + f
  | 0, p, n, q, D, _ => ⟨(p, n, q), rfl, D, Nat.le_refl _, Nat.le_refl _⟩
  | f + 1, p, n, q, D, hf => by
    have hq := D.qn
    have hn : n < N := by lia
    have e : gd p n = n := D.tail n (Nat.le_refl _) hn
    have e1 : kev (ltR rk) (kas_desc (f + 1) p n q) = kev (ltR rk) (if decide (rk (gd p n) < rk (gd p (n - 1))) = true then (if q > 0 then kas_desc f (kas_rev p (n - (q + 1)) n) (n + 1) 0 else kas_desc f p (n + 1) 0)
        else KasT.ask (p.getD (n - 1) 0) (p.getD n 0) fun d => if d = true then .ret (p, n, q) else kas_desc f p (n + 1) (q + 1)) := rfl
    rw [e1]
    by_cases c : rk (gd p n) < rk (gd p (n - 1))
    · rw [if_pos (decide_eq_true c)]
      rw [e] at c
      by_cases q0 : q > 0
      · rw [if_pos q0]
        have last : gd (kas_rev p (n - (q + 1)) n) (n - 1) = gd p (n - (q + 1)) := by
          rw [gd_rev (by rw [D.size]; exact D.le), if_pos ⟨by lia, by lia⟩, show n - (q + 1) + n - 1 - (n - 1) = n - (q + 1) by lia]
        have hl : rk n < rk (gd (kas_rev p (n - (q + 1)) n) (n - 1)) := by
          rw [last, (D.grp (n - (q + 1)) (n - 1) (Nat.le_refl _) (by lia) (by lia)).1]; exact c
        obtain ⟨r, er, a, b, d⟩ := desc_good f _ (n + 1) 0 (turned_next rk (down_turn rk D) hn (by lia) hl) (by lia)
        exact ⟨r, er, a, by lia, by lia⟩
      · rw [if_neg q0]
        have q0' : q = 0 := by lia
        subst q0'
        obtain ⟨r, er, a, b, d⟩ := desc_good f _ (n + 1) 0 (turned_next rk (down_turn0 rk D) hn (by lia) c) (by lia)
        exact ⟨r, er, a, by lia, by lia⟩
    · rw [if_neg (by simpa using c)]
      rw [e] at c
      show ∃ r, kev (ltR rk) (if decide (rk (gd p (n - 1)) < rk (gd p n)) = true then KasT.ret (p, n, q) else kas_desc f p (n + 1) (q + 1)) = r ∧ _
      by_cases c2 : rk (gd p (n - 1)) < rk (gd p n)
      · rw [if_pos (decide_eq_true c2)]
        exact ⟨(p, n, q), rfl, D, Nat.le_refl _, Nat.le_add_right _ _⟩
      · rw [if_neg (by simpa using c2)]
        rw [e] at c2
        obtain ⟨r, er, a, b, d⟩ := desc_good f p (n + 1) (q + 1) (down_like rk D hn (by lia)) (by lia)
        exact ⟨r, er, a, by lia, by lia⟩
theorem turned_good {N : Nat} {p : Array Nat} {n : Nat} (D : Turned rk N p n) : Good rk N (kas_rev p 0 n) n := by
  have gr := fun k => gd_rev (p := p) (i := 0) (j := n) (by rw [D.size]; exact D.le) k
  have gi : ∀ k, k < n → gd (kas_rev p 0 n) k = gd p (n - 1 - k) := fun k hk => by rw [gr k, if_pos ⟨Nat.zero_le _, hk⟩, Nat.zero_add]
  refine ⟨(mirror_size _ _ _ _).trans D.size, D.le, fun i j hij hj => ?_, fun i hi => ?_, fun k hk hkN => ?_⟩
  · rw [gi i (by lia), gi j hj]
    exact D.done (n - 1 - j) (n - 1 - i) (by lia) (by lia)
  · rw [gi i hi]; exact D.bd _ (by lia)
  · rw [gr k, if_neg (by lia)]; exact D.tail k hk hkN
theorem tail3_good {N : Nat} {p : Array Nat} {n : Nat} (D : Turned rk N p n) (h1 : 1 ≤ n) : ∃ r, kev (ltR rk) (kas_tail3 n N p) = r ∧ Good rk N r.2 r.1 ∧ 1 ≤ r.1 := by
  obtain ⟨m, e, a, b, c, _⟩ := asc_good rk (N - n) n (turned_good rk D) h1 (by have := D.le; lia)
  refine ⟨(m, kas_rev p 0 n), ?_, c, Nat.le_trans h1 a⟩
  unfold kas_tail3
  rw [kev_bind, e]
  rfl
theorem descPart_good {N : Nat} {p : Array Nat} {n : Nat} (D : Turned rk N p n) (h1 : 1 ≤ n) (hn : n < N) (h : rk n < rk (gd p (n - 1))) : ∃ r, kev (ltR rk) (kas_descPart n N p) = r ∧ Good rk N r.2 r.1 ∧ 1 ≤ r.1 := by
  obtain ⟨⟨p', m, q⟩, e, a, b, c⟩ := desc_good rk (N - (n + 1)) p (n + 1) 0 (turned_next rk D hn h1 h) (by lia)
  dsimp only at a b c
  have e1 : kev (ltR rk) (kas_descPart n N p) = kev (ltR rk) (if q > 0 then kas_tail3 m N (kas_rev p' (m - (q + 1)) m) else kas_tail3 m N p') := by
    unfold kas_descPart
    rw [kev_bind, e]
  rw [e1]
  by_cases q0 : q > 0
  · rw [if_pos q0]
    exact tail3_good rk (down_turn rk a) (by lia)
  · rw [if_neg q0]
    have : q = 0 := by lia
    subst this
    exact tail3_good rk (down_turn0 rk a) (by lia)
theorem gd_range {N k : Nat} (h : k < N) : gd (List.toArray (List.range N)) k = k := by
  unfold gd
  simp [h]
theorem range_good {N : Nat} (h : 1 ≤ N) : Good rk N (List.toArray (List.range N)) 1 :=
  ⟨by simp, h, fun i j hij hj => absurd hij (by lia), fun i hi => by rw [gd_range (by lia)]; exact hi, fun k _ hk => gd_range hk⟩
theorem count_good {N : Nat} (hN : 1 ≤ N) : ∃ r, kev (ltR rk) (kas_count N (List.toArray (List.range N))) = r ∧ Good rk N r.2 r.1 ∧ 1 ≤ r.1 := by
  obtain ⟨n, e, a, b, G, hs⟩ := asc_good rk (N - 1) 1 (range_good rk hN) (Nat.le_refl _) (by lia)
  unfold kas_count
  rw [kev_bind, e]
  by_cases hnN : n = N
  · rw [if_pos (by simpa using hnN)]
    exact ⟨_, rfl, G, a⟩
  · rw [if_neg (by simpa using hnN)]
    have hst := hs (by lia)
    have en : gd (List.toArray (List.range N)) n = n := gd_range (by lia)
    rw [en] at hst
    have self : ∀ k, k < N → gd (List.toArray (List.range N)) k = k := fun k hk => gd_range hk
    by_cases n1 : n > 1
    · rw [if_pos n1]
      show ∃ r, kev (ltR rk) (if decide (rk (gd (List.toArray (List.range N)) 0) < rk (gd (List.toArray (List.range N)) (n - 1))) = true then KasT.ret (n, List.toArray (List.range N)) else kas_descPart n N (kas_rev (List.toArray (List.range N)) 0 n)) = r ∧ _
      by_cases c : rk (gd (List.toArray (List.range N)) 0) < rk (gd (List.toArray (List.range N)) (n - 1))
      · rw [if_pos (decide_eq_true c)]
        exact ⟨_, rfl, G, a⟩
      · rw [if_neg (by simpa using c)]
        -- all of the run are alike
        have like : ∀ i, i < n → rk i = rk (n - 1) := fun i hi => by
          rw [self 0 (by lia), self (n - 1) (by lia)] at c
          have h0 : rk 0 ≤ rk i := by
            by_cases hi0 : i = 0
            · rw [hi0]; exact Int.le_refl _
            · have := G.srt 0 i (by lia) hi
              rw [self 0 (by lia), self i (by lia)] at this
              rcases this with q | ⟨q, _⟩ <;> lia
          have h1 : rk i ≤ rk (n - 1) := by
            by_cases hi0 : i = n - 1
            · rw [hi0]; exact Int.le_refl _
            · have := G.srt i (n - 1) (by lia) (by lia)
              rw [self i (by lia), self (n - 1) (by lia)] at this
              rcases this with q | ⟨q, _⟩ <;> lia
          lia
        have gi : ∀ k, k < n → gd (kas_rev (List.toArray (List.range N)) 0 n) k = n - 1 - k := fun k hk => by
          rw [gd_rev (by simp; lia), if_pos ⟨Nat.zero_le _, hk⟩, Nat.zero_add, self _ (by lia)]
        have gt : ∀ k, n ≤ k → k < N → gd (kas_rev (List.toArray (List.range N)) 0 n) k = k := fun k hk hkN => by
          rw [gd_rev (by simp; lia), if_neg (by lia), self _ hkN]
        refine descPart_good rk ⟨(mirror_size _ _ _ _).trans (by simp), by lia, fun i j hij hj => ?_, fun i hi => ?_, gt⟩ (by lia) (by lia) ?_
        · rw [gi i (by lia), gi j hj]
          refine .inr ⟨?_, by lia⟩
          rw [like _ (by lia), like (n - 1 - i) (by lia)]
        · rw [gi i hi]; lia
        · rw [gi (n - 1) (by lia), like (n - 1 - (n - 1)) (by lia)]
          rw [self (n - 1) (by lia)] at hst
          exact hst
    · rw [if_neg n1]
      have : n = 1 := by lia
      subst this
      exact descPart_good rk ⟨by simp, by lia, fun i j hij hj => absurd hij (by lia), fun i hi => by rw [self i (by lia)]; exact hi, fun k _ hk => self k hk⟩ (Nat.le_refl _) (by lia) hst
theorem sort_good {N : Nat} (hN : 1 ≤ N) : Good rk N (kev (ltR rk) (kas_sort N)) N := by
  obtain ⟨⟨n, p⟩, e, G, h1⟩ := count_good rk hN
  dsimp only at G h1
  unfold kas_sort
  rw [kev_bind, e]
  dsimp only
  by_cases h : n < N
  · rw [if_pos h, show max n 1 = n by lia]
    have := bin_good rk (N - n) p n G (by lia)
    rwa [show n + (N - n) = N by lia] at this
  · rw [if_neg h]
    have : n = N := by have := G.le; lia
    subst this
    exact G
end
end Mine
end
section
open PySem PySem.W PyProof.Rows PySem.Calls
set_option Elab.async false
set_option maxRecDepth 100000
set_option maxHeartbeats 8000000
namespace Mine
/-- all questions are of numbers below n, all ends are as R says -/
noncomputable def Asks {α : Type} (n : Nat) (R : α → Prop) : KasT α → Prop
  | .ret a => R a
  | .ask i j k => i < n ∧ j < n ∧ ∀ b, Asks n R (k b)
theorem asks_bind {α β : Type} {n : Nat} {R : α → Prop} {R' : β → Prop} {f : α → KasT β} (hf : ∀ a, R a → Asks n R' (f a)) : ∀ t : KasT α, Asks n R t → Asks n R' (t.bind f)
  | .ret a, h => hf a h
  | .ask _ _ k, h => ⟨h.1, h.2.1, fun b => asks_bind hf (k b) (h.2.2 b)⟩
/-- questions that are answered by lt and keep an invariant: the end is the plain one -/
theorem kas_by {α : Type} {n : Nat} {R : α → Prop} {cmp : Nat → Nat → (Bool → Shared → Prop) → Shared → Prop} {lt : Nat → Nat → Bool} {I : Shared → Prop} (hc : ∀ i j C s, i < n → j < n → I s → (∀ s', I s' → C (lt i j) s') → cmp i j C s) {Q : α → Shared → Prop} :
    ∀ (t : KasT α) (s : Shared), Asks n R t → I s → (∀ s', I s' → Q (kev lt t) s') → t.kasWp cmp Q s
  | .ret a, s, _, hs, hq => hq s hs
  | .ask i j k, s, ha, hs, hq => hc i j _ s ha.1 ha.2.1 hs fun s' hs' => kas_by hc (k (lt i j)) s' (ha.2.2 _) hs' hq
noncomputable def AllLt (n : Nat) (p : Array Nat) : Prop := ∀ k, gd p k < n
theorem allLt_perm {n : Nat} {p q : Array Nat} (h : AllLt n p) (h0 : 0 < n) (hp : q.Perm p) : AllLt n q := by
  intro k
  unfold gd
  rw [Array.getD_eq_getD_getElem?]
  cases e : q[k]? with
  | none => exact h0
  | some x =>
    have hx : x ∈ p := (hp.mem_iff).mp (Array.mem_of_getElem? e)
    obtain ⟨i, hi, rfl⟩ := Array.mem_iff_getElem.mp hx
    have := h i
    unfold gd at this
    rw [Array.getD_eq_getD_getElem?] at this
    simpa [hi] using this
section
variable {n : Nat} (h0 : 0 < n)
include h0
theorem asks_asc {p : Array Nat} (h : AllLt n p) : ∀ (f m : Nat), Asks n (fun _ => True) (kas_asc p f m)
  | 0, _ => trivial
  | f + 1, m => ⟨h m, h (m - 1), fun b => by
    cases b with
    | true => exact trivial
    | false => exact asks_asc h f (m + 1)⟩
theorem asks_desc : ∀ (f : Nat) {p : Array Nat} (_ : AllLt n p) (m q : Nat), Asks n (fun r => AllLt n r.1) (kas_desc f p m q)
  | 0, p, h, _, _ => h
  | f + 1, p, h, m, q => ⟨h m, h (m - 1), fun b => by
    cases b with
    | true =>
      show Asks n _ (if q > 0 then kas_desc f (kas_rev p (m - (q + 1)) m) (m + 1) 0 else kas_desc f p (m + 1) 0)
      split
      · exact asks_desc f (allLt_perm h h0 (mirror_perm _ _ _ _)) _ _
      · exact asks_desc f h _ _
    | false =>
      refine ⟨h (m - 1), h m, fun b => ?_⟩
      cases b with
      | true => exact h
      | false => exact asks_desc f h _ _⟩
theorem asks_tail3 {p : Array Nat} (h : AllLt n p) (m N : Nat) : Asks n (fun r => AllLt n r.2) (kas_tail3 m N p) := by
  unfold kas_tail3
  refine asks_bind (R := fun _ => True) (fun a _ => ?_) _ (asks_asc h0 (allLt_perm h h0 (mirror_perm _ _ _ _)) _ _)
  exact allLt_perm (q := kas_rev p 0 m) h h0 (mirror_perm _ _ _ _)
theorem asks_descPart {p : Array Nat} (h : AllLt n p) (m N : Nat) : Asks n (fun r => AllLt n r.2) (kas_descPart m N p) := by
  refine asks_bind (fun r hr => ?_) _ (asks_desc h0 _ h _ _)
  split
  · exact asks_tail3 h0 (allLt_perm hr h0 (mirror_perm _ _ _ _)) _ _
  · exact asks_tail3 h0 hr _ _
theorem asks_count {p : Array Nat} (h : AllLt n p) (N : Nat) : Asks n (fun r => AllLt n r.2) (kas_count N p) := by
  refine asks_bind (fun m _ => ?_) _ (asks_asc h0 h _ _)
  split
  · exact h
  · split
    · refine ⟨h 0, h _, fun b => ?_⟩
      cases b with
      | true => exact h
      | false => exact asks_descPart h0 (allLt_perm h h0 (mirror_perm _ _ _ _)) _ _
    · exact asks_descPart h0 h _ _
theorem asks_place {p : Array Nat} (h : AllLt n p) (k : Nat) : ∀ (f l r : Nat), Asks n (fun _ => True) (kas_place p k f l r)
  | 0, _, _ => trivial
  | f + 1, l, r => by
    unfold kas_place
    split
    · exact trivial
    · refine ⟨h k, h _, fun b => ?_⟩
      cases b with
      | true => exact asks_place h k f _ _
      | false => exact asks_place h k f _ _
theorem asks_bin : ∀ (f : Nat) {p : Array Nat} (_ : AllLt n p) (k : Nat), Asks n (AllLt n) (kas_bin f p k)
  | 0, _, h, _ => h
  | f + 1, p, h, k => asks_bind (fun l _ => asks_bin f (allLt_perm h h0 (bubble_perm _ _ _)) (k + 1)) _ (asks_place h0 h k _ _ _)
theorem asks_sort : Asks n (AllLt n) (kas_sort n) := by
  have hr : AllLt n (List.toArray (List.range n)) := fun k => by
    by_cases hk : k < n
    · rw [gd_range hk]; exact hk
    · unfold gd; simp [hk, h0]
  refine asks_bind (fun r hr => ?_) _ (asks_count h0 hr n)
  split
  · exact asks_bin h0 _ hr _
  · exact hr
end
end Mine
end
section
open PySem PySem.W PySem.W.X PyProof.Rows PySem.Calls PySem.Builtin PySem.SeqAt PySem.MeetsSeq PySem.MeetsSeq2 PySem.MeetsSeq3
set_option Elab.async false
set_option maxRecDepth 100000
set_option maxHeartbeats 8000000
namespace Mine
section
variable {w : World} {A : Around} {E : Value → Shared → Prop} {s : Shared}
theorem q_list_lt : typeLookup (.type "list") (Str.ofString "__lt__") = pure (some (.builtin "list.__lt__")) := by rw [typeLookup_type, builtinLookup_eq_fast]; kernel_rfl
theorem q_list_lt_bind (v : Value) : bindSpecial (.builtin "list.__lt__") v = pure (.builtin "list.__lt__", [v]) := by kernel_rfl
/-- the sort's question of two keys that are lists -/
theorem list_sort_lt {k k' : Addr} {x y : KD} {Q : Bool → Shared → Prop} (hx : KeyAt s.heap k x) (hy : KeyAt s.heap k' y) (hu : A.units + 1 < cLine) (q : Q (decide (x.rk < y.rk)) s) : wpAny (model prog w) A (keyLt' oneType' (.ref k) (.ref k')) Q E s := by
  obtain ⟨wx, vs, ex, lx⟩ := hx
  obtain ⟨wy, us, ey, ly⟩ := hy
  obtain ⟨⟨cls, dd, data, sl⟩, ho, hcl, n, hd⟩ := id lx
  obtain ⟨⟨cls2, dd2, data2, sl2⟩, ho2, hc2, n2, hd2⟩ := id ly
  simp only at hcl hd hc2 hd2
  subst hcl hd hc2 hd2
  rw [keyLt'_oneType, oneLt'_eq]
  simp only [if_true]
  refine wpAny_bind (wpAny_cRoomFor (by omega) ?_)
  simp only [callSpecialIfBound?, bindSpecialIfBound?]
  have fin : wpAny (model prog w) A (call (.builtin "list.__lt__") ([.ref k] ++ [.ref k']) >>= fun v => pure (some v)) (fun r s' => r = some (.bool (decide (x.rk < y.rk))) ∧ s' = s) E s := by
    refine wpAny_bind (call_meets F.slot_list_lt ⟨_, ho, rfl⟩ F.entry_list_lt (F.args_list_lt_2 _ _) (list_lt k k' vs.toArray us.toArray n n2 dd dd2 sl sl2 (fun j => vEqB (vs.getD j .none) (us.getD j .none)) (fun j => vLtB (vs.getD j .none) (us.getD j .none))) ⟨ho, ho2, fun j h1 h2 => ?_, fun j h1 h2 _ => ?_, ?_⟩)
    · have h1' : j < vs.length := by simpa using h1
      have h2' : j < us.length := by simpa using h2
      have := eq_kin (A := A.in1) (s := s) (kin_enc ex ey j h1' h2')
      simpa [h1', h2'] using this
    · have h1' : j < vs.length := by simpa using h1
      have h2' : j < us.length := by simpa using h2
      have := lt_kin (A := A.in1) (s := s) (kin_enc ex ey j h1' h2')
      simpa [h1', h2'] using this
    · have er := lt_rank ex ey wx wy
      simp only [List.size_toArray]
      rw [er]
      exact wpAny_pure ⟨rfl, rfl⟩
  refine wpAny_bind (wpAny_holding (wpAny_bind (wpAny_bind (wpAny_bind ?_))))
  refine Looks.here (r := .type "list") ((Looks.ld ho).andThen Looks.now) ?_
  refine wpAny_of_eq q_list_lt ?_
  refine wpAny_bind (wpAny_askSetting (wpAny_ite ?_))
  split
  · refine wpAny_bind (wpAny_of_eq (q_list_lt_bind _) (wpAny_pure (wpAny_mono fin (fun r s' z => ?_) fun _ _ e => e)))
    obtain ⟨rfl, rfl⟩ := z
    exact wpAny_truthy_bool q
  · refine wpAny_tryCatch (wpAny_bind (wpAny_of_eq (q_list_lt_bind _) (wpAny_pure (wpAny_mono fin (fun r s' z => ?_) fun _ _ e => e))))
    obtain ⟨rfl, rfl⟩ := z
    exact wpAny_truthy_bool q
end
end Mine
end
section
open PySem PySem.W PySem.W.X PyProof.Rows PySem.Calls PySem.Builtin
set_option Elab.async false
set_option maxRecDepth 100000
set_option maxHeartbeats 8000000
namespace Mine
noncomputable abbrev Kp (h h' : Heap) : Prop := ∀ b o, h.get? b = some o → h'.get? b = some o
/-- all but lists are kept -/
noncomputable abbrev KpN (h h' : Heap) : Prop := ∀ b o, h.get? b = some o → o.cls ≠ .type "list" → h'.get? b = some o
theorem kp_but {h h1 h2 : Heap} {a : Addr} (k : Kp h h1) (hs : Heap.SameBut a h1 h2) (h0 : h.get? a = none) : Kp h h2 :=
  fun b o e => (hs.2 b (fun q => by rw [q, h0] at e; cases e)).trans (k b o e)
theorem kpn_but {h1 h2 : Heap} {a : Addr} {o : Obj} (ho : h1.get? a = some o) (hc : o.cls = .type "list") (hs : Heap.SameBut a h1 h2) : KpN h1 h2 :=
  fun b x e hx => (hs.2 b (fun q => by rw [q, ho] at e; cases e; exact hx hc)).trans e
section
variable {w : World} {A : Around} {E : Value → Shared → Prop} {g : Array GenState} {d : Drawn} {os : OsState} {h h1 : Heap} {tk : Tok} {vs : List Value} {P : Heap → Nat → Value → Prop} {rk : Nat → Int} {a kS : Addr} {e1 : Nat} {f : Value} {R : PySem.Fin → Shared → Prop}
theorem ks_end {kA : Array Value} {e : Nat} {T : Value} (k1 : Kp h h1) (na : h.get? a = none) (nk : h.get? kS = none) (hka : kS ≠ a) (oa : h1.get? a = some (seqObj "list" #[] e1)) (ok : h1.get? kS = some (seqObj "list" kA e)) (hz : kA.size = vs.length) (pk : ∀ i k, kA[i]? = some k → P h1 i k)
    (h2 : 2 ≤ vs.length) (h64 : vs.length < 64) (hP : ∀ g1 g2 i v, KpN g1 g2 → P g1 i v → P g2 i v) (hT : ∀ g1 i v, P g1 i v → Kp h g1 → Looks (model prog w) g1 (typeOf v) T) (hT1 : (T != Value.type "tuple") = true) (hT2 : (T == T) = true)
    (ask : ∀ i j x y g1 tk C, i < vs.length → j < vs.length → Kp h g1 → P g1 i x → P g1 j y → (∀ g2 tk2, Kp g1 g2 → C (decide (rk i < rk j)) ⟨g2, g, d, tk2, os⟩) → wpAny (model prog w) A (keyLt' oneType' x y) C (fun _ _ => False) ⟨g1, g, d, tk, os⟩)
    (k : ∀ h' tk' c, Kp h h' → h'.get? a = some (seqObj "list" ((kev (ltR rk) (kas_sort vs.length)).map fun i => vs.getD i .none) c) → R (.done (.ret .none)) ⟨h', g, d, tk', os⟩) :
    wpAny (model prog w) A (ksk_end a false vs.toArray e1 (.ref kS) kA) R E ⟨h1, g, d, tk, os⟩ := by
  have hzs : (kA.zip vs.toArray).size = vs.length := by rw [Array.size_zip, hz, List.size_toArray, Nat.min_self]
  have item : ∀ i (hi : i < vs.length), kas_item (kA.zip vs.toArray) i = (kA[i]'(by lia), vs[i]) := by
    intro i hi
    unfold kas_item
    have h' : i < (kA.zip vs.toArray).size := by lia
    rw [Array.getD_eq_getD_getElem?, Array.getElem?_eq_getElem h']
    simp
  unfold ksk_end
  try dsimp only
  simp only [Bool.false_eq_true, if_false]
  have hn2 : ¬ vs.toArray.size < 2 := by rw [List.size_toArray]; lia
  rw [if_neg hn2, if_neg hn2]
  have ekA : kA = kA.toList.toArray := by simp
  refine wpAny_bind ?_
  have kind : wpAny (model prog w) A (keyKind' kA.toList.toArray) (fun κ s' => κ = oneType' ∧ s' = ⟨h1, g, d, tk, os⟩) E ⟨h1, g, d, tk, os⟩ :=
    kas_kind (T := T) (by rw [Array.length_toList]; lia) (fun v hv => by
      obtain ⟨i, hi, rfl⟩ := List.mem_iff_getElem.mp hv
      exact hT h1 i _ (pk i _ (by rw [Array.length_toList] at hi; simp [hi])) k1) hT1 hT2 ⟨rfl, rfl⟩
  rw [← ekA] at kind
  refine wpAny_mono kind (fun κ s' z => ?_) fun _ _ e => e
  obtain ⟨rfl, rfl⟩ := z
  have est : SortSt.mk' oneType' (kA.zip vs.toArray) #[] 7 none = kas_st oneType' (kA.zip vs.toArray) (List.toArray (List.range vs.length)) := by
    have e := kas_range (kA.zip vs.toArray)
    rw [hzs] at e
    show _ = SortSt.mk' oneType' ((List.toArray (List.range vs.length)).map (kas_item (kA.zip vs.toArray))) #[] 7 none
    rw [e]
  rw [est]
  let I : Shared → Prop := fun s' => ∃ g1 tk1, s' = ⟨g1, g, d, tk1, os⟩ ∧ Kp h1 g1
  have kpn : ∀ {g1 g2 : Heap}, Kp g1 g2 → KpN g1 g2 := fun q b o e _ => q b o e
  have run := kas_runs (prog := prog) (w := w) (A := A) (κ := oneType') (it := kA.zip vs.toArray) (s := ⟨h1, g, d, tk, os⟩) (E := E) (Q := fun _ st' s' => arrOf st' = (kev (ltR rk) (kas_sort vs.length)).map (kas_item (kA.zip vs.toArray)) ∧ failedOf st' = none ∧ I s') (G := fun p s' => p = kev (ltR rk) (kas_sort vs.length) ∧ I s')
    h2 h64 (fun p' st' s' a1 a2 a3 a4 => by obtain ⟨rfl, hi⟩ := a4; exact ⟨a2, a3, hi⟩)
    (kas_by (n := vs.length) (lt := ltR rk) (I := I) (fun i j C s' hi hj hI hC => by
      obtain ⟨g1, tk1, rfl, kg⟩ := hI
      unfold kas_cmp
      rw [item i hi, item j hj]
      refine ask i j _ _ g1 tk1 C hi hj (fun b o e => kg _ _ (k1 _ _ e)) (hP _ _ _ _ (kpn kg) (pk i _ (by simp))) (hP _ _ _ _ (kpn kg) (pk j _ (by simp))) fun g2 tk2 kk => ?_
      exact hC _ ⟨g2, tk2, rfl, fun b o e => kk _ _ (kg _ _ e)⟩) (kas_sort vs.length) _ (asks_sort (by lia)) ⟨h1, tk, rfl, fun _ _ e => e⟩ fun s' hs' => ⟨rfl, hs'⟩)
  refine wpAny_bind (wpAny_mono run (fun r s' z => ?_) fun _ _ e => e)
  obtain ⟨r, st⟩ := r
  obtain ⟨ha, hf, g1, tk1, rfl, kg⟩ := z
  dsimp only at ha hf ⊢
  have G := sort_good rk (N := vs.length) (by lia)
  have esort : (arrOf st).map (·.2) = (kev (ltR rk) (kas_sort vs.length)).map fun i => vs.getD i .none := by
    rw [ha, Array.map_map]
    refine Array.ext (by simp) fun i hi1 hi2 => ?_
    have hi : i < (kev (ltR rk) (kas_sort vs.length)).size := by simpa using hi1
    have hb : (kev (ltR rk) (kas_sort vs.length))[i] < vs.length := by
      have := G.bd i (by rw [← G.size]; exact hi)
      unfold gd at this
      rw [Array.getD_eq_getD_getElem?] at this
      simpa [hi] using this
    simp [item _ hb, hb]
  have ok1 := kg _ _ ok
  have oa1 := kg _ _ oa
  have s1 := Heap.SameBut.update g1 kS (Obj.mapSeq fun _ => (#[] : Array Value))
  have oa2 : (g1.update kS (Obj.mapSeq fun _ => (#[] : Array Value))).get? a = some (seqObj "list" #[] e1) := (s1.2 a hka.symm).trans oa1
  have s2 := Heap.SameBut.update (g1.update kS (Obj.mapSeq fun _ => (#[] : Array Value))) a (Obj.mapSeq fun _ => (arrOf st).map (·.2))
  have hout : ((arrOf st).map (·.2)).size = vs.length := by rw [esort, Array.size_map, G.size]
  unfold ksk_tail
  try dsimp only
  refine wpAny_bind (listUpdate_at ok1 rfl ?_ (by rw [hz, sizeLine_eq]; lia) (Nat.zero_le _))
  refine wpAny_bind (wpAny_letGo ?_)
  refine wpAny_bind (seqEpoch_at oa2 rfl ?_)
  simp only [Bool.false_eq_true, if_false]
  refine wpAny_bind (listUpdate_at oa2 rfl ?_ (Nat.zero_le _) (Nat.le_trans (Nat.le_of_eq hout) (by rw [sizeLine_eq]; lia)))
  rw [hf]
  simp only [bne_self_eq_false, Bool.false_eq_true, if_false]
  have fin := get?_update_seq oa2 fun _ => (arrOf st).map (·.2)
  refine wpAny_pure (k _ _ _ (kp_but (kp_but (fun b o e => kg _ _ (k1 _ _ e)) s1 nk) s2 na) (by rw [← esort]; exact fin))
theorem ks_rest {T : Value} (k1 : Kp h h1) (na : h.get? a = none) (nk : h.get? kS = none) (hka : kS ≠ a) (oa : h1.get? a = some (seqObj "list" #[] e1)) (ok : h1.get? kS = some (seqObj "list" #[] 0))
    (h2 : 2 ≤ vs.length) (h64 : vs.length < 64) (hP : ∀ g1 g2 i v, KpN g1 g2 → P g1 i v → P g2 i v) (hT : ∀ g1 i v, P g1 i v → Kp h g1 → Looks (model prog w) g1 (typeOf v) T) (hT1 : (T != Value.type "tuple") = true) (hT2 : (T == T) = true)
    (turn : ∀ i v, vs[i]? = some v → ∀ g1 tk Q', Kp h g1 → (∀ g2 tk2 k, Kp g1 g2 → P g2 i k → Q' k ⟨g2, g, d, tk2, os⟩) → wpAny (model prog w) A (call f [v]) Q' (fun _ _ => False) ⟨g1, g, d, tk, os⟩)
    (ask : ∀ i j x y g1 tk C, i < vs.length → j < vs.length → Kp h g1 → P g1 i x → P g1 j y → (∀ g2 tk2, Kp g1 g2 → C (decide (rk i < rk j)) ⟨g2, g, d, tk2, os⟩) → wpAny (model prog w) A (keyLt' oneType' x y) C (fun _ _ => False) ⟨g1, g, d, tk, os⟩)
    (k : ∀ h' tk' c, Kp h h' → h'.get? a = some (seqObj "list" ((kev (ltR rk) (kas_sort vs.length)).map fun i => vs.getD i .none) c) → R (.done (.ret .none)) ⟨h', g, d, tk', os⟩) :
    wpAny (model prog w) A (ksk_rest a f false vs.toArray e1 (.ref kS)) R E ⟨h1, g, d, tk, os⟩ := by
  unfold ksk_rest
  refine wpAny_bind (wpAny_rule ?_)
  first
    | rw [List.forIn_toArray]
    | (rw [← Array.forIn_toList]; simp only [List.toList_toArray])
    | rw [← Array.forIn_toList]
  refine wpAny_bind (ksk_fold (fun i s' => ∃ h' tk kA e, s' = ⟨h', g, d, tk, os⟩ ∧ Kp h h' ∧ h'.get? kS = some (seqObj "list" kA e) ∧ h'.get? a = some (seqObj "list" #[] e1) ∧ kA.size = i ∧ ∀ j v, kA[j]? = some v → P h' j v) vs 0 _
    ⟨h1, tk, #[], 0, rfl, k1, ok, oa, rfl, fun j v e => by simp at e⟩ ?step ?done)
  case step =>
    rintro j x s' hx ⟨h', tk, kA, e, rfl, kh, ok', oa', hz, pk⟩
    simp only [Nat.zero_add] at hz ⊢
    have hj : j < vs.length := (List.getElem?_eq_some_iff.mp hx).1
    refine wpAny_bind (wpAny_attempt (wpAny_mono (turn j x hx h' tk (fun kv s'' => ∃ g2 tk2, s'' = ⟨g2, g, d, tk2, os⟩ ∧ Kp h' g2 ∧ P g2 j kv) kh fun g2 tk2 kv kk pv => ⟨g2, tk2, rfl, kk, pv⟩) (fun v s'' he => ?_) fun _ _ hF => hF.elim))
    obtain ⟨g2, tk2, rfl, kk, pv⟩ := he
    try dsimp only
    have ok2 := kk _ _ ok'
    have s1 := Heap.SameBut.update g2 kS (Obj.mapSeq (·.push v))
    have kn : KpN g2 (g2.update kS (Obj.mapSeq (·.push v))) := kpn_but ok2 rfl s1
    refine wpAny_bind (listUpdate_at ok2 rfl ?_ (by rw [sizeLine_eq]; lia) (Nat.le_trans (Nat.le_of_eq (Array.size_push ..)) (by rw [sizeLine_eq]; lia)))
    refine wpAny_pure ⟨rfl, _, _, kA.push v, _, rfl, kp_but (fun b o q => kk _ _ (kh _ _ q)) s1 nk, get?_update_seq ok2 (·.push v), (s1.2 a hka.symm).trans (kk _ _ oa'), by rw [Array.size_push, hz], fun i u hu => ?_⟩
    rw [Array.getElem?_push] at hu
    split at hu
    · rename_i e
      cases hu
      rw [e, hz]
      exact hP _ _ _ _ kn pv
    · exact hP _ _ _ _ kn (hP _ _ _ _ (fun b o q _ => kk _ _ q) (pk i u hu))
  case done =>
    rintro s' ⟨h', tk, kA, e, rfl, kh, ok', oa', hz, pk⟩
    try dsimp only
    refine wpAny_bind (listItems_at ok' rfl ?_)
    exact ks_end kh na nk hka oa' ok' (by simpa using hz) pk h2 h64 hP hT hT1 hT2 ask k
theorem ks_sort {T : Value} {n : Nat} (oa : h1.get? a = some (seqObj "list" vs.toArray n)) (k1 : Kp h h1) (na : h.get? a = none)
    (h2 : 2 ≤ vs.length) (h64 : vs.length < 64) (hP : ∀ g1 g2 i v, KpN g1 g2 → P g1 i v → P g2 i v) (hT : ∀ g1 i v, P g1 i v → Kp h g1 → Looks (model prog w) g1 (typeOf v) T) (hT1 : (T != Value.type "tuple") = true) (hT2 : (T == T) = true)
    (turn : ∀ i v, vs[i]? = some v → ∀ g1 tk Q', Kp h g1 → (∀ g2 tk2 k, Kp g1 g2 → P g2 i k → Q' k ⟨g2, g, d, tk2, os⟩) → wpAny (model prog w) A (call f [v]) Q' (fun _ _ => False) ⟨g1, g, d, tk, os⟩)
    (ask : ∀ i j x y g1 tk C, i < vs.length → j < vs.length → Kp h g1 → P g1 i x → P g1 j y → (∀ g2 tk2, Kp g1 g2 → C (decide (rk i < rk j)) ⟨g2, g, d, tk2, os⟩) → wpAny (model prog w) A (keyLt' oneType' x y) C (fun _ _ => False) ⟨g1, g, d, tk, os⟩)
    (k : ∀ h' tk' c, Kp h h' → h'.get? a = some (seqObj "list" ((kev (ltR rk) (kas_sort vs.length)).map fun i => vs.getD i .none) c) → R (.done (.ret .none)) ⟨h', g, d, tk', os⟩) :
    wpAny (model prog w) A (ksk_tree a f false) R E ⟨h1, g, d, tk, os⟩ := by
  have ha : a < h1.objs.size := Heap.lt_size oa
  have s1 := Heap.SameBut.update h1 a (Obj.mapSeq fun _ => (#[] : Array Value))
  obtain ⟨e1, ho1⟩ : ∃ e1, (h1.update a (Obj.mapSeq fun _ => (#[] : Array Value))).get? a = some (seqObj "list" #[] e1) := ⟨_, get?_update_seq oa fun _ => #[]⟩
  have hkS : ((h1.update a (Obj.mapSeq fun _ => (#[] : Array Value))).push (seqObj "tuple" vs.toArray 0)).objs.size = h1.objs.size + 1 := by rw [size_push', Heap.size_update]
  unfold ksk_tree
  refine wpAny_bind (listItems_at oa rfl ?_)
  refine wpAny_bind (listUpdate_at oa rfl ?_ (by rw [List.size_toArray, sizeLine_eq]; lia) (Nat.zero_le _))
  refine wpAny_bind (seqEpoch_at ho1 rfl ?_)
  refine wpAny_bind (wpAny_newTuple ?_ (by show vs.length ≤ _; rw [sizeLine_eq]; lia))
  refine wpAny_bind (wpAny_newList ?_ (Nat.zero_le _))
  refine wpAny_holding ?_
  have kn : h.get? ((h1.update a (Obj.mapSeq fun _ => (#[] : Array Value))).push (seqObj "tuple" vs.toArray 0)).objs.size = none := by
    cases q : h.get? ((h1.update a (Obj.mapSeq fun _ => (#[] : Array Value))).push (seqObj "tuple" vs.toArray 0)).objs.size with
    | none => rfl
    | some o =>
      have := Heap.lt_size (k1 _ _ q)
      rw [hkS] at this
      exact absurd this (Nat.not_lt_of_le (Nat.le_succ _))
  refine ks_rest (h := h) (h1 := ((h1.update a (Obj.mapSeq fun _ => (#[] : Array Value))).push (seqObj "tuple" vs.toArray 0)).push (seqObj "list" #[] 0)) (kS := ((h1.update a (Obj.mapSeq fun _ => (#[] : Array Value))).push (seqObj "tuple" vs.toArray 0)).objs.size)
    (fun b o q => Heap.get?_push_of_some _ (Heap.get?_push_of_some _ (kp_but k1 s1 na b o q))) na kn (by rw [hkS]; exact Nat.ne_of_gt (Nat.lt_succ_of_lt ha)) (Heap.get?_push_of_some _ (Heap.get?_push_of_some _ ho1)) (Heap.get?_push_size _ rfl) h2 h64 hP hT hT1 hT2 turn ask k
end
section
variable {w : World} {A : Around} {E : Value → Shared → Prop} {g : Array GenState} {d : Drawn} {os : OsState} {h : Heap} {tk : Tok} {vs : List Value} {P : Heap → Nat → Value → Prop} {rk : Nat → Int} {f : Value} {Q : Value → Shared → Prop} {l : Addr}
/-- sorted(l, key=f) of a list whose keys answer the sort's questions by ranks -/
theorem sorted_key {T : Value} (hl : h.IsList l vs.toArray) (ht : ∀ x, Builtin.«list.sort» ⟨[.ref x], [(Str.ofString "key", f)]⟩ = ksk_tree x f false)
    (h2 : 2 ≤ vs.length) (h64 : vs.length < 64) (hP : ∀ g1 g2 i v, KpN g1 g2 → P g1 i v → P g2 i v) (hT : ∀ g1 i v, P g1 i v → Kp h g1 → Looks (model prog w) g1 (typeOf v) T) (hT1 : (T != Value.type "tuple") = true) (hT2 : (T == T) = true)
    (turn : ∀ i v, vs[i]? = some v → ∀ g1 tk Q', Kp h g1 → (∀ g2 tk2 k, Kp g1 g2 → P g2 i k → Q' k ⟨g2, g, d, tk2, os⟩) → wpAny (model prog w) A.in1.in1 (call f [v]) Q' (fun _ _ => False) ⟨g1, g, d, tk, os⟩)
    (ask : ∀ i j x y g1 tk C, i < vs.length → j < vs.length → Kp h g1 → P g1 i x → P g1 j y → (∀ g2 tk2, Kp g1 g2 → C (decide (rk i < rk j)) ⟨g2, g, d, tk2, os⟩) → wpAny (model prog w) A.in1.in1 (keyLt' oneType' x y) C (fun _ _ => False) ⟨g1, g, d, tk, os⟩)
    (k : ∀ D h' tk', Kp h h' → h.get? D = none → h'.IsList D ((kev (ltR rk) (kas_sort vs.length)).map fun i => vs.getD i .none) → Q (.ref D) ⟨h', g, d, tk', os⟩) :
    wpAny (model prog w) A (call (.builtin "sorted") [.ref l] [(Str.ofString "key", f)]) Q E ⟨h, g, d, tk, os⟩ := by
  refine call_function_entry_kw kind_sorted plain_sorted entry_sorted (ksk_s1 _ _) ?_
  unfold Builtin.«sorted»
  refine wpAny_bind (m := checkCount "sorted" 1 1 _) (wpAny_pure ?_)
  refine wpAny_bind (collect_list (s := ⟨h, g, d, tk, os⟩) hl ?_ (by rw [sizeLine_eq]; lia))
  refine wpAny_bind (wpAny_newList ?_ (by rw [sizeLine_eq]; lia))
  dsimp only
  have hsz : ((h.push (seqObj "list" #[] 0)).update h.objs.size (Obj.mapSeq (· ++ vs.toArray))).objs.size = h.objs.size + 1 := by
    rw [Heap.size_update, size_push']
  have hoL : (((h.push (seqObj "list" #[] 0)).update h.objs.size (Obj.mapSeq (· ++ vs.toArray))).push (seqObj "list" vs.toArray 0)).get? (h.objs.size + 1) = some (seqObj "list" vs.toArray 0) := by
    rw [← hsz]; exact Heap.get?_push_size _ rfl
  have keep : Kp h (((h.push (seqObj "list" #[] 0)).update h.objs.size (Obj.mapSeq (· ++ vs.toArray))).push (seqObj "list" vs.toArray 0)) := fun b o q => by
    have hlt : b < h.objs.size := Heap.lt_size q
    rw [Heap.get?_push_ne _ _ _ (by rw [hsz]; exact Nat.ne_of_lt (Nat.lt_succ_of_lt hlt)), Heap.get?_update_ne _ _ _ _ (Nat.ne_of_lt hlt), Heap.get?_push_ne _ _ _ (Nat.ne_of_lt hlt)]
    exact q
  have hn : h.get? (h.objs.size + 1) = none := Heap.get?_none_of_le (Nat.le_succ _)
  show wpAny _ _ _ _ _ (⟨((h.push (seqObj "list" #[] 0)).update h.objs.size (Obj.mapSeq (· ++ vs.toArray))).push (seqObj "list" vs.toArray 0), g, d, tk, os⟩ : Shared)
  rw [hsz]
  refine wpAny_bind (wpAny_holding (wpAny_call_entry_kw (s := (⟨((h.push (seqObj "list" #[] 0)).update h.objs.size (Obj.mapSeq (· ++ vs.toArray))).push (seqObj "list" vs.toArray 0), g, d, tk, os⟩ : Shared)) slot_list_sort ⟨_, hoL, rfl⟩ entry_list_sort ?body (ksk_l1 _ _)))
  case body =>
    show wpAny (model prog w) A.in1.in1 (Builtin.«list.sort» ⟨[.ref (h.objs.size + 1)], [(Str.ofString "key", f)]⟩) _ _ _
    rw [ht]
    refine ks_sort (h := h) hoL keep hn h2 h64 hP hT hT1 hT2 turn ask fun h' tk' c kk oD => ⟨_, rfl, ?_⟩
    exact wpAny_pure ⟨_, rfl, k _ h' tk' kk hn ⟨_, oD, rfl, _, rfl⟩⟩
end
end Mine
end
section
open PySem PySem.W PySem.W.X PyProof.Rows PySem.Calls PySem.Builtin
set_option Elab.async false
set_option maxRecDepth 100000
set_option maxHeartbeats 8000000
namespace Mine
/-- all but lists and their iterators are kept -/
noncomputable abbrev KpM (h h' : Heap) : Prop := ∀ b o, h.get? b = some o → o.cls ≠ .type "list" → o.cls ≠ .type "list_iterator" → h'.get? b = some o
theorem kp_it {h h1 h2 : Heap} {I : Addr} (k : Kp h h1) (hk : ∀ b o, b ∉ [I] → h1.get? b = some o → h2.get? b = some o) (h0 : h.get? I = none) : Kp h h2 :=
  fun b o e => hk b o (fun q => by rw [List.mem_singleton.mp q, h0] at e; cases e) (k b o e)
section
variable {w : World} {A : Around} {E : Value → Shared → Prop} {g : Array GenState} {d : Drawn} {os : OsState} {h : Heap} {vs : List Value} {P : Heap → Nat → Value → Prop} {rk : Nat → Int} {q : Addr} {R : Result → Shared → Prop} {Q : Value → Shared → Prop} {l I S : Addr}
theorem mx_loop (hh : A.handled = none) (hl : h.IsList l vs.toArray) (nI : h.get? I = none) (nS : h.get? S = none) (hSI : S ≠ I) (hP : ∀ g1 g2 i v, KpM g1 g2 → P g1 i v → P g2 i v)
    (turn : ∀ i v, vs[i]? = some v → ∀ g1 tk Q', Kp h g1 → (∀ g2 tk2 k, Kp g1 g2 → P g2 i k → Q' k ⟨g2, g, d, tk2, os⟩) → wpAny (model prog w) A.in1 (call (.ref q) [v]) Q' (fun _ _ => False) ⟨g1, g, d, tk, os⟩)
    (ask : ∀ i j x y g1 tk C, i < vs.length → j < vs.length → Kp h g1 → P g1 i x → P g1 j y → (∀ g2 tk2, Kp g1 g2 → C (.bool (decide (rk j < rk i))) ⟨g2, g, d, tk2, os⟩) → wpAny (model prog w) A.in1 (richCompare .Gt x y) C (fun _ _ => False) ⟨g1, g, d, tk, os⟩)
    (hR : ∀ i v h' tk', vs[i]? = some v → (∀ j, j < vs.length → rk j ≤ rk i ∧ (j < i → rk j < rk i)) → Kp h h' → R (.ok (.ret v)) ⟨h', g, d, tk', os⟩) :
    ∀ (r j i : Nat) (h1 : Heap) (tk : Nat) (vb kb : Value) (c : Nat), vs.length - (j + 1) = r → j + 1 ≤ vs.length → Kp h h1 → h1.get? S = some (seqObj "list" #[vb, kb] c) → P h1 i kb → h1.IsListIter I l (j + 1) → vs[i]? = some vb → i ≤ j →
      (∀ j', j' ≤ j → rk j' ≤ rk i ∧ (j' < i → rk j' < rk i)) → codeAny (model prog w) A (.builtin "max.loop" ⟨[.ref I, .ref q, .ref S], []⟩) R ⟨h1, g, d, tk, os⟩ := by
  have hname : (toString "max" ++ toString ".loop" : String) = "max.loop" := by decide
  have hlI : l ≠ I := fun e => by
    obtain ⟨o, ho, _⟩ := hl
    rw [e, nI] at ho; cases ho
  have W := Walks.list (prog := prog) (w := w) (A := A.in1) hh I l hlI vs.toArray
  have hsz : vs.toArray.size = vs.length := List.size_toArray ..
  intro r
  induction r with
  | zero =>
    intro j i h1 tk vb kb c hr hj k1 oS pk hit hvb hij hbest
    have hin : j + 1 = vs.length := by lia
    refine codeAny_builtin PySem.F.entry_max_loop ?_
    rw [Around.under_plainId PySem.F.plain_max_loop _]
    show wpAny _ A.in1 (seqItems? (.ref S) >>= _) _ _ _
    refine wpAny_bind (wpAny_seqItems oS rfl ?_)
    show wpAny _ A.in1 (tryCatch (pyNext (.ref I)) _ >>= _) _ _ _
    refine wpAny_bind (wpAny_tryCatch (W.done _ _ _ ⟨by rw [hsz, ← hin]; exact hit, list_keeps hl k1⟩ fun h' tk' hk' => ?_))
    have kI := kp_it k1 hk' nI
    have hS' := hk' S _ (by simpa using hSI) oS
    have s1 := Heap.SameBut.update h' S (Obj.mapSeq fun _ => (#[] : Array Value))
    show wpAny _ A.in1 (updateSeq S (fun _ => #[]) >>= _) _ _ _
    refine wpAny_bind ?_
    refine wpAny_updateSeq hS' rfl (wpAny_bind (wpAny_letGo (wpAny_pure ?_)))
    exact hR i vb _ _ hvb (fun j' hj' => hbest j' (by lia)) (kp_but kI s1 nS)
  | succ r ih =>
    intro j i h1 tk vb kb c hr hj k1 oS pk hit hvb hij hbest
    have hlt : j + 1 < vs.length := by lia
    refine codeAny_builtin PySem.F.entry_max_loop ?_
    rw [Around.under_plainId PySem.F.plain_max_loop _]
    show wpAny _ A.in1 (seqItems? (.ref S) >>= _) _ _ _
    refine wpAny_bind (wpAny_seqItems oS rfl ?_)
    show wpAny _ A.in1 (tryCatch (pyNext (.ref I)) _ >>= _) _ _ _
    refine wpAny_bind (wpAny_tryCatch (W.item (j + 1) _ _ _ (by rw [hsz]; exact hlt) ⟨hit, list_keeps hl k1⟩ fun v h' tk' hv' hst' hk' => ?_))
    have hv : vs[j + 1]? = some v := by simpa using hv'
    obtain ⟨oI0, hoI0, hoc0, hod0⟩ := id hit
    obtain ⟨oI', hoI', hoc, hod⟩ := id hst'.1
    have kI := kp_it k1 hk' nI
    have oS1 := hk' S _ (by simpa using hSI) oS
    have pk1 : P h' i kb := hP _ _ _ _ (fun b o e _ hb => hk' b o (fun q => by rw [List.mem_singleton.mp q, hoI0] at e; cases e; exact hb hoc0) e) pk
    show wpAny _ A.in1 (tryCatch (holding [v] (call (.ref q) [v])) _ >>= _) _ _ _
    refine wpAny_bind (wpAny_tryCatch (wpAny_holding (wpAny_mono (turn (j + 1) v hv h' tk' (fun kv s'' => ∃ g2 tk2, s'' = ⟨g2, g, d, tk2, os⟩ ∧ Kp h' g2 ∧ P g2 (j + 1) kv) kI fun g2 tk2 kv kk pv => ⟨g2, tk2, rfl, kk, pv⟩) (fun kv s'' he => ?_) fun _ _ hF => hF.elim)))
    obtain ⟨h2, tk2, rfl, k2, pv⟩ := he
    have pk2 : P h2 i kb := hP _ _ _ _ (fun b o e _ _ => k2 b o e) pk1
    have kI2 : Kp h h2 := fun b o e => k2 _ _ (kI _ _ e)
    show wpAny _ A.in1 (tryCatch (holding [v, kv] (richCompare .Gt kv kb >>= _)) _ >>= _) _ _ _
    refine wpAny_bind (wpAny_tryCatch (wpAny_holding (wpAny_bind (wpAny_mono (ask (j + 1) i kv kb h2 tk2 (fun b s'' => ∃ g3 tk3, s'' = ⟨g3, g, d, tk3, os⟩ ∧ Kp h2 g3 ∧ b = .bool (decide (rk i < rk (j + 1)))) hlt (by lia) kI2 pv pk2 fun g3 tk3 kk => ⟨g3, tk3, rfl, kk, rfl⟩) (fun b s'' he => ?_) fun _ _ hF => hF.elim))))
    obtain ⟨h3, tk3, rfl, k3, rfl⟩ := he
    have kI3 : Kp h h3 := fun b o e => k3 _ _ (kI2 _ _ e)
    have oS3 := k3 _ _ (k2 _ _ oS1)
    have hit3 : h3.IsListIter I l (j + 1 + 1) := ⟨oI', k3 _ _ (k2 _ _ hoI'), hoc, hod⟩
    refine wpAny_bind (wpAny_holding (wpAny_truthy_bool ?_))
    refine wpAny_bind (wpAny_letGo (wpAny_pure ?_))
    by_cases hb' : rk i < rk (j + 1)
    ·
      have s1 := Heap.SameBut.update h3 S (Obj.mapSeq fun _ => #[v, kv])
      simp only [hb', decide_true, if_true]
      refine wpAny_bind ?_
      refine wpAny_updateSeq oS3 rfl (wpAny_bind (wpAny_letGo ?_))
      rw [hname]
      refine wpAny_pure ⟨plainId_quiet PySem.F.plain_max_loop _, ih (j + 1) (j + 1) _ _ v kv _ (by lia) hlt (kp_but kI3 s1 nS) (get?_update_seq oS3 fun _ => #[v, kv]) (hP _ _ _ _ (fun b o e hb _ => kpn_but oS3 rfl s1 b o e hb) (hP _ _ _ _ (fun b o e _ _ => k3 b o e) pv)) ⟨oI', (s1.2 I hSI.symm).trans (k3 _ _ (k2 _ _ hoI')), hoc, hod⟩ hv (Nat.le_refl _) fun j' hj' => ?_⟩
      by_cases e : j' = j + 1
      · subst e
        exact ⟨by lia, fun _ => by lia⟩
      · have hb1 := hbest j' (by lia)
        have hb2 := hb1.1
        exact ⟨by lia, fun _ => by lia⟩
    ·
      simp only [hb', decide_false, Bool.false_eq_true, if_false]
      refine wpAny_bind (wpAny_letGo ?_)
      rw [hname]
      refine wpAny_pure ⟨plainId_quiet PySem.F.plain_max_loop _, ih (j + 1) i _ _ vb kb c (by lia) hlt kI3 oS3 (hP _ _ _ _ (fun b o e _ _ => k3 b o e) pk2) hit3 hvb (by lia) fun j' hj' => ?_⟩
      by_cases e : j' = j + 1
      · subst e
        exact ⟨by lia, fun _ => by lia⟩
      · exact hbest j' (by lia)
end
section
variable {w : World} {A : Around} {E : Value → Shared → Prop} {g : Array GenState} {d : Drawn} {os : OsState} {h : Heap} {tk : Tok} {vs : List Value} {P : Heap → Nat → Value → Prop} {rk : Nat → Int} {q : Addr} {Q : Value → Shared → Prop} {l : Addr}
/-- max(l, key=f): the first of the greatest rank -/
theorem max_key (hh : A.handled = none) (hl : h.IsList l vs.toArray) (hne : 0 < vs.length) (hP : ∀ g1 g2 i v, KpM g1 g2 → P g1 i v → P g2 i v)
    (turn : ∀ i v, vs[i]? = some v → ∀ g1 tk Q', Kp h g1 → (∀ g2 tk2 k, Kp g1 g2 → P g2 i k → Q' k ⟨g2, g, d, tk2, os⟩) → wpAny (model prog w) A.in1 (call (.ref q) [v]) Q' (fun _ _ => False) ⟨g1, g, d, tk, os⟩)
    (ask : ∀ i j x y g1 tk C, i < vs.length → j < vs.length → Kp h g1 → P g1 i x → P g1 j y → (∀ g2 tk2, Kp g1 g2 → C (.bool (decide (rk j < rk i))) ⟨g2, g, d, tk2, os⟩) → wpAny (model prog w) A.in1 (richCompare .Gt x y) C (fun _ _ => False) ⟨g1, g, d, tk, os⟩)
    (hQ : ∀ i v h' tk', vs[i]? = some v → (∀ j, j < vs.length → rk j ≤ rk i ∧ (j < i → rk j < rk i)) → Kp h h' → Q v ⟨h', g, d, tk', os⟩) :
    wpAny (model prog w) A (call (.builtin "max") [.ref l] [(Str.ofString "key", .ref q)]) Q E ⟨h, g, d, tk, os⟩ := by
  have hname : (toString "max" ++ toString ".loop" : String) = "max.loop" := by decide
  obtain ⟨ol, hol, _⟩ := id hl
  have hll : l < h.objs.size := Heap.lt_size hol
  refine kmk_tree PySem.F.kind_max PySem.F.plain_max PySem.F.entry_max (kmk_max_key _ _) ?_
  show wpAny _ A.in1 (Builtin.Builtins.bindParams "max" ["key", "default"] 0 ⟨[], [(Str.ofString "key", .ref q)]⟩ >>= _) _ _ _
  refine wpAny_bind (wpAny_of_eq (show Builtin.Builtins.bindParams "max" ["key", "default"] 0 ⟨[], [(Str.ofString "key", .ref q)]⟩ = pure [some (.ref q), none] from rfl) ?_)
  refine wpAny_bind (wpAny_pure ?_)
  refine wpAny_bind (wpAny_pyIter_list (s := ⟨h, g, d, tk, os⟩) hl ?_)
  refine wpAny_bind (wpAny_newList ?_ (Nat.zero_le _))
  rw [hname]
  dsimp only
  have hS : (h.push { cls := .type "list_iterator", data := .fields #[.ref l, .int 0 0] }).objs.size = h.objs.size + 1 := size_push' ..
  have hSI : (h.push { cls := .type "list_iterator", data := .fields #[.ref l, .int 0 0] }).objs.size ≠ h.objs.size := by rw [hS]; exact Nat.ne_of_gt (Nat.lt_succ_self _)
  refine wpAny_pure ⟨plainId_quiet PySem.F.plain_max_loop _, ?_⟩
  have kH : Kp h ((h.push { cls := .type "list_iterator", data := .fields #[.ref l, .int 0 0] }).push (seqObj "list" #[] 0)) := fun b x e => Heap.get?_push_of_some _ (Heap.get?_push_of_some _ e)
  have gI : ((h.push { cls := .type "list_iterator", data := .fields #[.ref l, .int 0 0] }).push (seqObj "list" #[] 0)).get? h.objs.size = some { cls := .type "list_iterator", data := .fields #[.ref l, .int 0 0] } :=
    Heap.get?_push_of_some _ (Heap.get?_push_size _ rfl)
  have gS : ((h.push { cls := .type "list_iterator", data := .fields #[.ref l, .int 0 0] }).push (seqObj "list" #[] 0)).get? (h.push { cls := .type "list_iterator", data := .fields #[.ref l, .int 0 0] }).objs.size = some (seqObj "list" #[] 0) := Heap.get?_push_size _ rfl
  have nI : h.get? h.objs.size = none := Heap.get?_none_of_le (Nat.le_refl _)
  have nS : h.get? (h.push { cls := .type "list_iterator", data := .fields #[.ref l, .int 0 0] }).objs.size = none := Heap.get?_none_of_le (by rw [hS]; exact Nat.le_succ _)
  generalize hSd : (h.push { cls := .type "list_iterator", data := .fields #[.ref l, .int 0 0] }).objs.size = S at *
  generalize hHd : (h.push { cls := .type "list_iterator", data := .fields #[.ref l, .int 0 0] }).push (seqObj "list" #[] 0) = H at *
  have W := Walks.list (prog := prog) (w := w) (A := A.in1) hh h.objs.size l (Nat.ne_of_lt hll) vs.toArray
  have hsz : vs.toArray.size = vs.length := List.size_toArray ..
  refine codeAny_builtin PySem.F.entry_max_loop ?_
  rw [Around.under_plainId PySem.F.plain_max_loop _]
  show wpAny _ A.in1 (seqItems? (.ref _) >>= _) _ _ (⟨H, g, d, tk, os⟩ : Shared)
  refine wpAny_bind (wpAny_seqItems gS rfl ?_)
  show wpAny _ A.in1 (tryCatch (pyNext (.ref h.objs.size)) _ >>= _) _ _ _
  refine wpAny_bind (wpAny_tryCatch (W.item 0 _ _ _ (by rw [hsz]; exact hne) ⟨⟨_, gI, rfl, rfl⟩, list_keeps hl kH⟩ fun v h' tk' hv' hst' hk' => ?_))
  have hv : vs[0]? = some v := by simpa using hv'
  obtain ⟨oI', hoI', hoc, hod⟩ := id hst'.1
  have kI := kp_it kH hk' nI
  have oS1 := hk' S _ (by simpa using hSI) gS
  show wpAny _ A.in1 (tryCatch (holding [v] (call (.ref q) [v])) _ >>= _) _ _ _
  refine wpAny_bind (wpAny_tryCatch (wpAny_holding (wpAny_mono (turn 0 v hv h' tk' (fun kv s'' => ∃ g2 tk2, s'' = ⟨g2, g, d, tk2, os⟩ ∧ Kp h' g2 ∧ P g2 0 kv) kI fun g2 tk2 kv kk pv => ⟨g2, tk2, rfl, kk, pv⟩) (fun kv s'' he => ?_) fun _ _ hF => hF.elim)))
  obtain ⟨h2, tk2, rfl, k2, pv⟩ := he
  have oS2 := k2 _ _ oS1
  have s1 := Heap.SameBut.update h2 S (Obj.mapSeq fun _ => #[v, kv])
  show wpAny _ A.in1 (updateSeq S (fun _ => #[v, kv]) >>= _) _ _ _
  refine wpAny_bind ?_
  refine wpAny_updateSeq oS2 rfl ?_
  rw [hname]
  refine wpAny_pure ⟨plainId_quiet PySem.F.plain_max_loop _, mx_loop hh hl nI nS hSI hP turn ask hQ _ 0 0 _ _ v kv _ rfl hne (kp_but (fun b o e => k2 _ _ (kI _ _ e)) s1 nS) (get?_update_seq oS2 fun _ => #[v, kv]) (hP _ _ _ _ (fun b o e hb _ => kpn_but oS2 rfl s1 b o e hb) pv) ⟨oI', (s1.2 _ hSI.symm).trans (k2 _ _ hoI'), hoc, hod⟩ hv (Nat.le_refl _) fun j' hj' => ?_⟩
  have e : j' = 0 := by lia
  subst e
  exact ⟨by lia, fun h => absurd h (Nat.lt_irrefl _)⟩
end
end Mine
end
section
open PySem PySem.W PySem.W.X PyProof.Rows PySem.Calls PySem.Builtin
set_option Elab.async false
set_option maxRecDepth 100000
set_option maxHeartbeats 8000000
namespace Mine
section
variable {w : World} {A : Around} {E Q : Value → Shared → Prop} {h : Heap} {g : Array GenState} {d : Drawn} {tk : Tok} {os : OsState} {l it : Addr} {items : Array Value}
theorem iter_list (hl : h.IsList l items) (q : ∀ h', h'.IsListIter h.objs.size l 0 → (∀ b o, h.get? b = some o → h'.get? b = some o) → Q (.ref h.objs.size) ⟨h', g, d, tk, os⟩) :
    wpAny (model prog w) A (call (.builtin "iter") [.ref l]) Q E ⟨h, g, d, tk, os⟩ := by
  refine call_function_entry (by decide +kernel) (by decide +kernel) kdk_entry_iter (kdk_args_iter _) ?_
  unfold Builtin.«iter»
  refine wpAny_bind (m := someArgs "iter" 1 2 _) (wpAny_of_eq (a := [Value.ref l]) (by first | rfl | kernel_rfl!) ?_)
  show wpAny _ _ (pyIter (.ref l) >>= _) _ _ _
  refine wpAny_bind (wpAny_pyIter_list (s := ⟨h, g, d, tk, os⟩) hl ?_)
  exact wpAny_pure ⟨_, rfl, q _ ⟨_, Heap.get?_push_size _ rfl, rfl, rfl⟩ fun _ _ e => Heap.get?_push_of_some _ e⟩
theorem next_list {x : Value} {i : Nat} (hit : h.IsListIter it l i) (hl : h.IsList l items) (hx : items[i]? = some x) (q : ∀ h', h'.IsListIter it l (i + 1) → Heap.SameBut it h h' → Q x ⟨h', g, d, tk, os⟩) :
    wpAny (model prog w) A (call (.builtin "next") [.ref it]) Q E ⟨h, g, d, tk, os⟩ := by
  obtain ⟨o, ho, hc, hd⟩ := id hit
  obtain ⟨ol, hol, _, nl, hdl⟩ := hl
  refine call_function_entry (by decide +kernel) (by decide +kernel) kdk_entry_next (kdk_args_next _) ?_
  unfold Builtin.«next»
  refine wpAny_bind (m := someArgs "next" 1 2 _) (wpAny_of_eq (a := [Value.ref it]) (by first | rfl | kernel_rfl!) ?_)
  dsimp only
  refine wpAny_bind (wpAny_specialOf (name := Str.ofString "__next__") (s := ⟨h, g, d, tk, os⟩) hit.typeIs slot_listiter_next.lookup ?_)
  refine wpAny_ite_split (fun hab => absurd hab (by decide)) (fun _ => ?_)
  refine wpAny_bind (wpAny_callSpecial?_slot (name := Str.ofString "__next__") (s := ⟨h, g, d, tk, os⟩) hit.typeIs slot_listiter_next
    (wpAny_call_entry slot_listiter_next hit.typeIs entry_listiter_next ?_ (args_listiter_next _)))
  show wpAny _ _ (field (.ref it) 0 >>= _) _ _ _
  refine wpAny_bind (wpAny_field (s := ⟨h, g, d, tk, os⟩) ho hd (x := .ref l) rfl ?_)
  show wpAny _ _ (if (Value.ref l == Value.none) = true then _ else _) _ _ _
  rw [if_neg (show ¬ ((Value.ref l == Value.none) = true) from Bool.false_ne_true)]
  show wpAny _ _ (field (.ref it) 1 >>= _) _ _ _
  refine wpAny_bind (wpAny_field (s := ⟨h, g, d, tk, os⟩) ho hd (x := .int i 0) rfl ?_)
  show wpAny _ _ (seqItems? (.ref l) >>= _) _ _ _
  refine wpAny_bind (wpAny_seqItems (s := ⟨h, g, d, tk, os⟩) hol hdl ?_)
  simp only [Int.toNat_natCast, hx]
  refine wpAny_bind (wpAny_setField (s := ⟨h, g, d, tk, os⟩) ho hd (by simp) (wpAny_pure ⟨x, rfl, wpAny_pure ⟨_, rfl, q _ ?_ (Heap.SameBut.update ..)⟩⟩))
  exact ⟨_, Heap.get?_update_self _ ho (Obj.isFreed_of_fields (Obj.data_mapFields hd _)), (Obj.cls_mapFields ..).trans hc, by
    rw [Obj.data_mapFields hd]; simp [rawInt]⟩
end
noncomputable def redS : Stmt := prog.main.body.getD 8 (.Pass default)
noncomputable abbrev redFd (doc pm ct : Value) : FuncData := fnX (Str.ofString "reduce") (Str.ofString "reduce") (paramsOf redS) (bodyOf redS) (scopeOf redS) [] (.ref 67) .none doc pm none (.ref 73) ct
noncomputable abbrev envR (L : Addr) : Env := envX (Str.ofString "reduce") (scopeOf redS) L 74 (.ref 73) []
section
variable {w : World} {A : Around} {E Q : Value → Shared → Prop} {h₀ h : Heap} {g : Array GenState} {d : Drawn} {tk : Tok} {os : OsState} {l f : Addr} {vs : List Value} {p : Program} {loose : List Str} {mean : ExcName → Option Value} {mg mb : Str → Option Value} {I : Nat → Value → Prop}
/-- reduce(f, l): a fold from the left -/
theorem reduce_call (hd : A.depth + 1 < recursionLimit) (hh : A.handled = none) (T : Top p loose mean mg mb h₀) (S : Kp h₀ h) {oc oc2 : Value} {od od2 : Option Addr} {doc pm ct : Value} {osl osl2 : Array (Option Value)} {n2 : Nat} (ho : h.get? 74 = some ⟨oc, od, .func (redFd doc pm ct), osl⟩) (h67 : h.get? 67 = some ⟨oc2, od2, .seq #[.ref 66] n2, osl2⟩)
    (hcd : h.CodeRec (.ref 73) (Str.ofString "reduce")) (hmi : mg (Str.ofString "iter") = none) (hmn : mg (Str.ofString "next") = none) (hmm : mg (Str.ofString "_initial_missing") = some (.ref 66))
    (hl : h.IsList l vs.toArray) (hne : 0 < vs.length) (hfn : FnAt f h)
    (I0 : ∀ v, vs[0]? = some v → I 1 v)
    (step : ∀ (A' : Around) j v acc g1 tk Q', A'.depth ≤ A.depth + 1 ∧ A'.units ≤ A.units + 3 → A'.handled = none → vs[j]? = some v → I j acc → Kp h g1 → (∀ g2 tk2 acc', Kp g1 g2 → I (j + 1) acc' → Q' acc' ⟨g2, g, d, tk2, os⟩) → wpAny (model prog w) A' (call (.ref f) [acc, v]) Q' (fun _ _ => False) ⟨g1, g, d, tk, os⟩)
    (hQ : ∀ acc h' tk', I vs.length acc → Kp h h' → Q acc ⟨h', g, d, tk', os⟩) :
    wpAny (model prog w) A (call (.ref 74) [.ref f, .ref l]) Q E ⟨h, g, d, tk, os⟩ := by
  refine wpAny_call (codeAny_call_def (s := ⟨h, g, d, tk, os⟩) (fd := redFd doc pm ct) (binds := [(Str.ofString "function", .ref f), (Str.ofString "sequence", .ref l), (Str.ofString "initial", .ref 66)]) (Nat.lt_of_succ_lt hd) ho rfl (T.nolimit.keeps S) hcd rfl (BindsTo.of_defaults rfl h67 rfl rfl rfl) (show ∀ x ∈ (scopeOf redS).names, x.2 ≠ .cell by decide +kernel) (locs (by kernel_rfl)) ?_)
  intro h1 hns k1
  dsimp only at hns k1 ⊢
  show wpAny _ (A.deeper (envR h.objs.size)) (execs (bodyOf redS) (envR h.objs.size)) _ _ _
  have nL : h.get? h.objs.size = none := Heap.get?_none_of_le (Nat.le_refl _)
  generalize h.objs.size = L at hns nL ⊢
  have bi : ∀ {x : Str} {v : Value} {gg : Heap} {QQ EE : Value → Shared → Prop} {tk' : Tok} {pos : Pos}, Kp h gg → mg x = none → (envR L).kindOf x = some .globalImplicit → x ≠ "__name__" → bootBuiltins x = some v → (x == ("__debug__" : Str)) = false → QQ v ⟨gg, g, d, tk', os⟩ → wpAny (model prog w) (A.deeper (envR L)) (eval (.Name x pos) (envR L)) QQ EE ⟨gg, g, d, tk', os⟩ := by
    intro x v gg QQ EE tk' pos kg hx hk hn hb hdb hq
    have kk : Kp h₀ gg := fun b o e => kg _ _ (S _ _ e)
    exact Name_function_global rfl hk (loadGlobal_builtin (T.g.keeps kk) hx (T.b.keeps kk) ((T.builtins x hn).trans hb) hq) hdb
  have hfn1 : ∀ gg, Kp h gg → FnAt f gg := fun gg kg => by
    obtain ⟨a1, a2, a3, a4, e⟩ := hfn
    exact ⟨a1, a2, a3, a4, kg _ _ e⟩
  -- it = iter(sequence)
  refine wpAny_execs_cons ?_
  refine wpAny_Assign_Name (x := Str.ofString "it") ?_
  refine any_Call ?_
  refine bi (v := .builtin "iter") k1 hmi (by kernel_rfl) (by decide +kernel) (by kernel_rfl) (by decide +kernel) ?_
  refine PyProof.Rows.callWith_builtin1 ?_
  refine spliced_cons (wpAny_Name (wpAny_loadName_local rfl (by kernel_rfl) hns (v := .ref l) (by kernel_rfl) ?_) (by decide +kernel))
  refine spliced_nil ?_
  refine iter_list (list_keeps hl k1) fun h2 hit2 k2 => ?_
  have nIt : h1.get? h1.objs.size = none := Heap.get?_none_of_le (Nat.le_refl _)
  have LIt : L ≠ h1.objs.size := fun q => by
    obtain ⟨o, _, _, e, _⟩ := hns
    rw [q, nIt] at e; cases e
  have lIt : l ≠ h1.objs.size := fun q => by
    obtain ⟨o, e, _⟩ := list_keeps hl k1
    rw [q, nIt] at e; cases e
  have nIt0 : h.get? h1.objs.size = none := by
    cases q : h.get? h1.objs.size with
    | none => rfl
    | some o => have := k1 _ _ q; rw [nIt] at this; cases this
  generalize h1.objs.size = It at *
  refine wpAny_storeName_local (by kernel_rfl) (hns.keeps k2) (fun h3 hn3 hs3 => ?_) rfl
  have k3 : Kp h h3 := kp_but (fun b o e => k2 _ _ (k1 _ _ e)) hs3 nL
  have hit3 : h3.IsListIter It l 0 := hit2.at fun o e => (hs3.2 It LIt.symm).trans e
  -- if initial is _initial_missing
  refine wpAny_execs_cons ?_
  refine wpAny_If ?_
  refine wpAny_isTrue_Compare1 ?_
  refine wpAny_Name (wpAny_loadName_local rfl (by kernel_rfl) hn3 (v := .ref 66) (by kernel_rfl) ?_) (by decide +kernel)
  refine Name_function_global rfl (by kernel_rfl) (loadGlobal_global (T.g.keeps fun b o e => k3 _ _ (S _ _ e)) hmm ?_) (by decide +kernel)
  refine wpAny_is_ref_self ?_
  refine wpAny_truthy_bool ?_
  simp only [if_true]
  -- try: value = next(it)
  refine wpAny_execs_cons ?_
  refine wpAny_Try_except ?_
  refine wpAny_execs_cons ?_
  refine wpAny_Assign_Name (x := Str.ofString "value") ?_
  refine any_Call ?_
  refine bi (v := .builtin "next") k3 hmn (by kernel_rfl) (by decide +kernel) (by kernel_rfl) (by decide +kernel) ?_
  refine PyProof.Rows.callWith_builtin1 ?_
  refine spliced_cons (wpAny_Name (wpAny_loadName_local rfl (by kernel_rfl) hn3 (v := .ref It) (by kernel_rfl) ?_) (by decide +kernel))
  refine spliced_nil ?_
  have hv0 : vs.toArray[0]? = some (vs[0]'hne) := by simp [hne]
  refine next_list hit3 (list_keeps hl k3) hv0 fun h4 hit4 hs4 => ?_
  have k4 : Kp h h4 := kp_but k3 hs4 nIt0
  refine wpAny_storeName_local (by kernel_rfl) (hn3.sameBut hs4 LIt) (fun h5 hn5 hs5 => ?_) rfl
  have k5 : Kp h h5 := kp_but k4 hs5 nL
  have hit5 : h5.IsListIter It l 1 := hit4.at fun o e => (hs5.2 It LIt.symm).trans e
  refine wpAny_execs_nil ?_
  refine wpAny_execs_nil ?_
  refine wpAny_execs_nil ?_
  -- for element in it
  refine wpAny_execs_cons ?_
  refine wpAny_For ?_
  refine wpAny_Name (wpAny_loadName_local rfl (by kernel_rfl) hn5 (v := .ref It) (by kernel_rfl) ?_) (by decide +kernel)
  refine wpAny_pyIter_listiter hit5 ?_
  have W := Walks.list (prog := prog) (w := w) (A := A.deeper (envR L)) hh It l lIt vs.toArray
  have hsz : vs.toArray.size = vs.length := List.size_toArray ..
  have a1 := I0 _ (List.getElem?_eq_getElem hne)
  refine codeAny_forLoop (fun n s' => ∃ h' tk' j m' acc, s' = ⟨h', g, d, tk', os⟩ ∧ n = vs.length + 1 - j ∧ 1 ≤ j ∧ j ≤ vs.length ∧ Kp h h' ∧ h'.Ns L m' ∧ m' (Str.ofString "function") = some (.ref f) ∧ m' (Str.ofString "value") = some acc ∧ h'.IsListIter It l j ∧ I j acc) ?_ vs.length
    ⟨h5, _, 1, _, vs[0]'hne, rfl, by lia, Nat.le_refl _, hne, k5, hn5, by kernel_rfl, by kernel_rfl, hit5, a1⟩
  rintro n s' ⟨h', tk', j, m', acc, rfl, rfl, hj1, hj, kh, hn, hmf, hmv, hit, hI⟩
  have hl' := list_keeps hl kh
  by_cases hlt : j < vs.length
  · refine wpAny_mono (W.item j _ (fun r s₁ => ∃ v h2 tk2, r = some v ∧ s₁ = ⟨h2, g, d, tk2, os⟩ ∧ vs[j]? = some v ∧ h2.IsListIter It l (j + 1) ∧ h2.Ns L m' ∧ Kp h h2) (fun _ _ => False) (by rw [hsz]; exact hlt) ⟨hit, hl'⟩ fun v h2 tk2 hv hst hk => ⟨v, h2, tk2, rfl, rfl, by simpa using hv, hst.1, hn.at' fun o e => hk L o (by simpa using LIt) e, fun b o e => hk b o (by
      intro q; rw [List.mem_singleton.mp q] at e; rw [nIt0] at e; cases e) (kh b o e)⟩) (fun r s₁ hr => ?_) fun _ _ f => f.elim
    obtain ⟨v, h2, tk2, rfl, rfl, hv, hit2, hn2, k2⟩ := hr
    refine wpAny_assign_Name (wpAny_storeName_local (by kernel_rfl) hn2 (fun h3 hn3 hs3 => ?_) rfl)
    have k3 : Kp h h3 := kp_but k2 hs3 nL
    have hit3 : h3.IsListIter It l (j + 1) := hit2.at fun o e => (hs3.2 It LIt.symm).trans e
    refine wpAny_execs_cons ?_
    refine wpAny_Assign_Name (x := Str.ofString "value") ?_
    refine any_Call ?_
    refine wpAny_Name (wpAny_loadName_local rfl (by kernel_rfl) hn3 (v := .ref f) (by rw [if_neg (by decide +kernel)]; exact hmf) ?_) (by decide +kernel)
    refine callWith_F (hfn1 _ k3) ?_
    refine spliced_cons (wpAny_Name (wpAny_loadName_local rfl (by kernel_rfl) hn3 (v := acc) (by rw [if_neg (by decide +kernel)]; exact hmv) ?_) (by decide +kernel))
    refine spliced_cons (wpAny_Name (wpAny_loadName_local rfl (by kernel_rfl) hn3 (v := v) (by rw [if_pos rfl]) ?_) (by decide +kernel))
    refine spliced_nil ⟨hfn1 _ k3, ?_⟩
    refine wpAny_mono (step (A.deeper (envR L)) j v acc h3 _ (fun a s' => ∃ g2 tk2, s' = ⟨g2, g, d, tk2, os⟩ ∧ Kp h3 g2 ∧ I (j + 1) a) ⟨Nat.le_refl _, Nat.le_refl _⟩ hh hv hI k3 fun g2 tk2 a ka hIa => ⟨g2, tk2, rfl, ka, hIa⟩) (fun a s' z => ?_) fun _ _ f => f.elim
    obtain ⟨g2, tk3, rfl, ka, hIa⟩ := z
    have hn4 := hn3.keeps ka
    refine wpAny_storeName_local (by kernel_rfl) hn4 (fun h6 hn6 hs6 => ?_) rfl
    refine wpAny_execs_nil ?_
    refine ⟨vs.length + 1 - (j + 1), by lia, h6, _, j + 1, _, a, rfl, rfl, by lia, hlt, kp_but (fun b o e => ka _ _ (k3 _ _ e)) hs6 nL, hn6, ?_, by rw [if_pos rfl], (hit3.at fun o e => ka _ _ e).at fun o e => (hs6.2 It LIt.symm).trans e, hIa⟩
    rw [if_neg (by decide +kernel), if_neg (by decide +kernel)]; exact hmf
  · obtain rfl : j = vs.length := by lia
    refine W.done _ _ _ ⟨by rw [hsz]; exact hit, hl'⟩ fun h2 tk2 hk => ?_
    refine wpAny_execs_nil ?_
    refine wpAny_execs_cons ?_
    refine wpAny_Return_some ?_
    refine wpAny_Name (wpAny_loadName_local rfl (by kernel_rfl) (hn.at' fun o e => hk L o (by simpa using LIt) e) hmv ?_) (by decide +kernel)
    exact hQ acc h2 _ hI fun b o e => hk b o (by intro q; rw [List.mem_singleton.mp q, nIt0] at e; cases e) (kh b o e)
end
end Mine
end
section
open PySem PySem.W PyProof.Rows
set_option Elab.async false
set_option compiler.extract_closed false
set_option maxRecDepth 100000
set_option maxHeartbeats 8000000
namespace Mine
noncomputable def EndB (s : Shared) (B b : Bool) (s' : Shared) : Prop := ∃ tk, b = B ∧ s' = { s with toks := tk }
noncomputable def EndS (s : Shared) (X : Str) (v : Value) (s' : Shared) : Prop := ∃ t tk, v = .str X t ∧ s' = { s with toks := tk }
theorem endB_i {s : Shared} {b : Bool} {tk : Nat} : EndB s b b { s with toks := tk } := ⟨tk, rfl, rfl⟩
theorem endS_i {s : Shared} {X : Str} {t : Tok} {tk : Nat} : EndS s X (.str X t) { s with toks := tk } := ⟨t, tk, rfl, rfl⟩
theorem ifexp_str {M : Model} {A : Around} {E : Value → Shared → Prop} {s : Shared} {test body orelse : Expr} {env : Env} {pos : Pos} {B : Bool} {X Y : Str} {Q : Value → Shared → Prop}
    (ht : wpAny M A (isTrue test env (eval test env)) (fun b s' => EndB s B b s') E s)
    (hx : ∀ tk, wpAny M A (eval body env) (fun v s' => EndS s X v s') E { s with toks := tk })
    (hy : ∀ tk, wpAny M A (eval orelse env) (fun v s' => EndS s Y v s') E { s with toks := tk })
    (h : ∀ t tk, Q (.str (if B = true then X else Y) t) { s with toks := tk }) : wpAny M A (eval (.IfExp test body orelse pos) env) Q E s := by
  show wpAny M A (isTrue test env (eval test env) >>= fun b => if b = true then eval body env else eval orelse env) Q E s
  refine wpAny_bind (wpAny_mono ht (fun b s' hb => ?_) fun _ _ e => e)
  obtain ⟨tk, rfl, rfl⟩ := hb
  cases b with
  | true => exact wpAny_mono (hx tk) (fun v s' hv => by obtain ⟨t, tk', rfl, rfl⟩ := hv; exact h t tk') fun _ _ e => e
  | false => exact wpAny_mono (hy tk) (fun v s' hv => by obtain ⟨t, tk', rfl, rfl⟩ := hv; exact h t tk') fun _ _ e => e
/-- as above, where the arms may make objects: what they made is dropped -/
noncomputable def EndSH (h₀ : Heap) (L : Addr) (m : Str → Option Value) (n : List (Addr × Obj)) (s : Shared) (X : Str) (v : Value) (s' : Shared) : Prop :=
  ∃ t tk h', v = .str X t ∧ s' = { s with heap := h', toks := tk } ∧ Fr h₀ L h' m ∧ News h₀ L h' n
theorem endSH_i {h₀ : Heap} {L : Addr} {m : Str → Option Value} {n : List (Addr × Obj)} {s : Shared} {X : Str} {t : Tok} {tk : Nat} {h' : Heap} (F : Fr h₀ L h' m) (N : News h₀ L h' n) :
    EndSH h₀ L m n s X (.str X t) { s with heap := h', toks := tk } := ⟨t, tk, h', rfl, rfl, F, N⟩
theorem ifexp_strH {M : Model} {A : Around} {E : Value → Shared → Prop} {s : Shared} {test body orelse : Expr} {env : Env} {pos : Pos} {B : Bool} {X Y : Str} {Q : Value → Shared → Prop}
    {h₀ : Heap} {L : Addr} {m : Str → Option Value} {n : List (Addr × Obj)} (_ : Fr h₀ L s.heap m) (_ : News h₀ L s.heap n)
    (ht : wpAny M A (isTrue test env (eval test env)) (fun b s' => EndB s B b s') E s)
    (hx : ∀ tk, wpAny M A (eval body env) (fun v s' => EndSH h₀ L m n s X v s') E { s with toks := tk })
    (hy : ∀ tk, wpAny M A (eval orelse env) (fun v s' => EndSH h₀ L m n s Y v s') E { s with toks := tk })
    (h : ∀ t tk h', Fr h₀ L h' m → News h₀ L h' n → Q (.str (if B = true then X else Y) t) { s with heap := h', toks := tk }) : wpAny M A (eval (.IfExp test body orelse pos) env) Q E s := by
  show wpAny M A (isTrue test env (eval test env) >>= fun b => if b = true then eval body env else eval orelse env) Q E s
  refine wpAny_bind (wpAny_mono ht (fun b s' hb => ?_) fun _ _ e => e)
  obtain ⟨tk, rfl, rfl⟩ := hb
  cases b with
  | true => exact wpAny_mono (hx tk) (fun v s' hv => by obtain ⟨t, tk', h', rfl, rfl, F, N⟩ := hv; exact h t tk' h' F N) fun _ _ e => e
  | false => exact wpAny_mono (hy tk) (fun v s' hv => by obtain ⟨t, tk', h', rfl, rfl, F, N⟩ := hv; exact h t tk' h' F N) fun _ _ e => e
theorem len_getD (l : List Str) (k n : Nat) (h : ∀ x ∈ l, x.length ≤ n) : (l.getD k Str.empty).length ≤ n := by
  rw [List.getD_eq_getElem?_getD]
  cases hk : l[k]? with
  | none => exact Nat.zero_le _
  | some x => exact h x (List.mem_of_getElem? hk)
noncomputable abbrev tabF : List Str := [Str.ofString "", Str.ofString "x"]
noncomputable abbrev tabP : List Str := [Str.ofString "a", Str.ofString "b"]
noncomputable abbrev tabD : List Str := [Str.ofString "", Str.ofString "00", Str.ofString " ", Str.ofString "+"]
noncomputable abbrev tabC : List Str := [Str.ofString "227", Str.ofString "220"]
theorem len_g2 (k : Nat) : (tabF.getD k Str.empty).length ≤ 1 := len_getD _ _ _ (by decide +kernel)
theorem len_g2b (k : Nat) : (tabP.getD k Str.empty).length ≤ 1 := len_getD _ _ _ (by decide +kernel)
theorem len_g4 (k : Nat) : (tabD.getD k Str.empty).length ≤ 2 := len_getD _ _ _ (by decide +kernel)
theorem len_gc (k : Nat) : (tabC.getD k Str.empty).length ≤ 3 := len_getD _ _ _ (by decide +kernel)
theorem len_port100 : ∀ n : Nat, n < 100 → (Str.ofString (toString ((n : Nat) : Int))).length ≤ 2 := by decide +kernel
theorem port_nat (x : Int) : ∃ n : Nat, n < 100 ∧ (x.fdiv 9).fmod 100 = (n : Int) := by
  have h1 := Int.fmod_nonneg_of_pos (x.fdiv 9) (b := 100) (by decide)
  have h2 := Int.fmod_lt_of_pos (x.fdiv 9) (b := 100) (by decide)
  exact ⟨((x.fdiv 9).fmod 100).toNat, by omega, by omega⟩
theorem len_port (x : Int) : (Str.ofString (toString ((x.fdiv 9).fmod 100))).length ≤ 2 := by
  obtain ⟨n, hn, e⟩ := port_nat x
  rw [e]; exact len_port100 n hn
theorem mark_nat (x : Int) : ∃ n : Nat, n < 3 ∧ (x.fdiv 900).fmod 3 = (n : Int) := by
  have h1 := Int.fmod_nonneg_of_pos (x.fdiv 900) (b := 3) (by decide)
  have h2 := Int.fmod_lt_of_pos (x.fdiv 900) (b := 3) (by decide)
  exact ⟨((x.fdiv 900).fmod 3).toNat, by omega, by omega⟩
theorem len_mark3 : ∀ n : Nat, n < 3 → (Txt.item (Str.ofString "|!:") ((n : Nat) : Int)).length ≤ 1 := by decide +kernel
theorem len_mark (x : Int) : (Txt.item (Str.ofString "|!:") ((x.fdiv 900).fmod 3)).length ≤ 1 := by
  obtain ⟨n, hn, e⟩ := mark_nat x
  rw [e]; exact len_mark3 n hn
theorem len_ite {b : Bool} {X Y : Str} {n : Nat} (h1 : X.length ≤ n) (h2 : Y.length ≤ n) : (if b = true then X else Y).length ≤ n := by split <;> assumption
theorem len_app {X Y : Str} {a b n : Nat} (h1 : X.length ≤ a) (h2 : Y.length ≤ b) (h : a + b ≤ n) : (X ++ Y).length ≤ n := by rw [Str.length_append]; omega
theorem len_lit {X : Str} {n : Nat} (h : (Nat.ble X.length n) = true) : X.length ≤ n := Nat.le_of_ble_eq_true h
theorem len_rep100 : ∀ n : Nat, n < 100 → (Txt.replace (Str.ofString (toString ((n : Nat) : Int))) (Str.ofString "2") (Str.ofString "3")).length ≤ 2 := by decide +kernel
theorem len_rep (x : Int) : (Txt.replace (Str.ofString (toString ((x.fdiv 9).fmod 100))) (Str.ofString "2") (Str.ofString "3")).length ≤ 2 := by
  obtain ⟨n, hn, e⟩ := port_nat x
  rw [e]; exact len_rep100 n hn
theorem size_of {X Y : Str} (h1 : X.length ≤ 1000) (h2 : Y.length ≤ 1000) : X.length + Y.length ≤ sizeLine := by rw [sizeLine_eq]; omega
theorem le_1000 {X : Str} {n : Nat} (h : X.length ≤ n) (hn : Nat.ble n 1000 = true) : X.length ≤ 1000 := Nat.le_trans h (Nat.le_of_ble_eq_true hn)
theorem len_app' {X Y : Str} {a b : Nat} (h1 : X.length ≤ a) (h2 : Y.length ≤ b) : (X ++ Y).length ≤ a + b := by rw [Str.length_append]; omega
theorem len_ite' {b : Bool} {X Y : Str} {m n : Nat} (h1 : X.length ≤ m) (h2 : Y.length ≤ n) : (if b = true then X else Y).length ≤ m + n := by split <;> omega

-- the texts, as plain functions of the script's number
noncomputable def markS (x : Int) : Str := Txt.item (Str.ofString "|!:") ((x.fdiv 900).fmod 3)
noncomputable def fieldS (x : Int) : Str := tabF.getD ((x.fdiv 900).fmod 2).toNat Str.empty
noncomputable def peerS (x : Int) : Str := tabP.getD ((x.fdiv 900).fmod 2).toNat Str.empty
noncomputable def dressS (x : Int) : Str := tabD.getD ((x.fdiv 900).fmod 4).toNat Str.empty
noncomputable def codeS (x : Int) : Str := tabC.getD ((x.fdiv 900).fmod 2).toNat Str.empty
theorem len_codeS (x : Int) : (codeS x).length ≤ 3 := len_gc _
noncomputable def portS (x : Int) : Str := Str.ofString (toString ((x.fdiv 9).fmod 100))
noncomputable def textS (x : Int) : Str := dressS x ++ portS x ++ (if (x.fmod 9 == 5) = true then Str.ofString "x" else Str.ofString "")
noncomputable def innerS (x : Int) : Str := markS x ++ fieldS x ++ markS x ++ fieldS x ++ markS x ++ textS x ++ markS x ++
  (if (x.fmod 9 == 7) = true then Str.ofString "#" else if (x.fmod 9 == 8) = true then fieldS x ++ markS x else Str.ofString "")
noncomputable def replyS (x : Int) : Str := if (x.fmod 9 != 6) = true then
    (if (x.fmod 9 == 3) = true then codeS x else Str.ofString "229") ++ Str.ofString " Entering (" ++ innerS x ++ (if (x.fmod 9 == 4) = true then Str.ofString "." else Str.ofString ").")
  else Str.ofString "229x2" ++ Txt.replace (portS x) (Str.ofString "2") (Str.ofString "3") ++ Str.ofString "2)"
/-- the key that the law expects of `x`, as the items of a list -/
noncomputable def KeyVals (x : Int) (kv : List Value) : Prop :=
  (x.fmod 9 < 3 ∧ ∃ t0 t1 t2, kv = [.int 0 t0, .str (peerS x) t1, .int ((x.fdiv 9).fmod 100) t2]) ∨
  (x.fmod 9 = 3 ∧ ∃ t, kv = [.int 1 t]) ∨ (x.fmod 9 = 5 ∧ ∃ t, kv = [.int 3 t]) ∨
  (3 < x.fmod 9 ∧ x.fmod 9 ≠ 5 ∧ ∃ t, kv = [.int 2 t])

theorem rep3 {x : Int} (h : x.fmod 9 = 3) : codeS x ++ Str.ofString " Entering (" ++ innerS x ++ (if (x.fmod 9 == 4) = true then Str.ofString "." else Str.ofString ").") = replyS x := by
  have e1 : (x.fmod 9 != 6) = true := by rw [h]; decide
  have e2 : (x.fmod 9 == 3) = true := by rw [h]; decide
  unfold replyS
  simp only [e1, e2, if_true]
theorem repN {x : Int} (h : x.fmod 9 ≠ 3) (h' : x.fmod 9 ≠ 6) : Str.ofString "229" ++ Str.ofString " Entering (" ++ innerS x ++ (if (x.fmod 9 == 4) = true then Str.ofString "." else Str.ofString ").") = replyS x := by
  have e1 : (x.fmod 9 != 6) = true := by simpa using h'
  have e2 : (x.fmod 9 == 3) = false := by simpa using h
  unfold replyS
  simp only [e1, e2, if_true, Bool.false_eq_true, if_false]
theorem rep6 {x : Int} (h : x.fmod 9 = 6) : Str.ofString "229x2" ++ Txt.replace (portS x) (Str.ofString "2") (Str.ofString "3") ++ Str.ofString "2)" = replyS x := by
  have e1 : (x.fmod 9 != 6) = false := by rw [h]; decide
  unfold replyS
  simp only [e1, Bool.false_eq_true, if_false]
theorem kv0 {x : Int} {t0 t1 t2 : Tok} (h : x.fmod 9 < 3) : KeyVals x [.int 0 t0, .str (peerS x) t1, .int ((x.fdiv 9).fmod 100) t2] := .inl ⟨h, _, _, _, rfl⟩
theorem kv1 {x : Int} {t : Tok} (h : x.fmod 9 = 3) : KeyVals x [.int 1 t] := .inr (.inl ⟨h, _, rfl⟩)
theorem kv3 {x : Int} {t : Tok} (h : x.fmod 9 = 5) : KeyVals x [.int 3 t] := .inr (.inr (.inl ⟨h, _, rfl⟩))
theorem kv2 {x : Int} {t : Tok} (h : ¬ x.fmod 9 < 3) (h' : x.fmod 9 ≠ 3) (h5 : x.fmod 9 ≠ 5) : KeyVals x [.int 2 t] := .inr (.inr (.inr ⟨by omega, h5, _, rfl⟩))

/-- names the number whose reply is walked -/
noncomputable def Of (_ : Int) : Prop := True
section
variable {M : Model} {A : Around} {E : Value → Shared → Prop} {s : Shared} {test b1 b2 b3 orelse : Expr} {env : Env} {pos p1 : Pos} {B : Bool} {Q : Value → Shared → Prop} {h₀ : Heap} {L : Addr} {m : Str → Option Value} {n : List (Addr × Obj)} {x : Int}
theorem if_code (_ : Of x) (F : Fr h₀ L s.heap m) (N : News h₀ L s.heap n)
    (ht : wpAny M A (isTrue test env (eval test env)) (fun b s' => EndB s B b s') E s)
    (hx : ∀ tk, wpAny M A (eval (.Subscript b1 b2 p1) env) (fun v s' => EndSH h₀ L m n s (codeS x) v s') E { s with toks := tk })
    (hy : ∀ tk, wpAny M A (eval orelse env) (fun v s' => EndSH h₀ L m n s (Str.ofString "229") v s') E { s with toks := tk })
    (h : ∀ t tk h', Fr h₀ L h' m → News h₀ L h' n → Q (.str (if B = true then codeS x else Str.ofString "229") t) { s with heap := h', toks := tk }) : wpAny M A (eval (.IfExp test (.Subscript b1 b2 p1) orelse pos) env) Q E s :=
  ifexp_strH F N ht hx hy h
theorem if_reply {o1 o2 : Expr} {op1 op2 : Operator} {p2 : Pos} (_ : Of x)
    (ht : wpAny M A (isTrue test env (eval test env)) (fun b s' => EndB s (x.fmod 9 != 6) b s') E s)
    (hx : ∀ tk, wpAny M A (eval (.BinOp b1 op1 b2 p1) env) (fun v s' => EndS s ((if (x.fmod 9 == 3) = true then codeS x else Str.ofString "229") ++ Str.ofString " Entering (" ++ innerS x ++ (if (x.fmod 9 == 4) = true then Str.ofString "." else Str.ofString ").")) v s') E { s with toks := tk })
    (hy : ∀ tk, wpAny M A (eval (.BinOp o1 op2 o2 p2) env) (fun v s' => EndS s (Str.ofString "229x2" ++ Txt.replace (portS x) (Str.ofString "2") (Str.ofString "3") ++ Str.ofString "2)") v s') E { s with toks := tk })
    (h : ∀ t tk, Q (.str (replyS x) t) { s with toks := tk }) : wpAny M A (eval (.IfExp test (.BinOp b1 op1 b2 p1) (.BinOp o1 op2 o2 p2) pos) env) Q E s :=
  ifexp_str ht hx hy h
end
theorem len_l20 {a : String} (h : Nat.ble (Str.ofString a).length 20 = true) : (Str.ofString a).length ≤ 20 := Nat.le_of_ble_eq_true h
theorem size2 {X Y : Str} {m n : Nat} (h1 : X.length ≤ m) (h2 : Y.length ≤ n) (h : Nat.ble (m + n) 1000 = true) : X.length + Y.length ≤ sizeLine := Nat.le_trans (Nat.add_le_add h1 h2) (Nat.le_trans (Nat.le_of_ble_eq_true h) (by rw [sizeLine_eq]; decide))
local macro_rules | `(tactic| walk_at "mylen") => `(tactic| first | (with_reducible first | exact len_port _ | exact len_g4 _ | exact len_g2 _ | exact len_g2b _ | exact len_gc _ | exact len_codeS _ | exact len_mark _ | exact len_rep _) | ((with_reducible first | refine' len_app' ?q5 ?q6 | refine' len_ite' ?q5 ?q6); (case q5 => walk_at "mylen"); (case q6 => walk_at "mylen")) | ((with_reducible refine len_l20 ?_); decide +kernel))
local macro_rules | `(tactic| walk_at "binaryOp Add str str") => `(tactic| (refine' PyProof.Rows.add_str (hsz := size2 ?q1 ?q2 ?q3) ?_; (case q1 => walk_at "mylen"); (case q2 => walk_at "mylen"); (case q3 => exact rfl); intro _ _))
local macro_rules | `(tactic| walk_at "call builtin:str.replace") => `(tactic| (refine SC.replaceW (Nat.succ_ne_zero _) (Nat.succ_ne_zero _) (Nat.ne_of_lt (Nat.lt_succ_self _)) (by decide +kernel) (Nat.le_trans (len_port _) (by decide)) (by decide +kernel) ?_; intro _ _))
local macro_rules | `(tactic| walk_at "eval IfExp") => `(tactic| first
  | (refine' if_code ?O ?F ?N ?tt ?bx ?bb ?rr; (case O => with_reducible assumption); (case F => k_asm); (case N => with_reducible assumption); (case tt => (k_steps; exact endB_i)); (case' bx => (intro _; (try dsimp only))); (case' bb => (intro _; (try dsimp only))); (case' rr => (intro _ _ _ _ _; (try dsimp only))))
  | (refine' if_reply ?uO ?utt ?ubx ?ubb ?urr; (case uO => with_reducible assumption); (case utt => (k_steps; exact endB_i)); (case' ubx => (intro _; (try dsimp only))); (case' ubb => (intro _; (try dsimp only))); (case' urr => (intro _ _; (try dsimp only))))
  | (refine' ifexp_str ?vtt ?vbx ?vbb ?_; (case vtt => (k_steps; exact endB_i)); (case vbx => (intro _; k_steps; exact endS_i)); (case vbb => (intro _; k_steps; exact endS_i)); intro _ _))
theorem reply_call (w : World) (loose : List Str) (mean : ExcName → Option Value) (mg mb : Str → Option Value)
  (dp un : Nat) (gd : Option (List Code)) (cn : Str) (cs : Scope) (a : Addr) (ccd : Value) (cl : List (Str × Addr)) (outer : List Env) (A₀ : Around) (base h₀ : Heap) (L : Addr) (m : Str → Option Value) (news : List (Addr × Obj)) (s : Shared) (x place : Int) (tx tp : Tok)
    (Q E : Value → Shared → Prop) : mark hdx.heap_39 PySem.Challenge.rw_nq0026_01 →
    Below A₀ base outer h₀ → Fr h₀ L s.heap m → (hdx.heap_39 w.params).In h₀ → News h₀ L s.heap news → Top hdx.view_39 loose mean mg mb h₀ → cs.kind = .function → dp + 5 < recursionLimit → un + 80 < cLine →
    (∀ r tu ky t1 t2 t3 kv Y h' tk', Y = replyS x → KeyVals x kv → Fr h₀ L h' m → News h₀ L h' ((r, listOf #[.str Y t1, .ref tu, .ref ky, .int place tp] 0) :: (tu, tupObj [.str (peerS x) t2, .int 21 t3]) :: (ky, listOf kv.toArray 0) :: news) →
      (∀ p ∈ news, p.1 < r ∧ p.1 < tu ∧ p.1 < ky) → Q (.ref r) { s with heap := h', toks := tk' }) →
    wpAny (model prog w) (ktrTop dp un gd cn cs L a ccd cl outer) (call (.ref 81) [.int x tx, .int place tp]) Q E s := by
  k_fill
  intro _ B F X N T hk hd hu hret
  have hOf : Of x := trivial
  (k_with "table" => skip)
  refine wpAny_call ?_
  k_dflt ktr_enter
  k_steps
  all_goals first
    | exact endS_i
    | (refine' endSH_i ?e1 (cb_drop ?e2 ?e3); (case e1 => k_asm); (case e2 => with_reducible assumption); (case e3 => kcj_all))
    | (exfalso; omega)
    | (refine' hret _ _ _ _ _ _ _ _ _ _ ?eY ?eK ?eF (cb_drop ?eN ?eS) ?eL
       (case eF => k_asm)
       (case eN => with_reducible assumption)
       (case eS => kcj_all)
       (case eY => exact rfl)
       (case eK => first | (have h3 : x.fmod 9 < 3 := (by with_reducible assumption); exact kv0 h3) | (have h3 : x.fmod 9 = 3 := (by with_reducible assumption); exact kv1 h3) | (have h3 : x.fmod 9 = 5 := (by with_reducible assumption); exact kv3 h3) | exact kv2 (by omega) (by omega) (by omega))
       (case eL => (intro p hp; refine ⟨ktn_ltOf ?_ p hp, ktn_ltOf ?_ p hp, ktn_ltOf ?_ p hp⟩ <;> (repeat first | with_reducible assumption | apply And.right))))
end Mine
end
section
open PySem PySem.W PyProof.Rows PySem.NumText
open Sem (wp)
set_option Elab.async false
set_option maxRecDepth 100000
set_option maxHeartbeats 8000000
namespace Mine
section
variable {prog : Program} {w : World} {A : Around} {E : Value → Shared → Prop} {s : Shared} {R : Result → Shared → Prop}
theorem codeC_builtin {id : String} {args : Args} {b : Builtin} (hb : entryFor table id = some b)
    (h : wpC (model prog w) (A.under (.builtin id args)) (b args) (fun fin s' => match fin with | .done f => R (.ok f) s' | .again c' => c'.quiet = true ∧ codeC (model prog w) A c' R s') (fun e s' => R (.error e) s') s) :
    codeC (model prog w) A (.builtin id args) R s := by
  refine codeC_of_tree ?_
  show wpC _ _ (match entryFor table id with | some b => b args | none => _) _ _ s
  rw [hb]; exact h
theorem codeC_call_builtin {id : String} {args : Args} {b : Builtin} (hp : plainId id = true) (hb : entryFor table id = some b) (hc : checkBuiltinCall id args = pure ())
    (h : wpC (model prog w) A.in1 (b args) (fun fin s' => match fin with | .done f => R (.ok f) s' | .again c' => c'.quiet = true ∧ codeC (model prog w) A c' R s') (fun e s' => R (.error e) s') s) :
    codeC (model prog w) A (.call (.builtin id) args) R s := by
  refine codeC_of_tree ?_
  show wpC _ A.in1 (do checkBuiltinCall id args; again (.builtin id args)) _ _ s
  rw [hc]
  refine wpC_bind (wpC_pure (wpC_pure ⟨plainId_quiet hp args, codeC_builtin hb ?_⟩))
  rw [Around.under_plainId hp args]
  exact h
theorem wpC_ite_false {α : Type} {M : Model} {c : Prop} [Decidable c] {a b : Sem α} {Q : α → Shared → Prop} (hc : ¬ c) (h : wpC M A b Q E s) : wpC M A (if c then a else b) Q E s := by rw [if_neg hc]; exact h
theorem wpC_ite_true {α : Type} {M : Model} {c : Prop} [Decidable c] {a b : Sem α} {Q : α → Shared → Prop} (hc : c) (h : wpC M A a Q E s) : wpC M A (if c then a else b) Q E s := by rw [if_pos hc]; exact h
theorem wpC_of_eq {α : Type} {M : Model} {m : Sem α} {a : α} {Q : α → Shared → Prop} (e : m = pure a) (h : Q a s) : wpC M A m Q E s := by rw [e]; exact wpC_pure h
theorem wpC_rule {M : Model} {tag : String} {Q : Unit → Shared → Prop} (h : Q () s) : wpC M A (rule tag) Q E s := wpC_of_any (wpAny_rule h)
theorem text_bad {x : PySem.Str} {t : Tok} {Q : Value → Shared → Prop} (hs : (numSeenOf x).length ≤ 640) (hr : (int_private% "readNumeral") 0 10 (numSeenOf x) = (int_private% "Numeral.invalid")) (hh : A.handled = none) (hz : (reprText x).length ≤ 1000)
    (h : ∀ h' e tk, Heap.NewExc s.heap h' e "ValueError" → E (.ref e) { s with heap := h', toks := tk }) : wpC (model prog w) A ((int_private% "intFromText") (.str x t) (numTextOf x) 10) Q E s := by
  show wpC _ _ (if (numSeenOf x).length ≤ 640 then _ else _) _ _ s
  refine wpC_ite_true hs ?_
  refine wpC_bind (wpC_pure ?_)
  have hr' : (int_private% "readNumeral") 0 10 (List.takeWhile (fun x => x != 0) (numTextOf x)) = (int_private% "Numeral.invalid") := hr
  dsimp only
  rw [hr']
  dsimp only
  refine wpC_bind (wpC_of_eq (a := none) rfl ?_)
  refine wpC_ite_false (by simp) ?_
  refine wpC_bind (wpC_rule ?_)
  refine wpC_bind (wpC_of_eq (a := none) rfl ?_)
  dsimp only
  refine wpC_bind (wpC_of_any (wpAny_pyRepr_str ?_ (by rw [sizeLine_eq]; lia)))
  refine wpC_bind (wpC_of_any (wpAny_mkStr ?_ ?_))
  · refine wpC_bind (wpC_of_any (wpAny_newExc_plain plainExc_ValueError fun h' e hm => ?_))
    refine wpC_bind (wpC_mark ?_)
    exact wpC_of_any (wpAny_raiseNew_none hh (h _ _ _ hm.newExc))
  · rw [Str.length_append, sizeLine_eq]
    have e1 : (Str.ofString (toString "invalid literal for int() with base " ++ toString 10 ++ toString ": ")).length ≤ 100 := by decide +kernel
    have e2 : (Str.mk ((reprText x).cps.extract 0 200)).length ≤ 200 := by
      show ((reprText x).cps.extract 0 200).size ≤ 200
      rw [Array.size_extract]; lia
    lia
theorem int_bad {x : PySem.Str} {t : Tok} {Q : Value → Shared → Prop} (hl : x.length ≤ 640) (hn : PySem.intText? x = none) (hlen : ((numSeenOf x).length == (numTextOf x).length) = true) (hh : A.handled = none) (hz : (reprText x).length ≤ 1000)
    (h : ∀ h' e tk, Heap.NewExc s.heap h' e "ValueError" → E (.ref e) { s with heap := h', toks := tk }) : wpC (model prog w) A (call (.type "int") [.str x t]) Q E s := by
  have hs : (numSeenOf x).length ≤ 640 := Nat.le_trans (seen_length x) hl
  have hr : (int_private% "readNumeral") 0 10 (numSeenOf x) = (int_private% "Numeral.invalid") := by
    rcases read0 x hs with ⟨m, h1, h2, h3⟩ | h1
    · rw [hn] at h1; cases h1
    · rcases h1.2 with h2 | ⟨i, _, h3⟩
      · exact h2
      · exact absurd hlen h3
  refine wpC_call (codeC_of_tree ?_)
  show wpC _ _ (callAny (.type "int") _) _ _ _
  refine wpC_pure ⟨Code.quiet_builtin _ (by decide +kernel), codeC_builtin F.entry_type_call ?_⟩
  rw [Around.under_plain (weight_type_call_type "int" _ []) (units_type_call_type "int" _ [])]
  have ft := F.called_int
  obtain ⟨c, tl, hmro⟩ := ft.mro
  unfold Builtin.«type.__call__»
  dsimp only
  refine wpC_ite_false (by rw [ft.notType]; decide) ?_
  refine wpC_ite_false (by rw [ft.canCreate]; decide) ?_
  refine wpC_bind (wpC_of_eq (F.typeCall_int_1 _) ?_)
  refine wpC_bind (wpC_of_eq hmro ?_)
  refine wpC_ite_false (by simp) ?_
  refine wpC_bind (wpC_of_eq ft.made ?_)
  dsimp only
  refine wpC_bind (wpC_pure ?_)
  refine wpC_bind (wpC_holding ?_)
  refine wpC_call (codeC_call_builtin ft.plain F.entry_int_new (F.newCall_int_1 _) ?_)
  have f1 := F.conv_sub_int
  have f2 := F.madeHere_int
  have f3 := KIN.str_int
  have f4 := KIN.str_idx
  have f5 := KIN.str_trunc
  have f6 : typeOf (.str x t) = pure (.type "str") := rfl
  unfold Builtin.«int.__new__»
  dsimp only
  refine wpC_bind (wpC_of_eq (a := true) rfl ?_)
  refine wpC_ite_false (by decide) ?_
  refine wpC_bind (wpC_of_eq f1 ?_)
  refine wpC_ite_false (by decide) ?_
  refine wpC_bind (wpC_of_eq f2 ?_)
  refine wpC_ite_false (by simp) ?_
  refine wpC_ite_false (by simp) ?_
  refine wpC_bind (wpC_of_eq (a := PUnit.unit) rfl ?_)
  show wpC _ _ ((int_private% "intFromObject") (.str x t) >>= _) _ _ s
  refine wpC_bind ?_
  refine wpC_bind (m := callSpecial? (Value.str x t) (Str.ofString "__int__")) (wpC_of_any ?_)
  repeat (any_goals (first | assumption | wp_step))
  dsimp only
  refine wpC_bind (wpC_of_any ?_)
  repeat (any_goals (first | assumption | wp_step))
  refine wpC_ite_false (by simp) ?_
  refine wpC_bind (wpC_of_any ?_)
  repeat (any_goals (first | assumption | wp_step))
  dsimp only
  refine wpC_bind (wpC_of_any ?_)
  repeat (any_goals (first | assumption | wp_step))
  exact text_bad hs hr hh hz h
end
end Mine
end
section
open PySem PySem.W PyProof.Rows PySem.Spec PySem.Calls
open Sem (wp)
set_option Elab.async false
set_option maxRecDepth 100000
set_option maxHeartbeats 8000000
namespace Mine
section
variable {M : Model} {A : Around} {E : Value → Shared → Prop} {s : Shared} {env : Env}
theorem wpC_execs_cons {st : Stmt} {rest : List Stmt} {Q : Flow → Shared → Prop}
    (h : wpC M A (exec st env) (fun f s' => match f with | .next => wpC M A (execs rest env) Q E s' | f => Q f s') E s) : wpC M A (execs (st :: rest) env) Q E s := by
  rw [execs_cons]
  refine wpC_bind (wpC_mono h (fun f s' h' => ?_) fun _ _ x => x)
  cases f <;> first | exact h' | exact wpC_pure h'
theorem wpC_Assign_Name {x : Str} {pos' : Pos} {value : Expr} {pos : Pos} {Q : Flow → Shared → Prop}
    (h : wpC M A (eval value env) (fun v s₁ => wpAny M A (storeName env x v) (fun _ => Q .next) E s₁) E s)
    (hs : swapsWith value (some (.Name x pos')) pos.line env = pure false := by rfl) : wpC M A (exec (.Assign [.Name x pos'] value pos) env) Q E s := fun Γ p hΓ hc => by
  simp only [exec_Assign_Name env x pos' value pos hs, Sem.wp_bind', Sem.wp_cmd_standAt, Sem.wp_bindName, Sem.wp_pure']
  exact Sem.wp_mono M Γ _ (fun v _ s₁ h₁ => h₁ Γ _ hΓ) (fun _ _ _ h' => h') _ _ (h Γ _ hΓ hc)
theorem wpC_Call {func : Expr} {args : List Expr} {pos : Pos} {Q : Value → Shared → Prop}
    (h : wpAny M A (eval func env) (fun f s₁ => wpC M A (callWith pos f [] (backTo pos (starEach args env)) []) Q E s₁) E s)
    (he : eval (.Call func args [] pos) env = (do callWith pos (← eval func env) [] (backTo pos (starEach args env)) (backToKw pos (keywordEach [] env))) := by rfl) :
    wpC M A (eval (.Call func args [] pos) env) Q E s := by
  rw [he]; exact wpC_bind (wpC_of_any h)
theorem wpC_keep {α : Type} {vs : List Value} {m : Sem α} {Q : α → Shared → Prop} (h : wpC M A m Q E s) : wpC M A (m.keep vs) Q E s :=
  fun Γ p hΓ hc => by rw [Sem.wp_keep]; exact h Γ p hΓ hc
theorem callWithC_of {P : Heap → Prop} {f : Value} {first : List Value} {pos : Pos} {Q : Value → Shared → Prop} {args : List (Bool × Sem Value)} {keywords : List (Option Str × Sem Value)} (hplain : (args.any (·.1) || keywords.any (·.1.isNone)) = false)
    (hk : ∀ h, P h → ∃ k, (k = Keeper.frame ∨ k = Keeper.machine ∨ k = Keeper.boundFrame) ∧ Looks M h (keeperOf f) k)
    (h : wpAny M A (evalArgs f true args keywords) (fun a s₁ => P s₁.heap ∧ wpC M A (call f (first ++ a.pos) a.kw) Q E s₁) E s) : wpC M A (callWith pos f first args keywords) Q E s := by
  unfold callWith
  refine wpC_bind (wpC_holding (wpC_mono (wpC_of_any h) (fun a s₁ h₁ => wpC_bind (wpC_of_any (wpAny_standAt ?_))) fun _ _ x => x))
  obtain ⟨k, hk', L⟩ := hk _ h₁.1
  simp only [hplain]
  refine wpC_bind (wpC_of_any (L.here ?_))
  have tail : ∀ {t : Sem Value}, wpC M A t Q E s₁ → wpC M A (t >>= fun r => holding [r] point >>= fun _ => pure r) Q E s₁ :=
    fun ht => wpC_bind (wpC_mono ht (fun r s₂ hr => wpC_of_any (wpAny_bind (wpAny_holding (wpAny_point (wpAny_pure hr))))) fun _ _ x => x)
  have marked (mk : Value) : wpC M A (callMarked mk f (first ++ a.pos) a.kw) Q E s₁ := by
    unfold callMarked
    exact wpC_keep h₁.2
  rcases hk' with rfl | rfl | rfl <;> dsimp only <;> first | exact tail h₁.2 | (split <;> first | exact tail h₁.2 | exact tail (marked _))
theorem callWithC_K {K : Frag} {f : Value} {first : List Value} {pos : Pos} {Q : Value → Shared → Prop} {h₀ : Heap} {e : Expr} {rest : List Expr} (_X : K.In h₀) (hk : keepIn K f = true) (h : wpAny M A (spliced (backTo pos (starEach (e :: rest) env))) (fun vs s₁ => K.In s₁.heap ∧ wpC M A (call f (first ++ vs)) Q E s₁) E s)
    (he : starEach (e :: rest) env = (false, eval e env) :: starEach rest env := by rfl) (hplain : (backTo pos (starEach rest env)).any (·.1) = false := by rfl) :
    wpC M A (callWith pos f first (backTo pos (starEach (e :: rest) env)) []) Q E s := by
  rw [he] at h ⊢
  exact callWithC_of (by show ((false || (backTo pos (starEach rest env)).any (·.1)) || false) = false; rw [hplain]; rfl) (keeps_K hk) (evalArgs_plain h)
theorem callWithC_type1 {T : String} {pos : Pos} {Q : Value → Shared → Prop} {e : Expr} {rest : List Expr}
    (h : wpAny M A (spliced (backTo pos (starEach (e :: rest) env))) (fun vs s₁ => wpC M A (call (.type T) vs) Q E s₁) E s)
    (he : starEach (e :: rest) env = (false, eval e env) :: starEach rest env := by rfl)
    (hplain : (backTo pos (starEach rest env)).any (·.1) = false := by rfl) :
    wpC M A (callWith pos (.type T) [] (backTo pos (starEach (e :: rest) env)) []) Q E s := by
  rw [he] at h ⊢
  have hp : List.any (backTo pos ((false, eval e env) :: starEach rest env)) (·.1) = false := by show (false || (backTo pos (starEach rest env)).any (·.1)) = false; rw [hplain]; rfl
  have h1 : wpAny M A (evalArgs (.type T) true (backTo pos ((false, eval e env) :: starEach rest env)) []) (fun a s₁ => wpC M A (call (.type T) ([] ++ a.pos) a.kw) Q E s₁) E s := evalArgs_plain h
  unfold callWith
  refine wpC_bind (wpC_holding (wpC_mono (wpC_of_any h1) (fun a s₁ h₁ => wpC_bind (wpC_of_any (wpAny_standAt ?_))) fun _ _ x => x))
  simp only [hp, List.any_nil, Bool.or_false]
  refine wpC_bind (wpC_pure ?_)
  exact wpC_bind (wpC_mono h₁ (fun r s₂ hr => wpC_of_any (wpAny_bind (wpAny_holding (wpAny_point (wpAny_pure hr))))) fun _ _ x => x)
theorem tryStmtC_except {body orelse : Sem Flow} {h₀ : ExceptHandler} {hs : List ExceptHandler} {Q : Flow → Shared → Prop}
    (h : wpC M A body (fun f s₁ => match f with | .next => wpAny M A orelse Q E s₁ | f => Q f s₁)
      (fun e s₁ => wpAny M A (noteFrame e env) (fun _ s₂ => wpAny M A (setFlight e none) (fun _ s₃ => wpAny M A (handleBy e env (h₀ :: hs)) Q E s₃) E s₂) E s₁) s) :
    wpC M A (tryStmt false body (h₀ :: hs) orelse [] env) Q E s := by
  unfold tryStmt
  simp only [List.isEmpty_nil, if_true, List.isEmpty_cons, Bool.false_and, Bool.false_eq_true, if_false]
  refine wpC_bind (wpC_attempt (wpC_mono h (fun f s₁ h₁ => ?_) fun e s₁ h₁ => ?_))
  · cases f <;> first | exact wpC_of_any h₁ | exact wpC_pure h₁
  · exact wpC_bind (wpC_mono (wpC_of_any h₁) (fun _ _ h₂ => wpC_bind (wpC_mono (wpC_of_any h₂) (fun _ _ h₃ => wpC_of_any h₃) fun _ _ x => x)) fun _ _ x => x)
theorem wpC_Try_except {body orelse : List Stmt} {h₀ : ExceptHandler} {hs : List ExceptHandler} {pos : Pos} {Q : Flow → Shared → Prop}
    (h : wpC M A (execs body env) (fun f s₁ => match f with | .next => wpAny M A (execs orelse env) Q E s₁ | f => Q f s₁)
      (fun e s₁ => wpAny M A (noteFrame e env) (fun _ s₂ => wpAny M A (setFlight e none) (fun _ s₃ => wpAny M A (handleBy e env (h₀ :: hs)) Q E s₃) E s₂) E s₁) s) :
    wpC M A (exec (.Try body (h₀ :: hs) orelse [] pos) env) Q E s := by
  rw [arm_exec_Try]
  exact wpC_bind (wpC_of_any (wpAny_standAt (tryStmtC_except h)))
end
section
variable {prog : Program} {w : World} {A : Around} {s : Shared} {R : Result → Shared → Prop}
theorem codeC_func {body : List Stmt} {env : Env}
    (h : wpC (model prog w) (A.deeper env) (execs body env) (fun f s' => R (.ok (.ret (match f with | .ret v => v | _ => .none))) s')
      (fun e s' => wpAny (model prog w) (A.deeper env) (leaving env e) (fun _ s'' => R (.error e) s'') (fun e' s'' => R (.error e') s'') s') s) :
    codeC (model prog w) A (.func body env) R s := by
  refine codeC_of_tree ?_
  show wpC _ (A.deeper env) (do point; match ← (execs body env).onRaise (leaving env) with | .ret v => ret v | _ => ret .none) _ _ s
  refine wpC_bind (wpC_of_any (wpAny_point (wpC_bind (wpC_onRaise (wpC_mono h (fun f s' h' => ?_) fun _ _ h' => wpC_of_any h')))))
  cases f <;> exact wpC_pure h'
theorem codeC_call_function {a : Addr} {args : Args} {o : Obj} {fd : FuncData} {body : List Stmt} (hroom : A.depth < recursionLimit)
    (ho : s.heap.get? a = some o)
    (hd' : o.data = .func fd) (hco : fd.scope.isCoroutine = false) (hgen : fd.scope.isGenerator = false) (hbody : fd.body = .stmts body) (hcd : s.heap.CodeRec fd.code fd.qualname)
    (h : wpAny (model prog w) A.in1 (bindArgs fd args) (fun binds s₁ =>
      wpAny (model prog w) A.in1 (newFunctionEnv fd.scope fd.globals fd.closure binds (fd.qualname ++ ".<locals>.") (some a) fd.code none fd.builtins)
        (fun env s₂ => s₂.heap.NoLimit ∧ codeC (model prog w) A (.func body env) R s₂) (fun e s' => R (.error e) s') s₁) (fun e s' => R (.error e) s') s) :
    codeC (model prog w) A (.call (.ref a) args) R s := by
  refine codeC_of_tree (wpC_of_any ?_)
  show wpAny _ A.in1 (callAny (.ref a) args) _ _ s
  simp only [callAny]
  refine wpAny_bind (wpAny_load ho ?_)
  obtain ⟨c, oc, vs, tq, hc, hoc, hdc, hq⟩ := hcd
  simp only [hd', callFunction, hco, hgen, hbody, hc]
  rw [hc] at h
  refine wpAny_bind (m := field (.ref c) 1) (wpAny_field hoc hdc hq (wpAny_bind (wpAny_pure ?_)))
  exact wpAny_bind (wpAny_mono h (fun binds s₁ h₁ => wpAny_bind (wpAny_mono h₁ (fun env s₂ h₂ => wpAny_bind (wpAny_enterFrame h₂.1 hroom
    (wpAny_pure (And.intro rfl h₂.2)))) fun _ _ h' => h')) fun _ _ h' => h')
theorem codeC_call_def {a : Addr} {o : Obj} {fd : FuncData} {body : List Stmt} {args : Args} {binds : List (Str × Value)}
    (hroom : A.depth < recursionLimit) (ho : s.heap.get? a = some o) (hdata : o.data = .func fd) (hlim : s.heap.NoLimit) (hcd : s.heap.CodeRec fd.code fd.qualname)
    (hbody : fd.body = .stmts body) (hbind : BindsTo s fd args binds)
    (hcell : ∀ x ∈ fd.scope.names, x.2 ≠ .cell) (hloc : ∀ x ∈ binds, fd.scope.names.lookup x.1 = some .local)
    (h : ∀ h₀, h₀.Ns s.heap.objs.size (fun x => binds.reverse.lookup x) → (∀ b o, s.heap.get? b = some o → h₀.get? b = some o) →
      wpC (model prog w) (A.deeper (callEnv fd s.heap.objs.size a)) (execs body (callEnv fd s.heap.objs.size a)) (fun f s' => R (.ok (.ret (match f with | .ret v => v | _ => .none))) s')
        (fun e s' => wpAny (model prog w) (A.deeper (callEnv fd s.heap.objs.size a)) (leaving (callEnv fd s.heap.objs.size a) e) (fun _ s'' => R (.error e) s'') (fun e' s'' => R (.error e') s'') s')
        { s with heap := h₀, toks := s.toks + binds.length })
    (hco : fd.scope.isCoroutine = false := by rfl) (hgen : fd.scope.isGenerator = false := by rfl) (hk : fd.scope.kind = .function := by rfl) :
    codeC (model prog w) A (.call (.ref a) args) R s := by
  refine codeC_call_function hroom ho hdata hco hgen hbody hcd (hbind _ _ _ _ ?_)
  refine wpAny_newFunctionEnv hcell hloc (fun h₀ hns₀ hsb₀ => ⟨hlim.fresh _ hsb₀, codeC_func (h h₀ hns₀ fun b o e => ?_)⟩) hk
  exact hsb₀.extBut b o (Nat.ne_of_lt (Heap.lt_size e)) (Heap.get?_push_of_some _ e)
end
end Mine
end
section
open PySem PySem.W PyProof.Rows PySem.Spec PySem.Calls
open Sem (wp)
set_option Elab.async false
set_option maxRecDepth 100000
set_option maxHeartbeats 8000000
namespace Mine
section
variable {α β : Type} {M : Model} {A : Around} {E : Value → Shared → Prop} {s : Shared} {env : Env}
theorem wpC_run0 {c : Code} {Q : Flow → Shared → Prop} (hc : codeC M A c (fun r s' => match r with | .ok f => Q f s' | .error e => E e s') s) : wpC M A (run c) Q E s :=
  wpC_run (h := none) (by rw [Around.mark_none]; exact hc)
theorem wpC_abind {m : Sem α} {f : α → Sem β} {Q : β → Shared → Prop} (h : wpAny M A m (fun a s' => wpC M A (f a) Q E s') E s) : wpC M A (m >>= f) Q E s := wpC_bind (wpC_of_any h)
theorem wpC_standIf {c : Prop} [Decidable c] {pos : Pos} {k : PUnit → Sem α} {Q : α → Shared → Prop} (h : wpC M A (k ()) Q E s) :
    wpC M A (if c then (standAt pos >>= k) else k ()) Q E s := by
  split
  · exact wpC_abind (wpAny_standAt h)
  · exact h
theorem wpC_False {t : Sem α} {Q : α → Shared → Prop} (h : wpC M A t Q (fun _ _ => False) s) : wpC M A t Q E s := wpC_mono h (fun _ _ q => q) fun _ _ f => f.elim
theorem codeC_mono' {c : Code} {R R' : Result → Shared → Prop} (h : codeC M A c R s) (hR : ∀ r s, R r s → R' r s) : codeC M A c R' s :=
  fun Γ p hc hΓ hb => wpCode_mono hR (h Γ p hc hΓ hb)
/-- a comprehension whose loop is walked in contexts that hold the claim's caller -/
theorem wpC_comprehension_free {e : Expr} {scope : Scope} {pos : Pos} {newAcc first : Sem Value} {g : Comprehension} {gs : List Comprehension} {cl : List (Str × Addr)} {use : Option (Value → Sem Unit)}
    {Q : Value → Shared → Prop}
    (hcl : clausesOf e = g :: gs) (hs : ∀ x, foldedSetIterable g.iter env x = pure x) (hclos : closureFor scope env = pure cl)
    (hkind : scope.kind = .function) (hnames : ∀ x ∈ scope.names, x.2 = .local → scope.names.lookup x.1 = some .local)
    (h : wpAny M A first (fun x s₁ => wpAny M A (pyIter x) (fun it s₂ => wpAny M A newAcc (fun acc s₃ =>
      wpAny M A (newFunctionEnv scope env.globals cl [] env.qual none .none (some env)) (fun cenv s₄ =>
        codeC M A (.compStart e 0 it acc { cenv with scope := relabel scope env }) (fun r s' => match r with | .ok f => compPost M A E use Q acc cenv.locals (.ok f) s' | .error _ => False) s₄) E s₃) E s₂) E s₁) E s) :
    wpC M A (comprehension e scope env pos newAcc false first use) Q E s := by
  unfold comprehension
  rw [hclos, hcl]
  refine wpC_abind (wpAny_mono h (fun x s₁ h₁ => wpC_abind (wpAny_standAt (wpC_bind (wpC_of_eq (hs x) (wpC_abind (wpAny_holding (wpAny_mono h₁ (fun it s₂ h₂ =>
    wpC_standIf (wpC_abind (wpAny_mono h₂ (fun acc s₃ h₃ => wpC_bind (wpC_pure (wpC_abind (wpAny_mono h₃ (fun cenv s₄ h₄ => ?_) fun _ _ h' => h')))) fun _ _ h' => h')))
      fun _ _ h' => h'))))))) fun _ _ h' => h')
  dsimp only
  have hv : ∀ x ∈ (scope.names.filter fun x => (x.2 == .local || x.2 == .cell) && x.1 != (".0" : Str)).reverse, x.2 = .local →
      Env.kindOf { cenv with scope := relabel scope env } x.1 = some .local := fun x hx hl => lookup_relabel_local (hnames x (List.mem_filter.mp (List.mem_reverse.mp hx)).1 hl)
  have hv' : ∀ x ∈ (scope.names.filter fun x => (x.2 == .local || x.2 == .cell) && x.1 != (".0" : Str)).reverse.drop 1 ++ (scope.names.filter fun x => (x.2 == .local || x.2 == .cell) && x.1 != (".0" : Str)).reverse.take 1,
      x.2 = .local → Env.kindOf { cenv with scope := relabel scope env } x.1 = some .local := fun x hx hl => by
    rcases List.mem_append.mp hx with h1 | h1
    · exact hv x (List.mem_of_mem_drop h1) hl
    · exact hv x (List.mem_of_mem_take h1) hl
  refine wpC_holding (wpC_bind (wpC_attempt (wpC_holding (wpC_run0 (codeC_mono' h₄ fun r s' hr => ?_)))))
  cases r with
  | ok f =>
    cases use with
    | none =>
      obtain ⟨m, hn, hr⟩ := hr
      exact wpC_of_any (wpAny_bind (wpAny_holding (wpAny_comp_letGo (cenv := { cenv with scope := relabel scope env }) hkind _ s' m hv hn fun h' m' _ hs' => wpAny_pure (hr h' hs'))))
    | some u =>
      refine wpC_of_any (wpAny_bind (wpAny_rule (wpAny_bind (wpAny_holding (wpAny_mono hr (fun _ s'' hr' => ?_) fun _ _ h' => h')))))
      obtain ⟨m, hn, hr'⟩ := hr'
      exact wpAny_bind (wpAny_comp_letGo (cenv := { cenv with scope := relabel scope env }) hkind _ s'' m hv' hn fun h' m' _ hs' => wpAny_pure (hr' h' hs'))
  | error x => exact hr.elim
end
section
variable {prog : Program} {w : World} {A : Around} {E : Value → Shared → Prop} {R : Result → Shared → Prop} {s : Shared}
theorem codeC_compStart_list {elt target iter ifs rest scope pos it acc env}
    (h0 : codeC (model prog w) A (.compLoop (.ListComp elt (⟨target, iter, ifs, 0⟩ :: rest) scope pos) 0 it acc env) R s)
    (h : wpAny (model prog w) A (pyIter it) (fun it' s' => codeC (model prog w) A (.compLoop (.ListComp elt (⟨target, iter, ifs, 0⟩ :: rest) scope pos) 0 it' acc env) R s')
      (fun _ _ => False) s) :
    codeC (model prog w) A (.compStart (.ListComp elt (⟨target, iter, ifs, 0⟩ :: rest) scope pos) 0 it acc env) R s := by
  refine codeC_of_tree ?_
  show wpC _ _ ((compStart (.ListComp elt (⟨target, iter, ifs, 0⟩ :: rest) scope pos) 0 it acc env).onRaise (fun x => do noteFrame x env; standAt theWindowsPlace)) _ _ s
  refine wpC_onRaise (wpC_False ?_)
  unfold compStart
  show wpC _ _ (ask >>= _) _ _ s
  refine wpC_of_any (wpAny_bind (wpAny_askSetting (wpAny_ite ?_)))
  split
  · first
      | exact wpAny_bind (wpAny_pure (wpAny_pure (And.intro rfl h0)))
      | exact wpAny_pure (And.intro rfl h0)
  · first
      | exact wpAny_bind (wpAny_rule (wpAny_bind (wpAny_standAt (wpAny_bind (wpAny_mono h (fun it' s' h' => wpAny_pure (And.intro rfl h')) fun _ _ x => x)))))
      | (refine wpAny_bind (wpAny_rule ?_); show wpAny _ _ (standAt iter.pos >>= _) _ _ s; exact wpAny_bind (wpAny_standAt (wpAny_bind (wpAny_mono h (fun it' s' h' => wpAny_pure (And.intro rfl h')) fun _ _ x => x))))
noncomputable abbrev NoErr : Value → Shared → Prop := fun _ _ => False
noncomputable abbrev testsOf (ifs : List Expr) (env : Env) : Sem Bool := forIn ifs true fun c r => if r = true then do let ok ← isTrue c env (eval c env); pure (ForInStep.yield ok) else pure (ForInStep.yield r)
theorem codeC_compLoop_tests {elt target iter : Expr} {ifs : List Expr} {scope : Scope} {pos : Pos} {it acc : Value} {env : Env} (I : Nat → Shared → Prop)
    (turn : ∀ n s, I n s → wpAny (model prog w) A (pyNext it) (fun r s₁ => match r with
      | none => R (.ok .next) s₁
      | some v => wpAny (model prog w) A (letOwnedTupleGo target it v) (fun _ s₁' => wpAny (model prog w) A (assign target env v) (fun _ s₂ =>
          wpC (model prog w) A (testsOf ifs env) (fun ok s₃ =>
            if ok = true then wpC (model prog w) A (eval elt env) (fun x s₄ =>
              wpAny (model prog w) A (call (.builtin "list.append") [acc, x]) (fun _ s₅ => ∃ m, m < n ∧ I m s₅) NoErr s₄) NoErr s₃
            else ∃ m, m < n ∧ I m s₃) NoErr s₂) NoErr s₁') NoErr s₁) NoErr s)
    (n : Nat) (h : I n s) :
    codeC (model prog w) A (.compLoop (.ListComp elt [⟨target, iter, ifs, 0⟩] scope pos) 0 it acc env) R s := by
  refine codeC_loop rfl I (fun n s hI => ?_) n h
  show wpC _ A ((compTurn (.ListComp elt [⟨target, iter, ifs, 0⟩] scope pos) 0 it acc env).onRaise (fun x => do noteFrame x env; theTreesLotGoes x)) _ _ s
  refine wpC_onRaise (wpC_False ?_)
  rw [compTurn_list]
  refine wpC_abind (wpAny_standAt (wpC_abind (wpAny_mono (turn n s hI) (fun r s₁ h₁ => ?_) fun _ _ h' => h'.elim)))
  cases r with
  | none => exact wpC_pure h₁
  | some v =>
    refine wpC_abind (wpAny_mono h₁ (fun _ s₁' h₁' => ?_) fun _ _ h' => h'.elim)
    refine wpC_abind (wpAny_mono h₁' (fun _ s₂ h₂ => wpC_bind (wpC_mono h₂ (fun ok s₃ h₃ => ?_) fun _ _ h' => h'.elim)) fun _ _ h' => h'.elim)
    cases ok with
    | false => exact wpC_pure ⟨rfl, h₃⟩
    | true =>
      exact wpC_bind (wpC_bind (wpC_mono h₃ (fun x s₄ h₄ => wpC_abind (wpAny_mono h₄ (fun _ s₅ h₅ => wpC_pure (wpC_pure ⟨rfl, h₅⟩)) fun _ _ h' => h'.elim)) fun _ _ h' => h'.elim))
end
end Mine
end
section
open PySem PySem.W PyProof.Rows PySem.Spec PySem.Calls PyProof.Rows.LCg
open Sem (wp)
set_option Elab.async false
set_option maxRecDepth 100000
set_option maxHeartbeats 8000000
namespace Mine
/-- the front of a comprehension's turn: the next item, bound to the target -/
structure Front (prog : Program) (w : World) (A : Around) (target : Expr) (it : Addr) (fp wr : List Addr) (n : Nat) (Tgt : Nat → (Str → Option Value) → Prop) (St : Nat → Heap → Prop) (Ok : Env → Prop) : Prop where
  sub : ∀ b ∈ wr, b ∈ fp
  frame : ∀ i h h', St i h → (∀ b ∈ fp, ∀ o, h.get? b = some o → h'.get? b = some o) → St i h'
  next : ∀ i (cenv : Env) m' (s : Shared) (Q : Shared → Prop), Ok cenv → i < n → St i s.heap → cenv.locals ∉ fp → s.heap.Ns cenv.locals m' →
    (∀ h' tk' m₂, St (i + 1) h' → h'.Ns cenv.locals m₂ → Tgt i m₂ → (∀ b o, b ∉ wr → b ≠ cenv.locals → s.heap.get? b = some o → h'.get? b = some o) → Q { s with heap := h', toks := tk' }) →
    wpAny (model prog w) A (pyNext (.ref it)) (fun r s₁ => match r with
      | none => False
      | some v => wpAny (model prog w) A (letOwnedTupleGo target (.ref it) v) (fun _ s₁' => wpAny (model prog w) A (assign target cenv v) (fun _ s₂ => Q s₂) NoErr s₁') NoErr s₁) NoErr s
  done : ∀ (s : Shared) (Q : Option Value → Shared → Prop) (E : Value → Shared → Prop), St n s.heap →
    (∀ h' tk, (∀ b o, b ∉ wr → s.heap.get? b = some o → h'.get? b = some o) → Q none { s with heap := h', toks := tk }) → wpAny (model prog w) A (pyNext (.ref it)) Q E s
  self : ∀ i (s : Shared) (Q : Value → Shared → Prop) (E : Value → Shared → Prop), St i s.heap → Q (.ref it) s → wpAny (model prog w) A (pyIter (.ref it)) Q E s
  notList : ∀ i h, St i h → ∀ b ∈ wr, ∃ o, h.get? b = some o ∧ o.cls ≠ .type "list"
theorem front_name {prog : Program} {w : World} {A : Around} {it : Addr} {fp wr : List Addr} {n : Nat} {P : Nat → Value → Prop} {St : Nat → Heap → Prop} {x : Str} {px : Pos} (W : Walks prog w A it fp wr n P St)
    (hnl : ∀ i h, St i h → ∀ b ∈ wr, ∃ o, h.get? b = some o ∧ o.cls ≠ .type "list") :
    Front prog w A (.Name x px) it fp wr n (fun i m => ∃ v, P i v ∧ m x = some v) St (fun e => e.kindOf x = some .local ∧ (e.scope.kind == .class || (e.scope.kind == .module && e.locals != e.globals)) = false) where
  sub := W.sub
  frame := W.frame
  next := fun i cenv m' s Q ok hi hst hC hn hQ => by
    refine W.item i _ _ _ hi hst fun v h₂ tk₂ hP hst₂ hk₂ => ?_
    refine wpAny_of_eq (a := ()) rfl ?_
    refine wpAny_assign_Name (wpAny_storeName_local ok.1 (hn.at' fun o e => hk₂ _ o (fun q => hC (W.sub _ q)) e) (fun h₃ hn₃ hs₃ => ?_) ok.2)
    refine hQ h₃ _ _ (W.frame _ _ _ hst₂ fun b hb o e => hs₃.extBut b o (fun q => hC (q ▸ hb)) e) hn₃ ⟨v, hP, by simp⟩ fun b o h1 h2 e => hs₃.extBut b o h2 (hk₂ b o h1 e)
  done := W.done
  self := W.self
  notList := hnl
section
variable {prog : Program} {w : World} {A : Around} {E : Value → Shared → Prop} {s : Shared} {h₀ : Heap} {L : Addr} {m : Str → Option Value} {env : Env}
noncomputable abbrev Facts' (h : Heap) (X : List Addr) : Addr → Obj → Prop := fun b o => h.get? b = some o ∧ b ∉ X
/-- what a turn leaves -/
noncomputable def CTurned (h₀ : Heap) (L : Addr) (m : Str → Option Value) (s₂ : Shared) (h : Heap) (X : List Addr) (K : (Addr → Obj → Prop) → Prop) (s' : Shared) : Prop :=
  ∃ h' tk', s' = { s₂ with heap := h', toks := tk' } ∧ Fr h₀ L h' m ∧ (∀ b o, b ≠ L → h.get? b = some o → h'.get? b = some o) ∧ K (Facts' h' X)
theorem mem3 {b C D L : Addr} {wr : List Addr} (h : b ∉ L :: C :: D :: wr) : b ≠ L ∧ b ≠ C ∧ b ≠ D ∧ b ∉ wr :=
  ⟨fun q => h (q ▸ .head _), fun q => h (q ▸ .tail _ (.head _)), fun q => h (q ▸ .tail _ (.tail _ (.head _))), fun q => h (.tail _ (.tail _ (.tail _ q)))⟩
theorem blockC {elt iter target : Expr} {ifs : List Expr} {scope : Scope} {cl : List (Str × Addr)} {pos : Pos} {s₂ : Shared} {it : Addr} {fp wr : List Addr} {n : Nat} {Tgt : Nat → (Str → Option Value) → Prop} {St : Nat → Heap → Prop} {Ok : Env → Prop}
    {J : Nat → List Value → (Addr → Obj → Prop) → Prop} {RR : Value → Addr → Result → Shared → Prop}
    (W : Front prog w A target it fp wr n Tgt St Ok) (hsz : n ≤ sizeLine) (hOk : ∀ C, Ok (compEnvC scope cl C env)) (hcell : ∀ y ∈ scope.names, y.2 ≠ .cell) (hkind : scope.kind = .function)
    (hst : St 0 s₂.heap) (hfp : ∀ b ∈ fp, b < s₂.heap.objs.size) (F : Fr h₀ L s₂.heap m) (hLf : L ∉ fp) (hw₀ : ∀ b ∈ wr, h₀.get? b = none)
    (hJ : ∀ i ys (f g : Addr → Obj → Prop), (∀ b o, f b o → g b o) → J i ys f → J i ys g) (J0 : J 0 [] (Facts' s₂.heap (L :: wr)))
    (turn : ∀ i ys C D h tk m₂, i < n → ys.length ≤ i → J i ys (Facts' h (L :: C :: D :: wr)) → Fr h₀ L h m → h.Ns C m₂ → Tgt i m₂ → C ≠ L → D ≠ L → C ≠ D → h₀.get? C = none → h₀.get? D = none → h.get? D = some (lst ys) → St (i + 1) h → (∀ b ∈ wr, ∃ o, h.get? b = some o ∧ o.cls ≠ .type "list") →
      wpC (model prog w) A (testsOf ifs (compEnvC scope cl C env)) (fun ok s₃ => if ok = true then wpC (model prog w) A (eval elt (compEnvC scope cl C env)) (fun y s₄ => CTurned h₀ L m s₂ h (L :: C :: D :: wr) (J (i + 1) (ys ++ [y])) s₄) NoErr s₃
        else CTurned h₀ L m s₂ h (L :: C :: D :: wr) (J (i + 1) ys) s₃) NoErr { s₂ with heap := h, toks := tk })
    (hRR : ∀ D C h tk m' ys, Fr h₀ L h m → h.get? D = some (lst ys) → C ≠ L → D ≠ L → C ≠ D → s₂.heap.get? C = none → s₂.heap.get? D = none → h.Ns C m' → J n ys (Facts' h (L :: C :: D :: wr)) → RR (.ref D) C (.ok .next) { s₂ with heap := h, toks := tk }) :
    wpAny (model prog w) A (newList []) (fun acc s₃ => wpAny (model prog w) A (newFunctionEnv scope env.globals cl [] env.qual none .none (some env)) (fun cenv s₄ =>
      codeC (model prog w) A (.compStart (.ListComp elt [⟨target, iter, ifs, 0⟩] scope pos) 0 (.ref it) acc { cenv with scope := relabel scope env }) (RR acc cenv.locals) s₄) E s₃) E s₂ := by
  refine wpAny_newObj_type (wpAny_newFunctionEnv hcell (by intro y hy; simp at hy) (fun h₁ hns₁ hsb₁ => ?_) hkind)
  dsimp only at hns₁ hsb₁ ⊢
  generalize hH2 : s₂.heap.push { cls := .type "list", dict := none, data := .seq ([] : List Value).toArray } = H2 at hns₁ hsb₁ ⊢
  have hC : H2.objs.size = s₂.heap.objs.size + 1 := by rw [← hH2, Heap.size_push]
  have hDC : s₂.heap.objs.size ≠ H2.objs.size := by rw [hC]; exact Nat.ne_of_lt (Nat.lt_succ_self _)
  have below : ∀ b, b < s₂.heap.objs.size → b ≠ H2.objs.size ∧ b ≠ s₂.heap.objs.size := fun b hb => ⟨by rw [hC]; exact Nat.ne_of_lt (Nat.lt_succ_of_lt hb), Nat.ne_of_lt hb⟩
  have hDf : s₂.heap.objs.size ∉ fp := fun hm => Nat.lt_irrefl _ (hfp _ hm)
  have hCf : H2.objs.size ∉ fp := fun hm => by have := hfp _ hm; rw [hC] at this; exact Nat.lt_irrefl _ (Nat.lt_of_succ_lt this)
  have old : ∀ b o, s₂.heap.get? b = some o → h₁.get? b = some o := fun b o e => hsb₁.extBut b o (below b (Heap.lt_size e)).1 (Heap.get?_push_of_some _ (hH2 ▸ Heap.get?_push_of_some _ e))
  have hacc : h₁.get? s₂.heap.objs.size = some (lst []) := hsb₁.extBut _ _ hDC (Heap.get?_push_of_some _ (hH2 ▸ Heap.get?_push_size _ rfl))
  have hst₁ : St 0 h₁ := W.frame _ _ _ hst fun b _ o e => old b o e
  have fresh : ∀ a, s₂.heap.objs.size ≤ a → s₂.heap.get? a = none := fun a ha => Heap.get?_none_of_le ha
  have fresh₀ : ∀ a, s₂.heap.objs.size ≤ a → h₀.get? a = none := fun a ha => by
    cases e : h₀.get? a with
    | none => rfl
    | some o' => have := F.keep a o' e; rw [fresh a ha] at this; cases this
  have hD₀ : h₀.get? s₂.heap.objs.size = none := fresh₀ _ (Nat.le_refl _)
  have hC₀ : h₀.get? H2.objs.size = none := fresh₀ _ (by rw [hC]; exact Nat.le_succ _)
  have hLlt : L < s₂.heap.objs.size := F.ns.lt
  have hDL : s₂.heap.objs.size ≠ L := Ne.symm (below L hLlt).2
  have hCL : H2.objs.size ≠ L := Ne.symm (below L hLlt).1
  have hCs : s₂.heap.get? H2.objs.size = none := fresh _ (by rw [hC]; exact Nat.le_succ _)
  have hDs : s₂.heap.get? s₂.heap.objs.size = none := fresh _ (Nat.le_refl _)
  have hDw : s₂.heap.objs.size ∉ wr := fun q => hDf (W.sub _ q)
  have hCw : H2.objs.size ∉ wr := fun q => hCf (W.sub _ q)
  have hLw : L ∉ wr := fun q => hLf (W.sub _ q)
  have frw : ∀ {h h' : Heap}, Fr h₀ L h m → (∀ b o, b ∉ wr → b ≠ H2.objs.size → h.get? b = some o → h'.get? b = some o) → Fr h₀ L h' m := fun F' hk =>
    ⟨F'.ns.at' fun o e => hk L o hLw hCL.symm e, fun b o e => hk b o (fun q => by rw [hw₀ b q] at e; cases e) (fun q => by rw [q, hC₀] at e; cases e) (F'.keep b o e), F'.above⟩
  generalize hDd : s₂.heap.objs.size = D at *
  generalize hCd : H2.objs.size = C at *
  have loop : ∀ s₃ : Shared, s₃ = { s₂ with heap := h₁, toks := s₂.toks + ([] : List (Str × Value)).length } →
      codeC (model prog w) A (.compLoop (.ListComp elt [⟨target, iter, ifs, 0⟩] scope pos) 0 (.ref it) (.ref D) (compEnvC scope cl C env)) (RR (.ref D) C) s₃ := by
    rintro s₃ rfl
    obtain ⟨I, hI⟩ : ∃ I : Nat → Shared → Prop, I = fun k s' => ∃ h' tk i ys m', s' = { s₂ with heap := h', toks := tk } ∧ i ≤ n ∧ k = n + 1 - i ∧ ys.length ≤ i ∧ St i h' ∧ Fr h₀ L h' m ∧ h'.Ns C m' ∧ h'.get? D = some (lst ys) ∧ J i ys (Facts' h' (L :: C :: D :: wr)) := ⟨_, rfl⟩
    have I0 : I (n + 1) { s₂ with heap := h₁, toks := s₂.toks + ([] : List (Str × Value)).length } := by
      rw [hI]
      refine ⟨h₁, _, 0, [], _, rfl, Nat.zero_le _, rfl, Nat.le_refl _, hst₁, F.keeps old, hns₁, hacc, hJ _ _ _ _ (fun b o x => ⟨old b o x.1, fun q => ?_⟩) J0⟩
      rcases List.mem_cons.mp q with r | q
      · exact x.2 (r ▸ .head _)
      · rcases List.mem_cons.mp q with r | q
        · have z := x.1; rw [r, hCs] at z; cases z
        · rcases List.mem_cons.mp q with r | q
          · have z := x.1; rw [r, hDs] at z; cases z
          · exact x.2 (.tail _ q)
    refine codeC_compLoop_tests I ?_ (n + 1) I0
    · intro k s' hs'
      rw [hI] at hs'
      obtain ⟨h', tk, i, ys, m', rfl, hi, rfl, hyl, hst', F', hn', oD, hj⟩ := hs'
      by_cases hlt : i < n
      · refine wpAny_mono (W.next i (compEnvC scope cl C env) m' _ (fun s₂' => wpC (model prog w) A (testsOf ifs (compEnvC scope cl C env)) (fun ok s₃ => if ok = true then wpC (model prog w) A (eval elt (compEnvC scope cl C env)) (fun x s₄ => wpAny (model prog w) A (call (.builtin "list.append") [.ref D, x]) (fun _ s₅ => ∃ m, m < n + 1 - i ∧ I m s₅) NoErr s₄) NoErr s₃ else ∃ m, m < n + 1 - i ∧ I m s₃) NoErr s₂') (hOk C) hlt hst' hCf hn' fun h₃ tk₃ m₃ hst₃ hn₃ htg hk₃ => ?g) (fun r s₁ hr => ?f) fun _ _ f => f
        case f =>
          cases r with
          | none => exact hr.elim
          | some v => exact hr
        have oD₃ := hk₃ D _ hDw (Ne.symm (Ne.symm hDC)) oD
        have F₃ := frw F' hk₃
        have hj₃ : J i ys (Facts' h₃ (L :: C :: D :: wr)) := hJ _ _ _ _ (fun b o x => ⟨hk₃ b o (mem3 x.2).2.2.2 (mem3 x.2).2.1 x.1, x.2⟩) hj
        have fin : ∀ ys' s'', ys'.length ≤ i + 1 → s''.heap.get? D = some (lst ys') → (∃ s₀, CTurned h₀ L m s₂ h₃ (L :: C :: D :: wr) (J (i + 1) ys') s₀ ∧ Heap.SameBut D s₀.heap s''.heap ∧ ∃ tk, s'' = { s₂ with heap := s''.heap, toks := tk }) →
            ∃ m, m < n + 1 - i ∧ I m s'' := by
          rintro ys' ⟨h₅, g₅, d₅, tk₅, os₅⟩ hl5 oD₅ ⟨s₀, ⟨h₄, tk₄, rfl, F₄, k₄, hj₄⟩, hs, tk5, e5⟩
          refine ⟨n + 1 - (i + 1), by omega, ?_⟩
          rw [hI]
          refine ⟨h₅, tk5, i + 1, ys', m₃, e5, hlt, rfl, hl5, ?_, F₄.change hs hDL hD₀, ?_, oD₅, hJ _ _ _ _ (fun b o x => ⟨hs.extBut b o (mem3 x.2).2.2.1 x.1, x.2⟩) hj₄⟩
          · refine W.frame _ _ _ hst₃ fun b hb o e => hs.extBut b o (fun q => hDf (q ▸ hb)) (k₄ b o (fun q => hLf (q ▸ hb)) e)
          · exact (hn₃.at' fun o e => k₄ C o hCL e).sameBut hs (Ne.symm hDC)
        refine wpC_mono (turn i ys C D h₃ tk₃ m₃ hlt hyl hj₃ F₃ hn₃ htg hCL hDL (Ne.symm hDC) hC₀ hD₀ oD₃ hst₃ (W.notList _ _ hst₃)) (fun ok s₄ h₄ => ?_) fun _ _ f => f
        cases ok with
        | false =>
          simp only [Bool.false_eq_true, if_false] at h₄ ⊢
          obtain ⟨h₅, tk₅, rfl, F₅, k₅, hj₅⟩ := h₄
          exact fin ys _ (Nat.le_succ_of_le hyl) (k₅ D _ hDL oD₃) ⟨_, ⟨h₅, tk₅, rfl, F₅, k₅, hj₅⟩, ⟨rfl, fun _ _ => rfl⟩, tk₅, rfl⟩
        | true =>
          simp only [if_true] at h₄ ⊢
          refine wpC_mono h₄ (fun y s₅ h₅ => ?_) fun _ _ f => f
          obtain ⟨h₅, tk₅, rfl, F₅, k₅, hj₅⟩ := h₅
          refine append_at (hsz := by show ys.toArray.size ≤ sizeLine; rw [List.size_toArray]; exact Nat.le_trans (Nat.le_trans hyl hi) hsz) (k₅ D _ hDL oD₃) fun h₆ hs₆ hD₆ => ?_
          exact fin (ys ++ [y]) _ (by rw [List.length_append, List.length_singleton]; exact Nat.succ_le_succ hyl) (hD₆.trans (congrArg some (lst_snoc ys y))) ⟨_, ⟨h₅, tk₅, rfl, F₅, k₅, hj₅⟩, hs₆, tk₅, rfl⟩
      · obtain rfl : i = n := Nat.le_antisymm hi (Nat.not_lt.mp hlt)
        refine W.done _ _ _ hst' fun h₂ tk₂ hk₂ => ?_
        exact hRR D C h₂ tk₂ m' ys (frw F' fun b o h1 _ e => hk₂ b o h1 e) (hk₂ D _ hDw oD) hCL hDL (Ne.symm hDC) hCs hDs (hn'.at' fun o e => hk₂ _ o hCw e) (hJ _ _ _ _ (fun b o x => ⟨hk₂ b o (mem3 x.2).2.2.2 x.1, x.2⟩) hj)
  exact codeC_compStart_list (loop _ rfl) (W.self 0 _ _ _ hst₁ (loop _ rfl))
end
end Mine
end
section
open PySem PySem.W PyProof.Rows PySem.Spec PySem.Calls PyProof.Rows.LCg
open Sem (wp)
set_option Elab.async false
set_option maxRecDepth 100000
set_option maxHeartbeats 8000000
namespace Mine
/-- all that a comprehension's loop wants -/
inductive CompGo (prog : Program) (w : World) (A : Around) (h₀ : Heap) (L : Addr) (env : Env) (elt target : Expr) (ifs : List Expr) (scope : Scope) (cl : List (Str × Addr)) (Fin : (Str → Option Value) → (List Value → (Addr → Obj → Prop) → Prop) → Shared → Prop) : Value → Shared → Prop
  | mk {s₂ : Shared} {it : Addr} {fp wr : List Addr} {n : Nat} {Tgt : Nat → (Str → Option Value) → Prop} {St : Nat → Heap → Prop} {Ok : Env → Prop} {J : Nat → List Value → (Addr → Obj → Prop) → Prop} {m : Str → Option Value}
    (W : Front prog w A target it fp wr n Tgt St Ok) (hsz : n ≤ sizeLine) (hOk : ∀ C, Ok (compEnvC scope cl C env))
    (hst : St 0 s₂.heap) (hfp : ∀ b ∈ fp, b < s₂.heap.objs.size) (F : Fr h₀ L s₂.heap m) (hLf : L ∉ fp) (hw₀ : ∀ b ∈ wr, h₀.get? b = none)
    (hJ : ∀ i ys (f g : Addr → Obj → Prop), (∀ b o, f b o → g b o) → J i ys f → J i ys g) (J0 : J 0 [] (Facts' s₂.heap (L :: wr)))
    (turn : ∀ i ys C D h tk m₂, i < n → ys.length ≤ i → J i ys (Facts' h (L :: C :: D :: wr)) → Fr h₀ L h m → h.Ns C m₂ → Tgt i m₂ → C ≠ L → D ≠ L → C ≠ D → h₀.get? C = none → h₀.get? D = none → h.get? D = some (lst ys) → St (i + 1) h → (∀ b ∈ wr, ∃ o, h.get? b = some o ∧ o.cls ≠ .type "list") →
      wpC (model prog w) A (testsOf ifs (compEnvC scope cl C env)) (fun ok s₃ => if ok = true then wpC (model prog w) A (eval elt (compEnvC scope cl C env)) (fun y s₄ => CTurned h₀ L m s₂ h (L :: C :: D :: wr) (J (i + 1) (ys ++ [y])) s₄) NoErr s₃
        else CTurned h₀ L m s₂ h (L :: C :: D :: wr) (J (i + 1) ys) s₃) NoErr { s₂ with heap := h, toks := tk })
    (fin : Fin m (J n) s₂) : CompGo prog w A h₀ L env elt target ifs scope cl Fin (.ref it) s₂
noncomputable abbrev FinStore (h₀ : Heap) (L : Addr) (y : Str) (Q : Flow → Shared → Prop) : (Str → Option Value) → (List Value → (Addr → Obj → Prop) → Prop) → Shared → Prop := fun m Jn s₂ =>
  ∀ D h tk ys, Fr h₀ L h (fun z => if z = y then some (.ref D) else m z) → h.get? D = some (lst ys) → D ≠ L → h₀.get? D = none → Jn ys (Facts' h [L, D]) → Q .next { s₂ with heap := h, toks := tk }
noncomputable abbrev FinVal (h₀ : Heap) (L : Addr) (Q : Value → Shared → Prop) : (Str → Option Value) → (List Value → (Addr → Obj → Prop) → Prop) → Shared → Prop := fun m Jn s₂ =>
  ∀ D h tk ys, Fr h₀ L h m → h.get? D = some (lst ys) → D ≠ L → h₀.get? D = none → s₂.heap.get? D = none → Jn ys (Facts' h [L, D]) → Q (.ref D) { s₂ with heap := h, toks := tk }
section
variable {prog : Program} {w : World} {A : Around} {E : Value → Shared → Prop} {s : Shared} {h₀ : Heap} {L : Addr} {env : Env}
theorem none_keep {h₀ h : Heap} {m : Str → Option Value} {D : Addr} (F : Fr h₀ L h m) (e : h.get? D = none) : h₀.get? D = none := by
  cases q : h₀.get? D with
  | none => rfl
  | some o => have := F.keep _ _ q; rw [e] at this; cases this
theorem Assign_CompC {elt iter target : Expr} {ifs : List Expr} {y : Str} {py : Pos} {scope : Scope} {cl : List (Str × Addr)} {pos spos : Pos} {Q : Flow → Shared → Prop} (hLe : env.locals = L)
    (hsw : swapsWith (.ListComp elt [⟨target, iter, ifs, 0⟩] scope pos) (some (.Name y py)) spos.line env = pure true)
    (hclos : closureFor scope env = pure cl) (hcell : ∀ z ∈ scope.names, z.2 ≠ .cell) (hkind : scope.kind = .function)
    (hnames : ∀ z ∈ scope.names, z.2 = .local → scope.names.lookup z.1 = some .local)
    (hy : env.kindOf y = some .local) (hp : (env.scope.kind == .class || (env.scope.kind == .module && env.locals != env.globals)) = false)
    (h : wpAny (model prog w) A (eval iter env) (fun xv s₁ => wpAny (model prog w) A (pyIter xv) (CompGo prog w A h₀ L env elt target ifs scope cl (FinStore h₀ L y Q)) E s₁) E s)
    (hs : ∀ x, foldedSetIterable iter env x = pure x := by intro _; rfl) :
    wpC (model prog w) A (exec (.Assign [.Name y py] (.ListComp elt [⟨target, iter, ifs, 0⟩] scope pos) spos) env) Q E s := by
  subst hLe
  rw [exec_Assign_Name_used _ _ _ _ hsw]
  refine wpC_abind (wpAny_standAt (wpC_bind ?_))
  show wpC _ A (do let _ ← comprehension (.ListComp elt [⟨target, iter, ifs, 0⟩] scope pos) scope env _ (newList []) false (eval iter env) (some (assign (.Name y py) env))) _ _ s
  refine wpC_bind (wpC_mono (wpC_comprehension_free (use := some (assign (.Name y py) env)) (Q := fun _ s' => Q .next s') rfl hs hclos hkind hnames
    (wpAny_mono h (fun xv s₁ h₁ => wpAny_mono h₁ (fun itv s₂ h₂ => ?_) fun _ _ e => e) fun _ _ e => e)) (fun _ s' hq => wpC_pure (wpC_pure hq)) fun _ _ e => e)
  obtain ⟨W, hsz, hOk, hst, hfp, F, hLf, hw₀, hJ, J0, turn, fin⟩ := h₂
  refine blockC (E := E) (RR := fun acc C r s' => match r with | .ok f => compPost (model prog w) A E (some (assign (.Name y py) env)) (fun _ s' => Q .next s') acc C (.ok f) s' | .error _ => False) W hsz hOk hcell hkind hst hfp F hLf hw₀ hJ J0 turn ?_
  intro D C h' tk m' ys F' oD hCL hDL hCD hCs hDs hnC hj
  show wpAny _ A (assign (.Name y py) env (.ref D)) _ _ _
  refine wpAny_assign_Name (wpAny_storeName_local hy F'.ns (fun h₂ hn₂ hs₂ => ?_) hp)
  refine ⟨m', hnC.sameBut hs₂ hCL, fun h₃ hs₃ => ?_⟩
  have F₂ := F'.set hn₂ hs₂
  refine fin D h₃ _ ys (F₂.change hs₃ hCL (none_keep F hCs)) (hs₃.extBut _ _ hCD.symm (hs₂.extBut _ _ hDL oD)) hDL (none_keep F hDs) (hJ _ _ _ _ (fun b o x => ?_) hj)
  have z := mem3 x.2
  exact ⟨hs₃.extBut _ _ z.2.1 (hs₂.extBut _ _ z.1 x.1), by simp [z.1, z.2.2.1]⟩
theorem ListCompC {elt iter target : Expr} {ifs : List Expr} {scope : Scope} {cl : List (Str × Addr)} {pos : Pos} {Q : Value → Shared → Prop}
    (hclos : closureFor scope env = pure cl) (hcell : ∀ z ∈ scope.names, z.2 ≠ .cell) (hkind : scope.kind = .function)
    (hnames : ∀ z ∈ scope.names, z.2 = .local → scope.names.lookup z.1 = some .local)
    (h : wpAny (model prog w) A (eval iter env) (fun xv s₁ => wpAny (model prog w) A (pyIter xv) (CompGo prog w A h₀ L env elt target ifs scope cl (FinVal h₀ L Q)) E s₁) E s)
    (hs : ∀ x, foldedSetIterable iter env x = pure x := by intro _; rfl) :
    wpC (model prog w) A (eval (.ListComp elt [⟨target, iter, ifs, 0⟩] scope pos) env) Q E s := by
  rw [eval_ListComp]
  refine wpC_comprehension_free (use := none) (Q := Q) rfl hs hclos hkind hnames (wpAny_mono h (fun xv s₁ h₁ => wpAny_mono h₁ (fun itv s₂ h₂ => ?_) fun _ _ e => e) fun _ _ e => e)
  obtain ⟨W, hsz, hOk, hst, hfp, F, hLf, hw₀, hJ, J0, turn, fin⟩ := h₂
  refine blockC (E := E) (RR := fun acc C r s' => match r with | .ok f => compPost (model prog w) A E none Q acc C (.ok f) s' | .error _ => False) W hsz hOk hcell hkind hst hfp F hLf hw₀ hJ J0 turn ?_
  intro D C h' tk m' ys F' oD hCL hDL hCD hCs hDs hnC hj
  refine ⟨m', hnC, fun h₃ hs₃ => ?_⟩
  refine fin D h₃ _ ys (F'.change hs₃ hCL (none_keep F hCs)) (hs₃.extBut _ _ hCD.symm oD) hDL (none_keep F hDs) hDs (hJ _ _ _ _ (fun b o x => ?_) hj)
  have z := mem3 x.2
  exact ⟨hs₃.extBut _ _ z.2.1 x.1, by simp [z.1, z.2.2.1]⟩
end
end Mine
end
section
open PySem PySem.W PyProof.Rows PySem.Spec PySem.Calls PyProof.Rows.LCg
open Sem (wp)
set_option Elab.async false
set_option maxRecDepth 100000
set_option maxHeartbeats 8000000
namespace Mine
section
variable {α β : Type} {M : Model} {A : Around} {E : Value → Shared → Prop} {s : Shared} {env : Env}
theorem wpAny_of_any {t : Sem α} {Q : α → Shared → Prop} (h : wpAny M A t Q E s) : wpAny M A t Q E s := h
theorem wpAny_abind {m : Sem α} {f : α → Sem β} {Q : β → Shared → Prop} (h : wpAny M A m (fun a s' => wpAny M A (f a) Q E s') E s) : wpAny M A (m >>= f) Q E s := wpAny_bind h
theorem wpAny_False {t : Sem α} {Q : α → Shared → Prop} (h : wpAny M A t Q (fun _ _ => False) s) : wpAny M A t Q E s := wpAny_mono h (fun _ _ q => q) fun _ _ f => f.elim
theorem wpAny_run0 {c : Code} {Q : Flow → Shared → Prop} (hc : codeAny M A c (fun r s' => match r with | .ok f => Q f s' | .error e => E e s') s) : wpAny M A (run c) Q E s := wpAny_run hc
/-- a comprehension whose loop is walked in contexts that hold the claim's caller -/
theorem wpAny_comprehension_freeM {e : Expr} {scope : Scope} {pos : Pos} {newAcc first : Sem Value} {g : Comprehension} {gs : List Comprehension} {cl : List (Str × Addr)} {use : Option (Value → Sem Unit)}
    {Q : Value → Shared → Prop}
    (hcl : clausesOf e = g :: gs) (hs : ∀ x, foldedSetIterable g.iter env x = pure x) (hclos : closureFor scope env = pure cl)
    (hkind : scope.kind = .function) (hnames : ∀ x ∈ scope.names, x.2 = .local → scope.names.lookup x.1 = some .local)
    (h : wpAny M A first (fun x s₁ => wpAny M A (pyIter x) (fun it s₂ => wpAny M A newAcc (fun acc s₃ =>
      wpAny M A (newFunctionEnv scope env.globals cl [] env.qual none .none (some env)) (fun cenv s₄ =>
        codeAny M A (.compStart e 0 it acc { cenv with scope := relabel scope env }) (fun r s' => match r with | .ok f => compPost M A E use Q acc cenv.locals (.ok f) s' | .error _ => False) s₄) E s₃) E s₂) E s₁) E s) :
    wpAny M A (comprehension e scope env pos newAcc false first use) Q E s := by
  unfold comprehension
  rw [hclos, hcl]
  refine wpAny_abind (wpAny_mono h (fun x s₁ h₁ => wpAny_abind (wpAny_standAt (wpAny_bind (wpAny_of_eq (hs x) (wpAny_abind (wpAny_holding (wpAny_mono h₁ (fun it s₂ h₂ =>
    wpAny_standIf (wpAny_abind (wpAny_mono h₂ (fun acc s₃ h₃ => wpAny_bind (wpAny_pure (wpAny_abind (wpAny_mono h₃ (fun cenv s₄ h₄ => ?_) fun _ _ h' => h')))) fun _ _ h' => h')))
      fun _ _ h' => h'))))))) fun _ _ h' => h')
  dsimp only
  have hv : ∀ x ∈ (scope.names.filter fun x => (x.2 == .local || x.2 == .cell) && x.1 != (".0" : Str)).reverse, x.2 = .local →
      Env.kindOf { cenv with scope := relabel scope env } x.1 = some .local := fun x hx hl => lookup_relabel_local (hnames x (List.mem_filter.mp (List.mem_reverse.mp hx)).1 hl)
  have hv' : ∀ x ∈ (scope.names.filter fun x => (x.2 == .local || x.2 == .cell) && x.1 != (".0" : Str)).reverse.drop 1 ++ (scope.names.filter fun x => (x.2 == .local || x.2 == .cell) && x.1 != (".0" : Str)).reverse.take 1,
      x.2 = .local → Env.kindOf { cenv with scope := relabel scope env } x.1 = some .local := fun x hx hl => by
    rcases List.mem_append.mp hx with h1 | h1
    · exact hv x (List.mem_of_mem_drop h1) hl
    · exact hv x (List.mem_of_mem_take h1) hl
  refine wpAny_holding (wpAny_bind (wpAny_attempt (wpAny_holding (wpAny_run0 (codeAny_mono h₄ fun r s' hr => ?_)))))
  cases r with
  | ok f =>
    cases use with
    | none =>
      obtain ⟨m, hn, hr⟩ := hr
      exact wpAny_of_any (wpAny_bind (wpAny_holding (wpAny_comp_letGo (cenv := { cenv with scope := relabel scope env }) hkind _ s' m hv hn fun h' m' _ hs' => wpAny_pure (hr h' hs'))))
    | some u =>
      refine wpAny_of_any (wpAny_bind (wpAny_rule (wpAny_bind (wpAny_holding (wpAny_mono hr (fun _ s'' hr' => ?_) fun _ _ h' => h')))))
      obtain ⟨m, hn, hr'⟩ := hr'
      exact wpAny_bind (wpAny_comp_letGo (cenv := { cenv with scope := relabel scope env }) hkind _ s'' m hv' hn fun h' m' _ hs' => wpAny_pure (hr' h' hs'))
  | error x => exact hr.elim
end
section
variable {prog : Program} {w : World} {A : Around} {E : Value → Shared → Prop} {R : Result → Shared → Prop} {s : Shared}
theorem codeAny_compStart_listM {elt target iter ifs rest scope pos it acc env}
    (h0 : codeAny (model prog w) A (.compLoop (.ListComp elt (⟨target, iter, ifs, 0⟩ :: rest) scope pos) 0 it acc env) R s)
    (h : wpAny (model prog w) A (pyIter it) (fun it' s' => codeAny (model prog w) A (.compLoop (.ListComp elt (⟨target, iter, ifs, 0⟩ :: rest) scope pos) 0 it' acc env) R s')
      (fun _ _ => False) s) :
    codeAny (model prog w) A (.compStart (.ListComp elt (⟨target, iter, ifs, 0⟩ :: rest) scope pos) 0 it acc env) R s := by
  refine codeAny_of_tree ?_
  show wpAny _ _ ((compStart (.ListComp elt (⟨target, iter, ifs, 0⟩ :: rest) scope pos) 0 it acc env).onRaise (fun x => do noteFrame x env; standAt theWindowsPlace)) _ _ s
  refine wpAny_onRaise (wpAny_False ?_)
  unfold compStart
  show wpAny _ _ (ask >>= _) _ _ s
  refine wpAny_of_any (wpAny_bind (wpAny_askSetting (wpAny_ite ?_)))
  split
  · first
      | exact wpAny_bind (wpAny_pure (wpAny_pure (And.intro rfl h0)))
      | exact wpAny_pure (And.intro rfl h0)
  · first
      | exact wpAny_bind (wpAny_rule (wpAny_bind (wpAny_standAt (wpAny_bind (wpAny_mono h (fun it' s' h' => wpAny_pure (And.intro rfl h')) fun _ _ x => x)))))
      | (refine wpAny_bind (wpAny_rule ?_); show wpAny _ _ (standAt iter.pos >>= _) _ _ s; exact wpAny_bind (wpAny_standAt (wpAny_bind (wpAny_mono h (fun it' s' h' => wpAny_pure (And.intro rfl h')) fun _ _ x => x))))
theorem codeAny_compLoop_testsM {elt target iter : Expr} {ifs : List Expr} {scope : Scope} {pos : Pos} {it acc : Value} {env : Env} (I : Nat → Shared → Prop)
    (turn : ∀ n s, I n s → wpAny (model prog w) A (pyNext it) (fun r s₁ => match r with
      | none => R (.ok .next) s₁
      | some v => wpAny (model prog w) A (letOwnedTupleGo target it v) (fun _ s₁' => wpAny (model prog w) A (assign target env v) (fun _ s₂ =>
          wpAny (model prog w) A (testsOf ifs env) (fun ok s₃ =>
            if ok = true then wpAny (model prog w) A (eval elt env) (fun x s₄ =>
              wpAny (model prog w) A (call (.builtin "list.append") [acc, x]) (fun _ s₅ => ∃ m, m < n ∧ I m s₅) NoErr s₄) NoErr s₃
            else ∃ m, m < n ∧ I m s₃) NoErr s₂) NoErr s₁') NoErr s₁) NoErr s)
    (n : Nat) (h : I n s) :
    codeAny (model prog w) A (.compLoop (.ListComp elt [⟨target, iter, ifs, 0⟩] scope pos) 0 it acc env) R s := by
  refine codeAny_loop rfl I (fun n s hI => ?_) n h
  show wpAny _ A ((compTurn (.ListComp elt [⟨target, iter, ifs, 0⟩] scope pos) 0 it acc env).onRaise (fun x => do noteFrame x env; theTreesLotGoes x)) _ _ s
  refine wpAny_onRaise (wpAny_False ?_)
  rw [compTurn_list]
  refine wpAny_abind (wpAny_standAt (wpAny_abind (wpAny_mono (turn n s hI) (fun r s₁ h₁ => ?_) fun _ _ h' => h'.elim)))
  cases r with
  | none => exact wpAny_pure h₁
  | some v =>
    refine wpAny_abind (wpAny_mono h₁ (fun _ s₁' h₁' => ?_) fun _ _ h' => h'.elim)
    refine wpAny_abind (wpAny_mono h₁' (fun _ s₂ h₂ => wpAny_bind (wpAny_mono h₂ (fun ok s₃ h₃ => ?_) fun _ _ h' => h'.elim)) fun _ _ h' => h'.elim)
    cases ok with
    | false => exact wpAny_pure ⟨rfl, h₃⟩
    | true =>
      exact wpAny_bind (wpAny_bind (wpAny_mono h₃ (fun x s₄ h₄ => wpAny_abind (wpAny_mono h₄ (fun _ s₅ h₅ => wpAny_pure (wpAny_pure ⟨rfl, h₅⟩)) fun _ _ h' => h'.elim)) fun _ _ h' => h'.elim))
end
section
variable {prog : Program} {w : World} {A : Around} {E : Value → Shared → Prop} {s : Shared} {h₀ : Heap} {L : Addr} {m : Str → Option Value} {env : Env}
theorem blockA {elt iter target : Expr} {ifs : List Expr} {scope : Scope} {cl : List (Str × Addr)} {pos : Pos} {s₂ : Shared} {it : Addr} {fp wr : List Addr} {n : Nat} {Tgt : Nat → (Str → Option Value) → Prop} {St : Nat → Heap → Prop} {Ok : Env → Prop}
    {J : Nat → List Value → (Addr → Obj → Prop) → Prop} {RR : Value → Addr → Result → Shared → Prop}
    (W : Front prog w A target it fp wr n Tgt St Ok) (hsz : n ≤ sizeLine) (hOk : ∀ C, Ok (compEnvC scope cl C env)) (hcell : ∀ y ∈ scope.names, y.2 ≠ .cell) (hkind : scope.kind = .function)
    (hst : St 0 s₂.heap) (hfp : ∀ b ∈ fp, b < s₂.heap.objs.size) (F : Fr h₀ L s₂.heap m) (hLf : L ∉ fp) (hw₀ : ∀ b ∈ wr, h₀.get? b = none)
    (hJ : ∀ i ys (f g : Addr → Obj → Prop), (∀ b o, f b o → g b o) → J i ys f → J i ys g) (J0 : J 0 [] (Facts' s₂.heap (L :: wr)))
    (turn : ∀ i ys C D h tk m₂, i < n → ys.length ≤ i → J i ys (Facts' h (L :: C :: D :: wr)) → Fr h₀ L h m → h.Ns C m₂ → Tgt i m₂ → C ≠ L → D ≠ L → C ≠ D → h₀.get? C = none → h₀.get? D = none → h.get? D = some (lst ys) → St (i + 1) h → (∀ b ∈ wr, ∃ o, h.get? b = some o ∧ o.cls ≠ .type "list") →
      wpAny (model prog w) A (testsOf ifs (compEnvC scope cl C env)) (fun ok s₃ => if ok = true then wpAny (model prog w) A (eval elt (compEnvC scope cl C env)) (fun y s₄ => CTurned h₀ L m s₂ h (L :: C :: D :: wr) (J (i + 1) (ys ++ [y])) s₄) NoErr s₃
        else CTurned h₀ L m s₂ h (L :: C :: D :: wr) (J (i + 1) ys) s₃) NoErr { s₂ with heap := h, toks := tk })
    (hRR : ∀ D C h tk m' ys, Fr h₀ L h m → h.get? D = some (lst ys) → C ≠ L → D ≠ L → C ≠ D → s₂.heap.get? C = none → s₂.heap.get? D = none → h.Ns C m' → J n ys (Facts' h (L :: C :: D :: wr)) → RR (.ref D) C (.ok .next) { s₂ with heap := h, toks := tk }) :
    wpAny (model prog w) A (newList []) (fun acc s₃ => wpAny (model prog w) A (newFunctionEnv scope env.globals cl [] env.qual none .none (some env)) (fun cenv s₄ =>
      codeAny (model prog w) A (.compStart (.ListComp elt [⟨target, iter, ifs, 0⟩] scope pos) 0 (.ref it) acc { cenv with scope := relabel scope env }) (RR acc cenv.locals) s₄) E s₃) E s₂ := by
  refine wpAny_newObj_type (wpAny_newFunctionEnv hcell (by intro y hy; simp at hy) (fun h₁ hns₁ hsb₁ => ?_) hkind)
  dsimp only at hns₁ hsb₁ ⊢
  generalize hH2 : s₂.heap.push { cls := .type "list", dict := none, data := .seq ([] : List Value).toArray } = H2 at hns₁ hsb₁ ⊢
  have hC : H2.objs.size = s₂.heap.objs.size + 1 := by rw [← hH2, Heap.size_push]
  have hDC : s₂.heap.objs.size ≠ H2.objs.size := by rw [hC]; exact Nat.ne_of_lt (Nat.lt_succ_self _)
  have below : ∀ b, b < s₂.heap.objs.size → b ≠ H2.objs.size ∧ b ≠ s₂.heap.objs.size := fun b hb => ⟨by rw [hC]; exact Nat.ne_of_lt (Nat.lt_succ_of_lt hb), Nat.ne_of_lt hb⟩
  have hDf : s₂.heap.objs.size ∉ fp := fun hm => Nat.lt_irrefl _ (hfp _ hm)
  have hCf : H2.objs.size ∉ fp := fun hm => by have := hfp _ hm; rw [hC] at this; exact Nat.lt_irrefl _ (Nat.lt_of_succ_lt this)
  have old : ∀ b o, s₂.heap.get? b = some o → h₁.get? b = some o := fun b o e => hsb₁.extBut b o (below b (Heap.lt_size e)).1 (Heap.get?_push_of_some _ (hH2 ▸ Heap.get?_push_of_some _ e))
  have hacc : h₁.get? s₂.heap.objs.size = some (lst []) := hsb₁.extBut _ _ hDC (Heap.get?_push_of_some _ (hH2 ▸ Heap.get?_push_size _ rfl))
  have hst₁ : St 0 h₁ := W.frame _ _ _ hst fun b _ o e => old b o e
  have fresh : ∀ a, s₂.heap.objs.size ≤ a → s₂.heap.get? a = none := fun a ha => Heap.get?_none_of_le ha
  have fresh₀ : ∀ a, s₂.heap.objs.size ≤ a → h₀.get? a = none := fun a ha => by
    cases e : h₀.get? a with
    | none => rfl
    | some o' => have := F.keep a o' e; rw [fresh a ha] at this; cases this
  have hD₀ : h₀.get? s₂.heap.objs.size = none := fresh₀ _ (Nat.le_refl _)
  have hC₀ : h₀.get? H2.objs.size = none := fresh₀ _ (by rw [hC]; exact Nat.le_succ _)
  have hLlt : L < s₂.heap.objs.size := F.ns.lt
  have hDL : s₂.heap.objs.size ≠ L := Ne.symm (below L hLlt).2
  have hCL : H2.objs.size ≠ L := Ne.symm (below L hLlt).1
  have hCs : s₂.heap.get? H2.objs.size = none := fresh _ (by rw [hC]; exact Nat.le_succ _)
  have hDs : s₂.heap.get? s₂.heap.objs.size = none := fresh _ (Nat.le_refl _)
  have hDw : s₂.heap.objs.size ∉ wr := fun q => hDf (W.sub _ q)
  have hCw : H2.objs.size ∉ wr := fun q => hCf (W.sub _ q)
  have hLw : L ∉ wr := fun q => hLf (W.sub _ q)
  have frw : ∀ {h h' : Heap}, Fr h₀ L h m → (∀ b o, b ∉ wr → b ≠ H2.objs.size → h.get? b = some o → h'.get? b = some o) → Fr h₀ L h' m := fun F' hk =>
    ⟨F'.ns.at' fun o e => hk L o hLw hCL.symm e, fun b o e => hk b o (fun q => by rw [hw₀ b q] at e; cases e) (fun q => by rw [q, hC₀] at e; cases e) (F'.keep b o e), F'.above⟩
  generalize hDd : s₂.heap.objs.size = D at *
  generalize hCd : H2.objs.size = C at *
  have loop : ∀ s₃ : Shared, s₃ = { s₂ with heap := h₁, toks := s₂.toks + ([] : List (Str × Value)).length } →
      codeAny (model prog w) A (.compLoop (.ListComp elt [⟨target, iter, ifs, 0⟩] scope pos) 0 (.ref it) (.ref D) (compEnvC scope cl C env)) (RR (.ref D) C) s₃ := by
    rintro s₃ rfl
    obtain ⟨I, hI⟩ : ∃ I : Nat → Shared → Prop, I = fun k s' => ∃ h' tk i ys m', s' = { s₂ with heap := h', toks := tk } ∧ i ≤ n ∧ k = n + 1 - i ∧ ys.length ≤ i ∧ St i h' ∧ Fr h₀ L h' m ∧ h'.Ns C m' ∧ h'.get? D = some (lst ys) ∧ J i ys (Facts' h' (L :: C :: D :: wr)) := ⟨_, rfl⟩
    have I0 : I (n + 1) { s₂ with heap := h₁, toks := s₂.toks + ([] : List (Str × Value)).length } := by
      rw [hI]
      refine ⟨h₁, _, 0, [], _, rfl, Nat.zero_le _, rfl, Nat.le_refl _, hst₁, F.keeps old, hns₁, hacc, hJ _ _ _ _ (fun b o x => ⟨old b o x.1, fun q => ?_⟩) J0⟩
      rcases List.mem_cons.mp q with r | q
      · exact x.2 (r ▸ .head _)
      · rcases List.mem_cons.mp q with r | q
        · have z := x.1; rw [r, hCs] at z; cases z
        · rcases List.mem_cons.mp q with r | q
          · have z := x.1; rw [r, hDs] at z; cases z
          · exact x.2 (.tail _ q)
    refine codeAny_compLoop_testsM I ?_ (n + 1) I0
    · intro k s' hs'
      rw [hI] at hs'
      obtain ⟨h', tk, i, ys, m', rfl, hi, rfl, hyl, hst', F', hn', oD, hj⟩ := hs'
      by_cases hlt : i < n
      · refine wpAny_mono (W.next i (compEnvC scope cl C env) m' _ (fun s₂' => wpAny (model prog w) A (testsOf ifs (compEnvC scope cl C env)) (fun ok s₃ => if ok = true then wpAny (model prog w) A (eval elt (compEnvC scope cl C env)) (fun x s₄ => wpAny (model prog w) A (call (.builtin "list.append") [.ref D, x]) (fun _ s₅ => ∃ m, m < n + 1 - i ∧ I m s₅) NoErr s₄) NoErr s₃ else ∃ m, m < n + 1 - i ∧ I m s₃) NoErr s₂') (hOk C) hlt hst' hCf hn' fun h₃ tk₃ m₃ hst₃ hn₃ htg hk₃ => ?g) (fun r s₁ hr => ?f) fun _ _ f => f
        case f =>
          cases r with
          | none => exact hr.elim
          | some v => exact hr
        have oD₃ := hk₃ D _ hDw (Ne.symm (Ne.symm hDC)) oD
        have F₃ := frw F' hk₃
        have hj₃ : J i ys (Facts' h₃ (L :: C :: D :: wr)) := hJ _ _ _ _ (fun b o x => ⟨hk₃ b o (mem3 x.2).2.2.2 (mem3 x.2).2.1 x.1, x.2⟩) hj
        have fin : ∀ ys' s'', ys'.length ≤ i + 1 → s''.heap.get? D = some (lst ys') → (∃ s₀, CTurned h₀ L m s₂ h₃ (L :: C :: D :: wr) (J (i + 1) ys') s₀ ∧ Heap.SameBut D s₀.heap s''.heap ∧ ∃ tk, s'' = { s₂ with heap := s''.heap, toks := tk }) →
            ∃ m, m < n + 1 - i ∧ I m s'' := by
          rintro ys' ⟨h₅, g₅, d₅, tk₅, os₅⟩ hl5 oD₅ ⟨s₀, ⟨h₄, tk₄, rfl, F₄, k₄, hj₄⟩, hs, tk5, e5⟩
          refine ⟨n + 1 - (i + 1), by omega, ?_⟩
          rw [hI]
          refine ⟨h₅, tk5, i + 1, ys', m₃, e5, hlt, rfl, hl5, ?_, F₄.change hs hDL hD₀, ?_, oD₅, hJ _ _ _ _ (fun b o x => ⟨hs.extBut b o (mem3 x.2).2.2.1 x.1, x.2⟩) hj₄⟩
          · refine W.frame _ _ _ hst₃ fun b hb o e => hs.extBut b o (fun q => hDf (q ▸ hb)) (k₄ b o (fun q => hLf (q ▸ hb)) e)
          · exact (hn₃.at' fun o e => k₄ C o hCL e).sameBut hs (Ne.symm hDC)
        refine wpAny_mono (turn i ys C D h₃ tk₃ m₃ hlt hyl hj₃ F₃ hn₃ htg hCL hDL (Ne.symm hDC) hC₀ hD₀ oD₃ hst₃ (W.notList _ _ hst₃)) (fun ok s₄ h₄ => ?_) fun _ _ f => f
        cases ok with
        | false =>
          simp only [Bool.false_eq_true, if_false] at h₄ ⊢
          obtain ⟨h₅, tk₅, rfl, F₅, k₅, hj₅⟩ := h₄
          exact fin ys _ (Nat.le_succ_of_le hyl) (k₅ D _ hDL oD₃) ⟨_, ⟨h₅, tk₅, rfl, F₅, k₅, hj₅⟩, ⟨rfl, fun _ _ => rfl⟩, tk₅, rfl⟩
        | true =>
          simp only [if_true] at h₄ ⊢
          refine wpAny_mono h₄ (fun y s₅ h₅ => ?_) fun _ _ f => f
          obtain ⟨h₅, tk₅, rfl, F₅, k₅, hj₅⟩ := h₅
          refine append_at (hsz := by show ys.toArray.size ≤ sizeLine; rw [List.size_toArray]; exact Nat.le_trans (Nat.le_trans hyl hi) hsz) (k₅ D _ hDL oD₃) fun h₆ hs₆ hD₆ => ?_
          exact fin (ys ++ [y]) _ (by rw [List.length_append, List.length_singleton]; exact Nat.succ_le_succ hyl) (hD₆.trans (congrArg some (lst_snoc ys y))) ⟨_, ⟨h₅, tk₅, rfl, F₅, k₅, hj₅⟩, hs₆, tk₅, rfl⟩
      · obtain rfl : i = n := Nat.le_antisymm hi (Nat.not_lt.mp hlt)
        refine W.done _ _ _ hst' fun h₂ tk₂ hk₂ => ?_
        exact hRR D C h₂ tk₂ m' ys (frw F' fun b o h1 _ e => hk₂ b o h1 e) (hk₂ D _ hDw oD) hCL hDL (Ne.symm hDC) hCs hDs (hn'.at' fun o e => hk₂ _ o hCw e) (hJ _ _ _ _ (fun b o x => ⟨hk₂ b o (mem3 x.2).2.2.2 x.1, x.2⟩) hj)
  exact codeAny_compStart_listM (loop _ rfl) (W.self 0 _ _ _ hst₁ (loop _ rfl))
end
/-- all that a comprehension's loop wants -/
inductive CompGoA (prog : Program) (w : World) (A : Around) (h₀ : Heap) (L : Addr) (env : Env) (elt target : Expr) (ifs : List Expr) (scope : Scope) (cl : List (Str × Addr)) (Fin : (Str → Option Value) → (List Value → (Addr → Obj → Prop) → Prop) → Shared → Prop) : Value → Shared → Prop
  | mk {s₂ : Shared} {it : Addr} {fp wr : List Addr} {n : Nat} {Tgt : Nat → (Str → Option Value) → Prop} {St : Nat → Heap → Prop} {Ok : Env → Prop} {J : Nat → List Value → (Addr → Obj → Prop) → Prop} {m : Str → Option Value}
    (W : Front prog w A target it fp wr n Tgt St Ok) (hsz : n ≤ sizeLine) (hOk : ∀ C, Ok (compEnvC scope cl C env))
    (hst : St 0 s₂.heap) (hfp : ∀ b ∈ fp, b < s₂.heap.objs.size) (F : Fr h₀ L s₂.heap m) (hLf : L ∉ fp) (hw₀ : ∀ b ∈ wr, h₀.get? b = none)
    (hJ : ∀ i ys (f g : Addr → Obj → Prop), (∀ b o, f b o → g b o) → J i ys f → J i ys g) (J0 : J 0 [] (Facts' s₂.heap (L :: wr)))
    (turn : ∀ i ys C D h tk m₂, i < n → ys.length ≤ i → J i ys (Facts' h (L :: C :: D :: wr)) → Fr h₀ L h m → h.Ns C m₂ → Tgt i m₂ → C ≠ L → D ≠ L → C ≠ D → h₀.get? C = none → h₀.get? D = none → h.get? D = some (lst ys) → St (i + 1) h → (∀ b ∈ wr, ∃ o, h.get? b = some o ∧ o.cls ≠ .type "list") →
      wpAny (model prog w) A (testsOf ifs (compEnvC scope cl C env)) (fun ok s₃ => if ok = true then wpAny (model prog w) A (eval elt (compEnvC scope cl C env)) (fun y s₄ => CTurned h₀ L m s₂ h (L :: C :: D :: wr) (J (i + 1) (ys ++ [y])) s₄) NoErr s₃
        else CTurned h₀ L m s₂ h (L :: C :: D :: wr) (J (i + 1) ys) s₃) NoErr { s₂ with heap := h, toks := tk })
    (fin : Fin m (J n) s₂) : CompGoA prog w A h₀ L env elt target ifs scope cl Fin (.ref it) s₂
section
variable {prog : Program} {w : World} {A : Around} {E : Value → Shared → Prop} {s : Shared} {h₀ : Heap} {L : Addr} {env : Env}
theorem ListCompA {elt iter target : Expr} {ifs : List Expr} {scope : Scope} {cl : List (Str × Addr)} {pos : Pos} {Q : Value → Shared → Prop}
    (hclos : closureFor scope env = pure cl) (hcell : ∀ z ∈ scope.names, z.2 ≠ .cell) (hkind : scope.kind = .function)
    (hnames : ∀ z ∈ scope.names, z.2 = .local → scope.names.lookup z.1 = some .local)
    (h : wpAny (model prog w) A (eval iter env) (fun xv s₁ => wpAny (model prog w) A (pyIter xv) (CompGoA prog w A h₀ L env elt target ifs scope cl (FinVal h₀ L Q)) E s₁) E s)
    (hs : ∀ x, foldedSetIterable iter env x = pure x := by intro _; rfl) :
    wpAny (model prog w) A (eval (.ListComp elt [⟨target, iter, ifs, 0⟩] scope pos) env) Q E s := by
  rw [eval_ListComp]
  refine wpAny_comprehension_freeM (use := none) (Q := Q) rfl hs hclos hkind hnames (wpAny_mono h (fun xv s₁ h₁ => wpAny_mono h₁ (fun itv s₂ h₂ => ?_) fun _ _ e => e) fun _ _ e => e)
  obtain ⟨W, hsz, hOk, hst, hfp, F, hLf, hw₀, hJ, J0, turn, fin⟩ := h₂
  refine blockA (E := E) (RR := fun acc C r s' => match r with | .ok f => compPost (model prog w) A E none Q acc C (.ok f) s' | .error _ => False) W hsz hOk hcell hkind hst hfp F hLf hw₀ hJ J0 turn ?_
  intro D C h' tk m' ys F' oD hCL hDL hCD hCs hDs hnC hj
  refine ⟨m', hnC, fun h₃ hs₃ => ?_⟩
  refine fin D h₃ _ ys (F'.change hs₃ hCL (none_keep F hCs)) (hs₃.extBut _ _ hCD.symm oD) hDL (none_keep F hDs) hDs (hJ _ _ _ _ (fun b o x => ?_) hj)
  have z := mem3 x.2
  exact ⟨hs₃.extBut _ _ z.2.1 x.1, by simp [z.1, z.2.2.1]⟩
end
end Mine
end
section
open PySem PySem.W PySem.W.X PyProof.Rows PySem.Calls PySem.Builtin PyProof.Rows.LCg
set_option Elab.async false
set_option maxRecDepth 100000
set_option maxHeartbeats 8000000
namespace Mine
theorem front_tup {prog : Program} {w : World} {A : Around} {it : Addr} {fp wr : List Addr} {n : Nat} {Pt : Nat → Array Value → Prop} {St : Nat → Heap → Prop} {Mid : Nat → Addr → Heap → Prop} {p x : Str} {pp px tp : Pos} {k : Nat} (W : WalksT prog w A it fp wr n Pt St Mid) (hpx : p ≠ x)
    (hh : A.handled = none) (hpt : ∀ i vals, Pt i vals → ∃ v1 v2, vals = #[v1, v2]) (hnl : ∀ i h, St i h → ∀ b ∈ wr, ∃ o, h.get? b = some o ∧ o.cls ≠ .type "list") :
    Front prog w A (.Tuple [.Name p pp, .Name x px] k tp) it fp wr n (fun i m => ∃ v1 v2, Pt i #[v1, v2] ∧ m p = some v1 ∧ m x = some v2) St (fun e => e.kindOf p = some .local ∧ e.kindOf x = some .local ∧ (e.scope.kind == .class || (e.scope.kind == .module && e.locals != e.globals)) = false) where
  sub := W.sub
  frame := W.frame
  next := fun i cenv m' s Q ok hi hst hC hn hQ => by
    obtain ⟨ok1, ok2, ok3⟩ := ok
    refine W.item i _ _ _ hi hst fun T vals h₂ tk₂ hP hTs hT hMid hk₂ => ?_
    obtain ⟨v1, v2, rfl⟩ := hpt _ _ hP
    refine W.go _ _ _ i T _ _ _ hMid fun h₃ hst₃ hk₃ => ?_
    have hTw := W.apart _ _ _ hMid
    have hT3 : IsTup h₃ T #[v1, v2] := by
      obtain ⟨o, e, r⟩ := hT
      exact ⟨o, hk₃ T o hTw e, r⟩
    refine assign_Tuple_tuple hh hT3 rfl rfl fun h₅ he => ?_
    have he' : ∀ b o, h₃.get? b = some o → h₅.get? b = some o := fun b o e => he b o (Nat.ne_of_lt (Heap.lt_size e)) e
    have hCw : cenv.locals ∉ wr := fun q => hC (W.sub _ q)
    refine assignInOrder_cons (wpAny_assign_Name (wpAny_storeName_local ok1 (((hn.at' fun o e => hk₂ _ o hCw e).at' fun o e => hk₃ _ o hCw e).at' fun o e => he' _ o e) (fun h₆ hn₆ hs₆ => ?_) ok3))
    refine assignInOrder_cons (wpAny_assign_Name (wpAny_storeName_local ok2 hn₆ (fun h₇ hn₇ hs₇ => ?_) ok3))
    refine assignInOrder_nil ?_
    have up : ∀ b o, b ≠ cenv.locals → h₃.get? b = some o → h₇.get? b = some o := fun b o hb e => hs₇.extBut b o hb (hs₆.extBut b o hb (he' b o e))
    refine hQ h₇ _ _ (W.frame _ _ _ hst₃ fun b hb o e => up b o (fun q => hC (q ▸ hb)) e) hn₇ ⟨v1, v2, hP, by simp [hpx], by simp⟩ fun b o h1 h2 e => up b o h2 (hk₃ b o h1 (hk₂ b o h1 e))
  done := W.done
  self := W.self
  notList := hnl
noncomputable def lawBody (i : Nat) : Stmt := (bodyOf lawS).getD i (.Pass default)
noncomputable def iterOf (e : Expr) : Expr := match e with | .ListComp _ (g :: _) _ _ => g.iter | _ => default
noncomputable abbrev cellsL (L : Addr) : List (Str × Addr) := [(Str.ofString "turn", L + 2), (Str.ofString "due", L + 1)]
noncomputable abbrev envL (L : Addr) : Env := envX (Str.ofString "law") (scopeOf lawS) L 93 (.ref 92) (cellsL L)
noncomputable abbrev AL (L : Addr) : Around := ktrTop 302 20 (some []) (Str.ofString "law") (scopeOf lawS) L 93 (.ref 92) (cellsL L) []
noncomputable abbrev eleven : List Int := [63, 280, 5, 3, 903, 13, 6, 16, 17, 1863, 47]
theorem cint {M : Model} {A : Around} {E : Value → Shared → Prop} {env : Env} {i : Int} {k : Nat} {pos : Pos} {h : Heap} {g : Array GenState} {d : Drawn} {tk : Tok} {os : OsState} {Q : Value → Shared → Prop} (q : Q (.int i tk) ⟨h, g, d, tk + 1, os⟩) : wpAny M A (eval (.Constant (.int i) k pos) env) Q E ⟨h, g, d, tk, os⟩ := wpAny_Constant_int q
theorem newList_ints {M : Model} {A : Around} {E : Value → Shared → Prop} {vs : List Value} {ns : List Int} {h : Heap} {g : Array GenState} {d : Drawn} {tk : Tok} {os : OsState} {Q : Value → Shared → Prop} (hI : IntsAre vs ns) (hsz : ns.length ≤ 63)
    (q : ∀ ws h2, IntsAre ws ns → h2.IsList h.objs.size ws.toArray → (∀ b o, h.get? b = some o → h2.get? b = some o) → h2.objs.size = h.objs.size + 1 → Q (.ref h.objs.size) ⟨h2, g, d, tk, os⟩) : wpAny M A (newList vs) Q E ⟨h, g, d, tk, os⟩ :=
  wpAny_newObj_type (q vs _ hI ⟨_, Heap.get?_push_size _ rfl, rfl, 0, rfl⟩ (fun _ _ e => Heap.get?_push_of_some _ e) (size_push' ..)) (by show vs.toArray.size ≤ sizeLine; rw [List.size_toArray, hI.length, sizeLine_eq]; lia)
theorem add_lists_at {prog : Program} {w : World} {A : Around} {E : Value → Shared → Prop} {l b : Addr} {vs ws : List Value} {ns ms : List Int} {h : Heap} {g : Array GenState} {d : Drawn} {tk : Tok} {os : OsState} {Q : Value → Shared → Prop} (hl : h.IsList l vs.toArray) (hb : h.IsList b ws.toArray) (hi : IntsAre vs ns) (hj : IntsAre ws ms) (hsz : vs.length + ws.length ≤ 63)
    (q : ∀ h2, h2.IsList h.objs.size (vs ++ ws).toArray → IntsAre (vs ++ ws) (ns ++ ms) → (∀ b o, h.get? b = some o → h2.get? b = some o) → h2.objs.size = h.objs.size + 1 → Q (.ref h.objs.size) ⟨h2, g, d, tk, os⟩) : wpAny (model prog w) A (binaryOp .Add (.ref l) (.ref b)) Q E ⟨h, g, d, tk, os⟩ := by
  obtain ⟨⟨cls, dd, data, sl⟩, ho, hc, n, hd⟩ := id hl
  obtain ⟨⟨cls2, dd2, data2, sl2⟩, ho2, hc2, n2, hd2⟩ := id hb
  simp only at hc hd hc2 hd2
  subst hc hd hc2 hd2
  have e : vs.toArray ++ ws.toArray = (vs ++ ws).toArray := by simp
  refine concat_meets (s := ⟨h, g, d, tk, os⟩) ⟨_, ho, rfl⟩ ⟨_, ho2, rfl⟩ noFill_list_add seq_list_add PySem.F.slot_list_add PySem.F.entry_list_add (PySem.F.args_list_add_2 _ _) (list_addW l b vs.toArray ws.toArray n n2 dd dd2 sl sl2 (by rw [sizeLine_eq]; simp; lia)) ⟨ho, ho2, ?_⟩
  rw [e]
  exact q _ ⟨_, Heap.get?_push_size _ rfl, rfl, 0, rfl⟩ (hi.append hj) (fun _ _ e => Heap.get?_push_of_some _ e) (size_push' ..)
theorem iter1 {w : World} {A : Around} {E : Value → Shared → Prop} {Q : Value → Shared → Prop} {p : Program} {loose : List Str} {mean : ExcName → Option Value} {mg mb : Str → Option Value} {h₀ : Heap} {s : Shared} {L l : Addr} {m : Str → Option Value} {vs : List Value} {xs : List Int}
    (F : Fr h₀ L s.heap m) (T : Top p loose mean mg mb h₀) (hen : mg (Str.ofString "enumerate") = none) (hl : s.heap.IsList l vs.toArray) (hi : IntsAre vs xs) (h63 : vs.length ≤ 63) (hm : m (Str.ofString "script") = some (.ref l))
    (hret : ∀ e it D ws h' tk', IsEnum h' e it 0 .none → h'.IsListIter it D 0 → h'.IsList D ws.toArray → IntsAre ws (xs.take 8 ++ eleven) → s.heap.get? e = none → s.heap.get? it = none → s.heap.get? D = none → e ≠ it → D ≠ e → D ≠ it → (∀ b o, s.heap.get? b = some o → h'.get? b = some o) → Q (.ref e) { s with heap := h', toks := tk' }) :
    wpAny (model prog w) A (eval (iterOf (valueOf (lawBody 0))) (envL L)) Q E s := by
  show wpAny _ _ (eval (.Call (.Name (Str.ofString "enumerate") _) [.BinOp (.Subscript (.Name (Str.ofString "script") _) (.Slice none (some (.Constant (.int 8) _ _)) none _) _) .Add (.List [.Constant (.int 63) _ _, .Constant (.int 280) _ _, .Constant (.int 5) _ _, .Constant (.int 3) _ _, .Constant (.int 903) _ _, .Constant (.int 13) _ _, .Constant (.int 6) _ _, .Constant (.int 16) _ _, .Constant (.int 17) _ _, .Constant (.int 1863) _ _, .Constant (.int 47) _ _] _) _] [] _) _) _ _ _
  refine any_Call ?_
  refine Name_function_global rfl (by kernel_rfl) (loadGlobal_builtin (T.g.keeps F.keep) hen (T.b.keeps F.keep) ((T.builtins _ (by decide +kernel)).trans (by kernel_rfl : bootBuiltins (Str.ofString "enumerate") = some (.type "enumerate"))) ?_) (by decide +kernel)
  refine PyProof.Rows.callWith_type1 ?_
  refine spliced_cons ?_
  refine wpAny_BinOp ?_
  refine wpAny_Subscript_list_slice ?_
  refine wpAny_Name (wpAny_loadName_local rfl (by kernel_rfl) F.ns hm ?_) (by decide +kernel)
  refine wpAny_evalPart_none ?_
  refine wpAny_evalPart_some (wpAny_Constant_int ?_)
  refine ⟨l, vs.toArray, none, some 8, rfl, hl, by rw [List.size_toArray, sizeLine_eq]; lia, .none, .int _ _, ?_⟩
  obtain ⟨h, g, d, tk, os⟩ := s
  dsimp only at *
  have k1 : ∀ b o, h.get? b = some o → ((h.push { cls := .type "slice", data := .fields #[.none, .int 8 tk, .none] }).push { cls := .type "list", data := .seq (slicePick vs.toArray none (some 8) none) }).get? b = some o := fun b o e => Heap.get?_push_of_some _ (Heap.get?_push_of_some _ e)
  have hsz : ((h.push { cls := .type "slice", data := .fields #[.none, .int 8 tk, .none] }).push { cls := .type "list", data := .seq (slicePick vs.toArray none (some 8) none) }).objs.size = h.objs.size + 2 := by rw [size_push', size_push']
  have hsl : ((h.push { cls := .type "slice", data := .fields #[.none, .int 8 tk, .none] }).push { cls := .type "list", data := .seq (slicePick vs.toArray none (some 8) none) }).IsList (h.objs.size + 1) (slicePick vs.toArray none (some 8) none).toList.toArray := by
    refine ⟨{ cls := .type "list", data := .seq (slicePick vs.toArray none (some 8) none) }, ?_, rfl, 0, by simp⟩
    have e1 := Heap.get?_push_size (h.push { cls := .type "slice", data := .fields #[.none, .int 8 tk, .none] }) (o := { cls := .type "list", data := .seq (slicePick vs.toArray none (some 8) none) }) rfl
    rw [size_push'] at e1
    exact e1
  have hi8 := slice_ints_uptoW hi (y := 8) (by decide)
  have h8 : (slicePick vs.toArray none (some 8) none).toList.length ≤ 8 := by rw [hi8.length]; exact Nat.le_trans (List.length_take_le ..) (by decide)
  generalize hH : (h.push { cls := .type "slice", data := .fields #[.none, .int 8 tk, .none] }).push { cls := .type "list", data := .seq (slicePick vs.toArray none (some 8) none) } = H at *
  generalize hW : (slicePick vs.toArray none (some 8) none).toList = ws at *
  refine PyProof.Rows.List_ ?_
  iterate 11 (refine spliced_cons ?_; refine cint (k := 0) (pos := default) ?_)
  refine spliced_nil ?_
  refine newList_ints (ns := eleven) (by repeat constructor) (by decide) fun el h2 hel hl2 k2 s2 => ?_
  have hl11 : el.length = 11 := by rw [hel.length]; rfl
  refine add_lists_at (list_keeps hsl k2) hl2 hi8 hel (by lia) fun h3 hl3 hi3 k3 s3 => ?_
  refine spliced_nil ?_
  refine call_enumerate_list hl3 fun h4 hen4 hit4 s4 k4 => ?_
  have big : ∀ a, h.objs.size ≤ a → h.get? a = none := fun a ha => Heap.get?_none_of_le ha
  dsimp only at *
  refine hret (h3.objs.size + 1) h3.objs.size h2.objs.size (ws ++ el) h4 _ hen4 hit4 (list_keeps hl3 k4) hi3 (big _ (by lia)) (big _ (by lia)) (big _ (by lia)) (fun q => by have q' : h3.objs.size + 1 = h3.objs.size := q; lia) (fun q => by have q' : h2.objs.size = h3.objs.size + 1 := q; lia) (fun q => by have q' : h2.objs.size = h3.objs.size := q; lia) fun b o e => k4 _ _ (k3 _ _ (k2 _ _ (k1 _ _ e)))
end Mine
end
section
open PySem PySem.W PySem.W.X PyProof.Rows PySem.Calls PySem.Builtin PyProof.Rows.LCg
set_option Elab.async false
set_option maxRecDepth 100000
set_option maxHeartbeats 8000000
namespace Mine
/-- all but the frame's dict is kept -/
noncomputable abbrev KpL (L : Addr) (h h' : Heap) : Prop := ∀ b o, b ≠ L → h.get? b = some o → h'.get? b = some o
noncomputable def allNews (h₀ : Heap) (L : Addr) (h : Heap) : List (Addr × Obj) := (List.range h.objs.size).filterMap fun b => match h.get? b with
  | some o => if b = L ∨ (h₀.get? b).isSome = true then none else some (b, o)
  | none => none
theorem all_news {h₀ h : Heap} {L : Addr} : News h₀ L h (allNews h₀ L h) := fun p hp => by
  obtain ⟨b, _, hb⟩ := List.mem_filterMap.mp hp
  cases e : h.get? b with
  | none => rw [e] at hb; cases hb
  | some o =>
    rw [e] at hb
    dsimp only at hb
    split at hb
    · cases hb
    · rename_i hn
      cases hb
      refine ⟨e, fun q => hn (.inl q), ?_⟩
      cases q : h₀.get? b with
      | none => rfl
      | some _ => exact absurd (.inr (by rw [q]; rfl)) hn
theorem mem_all {h₀ h : Heap} {L b : Addr} {o : Obj} (e : h.get? b = some o) (hL : b ≠ L) (h0 : h₀.get? b = none) : (b, o) ∈ allNews h₀ L h :=
  List.mem_filterMap.mpr ⟨b, List.mem_range.mpr (Heap.lt_size e), by rw [e]; dsimp only; rw [if_neg]; intro q; rcases q with q | q; exact hL q; rw [h0] at q; cases q⟩
theorem kpl_of {h₀ h h' : Heap} {L : Addr} {m m' : Str → Option Value} (F : Fr h₀ L h m) (F' : Fr h₀ L h' m') (N : News h₀ L h' (allNews h₀ L h)) : KpL L h h' := fun b o hb e => by
  cases q : h₀.get? b with
  | none => exact (N _ (mem_all e hb q)).1
  | some o' =>
    have := F.keep _ _ q
    rw [e] at this
    cases this
    exact F'.keep _ _ q
theorem ne_of_none {h : Heap} {L b : Addr} {m : Str → Option Value} (x : h.Ns L m) (e : h.get? b = none) : b ≠ L := fun q => by
  obtain ⟨o, _, _, e', _⟩ := x
  rw [← q, e] at e'; cases e'
section
variable {w : World} {E Q : Value → Shared → Prop} {loose : List Str} {mean : ExcName → Option Value} {mg mb : Str → Option Value} {h₀ h : Heap} {g : Array GenState} {d : Drawn} {tk : Tok} {os : OsState} {L : Addr} {m : Str → Option Value}
theorem reply_keep {x place : Int} {tx tp : Tok} (F : Fr h₀ L h m) (X : (hdx.heap_39 w.params).In h₀) (T : Top hdx.view_39 loose mean mg mb h₀)
    (hret : ∀ r tu ky t1 t2 t3 kv h' tk', KeyVals x kv → Fr h₀ L h' m → KpL L h h' → h'.get? r = some (listOf #[.str (replyS x) t1, .ref tu, .ref ky, .int place tp] 0) → h'.get? tu = some (tupObj [.str (peerS x) t2, .int 21 t3]) → h'.get? ky = some (listOf kv.toArray 0) →
      h.get? r = none → h.get? tu = none → h.get? ky = none → h₀.get? r = none → h₀.get? tu = none → h₀.get? ky = none → Q (.ref r) ⟨h', g, d, tk', os⟩) :
    wpAny (model prog w) (AL L) (call (.ref 81) [.int x tx, .int place tp]) Q E ⟨h, g, d, tk, os⟩ := by
  refine reply_call w loose mean mg mb 302 20 (some []) (Str.ofString "law") (scopeOf lawS) 93 (.ref 92) (cellsL L) [] callerA h₀ h₀ L m (allNews h₀ L h) ⟨h, g, d, tk, os⟩ x place tx tp Q E trivial (below_caller h₀) F X all_news T (by kernel_rfl) (by decide) (by decide) fun r tu ky t1 t2 t3 kv Y h' tk' hY hkv F' N' lt => ?_
  subst hY
  have kp := kpl_of F F' fun p hp => N' p (.tail _ (.tail _ (.tail _ hp)))
  have none' : ∀ b o, (b, o) ∈ [(r, listOf #[.str (replyS x) t1, .ref tu, .ref ky, .int place tp] 0), (tu, tupObj [.str (peerS x) t2, .int 21 t3]), (ky, listOf kv.toArray 0)] → (∀ p ∈ allNews h₀ L h, p.1 < b) → h.get? b = none ∧ h₀.get? b = none := fun b o hm hlt => by
    have z := N' (b, o) (by
      rcases List.mem_cons.mp hm with q | hm
      · rw [q]; exact .head _
      · rcases List.mem_cons.mp hm with q | hm
        · rw [q]; exact .tail _ (.head _)
        · rcases List.mem_cons.mp hm with q | hm
          · rw [q]; exact .tail _ (.tail _ (.head _))
          · cases hm)
    refine ⟨?_, z.2.2⟩
    cases q : h.get? b with
    | none => rfl
    | some o' => exact absurd (hlt _ (mem_all q z.2.1 z.2.2)) (Nat.lt_irrefl _)
  have n1 := none' r _ (.head _) fun p hp => (lt p hp).1
  have n2 := none' tu _ (.tail _ (.head _)) fun p hp => (lt p hp).2.1
  have n3 := none' ky _ (.tail _ (.tail _ (.head _))) fun p hp => (lt p hp).2.2
  exact hret r tu ky t1 t2 t3 kv h' tk' hkv F' kp (N' _ (.head _)).1 (N' _ (.tail _ (.head _))).1 (N' _ (.tail _ (.tail _ (.head _)))).1 n1.1 n2.1 n3.1 n1.2 n2.2 n3.2
end
/-- a reply as it lies in a heap -/
noncomputable def ThingF (h₀ : Heap) (f : Addr → Obj → Prop) (x : Int) (i : Nat) (v : Value) : Prop := ∃ r tu ky t1 t2 t3 tp kv, v = .ref r ∧ f r (listOf #[.str (replyS x) t1, .ref tu, .ref ky, .int i tp] 0) ∧ f tu (tupObj [.str (peerS x) t2, .int 21 t3]) ∧ f ky (listOf kv.toArray 0) ∧ KeyVals x kv ∧ h₀.get? r = none ∧ h₀.get? tu = none ∧ h₀.get? ky = none
theorem ThingF.mono {h₀ : Heap} {f g : Addr → Obj → Prop} {x : Int} {i : Nat} {v : Value} (t : ThingF h₀ f x i v) (k : ∀ b o, f b o → g b o) : ThingF h₀ g x i v := by
  obtain ⟨r, tu, ky, t1, t2, t3, tp, kv, e, a, b, c, r⟩ := t
  exact ⟨_, _, _, t1, t2, t3, tp, kv, e, k _ _ a, k _ _ b, k _ _ c, r⟩
/-- the rows of a list, one for each number -/
noncomputable def RowsF (T : (Addr → Obj → Prop) → Int → Nat → Value → Prop) (f : Addr → Obj → Prop) (zs : List Int) (ys : List Value) : Prop := ∀ j y, ys[j]? = some y → ∃ x, zs[j]? = some x ∧ T f x j y
theorem RowsF.mono {T : (Addr → Obj → Prop) → Int → Nat → Value → Prop} {f g : Addr → Obj → Prop} {zs : List Int} {ys : List Value} (t : RowsF T f zs ys) (hT : ∀ x i v, T f x i v → T g x i v) : RowsF T g zs ys := fun j y e => let ⟨x, e', r⟩ := t j y e; ⟨x, e', hT _ _ _ r⟩
theorem RowsF.snoc {T : (Addr → Obj → Prop) → Int → Nat → Value → Prop} {f : Addr → Obj → Prop} {zs : List Int} {ys : List Value} {x : Int} {y : Value} (t : RowsF T f zs ys) (e : zs[ys.length]? = some x) (r : T f x ys.length y) : RowsF T f zs (ys ++ [y]) := fun j z hz => by
  rcases Nat.lt_trichotomy j ys.length with h | h | h
  · rw [List.getElem?_append_left h] at hz; exact t j z hz
  · subst h; simp at hz; subst hz; exact ⟨x, e, r⟩
  · rw [List.getElem?_eq_none (by rw [List.length_append, List.length_singleton]; omega)] at hz; cases hz
theorem ints_at {vs : List Value} {ns : List Int} (hi : IntsAre vs ns) : ∀ (j : Nat) (v : Value), vs[j]? = some v → ∃ n t, ns[j]? = some n ∧ v = .int n t := by
  induction hi with
  | nil => intro j v e; simp at e
  | cons n t _ ih =>
    intro j v e
    cases j with
    | zero => simp at e; exact ⟨n, t, by simp, e.symm⟩
    | succ j => simpa using ih j v (by simpa using e)
end Mine
end
section
open PySem PySem.W PySem.W.X PyProof.Rows PySem.Calls PySem.Builtin PyProof.Rows.LCg
set_option Elab.async false
set_option maxRecDepth 100000
set_option maxHeartbeats 8000000
namespace Mine
section
variable {w : World} {E : Value → Shared → Prop} {loose : List Str} {mean : ExcName → Option Value} {mg mb : Str → Option Value} {h₀ h : Heap} {g : Array GenState} {d : Drawn} {tk : Tok} {os : OsState} {L : Addr} {m : Str → Option Value}
theorem stmt1 {l : Addr} {vs : List Value} {xs : List Int} {news : List (Addr × Obj)} {Q : Flow → Shared → Prop} (F : Fr h₀ L h m) (N : News h₀ L h news) (X : (hdx.heap_39 w.params).In h₀) (T : Top hdx.view_39 loose mean mg mb h₀)
    (hl : h.IsList l vs.toArray) (hi : IntsAre vs xs) (h63 : vs.length ≤ 63) (hm : m (Str.ofString "script") = some (.ref l))
    (hret : ∀ D ys h' tk', Fr h₀ L h' (fun z => if z = Str.ofString "things" then some (.ref D) else m z) → h'.get? D = some (lst ys) → D ≠ L → h₀.get? D = none → ys.length = (xs.take 8 ++ eleven).length → RowsF (ThingF h₀) (Facts' h' [L, D]) (xs.take 8 ++ eleven) ys → (∀ p ∈ news, Facts' h' [L, D] p.1 p.2) → Q .next ⟨h', g, d, tk', os⟩) :
    wpC (model prog w) (AL L) (exec (lawBody 0) (envL L)) Q E ⟨h, g, d, tk, os⟩ := by
  show wpC _ _ (exec (.Assign [.Name (Str.ofString "things") _] (.ListComp (.Call (.Name (Str.ofString "_law_reply") _) [.Name (Str.ofString "x") _, .Name (Str.ofString "place") _] [] _) [⟨.Tuple [.Name (Str.ofString "place") _, .Name (Str.ofString "x") _] _ _, iterOf (valueOf (lawBody 0)), [], 0⟩] _ _) _) _) _ _ _
  refine Assign_CompC (h₀ := h₀) (cl := []) rfl (by kernel_rfl) (by kernel_rfl) (by decide) (by rfl) (by decide) (by kernel_rfl) (by kernel_rfl) ?_
  have hen : mg (Str.ofString "enumerate") = none := mg_none_of X T.g (by kernel_rfl)
  have hlr : mg (Str.ofString "_law_reply") = some (.ref 81) := mg_of X T.g (by kernel_rfl)
  refine iter1 F T hen hl hi h63 hm fun e it D ws h1 tk1 he hit hD hws ne nit nD dei dDe dDi k1 => ?_
  refine wpAny_pyIter_enum he ?_
  have F1 : Fr h₀ L h1 m := F.keeps k1
  have eL : e ≠ L := ne_of_none F.ns ne
  have iL : it ≠ L := ne_of_none F.ns nit
  have dL : D ≠ L := ne_of_none F.ns nD
  have Wk := WalksT.enumerate (prog := prog) (w := w) (A := AL L) rfl e it D dei dDe dDi ws.toArray
  have nl : ∀ (i : Nat) h, ((∃ old, IsEnum h e it i old) ∧ h.IsListIter it D i ∧ h.IsList D ws.toArray) → ∀ b ∈ [e, it], ∃ o, h.get? b = some o ∧ o.cls ≠ .type "list" := fun i h st b hb => by
    rcases List.mem_cons.mp hb with rfl | hb
    · obtain ⟨⟨old, x⟩, _⟩ := st
      exact ⟨_, x, fun q => absurd (Value.type.inj q) (by decide)⟩
    · rw [List.mem_singleton.mp hb]
      obtain ⟨_, ⟨o, x, hc, _⟩, _⟩ := st
      exact ⟨o, x, fun q => absurd (Value.type.inj (hc.symm.trans q)) (by decide)⟩
  have hws8 : ws.length = (xs.take 8 ++ eleven).length := hws.length
  have h19 : ws.length ≤ 19 := by
    rw [hws8, List.length_append]
    have : (xs.take 8).length ≤ 8 := List.length_take_le ..
    have : eleven.length = 11 := rfl
    lia
  refine CompGo.mk (J := fun i ys f => ys.length = i ∧ (∀ p ∈ news, f p.1 p.2) ∧ RowsF (ThingF h₀) f (xs.take 8 ++ eleven) ys) (m := m) (front_tup (pp := _) (px := _) (tp := _) (k := _) Wk (by decide +kernel) rfl (fun i vals hp => by obtain ⟨t, x, _, rfl⟩ := hp; exact ⟨_, _, rfl⟩) nl)
    (by rw [List.size_toArray, sizeLine_eq]; lia) (fun C => ⟨by kernel_rfl, by kernel_rfl, by kernel_rfl⟩) ⟨⟨_, he⟩, hit, hD⟩ (fun b hb => ?_) F1 (fun q => ?_) (fun b hb => ?_) (fun i ys f g hfg hj => ⟨hj.1, fun p hp => hfg _ _ (hj.2.1 p hp), hj.2.2.mono fun x i v t => t.mono hfg⟩) ⟨rfl, fun p hp => ⟨k1 _ _ (N p hp).1, fun q => ?_⟩, fun j y e => by simp at e⟩ ?turn ?fin
  case turn =>
    intro i ys C D2 h2 tk2 m2 hlt hyl hj F2 hnC htg hCL hDL hCD nC nD2 oD2 hst hwr
    obtain ⟨v1, v2, ⟨t, x0, hx0, hv12⟩, hm1, hm2⟩ := htg
    obtain ⟨hlen, hnw, hrows⟩ := hj
    have hx0' : ws[i]? = some x0 := by simpa using hx0
    obtain ⟨x, tx, hxi, rfl⟩ := ints_at hws _ _ hx0'
    have e1 : v1 = .int i t ∧ v2 = .int x tx := by simpa using hv12
    obtain ⟨rfl, rfl⟩ := e1
    refine wpC_pure ?_
    simp only [if_true]
    refine wpC_of_any ?_
    refine any_Call ?_
    refine Name_function_global rfl (by kernel_rfl) (loadGlobal_global (T.g.keeps F2.keep) hlr ?_) (by decide +kernel)
    refine callWith_K (K := hdx.heap_39 w.params) X (by kernel_rfl) ?_
    refine spliced_cons (wpAny_Name (wpAny_loadName_local rfl (by kernel_rfl) hnC hm2 ?_) (by decide +kernel))
    refine spliced_cons (wpAny_Name (wpAny_loadName_local rfl (by kernel_rfl) hnC hm1 ?_) (by decide +kernel))
    refine spliced_nil ⟨X.keeps F2.keep, ?_⟩
    refine reply_keep F2 X T fun r tu ky t1 t2 t3 kv h3 tk3 hkv F3 k3 er eu ek nr nu nk nr0 nu0 nk0 => ?_
    have apart : ∀ b, h2.get? b = none → b ∉ L :: C :: D2 :: [e, it] := fun b nb q => by
      rcases List.mem_cons.mp q with q | q
      · exact ne_of_none F2.ns nb q
      · rcases List.mem_cons.mp q with q | q
        · exact ne_of_none hnC nb q
        · rcases List.mem_cons.mp q with q | q
          · rw [q, oD2] at nb; cases nb
          · obtain ⟨o, ho, _⟩ := hwr b q
            rw [nb] at ho; cases ho
    refine ⟨h3, tk3, rfl, F3, k3, by rw [List.length_append, List.length_singleton, hlen], fun p hp => ⟨k3 _ _ (fun q => (hnw p hp).2 (q ▸ .head _)) (hnw p hp).1, (hnw p hp).2⟩, ?_⟩
    refine (hrows.mono fun x i v t => t.mono fun b o q => ⟨k3 _ _ (fun z => q.2 (z ▸ .head _)) q.1, q.2⟩).snoc (x := x) (by rw [hlen]; exact hxi) ?_
    rw [hlen]
    exact ⟨r, tu, ky, t1, t2, t3, t, kv, rfl, ⟨er, apart r nr⟩, ⟨eu, apart tu nu⟩, ⟨ek, apart ky nk⟩, hkv, nr0, nu0, nk0⟩
  case fin =>
    intro D2 h2 tk2 ys F2 oD2 hDL nD0 hj
    refine hret D2 ys h2 tk2 F2 oD2 hDL nD0 ?_ hj.2.2 hj.2.1
    rw [← hws8]; simpa using hj.1
  · rcases List.mem_cons.mp hb with rfl | hb
    · exact Heap.lt_size he
    · rcases List.mem_cons.mp hb with rfl | hb
      · obtain ⟨o, x, _⟩ := hit; exact Heap.lt_size x
      · rw [List.mem_singleton.mp hb]; obtain ⟨o, x, _⟩ := hD; exact Heap.lt_size x
  · rcases List.mem_cons.mp q with q | q
    · exact eL q.symm
    · rcases List.mem_cons.mp q with q | q
      · exact iL q.symm
      · exact dL (List.mem_singleton.mp q).symm
  · rcases List.mem_cons.mp hb with rfl | hb
    · exact none_keep F ne
    · rw [List.mem_singleton.mp hb]; exact none_keep F nit
  · have z := (N p hp).1
    rcases List.mem_cons.mp q with q | q
    · exact (N p hp).2.1 q
    · rcases List.mem_cons.mp q with q | q
      · rw [q, ne] at z; cases z
      · rw [List.mem_singleton.mp q, nit] at z; cases z
end
end Mine
end
section
open PySem PySem.W PyProof.Rows PySem.NumText PySem.StrLaws PySem.Builtin PySem.Builtin.Str
set_option Elab.async false
set_option maxRecDepth 100000
set_option maxHeartbeats 8000000
namespace Mine
noncomputable def mkS (l : List Nat) : Str := ⟨⟨l⟩⟩
noncomputable def occL (c : Nat) : List Nat → Nat → Nat → List Nat
  | [], _, _ => []
  | x :: r, i, lim => match lim with
    | 0 => []
    | k + 1 => match Nat.beq x c with
      | true => i :: occL c r (i + 1) k
      | false => occL c r (i + 1) (k + 1)
theorem occL_zero (c : Nat) : ∀ (l : List Nat) (i : Nat), occL c l i 0 = []
  | [], _ => rfl
  | _ :: _, _ => rfl
theorem subAt_one (l : List Nat) (c i x : Nat) (r : List Nat) (h : l.drop i = x :: r) : subAt (mkS l) (mkS [c]) i = Nat.beq x c := by
  have e : (mkS l).cps.extract i (i + (mkS [c]).length) = #[x] := by
    apply Array.ext'
    show ((⟨l⟩ : Array Nat).extract i (i + 1)).toList = [x]
    rw [Array.toList_extract, List.extract_eq_drop_take, h]
    simp
  unfold subAt
  rw [e]
  show (#[x] == #[c]) = _
  cases hb : Nat.beq x c with
  | true => have := Nat.eq_of_beq_eq_true hb; subst this; simp
  | false =>
    have := Nat.ne_of_beq_eq_false hb
    simp [this]
theorem occ_loop (l : List Nat) (c lim : Nat) : ∀ (n i free : Nat) (acc : Array Nat), free ≤ i → n = l.length + 1 - i →
    (forIn (List.range' i n) (acc, free) (occBody (mkS l) (mkS [c]) l.length lim)).run.fst.toList = acc.toList ++ occL c (l.drop i) i (lim - acc.size)
  | 0, i, free, acc, _, hn => by
    have : l.drop i = [] := List.drop_eq_nil_of_le (by lia)
    rw [this]; simp [occL]
  | n + 1, i, free, acc, hf, hn => by
    rw [List.range'_succ, List.forIn_cons]
    unfold occBody
    by_cases hi : i < l.length
    · have hd : l.drop i = l[i] :: l.drop (i + 1) := List.drop_eq_getElem_cons hi
      rw [subAt_one l c i _ _ hd]
      by_cases hc : acc.size < lim ∧ Nat.beq l[i] c = true
      · rw [if_pos ⟨⟨⟨hc.1, hf⟩, by show i + 1 ≤ _; lia⟩, hc.2⟩]
        refine (occ_loop l c lim n (i + 1) (i + (mkS [c]).length) (acc.push i) (Nat.le_refl _) (by lia)).trans ?_
        obtain ⟨k, hk⟩ : ∃ k, lim - acc.size = k + 1 := ⟨lim - acc.size - 1, by lia⟩
        rw [hd, hk]
        simp only [occL, hc.2]
        rw [show lim - (acc.push i).size = k by rw [Array.size_push]; lia]
        simp
      · rw [if_neg (fun h => hc ⟨h.1.1.1, h.2⟩)]
        refine (occ_loop l c lim n (i + 1) free acc (by lia) (by lia)).trans ?_
        rw [hd]
        by_cases h0 : acc.size < lim
        · have hb : Nat.beq l[i] c = false := by
            cases hb : Nat.beq l[i] c with
            | false => rfl
            | true => exact absurd ⟨h0, hb⟩ hc
          obtain ⟨k, hk⟩ : ∃ k, lim - acc.size = k + 1 := ⟨lim - acc.size - 1, by lia⟩
          rw [hk]
          simp only [occL, hb]
        · rw [show lim - acc.size = 0 by lia, occL_zero, occL_zero]
    · rw [if_neg (fun h => by have : i + 1 ≤ l.length := h.1.2; lia)]
      refine (occ_loop l c lim n (i + 1) free acc (by lia) (by lia)).trans ?_
      have : l.drop i = [] := List.drop_eq_nil_of_le (by lia)
      have h' : l.drop (i + 1) = [] := List.drop_eq_nil_of_le (by lia)
      rw [this, h']; simp [occL]
theorem occ_one (l : List Nat) (c lo lim : Nat) : occurrences (mkS l) (mkS [c]) lo l.length lim = occL c (l.drop lo) lo lim := by
  rw [occ_eq]
  refine (occ_loop l c lim (l.length + 1 - lo) lo lo #[] (Nat.le_refl _) rfl).trans ?_
  simp
noncomputable def findL (l : List Nat) (c : Nat) (lo : Nat) : Int := match occL c (l.drop lo) lo 1 with | i :: _ => Int.ofNat i | [] => -1
theorem find_one (l : List Nat) (c : Nat) : Txt.find (mkS l) (mkS [c]) = findL l c 0 := by
  unfold Txt.find findL
  rw [show (mkS l).length = l.length from rfl, occ_one]
  rfl
end Mine
end
section
open PySem PySem.W PyProof.Rows PySem.Spec PySem.Calls
set_option Elab.async false
set_option maxRecDepth 100000
set_option maxHeartbeats 8000000
namespace Mine
section
variable {prog : Program} {w : World} {A₀ A : Around} {s : Shared} {base h₀ g₀ : Heap} {outer : List Env} {L a : Addr} {m : Str → Option Value} {cn : Str} {cs : Scope} {ccd : Value} {news : List (Addr × Obj)} {K : Frag} {p : Program} {loose : List Str} {mean : ExcName → Option Value} {mg mb : Str → Option Value}
    {R : Result → Shared → Prop} {name qual : Str} {params : Arguments} {body : List Stmt} {scope : Scope} {dV kV doc pm cdv ct oc : Value} {an od : Option Addr} {osl : Array (Option Value)} {f : Addr} {args : Args} {binds : List (Str × Value)}
/-- entering a def that catches, from a frame whose env may have cells (in contexts that hold the claim's caller) -/
theorem codeC_defSX {env : Env}
    (B : Below A₀ base [] h₀) (F : Fr h₀ L s.heap m) (X₀ : K.In h₀) (N : News h₀ L s.heap news) (T : Top p loose mean mg mb h₀) (hA : A.frames = some [env]) (hf : env.frame = some L) (hke : env.scope.kind = .function)
    (ho : K.lookup f = some ⟨oc, od, .func (fnOf name qual params body scope dV kV doc pm an cdv ct), osl⟩) (hcd : codeIn K cdv qual = true) (hroom : A.depth < recursionLimit)
    (hbind : BindsTo s (fnOf name qual params body scope dV kV doc pm an cdv ct) args binds) (hloc : ∀ y ∈ binds, scope.names.lookup y.1 = some .local)
    (h : ∀ g L' h₁, Fr h₀ L g m → Fr g L' h₁ (fun y => binds.reverse.lookup y) → News g L' h₁ news → Below A base [env] g → K.In g → Top p loose mean mg mb g → KtsDicts ([env].filterMap (·.frame)) g → (∀ p ∈ news, p.1 < L') →
      wpC (model prog w) (A.deeper (envOf qual scope L' f cdv)) (execs body (envOf qual scope L' f cdv))
        (fun fl s' => LeaveS0 ([env].filterMap (·.frame)) h₀ L m g R (match fl with | .ret v => v | _ => .none) s')
        (fun e s' => wpAny (model prog w) (A.deeper (envOf qual scope L' f cdv)) (leaving (envOf qual scope L' f cdv) e) (fun _ s'' => R (.error e) s'') (fun e' s'' => R (.error e') s'') s')
        { s with heap := h₁, toks := s.toks + binds.length })
    (hco : scope.isCoroutine = false) (hgen : scope.isGenerator = false) (hk : scope.kind = .function)
    (hcell : ∀ x ∈ scope.names, x.2 ≠ .cell) : codeC (model prog w) A (.call (.ref f) args) R s := by
  have X := X₀.keeps F.keep
  obtain ⟨FG, BG, st, _⟩ := groundX (R := R) B F N hA hf hke
  have efr : ([env].filterMap (·.frame)) = [L] := by simp [hf]
  obtain ⟨oL, es, ep, hLg, hLd, hLk, hLf⟩ := FG.ns
  refine codeC_call_def (fd := fnOf name qual params body scope dV kV doc pm an cdv ct) (body := body) (binds := binds) hroom (X _ _ ho) rfl (T.nolimit.keeps F.keep) (codeRec_of X hcd) rfl hbind hcell hloc (fun h₁ hns hk₁ => ?_) hco hgen hk
  refine wpC_mono (h _ s.heap.objs.size h₁ FG ⟨hns, fun b o e => hk₁ b o (of_hideAll _ e), Nat.le_of_eq (hideAll_size _ _)⟩
    (fun p hp => ⟨hk₁ _ _ (N p hp).1, Nat.ne_of_lt (Heap.lt_size (N p hp).1), hideAll_none _ (List.mem_map_of_mem hp)⟩) BG (X₀.keeps st) (T.keeps st) (fun b hb => ?_) (fun p hp => Heap.lt_size (N p hp).1)) (fun fl s' hl => ?_) fun _ _ y => y
  · rw [efr] at hb
    obtain rfl := List.mem_singleton.mp hb
    exact ⟨oL, es, ep, hLg, hLd⟩
  · obtain ⟨g', L', m', news', T', F', N', k⟩ := hl
    have nL₀ : h₀.get? L = none := kts_self F
    obtain ⟨sl, hs⟩ := T'.up hLg
    refine k ⟨⟨_, es, ep, F'.keep _ _ hs, hLd, hLk, hLf⟩, fun b o e => F'.keep b o (T'.other b o (st b o e) fun q => ?_), F.above⟩ fun p hp => ⟨(N' p hp).1, fun q => ?_, ?_⟩
    · rw [efr] at q
      obtain rfl := List.mem_singleton.mp q
      rw [nL₀] at e; cases e
    · have := (N' p hp).2.2; rw [q, hs] at this; cases this
    · cases q : h₀.get? p.1 with
      | none => rfl
      | some o =>
        obtain ⟨sl', hs'⟩ := T'.up (st _ _ q)
        have := (N' p hp).2.2
        rw [hs'] at this; cases this
/-- entering a def that raises into a handler of its caller (in contexts that hold the claim's caller) -/
theorem codeC_defS (B : Below A₀ base outer h₀) (F : Fr h₀ L s.heap m) (X₀ : K.In h₀) (N : News h₀ L s.heap news) (T : Top p loose mean mg mb h₀) (XB : K.In base) (TB : Top p loose mean mg mb base) (D : KtsDicts (outer.filterMap (·.frame)) h₀)
    (T0 : KtsTurn (outer.filterMap (·.frame)) g₀ h₀) (hA : A.frames = some (envOf cn cs L a ccd :: outer))
    (ho : K.lookup f = some ⟨oc, od, .func (fnOf name qual params body scope dV kV doc pm an cdv ct), osl⟩) (hcd : codeIn K cdv qual = true) (hroom : A.depth < recursionLimit)
    (hbind : BindsTo s (fnOf name qual params body scope dV kV doc pm an cdv ct) args binds) (hloc : ∀ y ∈ binds, scope.names.lookup y.1 = some .local)
    (h : ∀ g L' h₁, Fr h₀ L g m → Fr g L' h₁ (fun y => binds.reverse.lookup y) → News g L' h₁ news → Below A base (envOf cn cs L a ccd :: outer) g → K.In g → Top p loose mean mg mb g → KtsDicts ((envOf cn cs L a ccd :: outer).filterMap (·.frame)) g →
      wpC (model prog w) (A.deeper (envOf qual scope L' f cdv)) (execs body (envOf qual scope L' f cdv))
        (fun fl s' => LeaveS ((envOf cn cs L a ccd :: outer).filterMap (·.frame)) A₀ base outer K p loose mean mg mb g₀ h₀ L m g R (match fl with | .ret v => v | _ => .none) s')
        (fun e s' => wpAny (model prog w) (A.deeper (envOf qual scope L' f cdv)) (leaving (envOf qual scope L' f cdv) e) (fun _ s'' => R (.error e) s'') (fun e' s'' => R (.error e') s'') s')
        { s with heap := h₁, toks := s.toks + binds.length })
    (hck : cs.kind = .function) (hco : scope.isCoroutine = false) (hgen : scope.isGenerator = false) (hk : scope.kind = .function)
    (hcell : ∀ x ∈ scope.names, x.2 ≠ .cell) : codeC (model prog w) A (.call (.ref f) args) R s := by
  have X := X₀.keeps F.keep
  refine codeC_call_def (fd := fnOf name qual params body scope dV kV doc pm an cdv ct) (body := body) (binds := binds) hroom (X _ _ ho) rfl (T.nolimit.keeps F.keep) (codeRec_of X hcd) rfl hbind hcell hloc (fun h₁ hns hk₁ => ?_) hco hgen hk
  obtain ⟨oL, es, ep, hLg, hLd, hN, hNs, st, B₂⟩ := kts_enter B F N hA hck
  refine wpC_mono (h _ s.heap.objs.size h₁ ⟨hN _ hLg, st, F.above⟩ ⟨hns, fun b o e => hk₁ b o (of_hideAll _ e), Nat.le_of_eq (hideAll_size _ _)⟩
    (fun p hp => ⟨hk₁ _ _ (N p hp).1, Nat.ne_of_lt (Heap.lt_size (N p hp).1), hideAll_none _ (List.mem_map_of_mem hp)⟩) B₂ (X₀.keeps st) (T.keeps st) (fun b hb => by
      rcases kts_mem hb with rfl | hb
      · exact ⟨oL, es, ep, hLg, hLd⟩
      · obtain ⟨o, es', n', ho', hd'⟩ := D b hb
        exact ⟨o, es', n', st b o ho', hd'⟩)) (fun fl s' hl => ?_) fun _ _ y => y
  have nL₀ : h₀.get? L = none := kts_self F
  rcases hl with ⟨L', m', news', F', N', k⟩ | ⟨g', L', m', news', T', F', N', k⟩
  · refine k ⟨hN _ (F'.keep _ _ hLg), fun b o e => F'.keep b o (st b o e), F.above⟩ fun p hp => ⟨(N' p hp).1, fun q => ?_, ?_⟩
    · have := (N' p hp).2.2; rw [q, hLg] at this; cases this
    · cases q : h₀.get? p.1 with
      | none => rfl
      | some o => have := (N' p hp).2.2; rw [st _ _ q] at this; cases this
  obtain ⟨sl, hs⟩ := T'.up hLg
  obtain ⟨T₁, S₁⟩ := kts_turn_at (h := s'.heap) (fs := outer.filterMap (·.frame)) (g := h₀)
    (fun b hb => by
      obtain ⟨_, o, ho', _⟩ := B.frames.mem hb
      exact ⟨o, ho'⟩)
    (fun b o e nmem => F'.keep b o (T'.other b o (st b o e) (fun q => by
      rcases kts_mem q with z | z
      · rw [z, nL₀] at e
        cases e
      · exact nmem z)))
    (fun b o e hm => by
      obtain ⟨sl', hs'⟩ := T'.up (st b o e)
      exact ⟨sl', F'.keep _ _ hs'⟩)
  have B₃ : Below A₀ base outer (ktsHeap s'.heap (outer.filterMap (·.frame)) h₀) := ⟨B.stack, fun b o e => T₁.other b o (B.stays b o e) (fun hm => by
    rw [(B.frames.mem hm).1] at e
    cases e), B.frames.of_keeps fun b o e _ => by
    obtain ⟨sl', hs'⟩ := T₁.up e
    exact ⟨_, hs', rfl⟩⟩
  refine k _ (T0.trans T₁) ⟨hNs sl _ (F'.keep _ _ hs), S₁, by rw [T₁.size]; exact F.above⟩ (fun p hp => ⟨(N' p hp).1, fun q => ?_, ?_⟩) B₃ (XB.keeps B₃.stays) (TB.keeps B₃.stays) (D.turn T₁)
  · have := (N' p hp).2.2; rw [q, hs] at this; cases this
  · refine T₁.none_ _ ?_
    cases q : h₀.get? p.1 with
    | none => rfl
    | some o =>
      obtain ⟨sl', hs'⟩ := T'.up (st _ _ q)
      have := (N' p hp).2.2
      rw [hs'] at this
      cases this
end
end Mine
end
section
open PySem PySem.W PyProof.Rows PySem.Spec PySem.Calls PySem.NumText
set_option Elab.async false
set_option maxRecDepth 100000
set_option maxHeartbeats 8000000
namespace Mine
noncomputable def tell (P : Str) (n : Int) : Str := (PyData.tuple [.str P, .int n]).shown
noncomputable def TellOk (P : Str) (n : Int) : Prop := (PyData.tuple [.str P, .int n]).showable = true ∧ (tell P n).length ≤ sizeLine
theorem str_told {prog : Program} {w : World} {A : Around} {E : Value → Shared → Prop} {s : Shared} {h₀ : Heap} {L : Addr} {m : Str → Option Value} {news : List (Addr × Obj)} {Q : Value → Shared → Prop} {D : Addr} {P : Str} {n : Int} {t t' : Tok}
    (F : Fr h₀ L s.heap m) (N : News h₀ L s.heap news) (hm : (D, ({ cls := .type "tuple", data := .seq #[.str P t, .int n t'] } : Obj)) ∈ news) (hg : A.guards = some []) (hu : A.units + 10 < cLine) (ok : TellOk P n)
    (hQ : ∀ h' u tk, Fr h₀ L h' m → News h₀ L h' news → Q (.str (tell P n) u) { s with heap := h', toks := tk }) : wpAny (model prog w) A (call (.type "str") [.ref D]) Q E s :=
  str_via (d := PyData.tuple [.str P, .int n]) (ReadsVia.tuple (vs := [.str P t, .int n t']) hm (.cons (.str P t) (.cons (.int n t') .nil))) F N ok.1 rfl rfl hg (by show A.units + (max 0 (max 0 0) + 1 + 3) < cLine; simp only [Nat.max_self]; lia) hQ ok.2
/-- what `_law_heard` finds, as a plain function of the reply -/
inductive HRes | one | two | three | ok (n : Int)
  deriving DecidableEq
noncomputable abbrev lf (Y : Str) : Int := Txt.find Y (Str.ofString "(") + 1
noncomputable abbrev rf (Y : Str) : Int := Txt.find3 Y (Str.ofString ")") (Txt.find Y (Str.ofString "(") + 1)
noncomputable abbrev partsOf (Y : Str) : List Str := Txt.split (Txt.slice Y (some (Txt.find Y (Str.ofString "(") + 1)) (some (Txt.find3 Y (Str.ofString ")") (Txt.find Y (Str.ofString "(") + 1)))) (Txt.item Y (Txt.find Y (Str.ofString "(") + 1))
noncomputable def heardF (Y : Str) : HRes :=
  if (Txt.slice Y none (some 3) != Str.ofString "229") = true then .one
  else if Txt.find Y (Str.ofString "(") < 0 then .two
  else if rf Y < 0 then .two
  else if (Txt.item Y (lf Y) != Txt.item Y (rf Y - 1)) = true then .two
  else if (partsOf Y).length ≠ 5 then .two
  else match (partsOf Y)[3]? with
    | none => .two
    | some y => match PySem.intText? y with
      | some n => .ok n
      | none => .three
noncomputable def HeardVals (Y P : Str) (vals : List Value) : Prop := match heardF Y with
  | .one => ∃ t, vals = [.int 1 t]
  | .two => ∃ t, vals = [.int 2 t]
  | .three => ∃ t, vals = [.int 3 t]
  | .ok n => ∃ t0 t1 t2, vals = [.int 0 t0, .str P t1, .int n t2]
theorem hv1 {Y P : Str} {t : Tok} (h : (Txt.slice Y none (some 3) != Str.ofString "229") = true) : HeardVals Y P [.int 1 t] := by
  have e : heardF Y = .one := by unfold heardF; rw [if_pos h]
  unfold HeardVals; rw [e]; exact ⟨t, rfl⟩
theorem hv2 {Y P : Str} {t : Tok} (h : heardF Y = .two) : HeardVals Y P [.int 2 t] := by unfold HeardVals; rw [h]; exact ⟨t, rfl⟩
theorem h2a {Y : Str} (h1 : (Txt.slice Y none (some 3) != Str.ofString "229") = false) (h2 : Txt.find Y (Str.ofString "(") < 0) : heardF Y = .two := by
  unfold heardF; rw [if_neg (by rw [h1]; decide), if_pos h2]
theorem h2b {Y : Str} (h1 : (Txt.slice Y none (some 3) != Str.ofString "229") = false) (h2 : ¬ Txt.find Y (Str.ofString "(") < 0) (h3 : rf Y < 0) : heardF Y = .two := by
  unfold heardF; rw [if_neg (by rw [h1]; decide), if_neg h2, if_pos h3]
theorem h2c {Y : Str} (h1 : (Txt.slice Y none (some 3) != Str.ofString "229") = false) (h2 : ¬ Txt.find Y (Str.ofString "(") < 0) (h3 : ¬ rf Y < 0) (h4 : (Txt.item Y (lf Y) != Txt.item Y (rf Y - 1)) = true) : heardF Y = .two := by
  unfold heardF; rw [if_neg (by rw [h1]; decide), if_neg h2, if_neg h3, if_pos h4]
theorem h2d {Y : Str} {l : List (Str × Tok)} (h1 : (Txt.slice Y none (some 3) != Str.ofString "229") = false) (h2 : ¬ Txt.find Y (Str.ofString "(") < 0) (h3 : ¬ rf Y < 0) (h4 : (Txt.item Y (lf Y) != Txt.item Y (rf Y - 1)) = false) (h5 : List.map (fun x => x.fst) l = partsOf Y) (h6 : ¬ (l.length : Int) = 5) : heardF Y = .two := by
  unfold heardF; rw [if_neg (by rw [h1]; decide), if_neg h2, if_neg h3, if_neg (by rw [h4]; decide), if_pos]
  intro e; rw [← h5, List.length_map] at e; lia
theorem h3 {Y P : Str} {t : Tok} {l : List (Str × Tok)} {y : Str} (h1 : (Txt.slice Y none (some 3) != Str.ofString "229") = false) (h2 : ¬ Txt.find Y (Str.ofString "(") < 0) (h3 : ¬ rf Y < 0) (h4 : (Txt.item Y (lf Y) != Txt.item Y (rf Y - 1)) = false) (h5 : List.map (fun x => x.fst) l = partsOf Y) (h6 : (l.length : Int) = 5)
    (h7 : (List.map (fun x => x.fst) l)[Int.toNat 3]? = some y) (h8 : PySem.intText? y = none) : HeardVals Y P [.int 3 t] := by
  have e : heardF Y = .three := by
    unfold heardF; rw [if_neg (by rw [h1]; decide), if_neg h2, if_neg h3, if_neg (by rw [h4]; decide), if_neg (by rw [← h5, List.length_map]; lia)]
    have h7' : (partsOf Y)[3]? = some y := by rw [← h5]; exact h7
    rw [h7']; dsimp only; rw [h8]
  unfold HeardVals; rw [e]; exact ⟨t, rfl⟩
theorem h0 {Y P : Str} {t0 t1 t2 : Tok} {l : List (Str × Tok)} {y : Str} {n : Int} (h1 : (Txt.slice Y none (some 3) != Str.ofString "229") = false) (h2 : ¬ Txt.find Y (Str.ofString "(") < 0) (h3 : ¬ rf Y < 0) (h4 : (Txt.item Y (lf Y) != Txt.item Y (rf Y - 1)) = false) (h5 : List.map (fun x => x.fst) l = partsOf Y) (h6 : (l.length : Int) = 5)
    (h7 : (List.map (fun x => x.fst) l)[Int.toNat 3]? = some y) (h8 : PySem.intText? y = some n) : HeardVals Y P [.int 0 t0, .str P t1, .int n t2] := by
  have e : heardF Y = .ok n := by
    unfold heardF; rw [if_neg (by rw [h1]; decide), if_neg h2, if_neg h3, if_neg (by rw [h4]; decide), if_neg (by rw [← h5, List.length_map]; lia)]
    have h7' : (partsOf Y)[3]? = some y := by rw [← h5]; exact h7
    rw [h7']; dsimp only; rw [h8]
  unfold HeardVals; rw [e]; exact ⟨t0, t1, t2, rfl⟩
/-- what the walk needs to know of the reply's fourth part -/
noncomputable def PartOk (P y : Str) : Prop := ((numSeenOf y).length == (numTextOf y).length) = true ∧ (reprText y).length ≤ 1000 ∧ ∀ n, PySem.intText? y = some n → TellOk P n
theorem part_ok {Y P : Str} {l : List (Str × Tok)} {y : Str} (hT : ∀ y, ¬ Txt.find Y (Str.ofString "(") < 0 → ¬ Txt.find3 Y (Str.ofString ")") (Txt.find Y (Str.ofString "(") + 1) < 0 → (partsOf Y)[3]? = some y → PartOk P y) (h2 : ¬ Txt.find Y (Str.ofString "(") < 0) (h3 : ¬ Txt.find3 Y (Str.ofString ")") (Txt.find Y (Str.ofString "(") + 1) < 0) (h5 : List.map (fun x => x.fst) l = partsOf Y) (h7 : (List.map (fun x => x.fst) l)[Int.toNat 3]? = some y) : PartOk P y := hT y h2 h3 (by rw [← h5]; exact h7)
theorem part_len {Y : Str} {l : List (Str × Tok)} {y : Str} {a b : Option Int} (hY : Y.length ≤ 100) (h1 : (Txt.slice Y a b).length ≤ Y.length) (h : ∀ x, x ∈ List.map (fun x => x.fst) l → x.length ≤ (Txt.slice Y a b).length) (h7 : (List.map (fun x => x.fst) l)[Int.toNat 3]? = some y) : y.length ≤ 640 := by
  have := h y (List.mem_of_getElem? h7); lia
end Mine
end
section
open PySem PySem.W PyProof.Rows PySem.NumText PySem.StrLaws PySem.Builtin PySem.Builtin.Str
set_option Elab.async false
set_option maxRecDepth 100000
set_option maxHeartbeats 8000000
namespace Mine
noncomputable def find3L (l : List Nat) (c : Nat) (i : Int) : Int := findL l c (fromIndex l.length i)
theorem find3_one (l : List Nat) (c : Nat) (i : Int) : Txt.find3 (mkS l) (mkS [c]) i = find3L l c i := by
  unfold Txt.find3 find3L findL
  rw [show (mkS l).length = l.length from rfl, occ_one]
  rfl
noncomputable def splitL (x : Str) (c : Nat) : List Str :=
  if (decide (x.length < 1) || decide (strKind x < strKind (mkS [c]))) = true then [x] else
  match occL c x.cps.toList 0 (x.length + 1) with | [] => [x] | a :: o => partsBetween x (a :: o) 1
theorem split_one (x : Str) (c : Nat) : Txt.split x (mkS [c]) = splitL x c := by
  unfold Txt.split splitL
  have e : occurrences x (mkS [c]) 0 x.length (x.length + 1) = occL c x.cps.toList 0 (x.length + 1) := by
    obtain ⟨⟨l⟩⟩ := x
    exact occ_one l c 0 _
  rw [e, show (mkS [c]).length = 1 from rfl]
  split
  · rfl
  · cases occL c x.cps.toList 0 (x.length + 1) <;> rfl
noncomputable def chL (l : List Nat) (i : Int) : Nat := (Txt.charAt (mkS l) i).getD 0
theorem item_one (l : List Nat) (i : Int) : Txt.item (mkS l) i = mkS [chL l i] := rfl
theorem lit229 : Str.ofString "229" = mkS [50, 50, 57] := by decide +kernel
theorem litL : Str.ofString "(" = mkS [40] := by decide +kernel
theorem litR : Str.ofString ")" = mkS [41] := by decide +kernel
noncomputable def partsL (l : List Nat) (F R : Int) : List Str := splitL (Txt.slice (mkS l) (some (F + 1)) (some R)) (chL l (F + 1))
noncomputable def resL (l : List Nat) (F R : Int) (ps : List Str) : HRes :=
  if (Txt.slice (mkS l) none (some 3) != mkS [50, 50, 57]) = true then .one
  else if F < 0 then .two
  else if R < 0 then .two
  else if (mkS [chL l (F + 1)] != mkS [chL l (R - 1)]) = true then .two
  else if ps.length ≠ 5 then .two
  else match ps[3]? with
    | none => .two
    | some y => match PySem.intText? y with
      | some n => .ok n
      | none => .three
noncomputable def PartOkB (P y : Str) : Bool := ((numSeenOf y).length == (numTextOf y).length) && (Nat.ble (reprText y).length 1000 &&
  match PySem.intText? y with | none => true | some n => ((PyData.tuple [.str P, .int n]).showable && Nat.ble (tell P n).length 1000))
theorem partOk_of {P y : Str} (h : PartOkB P y = true) : PartOk P y := by
  unfold PartOkB at h
  simp only [Bool.and_eq_true] at h
  refine ⟨h.1, Nat.le_of_ble_eq_true h.2.1, fun n hn => ?_⟩
  have h3 := h.2.2
  rw [hn] at h3
  simp only [Bool.and_eq_true] at h3
  exact ⟨h3.1, by rw [sizeLine_eq]; have := Nat.le_of_ble_eq_true h3.2; omega⟩
noncomputable def resOk (k p : Nat) : HRes → Bool
  | .one => Nat.beq k 3
  | .two => Nat.beq k 4 || Nat.blt 5 k
  | .three => Nat.beq k 5
  | .ok n => Nat.blt k 3 && n == Int.ofNat p
/-- all that the walks need to know of a reply -/
structure Facts (Y P : Str) (k p : Nat) : Prop where
  len : Y.length ≤ 100
  hF : 0 ≤ Txt.find Y (Str.ofString "(") → 0 ≤ Txt.find3 Y (Str.ofString ")") (Txt.find Y (Str.ofString "(") + 1) → Txt.find Y (Str.ofString "(") + 1 < Y.length ∧ 1 ≤ Txt.find3 Y (Str.ofString ")") (Txt.find Y (Str.ofString "(") + 1) ∧ Txt.find3 Y (Str.ofString ")") (Txt.find Y (Str.ofString "(") + 1) ≤ Y.length
  hT : ∀ y, ¬ Txt.find Y (Str.ofString "(") < 0 → ¬ Txt.find3 Y (Str.ofString ")") (Txt.find Y (Str.ofString "(") + 1) < 0 → (partsOf Y)[3]? = some y → PartOk P y
  res : resOk k p (heardF Y) = true
theorem facts_of {l : List Nat} {P : Str} {k p : Nat} {F R : Int} (eF0 : findL l 40 0 = F) (eR0 : find3L l 41 (F + 1) = R) (h1 : l.length ≤ 100) (h2 : F < 0 ∨ R < 0 ∨ (F + 1 < l.length ∧ 1 ≤ R ∧ R ≤ l.length))
    (h3 : ∀ y, ¬ F < 0 → ¬ R < 0 → (partsL l F R)[3]? = some y → PartOk P y) (h4 : resOk k p (resL l F R (partsL l F R)) = true) : Facts (mkS l) P k p := by
  subst eR0 eF0
  have eF : Txt.find (mkS l) (Str.ofString "(") = findL l 40 0 := by rw [litL, find_one]
  have eR : Txt.find3 (mkS l) (Str.ofString ")") (Txt.find (mkS l) (Str.ofString "(") + 1) = find3L l 41 (findL l 40 0 + 1) := by rw [eF, litR, find3_one]
  have eP : partsOf (mkS l) = partsL l (findL l 40 0) (find3L l 41 (findL l 40 0 + 1)) := by
    unfold partsOf partsL
    rw [eR, eF, item_one, split_one]
  refine ⟨h1, fun a b => ?_, fun y ha hb hy => ?_, ?_⟩
  · rw [eR] at b ⊢; rw [eF] at a ⊢
    show _ < (l.length : Int) ∧ _ ∧ _ ≤ (l.length : Int)
    omega
  · rw [eP] at hy; rw [eR] at hb; rw [eF] at ha
    exact h3 y ha hb hy
  · have e : heardF (mkS l) = resL l (findL l 40 0) (find3L l 41 (findL l 40 0 + 1)) (partsL l (findL l 40 0) (find3L l 41 (findL l 40 0 + 1))) := by
      unfold heardF resL
      rw [eP]
      unfold rf lf
      rw [eR, eF, lit229, item_one, item_one]
      try rfl
    rw [e]; exact h4
end Mine
end
section
open PySem PySem.W PyProof.Rows PySem.NumText PySem.StrLaws PySem.Builtin PySem.Builtin.Str
set_option Elab.async false
set_option maxRecDepth 100000
set_option maxHeartbeats 8000000
namespace Mine
theorem slice_ss (l : List Nat) (a b : Nat) (h1 : a ≤ b) (h2 : b ≤ l.length) : Txt.slice (mkS l) (some (a : Int)) (some (b : Int)) = mkS ((l.drop a).take (b - a)) := by
  have := beq_iff_eq.mp (slice_closesL (x := mkS l) (i := a) (j := b) (by lia) (by lia) (by show (b : Int) ≤ (l.length : Int); lia))
  rw [this]
  show (⟨⟨(l.drop (a : Int).toNat).take ((b : Int) - a).toNat⟩⟩ : Str) = _
  rw [show ((b : Int) - a).toNat = b - a by lia]; rfl
theorem slice_to3 (l : List Nat) (h2 : 3 ≤ l.length) : Txt.slice (mkS l) none (some 3) = mkS (l.take 3) := by
  have := beq_iff_eq.mp (slice_closes_toL (x := mkS l) (j := 3) (by lia) (by show (3 : Int) ≤ (l.length : Int); lia))
  rw [this]; rfl
noncomputable def clean (c : Nat) (t : List Nat) : Bool := t.all fun x => !Nat.beq x c
theorem occL_skip (c : Nat) : ∀ (t r : List Nat) (i lim : Nat), clean c t = true → occL c (t ++ r) i lim = occL c r (i + t.length) lim
  | [], _, _, _, _ => rfl
  | x :: t, r, i, 0, _ => by rw [occL_zero, occL_zero]
  | x :: t, r, i, k + 1, h => by
    have hx : Nat.beq x c = false ∧ clean c t = true := by
      unfold clean at h ⊢
      rw [List.all_cons, Bool.and_eq_true] at h
      exact ⟨by simpa using h.1, h.2⟩
    show (match Nat.beq x c with | true => i :: occL c (t ++ r) (i + 1) k | false => occL c (t ++ r) (i + 1) (k + 1)) = _
    rw [hx.1]
    show occL c (t ++ r) (i + 1) (k + 1) = _
    rw [occL_skip c t r (i + 1) (k + 1) hx.2, List.length_cons]
    congr 1; lia
theorem occL_hit (c : Nat) (r : List Nat) (i k : Nat) : occL c (c :: r) i (k + 1) = i :: occL c r (i + 1) k := by
  show (match Nat.beq c c with | true => i :: occL c r (i + 1) k | false => occL c r (i + 1) (k + 1)) = _
  have e : Nat.beq c c = true := Nat.beq_refl c
  rw [e]
/-- pieces with the mark between them -/
noncomputable def glueL (m : Nat) : List (List Nat) → List Nat
  | [] => []
  | [s] => s
  | s :: s' :: r => s ++ m :: glueL m (s' :: r)
noncomputable def cutsL : Nat → List (List Nat) → List Nat
  | _, [] => []
  | _, [_] => []
  | i, s :: s' :: r => (i + s.length) :: cutsL (i + s.length + 1) (s' :: r)
theorem occL_glue (m : Nat) : ∀ (segs : List (List Nat)) (i lim : Nat), segs.all (clean m) = true → segs.length ≤ lim + 1 → occL m (glueL m segs) i lim = cutsL i segs
  | [], _, _, _, _ => rfl
  | [s], i, lim, h, _ => by
    have hs : clean m s = true := by simpa using h
    have := occL_skip m s [] i lim hs
    rw [List.append_nil] at this
    exact this
  | s :: s' :: r, i, lim, h, hl => by
    have hs : clean m s = true ∧ (s' :: r).all (clean m) = true := by simpa using h
    obtain ⟨k, rfl⟩ : ∃ k, lim = k + 1 := ⟨lim - 1, by simp only [List.length_cons] at hl; lia⟩
    show occL m (s ++ m :: glueL m (s' :: r)) i (k + 1) = _
    rw [occL_skip m s _ i (k + 1) hs.1, occL_hit, occL_glue m (s' :: r) _ k hs.2 (by simp only [List.length_cons] at hl ⊢; lia)]
    rfl
theorem strSub_eq (B : List Nat) (i j : Nat) : strSub (mkS B) i j = mkS ((B.drop i).take (j - i)) := by
  unfold strSub
  show (⟨(⟨B⟩ : Array Nat).extract i j⟩ : Str) = ⟨⟨_⟩⟩
  congr 1
  apply Array.ext'
  rw [Array.toList_extract, List.extract_eq_take_drop]
theorem parts_loop (m : Nat) (B : List Nat) : ∀ (s : List Nat) (r : List (List Nat)) (o : Nat), B.drop o = glueL m (s :: r) → o ≤ B.length →
    ((o :: (cutsL o (s :: r)).map (· + 1)).zip (cutsL o (s :: r) ++ [B.length])).map (fun x => strSub (mkS B) x.1 x.2) = (s :: r).map mkS
  | s, [], o, h, ho => by
    show [strSub (mkS B) o B.length] = [mkS s]
    rw [strSub_eq, h]
    show [mkS (s.take (B.length - o))] = _
    have e : s.length = B.length - o := by rw [← List.length_drop, h]; rfl
    rw [← e, List.take_length]
  | s, s' :: r, o, h, ho => by
    have h' : B.drop o = s ++ m :: glueL m (s' :: r) := h
    have hl : s.length + 1 ≤ B.length - o := by rw [← List.length_drop, h', List.length_append, List.length_cons]; lia
    have hd : B.drop (o + s.length + 1) = glueL m (s' :: r) := by
      rw [Nat.add_assoc, ← List.drop_drop, h', List.drop_append, List.drop_eq_nil_of_le (by lia), List.nil_append, show s.length + 1 - s.length = 1 by lia]
      rfl
    have ih := parts_loop m B s' r (o + s.length + 1) hd (by lia)
    show strSub (mkS B) o (o + s.length) :: (((o + s.length + 1) :: (cutsL (o + s.length + 1) (s' :: r)).map (· + 1)).zip (cutsL (o + s.length + 1) (s' :: r) ++ [B.length])).map (fun x => strSub (mkS B) x.1 x.2) = mkS s :: (s' :: r).map mkS
    rw [ih, strSub_eq, h', show o + s.length - o = s.length by lia, List.take_left']
    rfl
theorem len_glue (m : Nat) : ∀ (segs : List (List Nat)), segs.length ≤ (glueL m segs).length + 1
  | [] => by simp
  | [s] => by simp [glueL]
  | s :: s' :: r => by
    have := len_glue m (s' :: r)
    simp only [glueL, List.length_cons, List.length_append] at this ⊢
    lia
theorem split_glue (m : Nat) (s s' : List Nat) (r : List (List Nat)) (hm : m < 256) (h : (s :: s' :: r).all (clean m) = true) : splitL (mkS (glueL m (s :: s' :: r))) m = (s :: s' :: r).map mkS := by
  have hk : strKind (mkS [m]) = 1 := by
    unfold PySem.Builtin.Str.strKind
    rw [if_pos (by simp [mkS, hm])]
  have hx : 1 ≤ strKind (mkS (glueL m (s :: s' :: r))) := by unfold PySem.Builtin.Str.strKind; split <;> (try split) <;> lia
  have hlen : (mkS (glueL m (s :: s' :: r))).length = (glueL m (s :: s' :: r)).length := rfl
  have h1 : 1 ≤ (glueL m (s :: s' :: r)).length := by simp only [glueL, List.length_append, List.length_cons]; lia
  unfold splitL
  rw [hk, hlen, if_neg (by simp only [Bool.or_eq_true, decide_eq_true_eq]; lia)]
  have e : occL m (mkS (glueL m (s :: s' :: r))).cps.toList 0 ((glueL m (s :: s' :: r)).length + 1) = cutsL 0 (s :: s' :: r) :=
    occL_glue m (s :: s' :: r) 0 _ h (by have := len_glue m (s :: s' :: r); lia)
  rw [e]
  exact parts_loop m _ s (s' :: r) 0 rfl (Nat.zero_le _)
end Mine
end
section
open PySem PySem.W PyProof.Rows PySem.NumText PySem.StrLaws PySem.Builtin PySem.Builtin.Str
set_option Elab.async false
set_option maxRecDepth 100000
set_option maxHeartbeats 8000000
namespace Mine
theorem chL_eq (l : List Nat) (i : Nat) (h : i < l.length) : chL l (i : Int) = l.getD i 0 := by
  unfold chL Txt.charAt seqIndex?
  have h1 : ¬ ((i : Int) < 0) := by lia
  have h2 : (0 : Int) ≤ (i : Int) := by lia
  have h3 : (i : Int) < ((mkS l).length : Int) := by show (i : Int) < (l.length : Int); lia
  simp only [h1, if_false, h2, h3, decide_true, Bool.and_self, if_true, Int.toNat_natCast, Option.bind_some]
  show ((⟨l⟩ : Array Nat)[i]?).getD 0 = _
  rw [List.getD_eq_getElem?_getD]
  simp
noncomputable def entL : List Nat := [32, 69, 110, 116, 101, 114, 105, 110, 103, 32]
noncomputable abbrev lineL (c3 body tail : List Nat) : List Nat := c3 ++ (entL ++ 40 :: (body ++ tail))
theorem line_drop (a b c : Nat) (body tail : List Nat) : (lineL [a, b, c] body tail).drop 14 = body ++ tail := rfl
theorem line_find (a b c : Nat) (body tail : List Nat) (h : clean 40 [a, b, c] = true) : findL (lineL [a, b, c] body tail) 40 0 = 13 := by
  have e : lineL [a, b, c] body tail = ([a, b, c] ++ entL) ++ 40 :: (body ++ tail) := by simp [lineL]
  have hc : clean 40 ([a, b, c] ++ entL) = true := by
    unfold clean at h ⊢
    rw [List.all_append, h]; rfl
  unfold findL
  rw [List.drop_zero, e, occL_skip 40 _ _ 0 1 hc, occL_hit]
  rfl
theorem from14 (n : Nat) : fromIndex n (13 + 1) = 14 := rfl
theorem line_find3 (a b c : Nat) (body : List Nat) (h : clean 41 body = true) : find3L (lineL [a, b, c] body [41, 46]) 41 (13 + 1) = ((14 + body.length : Nat) : Int) := by
  unfold find3L findL
  rw [from14, line_drop, occL_skip 41 _ _ 14 1 h, occL_hit]
  rfl
theorem line_find3n (a b c : Nat) (body : List Nat) (h : clean 41 body = true) : find3L (lineL [a, b, c] body [46]) 41 (13 + 1) = -1 := by
  unfold find3L findL
  rw [from14, line_drop, occL_skip 41 _ _ 14 1 h]
  rfl
theorem line_len (a b c : Nat) (body tail : List Nat) : (lineL [a, b, c] body tail).length = 14 + (body.length + tail.length) := by
  simp [lineL, entL]; lia
theorem line_slice (a b c : Nat) (body tail : List Nat) : Txt.slice (mkS (lineL [a, b, c] body tail)) (some (13 + 1)) (some ((14 + body.length : Nat) : Int)) = mkS body := by
  have := slice_ss (lineL [a, b, c] body tail) 14 (14 + body.length) (by lia) (by rw [line_len]; lia)
  rw [line_drop, show 14 + body.length - 14 = body.length by lia, List.take_left'] at this
  · exact this
  · rfl
theorem line_ch (a b c m : Nat) (body tail : List Nat) : chL (lineL [a, b, c] (m :: body) tail) (13 + 1) = m :=
  chL_eq (lineL [a, b, c] (m :: body) tail) 14 (by rw [line_len]; simp only [List.length_cons]; lia)
theorem line_last (a b c z : Nat) (body tail : List Nat) : chL (lineL [a, b, c] (body ++ [z]) tail) (((14 + (body ++ [z]).length : Nat) : Int) - 1) = z := by
  have e : (((14 + (body ++ [z]).length : Nat) : Int) - 1) = ((14 + body.length : Nat) : Int) := by simp; lia
  rw [e, chL_eq _ _ (by rw [line_len]; simp; lia), List.getD_eq_getElem?_getD]
  have : (lineL [a, b, c] (body ++ [z]) tail)[14 + body.length]? = some z := by
    rw [← List.getElem?_drop, line_drop, List.append_assoc, List.getElem?_append_right (by lia)]
    simp
  rw [this]; rfl
end Mine
end
section
open PySem PySem.W PyProof.Rows PySem.NumText PySem.StrLaws PySem.Builtin PySem.Builtin.Str
set_option Elab.async false
set_option maxRecDepth 100000
set_option maxHeartbeats 8000000
namespace Mine
theorem mkS_app (a b : List Nat) : mkS a ++ mkS b = mkS (a ++ b) := by
  show (⟨(⟨a⟩ : Array Nat) ++ ⟨b⟩⟩ : Str) = ⟨⟨a ++ b⟩⟩
  congr 1
  apply Array.ext'
  simp
noncomputable def textOkB (y : Str) (b : Bool) (n : Nat) : Bool :=
  ((clean 40 y.cps.toList && (clean 41 y.cps.toList && (clean 124 y.cps.toList && (clean 33 y.cps.toList && clean 58 y.cps.toList)))) && Nat.ble y.length 5) &&
  (PartOkB (mkS [97]) y && (PartOkB (mkS [98]) y && (match PySem.intText? y with | none => b | some i => !b && i == Int.ofNat n)))
noncomputable def textY (d n : Nat) (b : Bool) : Str := tabD.getD d Str.empty ++ Str.ofString (toString ((n : Nat) : Int)) ++ (if b = true then Str.ofString "x" else Str.ofString "")
theorem text0 : (List.range 100).all (fun n => textOkB (textY 0 n false) false n && textOkB (textY 0 n true) true n) = true := by decide +kernel
theorem text1 : (List.range 100).all (fun n => textOkB (textY 1 n false) false n && textOkB (textY 1 n true) true n) = true := by decide +kernel
theorem text2 : (List.range 100).all (fun n => textOkB (textY 2 n false) false n && textOkB (textY 2 n true) true n) = true := by decide +kernel
theorem text3 : (List.range 100).all (fun n => textOkB (textY 3 n false) false n && textOkB (textY 3 n true) true n) = true := by decide +kernel
theorem text_ok (d n : Nat) (b : Bool) (hd : d < 4) (hn : n < 100) : textOkB (textY d n b) b n = true := by
  have key : (textOkB (textY d n false) false n && textOkB (textY d n true) true n) = true := by
    have hm : n ∈ List.range 100 := List.mem_range.mpr hn
    match d, hd with
    | 0, _ => exact List.all_eq_true.mp text0 n hm
    | 1, _ => exact List.all_eq_true.mp text1 n hm
    | 2, _ => exact List.all_eq_true.mp text2 n hm
    | 3, _ => exact List.all_eq_true.mp text3 n hm
  rw [Bool.and_eq_true] at key
  cases b
  · exact key.1
  · exact key.2
end Mine
end
section
open PySem PySem.W PyProof.Rows PySem.NumText PySem.StrLaws PySem.Builtin PySem.Builtin.Str
set_option Elab.async false
set_option maxRecDepth 100000
set_option maxHeartbeats 8000000
namespace Mine
theorem mod_nat (y : Int) (k : Nat) (hk : 0 < k) : ∃ n : Nat, n < k ∧ y.fmod k = (n : Int) := by
  have h1 := Int.fmod_nonneg_of_pos y (b := k) (by lia)
  have h2 := Int.fmod_lt_of_pos y (b := k) (by lia)
  exact ⟨(y.fmod k).toNat, by lia, by lia⟩
theorem mark_is (x : Int) : ∃ m, markS x = mkS [m] ∧ (m = 124 ∨ m = 33 ∨ m = 58) := by
  obtain ⟨n, hn, e⟩ := mark_nat x
  unfold markS
  rw [e]
  match n, hn with
  | 0, _ => exact ⟨124, by decide +kernel, by simp⟩
  | 1, _ => exact ⟨33, by decide +kernel, by simp⟩
  | 2, _ => exact ⟨58, by decide +kernel, by simp⟩
theorem two_is (x : Int) : (fieldS x = mkS [] ∧ peerS x = mkS [97] ∧ codeS x = mkS [50, 50, 55]) ∨ (fieldS x = mkS [120] ∧ peerS x = mkS [98] ∧ codeS x = mkS [50, 50, 48]) := by
  obtain ⟨n, hn, e⟩ := mod_nat (x.fdiv 900) 2 (by lia)
  have e' : (x.fdiv 900).fmod 2 = (n : Int) := e
  unfold fieldS peerS codeS
  rw [e']
  match n, hn with
  | 0, _ => exact .inl (by decide +kernel)
  | 1, _ => exact .inr (by decide +kernel)
theorem text_is (x : Int) : ∃ d n : Nat, d < 4 ∧ n < 100 ∧ (x.fdiv 9).fmod 100 = (n : Int) ∧ textS x = textY d n (x.fmod 9 == 5) := by
  obtain ⟨d, hd, e⟩ := mod_nat (x.fdiv 900) 4 (by lia)
  have e' : (x.fdiv 900).fmod 4 = (d : Int) := e
  obtain ⟨n, hn, en⟩ := port_nat x
  refine ⟨d, n, hd, hn, en, ?_⟩
  unfold textS dressS portS textY
  rw [e', en]
  rfl
theorem mk_of (y : Str) : ∃ t, y = mkS t := by obtain ⟨⟨t⟩⟩ := y; exact ⟨t, rfl⟩
theorem lits : Str.ofString " Entering (" = mkS (entL ++ [40]) ∧ Str.ofString ")." = mkS [41, 46] ∧ Str.ofString "." = mkS [46] ∧ Str.ofString "#" = mkS [35] ∧ Str.ofString "" = mkS [] := by decide +kernel
noncomputable abbrev segsOf (f t : List Nat) (z : List (List Nat)) : List (List Nat) := [] :: f :: f :: t :: z
noncomputable def resG (c3 : List Nat) (m zl : Nat) (t : List Nat) (n : Nat) : HRes :=
  if (mkS c3 != mkS [50, 50, 57]) = true then .one
  else if (mkS [m] != mkS [zl]) = true then .two
  else if n ≠ 5 then .two
  else match PySem.intText? (mkS t) with
    | some i => .ok i
    | none => .three
theorem line_take (a b c : Nat) (body tail : List Nat) : (lineL [a, b, c] body tail).take 3 = [a, b, c] := rfl
theorem facts_line {a b c m zl k p : Nat} {f t body' : List Nat} {z : List (List Nat)} {P : Str} (h40 : clean 40 [a, b, c] = true) (hm : m < 256) (hb : glueL m (segsOf f t z) = body' ++ [zl]) (h41 : clean 41 (glueL m (segsOf f t z)) = true)
    (hc : (segsOf f t z).all (clean m) = true) (hl : (glueL m (segsOf f t z)).length ≤ 80) (hP : PartOk P (mkS t)) (hr : resOk k p (resG [a, b, c] m zl t (4 + z.length)) = true) :
    Facts (mkS (lineL [a, b, c] (glueL m (segsOf f t z)) [41, 46])) P k p := by
  have eF := line_find a b c (glueL m (segsOf f t z)) [41, 46] h40
  have eR := line_find3 a b c (glueL m (segsOf f t z)) h41
  have eg : glueL m (segsOf f t z) = m :: glueL m (f :: f :: t :: z) := rfl
  have eps : partsL (lineL [a, b, c] (glueL m (segsOf f t z)) [41, 46]) 13 ((14 + (glueL m (segsOf f t z)).length : Nat) : Int) = (segsOf f t z).map mkS := by
    unfold partsL
    rw [line_slice]
    rw [eg, line_ch, ← eg]
    exact split_glue m [] f (f :: t :: z) hm hc
  refine facts_of eF eR (by rw [line_len]; simp only [List.length_cons, List.length_nil]; lia) (.inr (.inr ?_)) (fun y _ _ hy => ?_) ?_
  · rw [line_len]; simp only [List.length_cons, List.length_nil]; lia
  · rw [eps] at hy
    have : y = mkS t := by simpa using hy.symm
    rw [this]; exact hP
  · rw [eps]
    unfold resL
    rw [slice_to3 _ (by rw [line_len]; lia), line_take]
    have e1 : chL (lineL [a, b, c] (glueL m (segsOf f t z)) [41, 46]) (13 + 1) = m := by rw [eg, line_ch]
    have e2 : chL (lineL [a, b, c] (glueL m (segsOf f t z)) [41, 46]) (((14 + (glueL m (segsOf f t z)).length : Nat) : Int) - 1) = zl := by rw [hb, line_last]
    rw [e1, e2, if_neg (show ¬ (13 : Int) < 0 by decide), if_neg (show ¬ (((14 + (glueL m (segsOf f t z)).length : Nat) : Int) < 0) by lia)]
    have e3 : ((segsOf f t z).map mkS).length = 4 + z.length := by simp; lia
    rw [e3]
    exact hr
end Mine
end
section
open PySem PySem.W PyProof.Rows PySem.NumText PySem.StrLaws PySem.Builtin PySem.Builtin.Str
set_option Elab.async false
set_option maxRecDepth 100000
set_option linter.unusedSimpArgs false
set_option maxHeartbeats 8000000
namespace Mine
theorem facts_open {p : Nat} {body : List Nat} {P : Str} (h41 : clean 41 body = true) (hl : body.length ≤ 80) : Facts (mkS (lineL [50, 50, 57] body [46])) P 4 p := by
  have eF := line_find 50 50 57 body [46] rfl
  have eR := line_find3n 50 50 57 body h41
  refine facts_of eF eR (by rw [line_len]; simp only [List.length_cons, List.length_nil]; lia) (.inr (.inl (by decide))) (fun y _ hb _ => absurd (show (-1 : Int) < 0 by decide) hb) ?_
  unfold resL
  rw [slice_to3 _ (by rw [line_len]; lia), line_take]
  rfl
noncomputable def sixOk (y : Str) : Bool := (findL y.cps.toList 40 0 == -1) && (Nat.ble y.cps.toList.length 100 && (y.cps.toList.take 3 == [50, 50, 57] && Nat.ble 3 y.cps.toList.length))
theorem six100 : (List.range 100).all (fun n => sixOk (Str.ofString "229x2" ++ Txt.replace (Str.ofString (toString ((n : Nat) : Int))) (Str.ofString "2") (Str.ofString "3") ++ Str.ofString "2)")) = true := by decide +kernel
theorem facts_six {y P : Str} {p : Nat} (h : sixOk y = true) : Facts y P 6 p := by
  obtain ⟨⟨l⟩⟩ := y
  unfold sixOk at h
  simp only [Bool.and_eq_true, beq_iff_eq] at h
  obtain ⟨h1, h2, h3, h4⟩ := h
  refine facts_of (l := l) (F := -1) h1 rfl (Nat.le_of_ble_eq_true h2) (.inl (by decide)) (fun y ha _ _ => absurd (show (-1 : Int) < 0 by decide) ha) ?_
  unfold resL
  rw [slice_to3 _ (Nat.le_of_ble_eq_true h4), h3]
  rfl
theorem text_parts {y P : Str} {b : Bool} {n : Nat} {t : List Nat} (h : textOkB y b n = true) (e : y = mkS t) (hP : P = mkS [97] ∨ P = mkS [98]) :
    clean 40 t = true ∧ clean 41 t = true ∧ clean 124 t = true ∧ clean 33 t = true ∧ clean 58 t = true ∧ t.length ≤ 5 ∧ PartOk P (mkS t) ∧ (match PySem.intText? (mkS t) with | none => b | some i => !b && i == Int.ofNat n) = true := by
  subst e
  unfold textOkB at h
  simp only [Bool.and_eq_true] at h
  obtain ⟨⟨⟨a1, a2, a3, a4, a5⟩, a6⟩, a7, a8, a9⟩ := h
  exact ⟨a1, a2, a3, a4, a5, Nat.le_of_ble_eq_true a6, hP.elim (fun e => e ▸ partOk_of a7) (fun e => e ▸ partOk_of a8), a9⟩
theorem clean_app {c : Nat} {a b : List Nat} : clean c (a ++ b) = (clean c a && clean c b) := by unfold clean; rw [List.all_append]
theorem clean_cons {c x : Nat} {a : List Nat} : clean c (x :: a) = (!Nat.beq x c && clean c a) := by unfold clean; rw [List.all_cons]
theorem res0 {k m n : Nat} {t : List Nat} (hk : Nat.blt k 3 = true) (h : (match PySem.intText? (mkS t) with | none => false | some i => !false && i == Int.ofNat n) = true) : resOk k n (resG [50, 50, 57] m m t (4 + [([] : List Nat)].length)) = true := by
  unfold resG
  rw [if_neg (by simp), if_neg (by simp), if_neg (by simp)]
  cases e : PySem.intText? (mkS t) with
  | none => rw [e] at h; cases h
  | some i =>
    rw [e] at h
    show (Nat.blt k 3 && i == Int.ofNat n) = true
    rw [hk]; simpa using h
theorem res5 {k m n : Nat} {t : List Nat} (hk : Nat.beq k 5 = true) (h : (match PySem.intText? (mkS t) with | none => true | some i => !true && i == Int.ofNat n) = true) : resOk k n (resG [50, 50, 57] m m t (4 + [([] : List Nat)].length)) = true := by
  unfold resG
  rw [if_neg (by simp), if_neg (by simp), if_neg (by simp)]
  cases e : PySem.intText? (mkS t) with
  | none => exact hk
  | some i => rw [e] at h; simp at h
theorem rep_gen {x : Int} {c z tail : Str} (h6 : (x.fmod 9 != 6) = true) (hc : (if (x.fmod 9 == 3) = true then codeS x else Str.ofString "229") = c)
    (hz : (if (x.fmod 9 == 7) = true then Str.ofString "#" else if (x.fmod 9 == 8) = true then fieldS x ++ markS x else Str.ofString "") = z) (ht : (if (x.fmod 9 == 4) = true then Str.ofString "." else Str.ofString ").") = tail) :
    replyS x = c ++ Str.ofString " Entering (" ++ (markS x ++ fieldS x ++ markS x ++ fieldS x ++ markS x ++ textS x ++ markS x ++ z) ++ tail := by
  unfold replyS innerS
  rw [if_pos h6, hc, hz, ht]
theorem facts_x (x : Int) : ∃ k p : Nat, k < 9 ∧ x.fmod 9 = (k : Int) ∧ (x.fdiv 9).fmod 100 = (p : Int) ∧ Facts (replyS x) (peerS x) k p := by
  obtain ⟨k, hk, ek⟩ := mod_nat x 9 (by lia)
  have ek' : x.fmod 9 = (k : Int) := ek
  obtain ⟨m, em, hm⟩ := mark_is x
  obtain ⟨d, n, hd, hn, en, et⟩ := text_is x
  obtain ⟨t, ett⟩ := mk_of (textS x)
  obtain ⟨l1, l2, l3, l4, l5⟩ := lits
  refine ⟨k, n, hk, ek', en, ?_⟩
  have hPP : peerS x = mkS [97] ∨ peerS x = mkS [98] := (two_is x).elim (fun h => .inl h.2.1) (fun h => .inr h.2.1)
  have hT := text_parts (P := peerS x) (text_ok d n (x.fmod 9 == 5) hd hn) (et ▸ ett) hPP
  obtain ⟨f, ef, hf⟩ : ∃ f, fieldS x = mkS f ∧ (f = [] ∨ f = [120]) := (two_is x).elim (fun h => ⟨_, h.1, .inl rfl⟩) (fun h => ⟨_, h.1, .inr rfl⟩)
  obtain ⟨q, eq, hq⟩ : ∃ q, codeS x = mkS [50, 50, q] ∧ (q = 55 ∨ q = 48) := (two_is x).elim (fun h => ⟨_, h.2.2, .inl rfl⟩) (fun h => ⟨_, h.2.2, .inr rfl⟩)
  obtain ⟨c40, c41, c124, c33, c58, ht5, hPk, hint⟩ := hT
  have hcm : clean m t = true := by rcases hm with rfl | rfl | rfl <;> assumption
  have hm256 : m < 256 := by rcases hm with rfl | rfl | rfl <;> decide
  have hfm : clean m f = true := by rcases hm with rfl | rfl | rfl <;> rcases hf with rfl | rfl <;> rfl
  have hf41 : clean 41 f = true := by rcases hf with rfl | rfl <;> rfl
  have hm41 : Nat.beq m 41 = false := by rcases hm with rfl | rfl | rfl <;> rfl
  have hfl : f.length ≤ 1 := by rcases hf with rfl | rfl <;> simp
  have hi : ∀ (z : List (List Nat)), (segsOf f t z).all (clean m) = z.all (clean m) := fun z => by
    simp only [segsOf, List.all_cons, hfm, hcm, Bool.true_and]; rfl
  have base : markS x ++ fieldS x ++ markS x ++ fieldS x ++ markS x ++ textS x ++ markS x = mkS (m :: (f ++ m :: (f ++ m :: (t ++ [m])))) := by
    rw [em, ef, ett]; simp only [mkS_app]; simp
  have key : ∀ (a b c : Nat) (w tail : List Nat), mkS [a, b, c] ++ mkS (entL ++ [40]) ++ mkS w ++ mkS tail = mkS (lineL [a, b, c] w tail) := fun a b c w tail => by
    simp only [mkS_app, lineL]; simp
  have key2 : ∀ (a b c : Nat) (w w' tail : List Nat), mkS [a, b, c] ++ mkS (entL ++ [40]) ++ (mkS w ++ mkS w') ++ mkS tail = mkS (lineL [a, b, c] (w ++ w') tail) := fun a b c w w' tail => by
    rw [mkS_app w w', key]
  have hlit : Str.ofString "229" = mkS [50, 50, 57] := lit229
  match k, hk, ek' with
  | 6, _, ek' =>
    have e1 : (x.fmod 9 != 6) = false := by rw [ek']; rfl
    have er : replyS x = Str.ofString "229x2" ++ Txt.replace (Str.ofString (toString ((n : Nat) : Int))) (Str.ofString "2") (Str.ofString "3") ++ Str.ofString "2)" := by
      unfold replyS portS; rw [e1, en]; rfl
    rw [er]
    exact facts_six (List.all_eq_true.mp six100 n (List.mem_range.mpr hn))
  | 0, _, ek' =>
    have e5 : (x.fmod 9 == 5) = false := by rw [ek']; rfl
    rw [rep_gen (c := Str.ofString "229") (z := Str.ofString "") (tail := Str.ofString ").") (by rw [ek']; rfl) (by rw [ek']; rfl) (by rw [ek']; rfl) (by rw [ek']; rfl), base, hlit, l1, l2, l5, key2, List.append_nil]
    exact facts_line (z := [[]]) (body' := m :: (f ++ m :: (f ++ m :: t))) (zl := m) rfl hm256 (by simp [glueL, segsOf]) (by simp only [glueL, segsOf, clean_app, clean_cons, List.nil_append, hf41, c41, hm41]; rfl) (hi _) (by simp [glueL, segsOf]; lia) hPk (res0 (by decide) (e5 ▸ hint))
  | 1, _, ek' =>
    have e5 : (x.fmod 9 == 5) = false := by rw [ek']; rfl
    rw [rep_gen (c := Str.ofString "229") (z := Str.ofString "") (tail := Str.ofString ").") (by rw [ek']; rfl) (by rw [ek']; rfl) (by rw [ek']; rfl) (by rw [ek']; rfl), base, hlit, l1, l2, l5, key2, List.append_nil]
    exact facts_line (z := [[]]) (body' := m :: (f ++ m :: (f ++ m :: t))) (zl := m) rfl hm256 (by simp [glueL, segsOf]) (by simp only [glueL, segsOf, clean_app, clean_cons, List.nil_append, hf41, c41, hm41]; rfl) (hi _) (by simp [glueL, segsOf]; lia) hPk (res0 (by decide) (e5 ▸ hint))
  | 2, _, ek' =>
    have e5 : (x.fmod 9 == 5) = false := by rw [ek']; rfl
    rw [rep_gen (c := Str.ofString "229") (z := Str.ofString "") (tail := Str.ofString ").") (by rw [ek']; rfl) (by rw [ek']; rfl) (by rw [ek']; rfl) (by rw [ek']; rfl), base, hlit, l1, l2, l5, key2, List.append_nil]
    exact facts_line (z := [[]]) (body' := m :: (f ++ m :: (f ++ m :: t))) (zl := m) rfl hm256 (by simp [glueL, segsOf]) (by simp only [glueL, segsOf, clean_app, clean_cons, List.nil_append, hf41, c41, hm41]; rfl) (hi _) (by simp [glueL, segsOf]; lia) hPk (res0 (by decide) (e5 ▸ hint))
  | 3, _, ek' =>
    rw [rep_gen (c := codeS x) (z := Str.ofString "") (tail := Str.ofString ").") (by rw [ek']; rfl) (by rw [ek']; rfl) (by rw [ek']; rfl) (by rw [ek']; rfl), base, eq, l1, l2, l5, key2, List.append_nil]
    refine facts_line (z := [[]]) (body' := m :: (f ++ m :: (f ++ m :: t))) (zl := m) ?_ hm256 (by simp [glueL, segsOf]) (by simp only [glueL, segsOf, clean_app, clean_cons, List.nil_append, hf41, c41, hm41]; rfl) (hi _) (by simp [glueL, segsOf]; lia) hPk ?_
    · rcases hq with rfl | rfl <;> rfl
    · rcases hq with rfl | rfl <;> rfl
  | 4, _, ek' =>
    rw [rep_gen (c := Str.ofString "229") (z := Str.ofString "") (tail := Str.ofString ".") (by rw [ek']; rfl) (by rw [ek']; rfl) (by rw [ek']; rfl) (by rw [ek']; rfl), base, hlit, l1, l3, l5, key2, List.append_nil]
    exact facts_open (by simp only [clean_app, clean_cons, hf41, c41, hm41]; rfl) (by simp; lia)
  | 5, _, ek' =>
    have e5 : (x.fmod 9 == 5) = true := by rw [ek']; rfl
    rw [rep_gen (c := Str.ofString "229") (z := Str.ofString "") (tail := Str.ofString ").") (by rw [ek']; rfl) (by rw [ek']; rfl) (by rw [ek']; rfl) (by rw [ek']; rfl), base, hlit, l1, l2, l5, key2, List.append_nil]
    exact facts_line (z := [[]]) (body' := m :: (f ++ m :: (f ++ m :: t))) (zl := m) rfl hm256 (by simp [glueL, segsOf]) (by simp only [glueL, segsOf, clean_app, clean_cons, List.nil_append, hf41, c41, hm41]; rfl) (hi _) (by simp [glueL, segsOf]; lia) hPk (res5 (by decide) (e5 ▸ hint))
  | 7, _, ek' =>
    rw [rep_gen (c := Str.ofString "229") (z := Str.ofString "#") (tail := Str.ofString ").") (by rw [ek']; rfl) (by rw [ek']; rfl) (by rw [ek']; rfl) (by rw [ek']; rfl), base, hlit, l1, l2, l4, key2]
    have eg : (m :: (f ++ m :: (f ++ m :: (t ++ [m])))) ++ [35] = glueL m (segsOf f t [[35]]) := by simp [glueL, segsOf]
    rw [eg]
    refine facts_line (z := [[35]]) (body' := m :: (f ++ m :: (f ++ m :: (t ++ [m])))) (zl := 35) rfl hm256 (by simp [glueL, segsOf]) (by simp only [glueL, segsOf, clean_app, clean_cons, List.nil_append, hf41, c41, hm41]; rfl) ((hi _).trans ?_) (by simp [glueL, segsOf]; lia) hPk ?_
    · rcases hm with rfl | rfl | rfl <;> rfl
    · rcases hm with rfl | rfl | rfl <;> rfl
  | 8, _, ek' =>
    rw [rep_gen (c := Str.ofString "229") (z := fieldS x ++ markS x) (tail := Str.ofString ").") (by rw [ek']; rfl) (by rw [ek']; rfl) (by rw [ek']; rfl) (by rw [ek']; rfl), base, hlit, l1, l2, ef, em, mkS_app f [m], key2]
    have eg : (m :: (f ++ m :: (f ++ m :: (t ++ [m])))) ++ (f ++ [m]) = glueL m (segsOf f t [f, []]) := by simp [glueL, segsOf]
    rw [eg]
    refine facts_line (z := [f, []]) (body' := m :: (f ++ m :: (f ++ m :: (t ++ m :: f)))) (zl := m) rfl hm256 (by simp [glueL, segsOf]) (by simp only [glueL, segsOf, clean_app, clean_cons, List.nil_append, hf41, c41, hm41]; rfl) ((hi _).trans ?_) (by simp [glueL, segsOf]; lia) hPk ?_
    · simp only [List.all_cons, hfm]; rfl
    · rcases hm with rfl | rfl | rfl <;> rfl
end Mine
end
section
open PySem PySem.W PyProof.Rows PySem.NumText PySem.StrLaws PySem.Builtin PySem.Builtin.Str
set_option Elab.async false
set_option maxRecDepth 100000
set_option maxHeartbeats 8000000
namespace Mine
/-- the key of x's reply -/
noncomputable def keyK (x : Int) : KD := if x.fmod 9 < 3 then .ok ((x.fdiv 900).fmod 2 == 1) ((x.fdiv 9).fmod 100) else if x.fmod 9 = 3 then .no 1 else if x.fmod 9 = 5 then .no 3 else .no 2
theorem peer_is (x : Int) : peerS x = if ((x.fdiv 900).fmod 2 == 1) = true then sB else sA := by
  obtain ⟨n, hn, e⟩ := mod_nat (x.fdiv 900) 2 (by lia)
  have e' : (x.fdiv 900).fmod 2 = (n : Int) := e
  unfold peerS
  rw [e']
  match n, hn with
  | 0, _ => rfl
  | 1, _ => rfl
theorem keyK_wf (x : Int) : (keyK x).wf := by
  unfold keyK
  obtain ⟨n, hn, e⟩ := port_nat x
  split
  · exact ⟨by rw [e]; lia, by rw [e]; lia⟩
  · split
    · exact (by decide : (1 : Int) ≤ 1)
    · split
      · exact (by decide : (1 : Int) ≤ 3)
      · exact (by decide : (1 : Int) ≤ 2)
theorem key_enc {x : Int} {kv : List Value} (h : KeyVals x kv) : (keyK x).enc kv := by
  unfold keyK
  rcases h with ⟨h, t0, t1, t2, rfl⟩ | ⟨h, t, rfl⟩ | ⟨h, t, rfl⟩ | ⟨h, h5, t, rfl⟩
  · rw [if_pos h, peer_is]; exact ⟨t0, t1, t2, rfl⟩
  · rw [if_neg (by lia), if_pos h]; exact ⟨t, rfl⟩
  · rw [if_neg (by lia), if_neg (by lia), if_pos h]; exact ⟨t, rfl⟩
  · rw [if_neg (by lia), if_neg (by lia), if_neg h5]; exact ⟨t, rfl⟩
theorem heard_enc {x : Int} {vals : List Value} (h : HeardVals (replyS x) (peerS x) vals) : (keyK x).enc vals := by
  obtain ⟨k, p, hk, ek, ep, F⟩ := facts_x x
  have hr := F.res
  unfold HeardVals at h
  unfold keyK
  cases e : heardF (replyS x) with
  | one =>
    rw [e] at h hr
    obtain ⟨t, rfl⟩ := h
    have h3 : k = 3 := Nat.eq_of_beq_eq_true hr
    rw [ek, h3, if_neg (by decide), if_pos (by decide)]
    exact ⟨t, rfl⟩
  | two =>
    rw [e] at h hr
    obtain ⟨t, rfl⟩ := h
    have h4 : k = 4 ∨ 5 < k := by
      rcases Bool.or_eq_true_iff.mp hr with q | q
      · exact .inl (Nat.eq_of_beq_eq_true q)
      · exact .inr (Nat.le_of_ble_eq_true q)
    rw [ek, if_neg (by lia), if_neg (by lia), if_neg (by lia)]
    exact ⟨t, rfl⟩
  | three =>
    rw [e] at h hr
    obtain ⟨t, rfl⟩ := h
    have h5 : k = 5 := Nat.eq_of_beq_eq_true hr
    rw [ek, h5, if_neg (by decide), if_neg (by decide), if_pos (by decide)]
    exact ⟨t, rfl⟩
  | ok n =>
    rw [e] at h hr
    obtain ⟨t0, t1, t2, rfl⟩ := h
    obtain ⟨q1, q2⟩ := Bool.and_eq_true_iff.mp hr
    have h3 : k < 3 := Nat.le_of_ble_eq_true q1
    have hn : n = Int.ofNat p := by simpa using q2
    rw [ek, if_pos (by lia), peer_is, ep, hn]
    exact ⟨t0, t1, t2, rfl⟩
end Mine
end
section
open PySem PySem.W PyProof.Rows PySem.Spec PySem.Calls PySem.NumText
set_option Elab.async false
set_option maxRecDepth 100000
set_option maxHeartbeats 8000000
namespace Mine
section
variable {M : Model} {A : Around} {E : Value → Shared → Prop} {s : Shared} {env : Env} {Q : Flow → Shared → Prop}
theorem wpC_x_nil (h : wpAny M A (execs [] env) Q E s) : wpC M A (execs [] env) Q E s := wpC_of_any h
theorem wpC_gt {body orelse fin rest : List Stmt} {hs : List ExceptHandler} {pos : Pos} (h : wpC M A (execs (.Try body hs orelse fin pos :: rest) env) Q E s) : wpC M A (execs (.Try body hs orelse fin pos :: rest) env) Q E s := h
theorem wpC_CallN {fn : Str} {fp : Pos} {args : List Expr} {pos : Pos} {Q : Value → Shared → Prop}
    (h : wpAny M A (eval (.Name fn fp) env) (fun f s₁ => wpC M A (callWith pos f [] (backTo pos (starEach args env)) []) Q E s₁) E s)
    (he : eval (.Call (.Name fn fp) args [] pos) env = (do callWith pos (← eval (.Name fn fp) env) [] (backTo pos (starEach args env)) (backToKw pos (keywordEach [] env))) := by rfl) :
    wpC M A (eval (.Call (.Name fn fp) args [] pos) env) Q E s := wpC_Call h he
theorem wpC_g {x fn : Str} {pos' fp cp pos : Pos} {args : List Expr} {kw : List Keyword} {rest : List Stmt} (h : wpC M A (execs (.Assign [.Name x pos'] (.Call (.Name fn fp) args kw cp) pos :: rest) env) Q E s) : wpC M A (execs (.Assign [.Name x pos'] (.Call (.Name fn fp) args kw cp) pos :: rest) env) Q E s := h
theorem wpC_x_ret {e : Option Expr} {pos : Pos} {rest : List Stmt} (h : wpAny M A (execs (.Return e pos :: rest) env) Q E s) : wpC M A (execs (.Return e pos :: rest) env) Q E s := wpC_of_any h
theorem wpC_x_any {st : Stmt} {rest : List Stmt} (h : wpAny M A (exec st env) (fun f s' => match f with | .next => wpC M A (execs rest env) Q E s' | f => Q f s') E s) : wpC M A (execs (st :: rest) env) Q E s := wpC_execs_cons (wpC_of_any h)
end
theorem raised_drop {base G : Heap} {l : List Env} {e t : Addr} {cls : Value} {vs : List Value} {news news' : List (Addr × Obj)} {h : Heap} (R : RaisedS base G l e cls t vs news' h) (hs : ∀ p ∈ news, p ∈ news') : RaisedS base G l e cls t vs news h := by
  obtain ⟨⟨B, h1, h2, h3, h4, h5⟩, h6⟩ := R
  exact ⟨⟨B, h1, h2, fun q hq => h3 q (hs q hq), h4, h5⟩, h6⟩
/-- error_proto(Y) has come out of the call -/
noncomputable def Proto (base g : Heap) (L : Addr) (m : Str → Option Value) (l : List Env) (Y : Str) (t1 : Tok) (news : List (Addr × Obj)) (s : Shared) (e : Value) (s' : Shared) : Prop :=
  ∃ g' ea t h' tk', e = .ref ea ∧ s' = { s with heap := h', toks := tk' } ∧ Fr g L g' m ∧ RaisedS base g' l ea (.ref 49) t [.str Y t1] news h' ∧ g'.UpToSlots h' ∧ heardF Y = .two
section
variable {A₀ A : Around} {E : Value → Shared → Prop} {s : Shared} {Q : Value → Shared → Prop} {base g g' h' : Heap} {L a ea t : Addr} {m : Str → Option Value} {cn : Str} {cs : Scope} {ccd p f : Value} {outer : List Env} {Y : Str} {t1 : Tok} {news news' : List (Addr × Obj)} {M : Model} {l : List Env} {tk' : Nat}
theorem proto_i (F : Fr g L g' m) (S : RaisedS base g' l ea (.ref 49) t [.str Y t1] news' h') (U : g'.UpToSlots h') (hs : ∀ p ∈ news, p ∈ news') (h2 : heardF Y = .two) : Proto base g L m l Y t1 news s (.ref ea) { s with heap := h', toks := tk' } :=
  ⟨g', ea, t, h', tk', rfl, rfl, F, raised_drop S hs, U, h2⟩
theorem call_join (_ : Below A₀ base outer g) (_ : Fr g L s.heap m) (_ : News g L s.heap news) (_ : A.frames = some (envOf cn cs L a ccd :: outer))
    (h : wpC M A (call f [.str Y t1, p]) Q (fun e s' => E e s' ∨ Proto base g L m (envOf cn cs L a ccd :: outer) Y t1 news s e s') s)
    (k : ∀ g' ea t h' tk', Fr g L g' m → RaisedS base g' (envOf cn cs L a ccd :: outer) ea (.ref 49) t [.str Y t1] news h' → g'.UpToSlots h' → heardF Y = .two → E (.ref ea) { s with heap := h', toks := tk' }) : wpC M A (call f [.str Y t1, p]) Q E s := by
  refine wpC_mono h (fun _ _ x => x) fun e s' x => ?_
  rcases x with x | ⟨g', ea, t, h', tk', rfl, rfl, F, S, U, h2⟩
  · exact x
  · exact k g' ea t h' tk' F S U h2
end
theorem int_orC {prog : Program} {w : World} {A : Around} {E : Value → Shared → Prop} {s : Shared} {Q : Value → Shared → Prop} {x : PySem.Str} {t : Tok} (hl : x.length ≤ 640) (hlen : ((numSeenOf x).length == (numTextOf x).length) = true) (hh : A.handled = none) (hz : (reprText x).length ≤ 1000)
    (h1 : ∀ n, PySem.intText? x = some n → Q (.int n s.toks) { s with toks := s.toks + 1 }) (h2 : PySem.intText? x = none → ∀ h' e tk, Heap.NewExc s.heap h' e "ValueError" → E (.ref e) { s with heap := h', toks := tk }) : wpC (model prog w) A (call (.type "int") [.str x t]) Q E s := by
  cases h : PySem.intText? x with
  | none => exact int_bad hl h hlen hh hz (h2 h)
  | some n => exact wpC_of_any (KIN.call_text h hl (h1 n h))
theorem heard_call (w : World) (loose : List Str) (mean : ExcName → Option Value) (mg mb : Str → Option Value)
  (cn : Str) (cs : Scope) (a : Addr) (ccd : Value) (cl : List (Str × Addr)) (A₀ : Around) (base h₀ : Heap) (L : Addr) (m : Str → Option Value) (news : List (Addr × Obj)) (s : Shared) (place : Int) (tp : Tok)
  (r tu ky : Addr) (Y P : Str) (t1 t2 t3 : Tok) (hY : Y.length ≤ 100)
   (hF : 0 ≤ Txt.find Y (Str.ofString "(") → 0 ≤ Txt.find3 Y (Str.ofString ")") (Txt.find Y (Str.ofString "(") + 1) → Txt.find Y (Str.ofString "(") + 1 < Y.length ∧ 1 ≤ Txt.find3 Y (Str.ofString ")") (Txt.find Y (Str.ofString "(") + 1) ∧ Txt.find3 Y (Str.ofString ")") (Txt.find Y (Str.ofString "(") + 1) ≤ Y.length)
   (hYY : (Y == Y) = true) (hT : ∀ y, ¬ Txt.find Y (Str.ofString "(") < 0 → ¬ Txt.find3 Y (Str.ofString ")") (Txt.find Y (Str.ofString "(") + 1) < 0 → (partsOf Y)[3]? = some y → PartOk P y)
    (Q E : Value → Shared → Prop) : mark hdx.heap_39 PySem.Challenge.rw_nq0026_01 →
    Below A₀ base [] h₀ → Fr h₀ L s.heap m → (hdx.heap_39 w.params).In h₀ → News h₀ L s.heap ((r, listOf #[.str Y t1, .ref tu, .ref ky, .int place tp] 0) :: (tu, tupObj [.str P t2, .int 21 t3]) :: news) → Top hdx.view_39 loose mean mg mb h₀ → cs.kind = .function →
    (hdx.heap_39 w.params).In base → Top hdx.view_39 loose mean mg mb base →
    (∀ l vals h' tk', HeardVals Y P vals → Fr h₀ L h' m → News h₀ L h' ((l, listOf vals.toArray 0) :: (r, listOf #[.str Y t1, .ref tu, .ref ky, .int place tp] 0) :: (tu, tupObj [.str P t2, .int 21 t3]) :: news) → Q (.ref l) { s with heap := h', toks := tk' }) →
    wpC (model prog w) (ktrTop 400 1000 (some []) cn cs L a ccd cl []) (call (.ref 88) [.ref r]) Q E s := by
  k_fill
  intro _ B F X N T hk XB TB hret
  refine wpC_call ?_
  k_dflt (refine' codeC_defSX ?k1 ?k2 ?k3 ?k4 ?k5 ?kA ?kF ?kK ?k6 ?k7 ?k8 ?k9 ?kB ?_ ?c2 ?c3 ?c4 ?c5; (case kA => exact rfl); (case kF => exact rfl); (case kK => exact hk); (case k1 => exact B); (case k2 => exact F); (case k3 => exact X); (case k4 => exact N); (case k5 => exact T); (case k6 => k_is); (case k7 => k_is); (case k8 => k_room); (case k9 => exact BindsTo.of_eq rfl); (case kB => exact locs rfl); (case c2 => exact rfl); (case c3 => exact rfl); (case c4 => exact rfl); (case c5 => decide); k_whole; intro g' L' h' FG' F' N' B' X' T' D' l1; (try k_lt l1); (try dsimp only); (try k_fold))
  k_steps
  repeat' ((first
    | ((with_reducible refine' Or.inr (proto_i ?p1 ?p2 ?p3 ?p4 ?p5)); (case p1 => with_reducible assumption); (case p2 => with_reducible assumption); (case p3 => with_reducible assumption); (case p4 => kcj_all); (case p5 => first | exact h2a (by assumption) (by assumption) | exact h2b (by assumption) (by assumption) (by assumption) | exact h2c (by assumption) (by assumption) (by assumption) (by assumption) | exact h2d (by assumption) (by assumption) (by assumption) (by assumption) (by assumption) (by assumption)))
    | (with_reducible refine Or.inl ?_)
    | ((with_reducible show wpAny _ _ (subscriptTail _ _ (Value.str _ _) (Value.int _ _)) _ _ _); (refine KXi.item rfl ?k1 ?k2 ?k3 ?_); (case k1 => omega); (case k2 => omega); (case k3 => omega); intro _)
    | ((rename Got _ _ _ _ _ => gotX); (with_reducible refine' str_got ?k1 ?k2 ?k3 gotX ?k4 ?k5 ?k6 ?_); (case k1 => k_asm); (case k2 => k_asm); (case k3 => with_reducible assumption); (case k4 => first | exact Or.inl rfl | exact Or.inr rfl); (case k5 => exact Nat.le_of_ble_eq_true rfl); (case k6 => exact Nat.le_of_ble_eq_true rfl))
    | ((refine' str_told ?k1 ?k2 ?k3 ?k4 ?k5 ?k6 ?_); (case k1 => k_asm); (case k2 => k_asm); (case k3 => k_mem); (case k4 => exact rfl); (case k5 => first | exact Nat.le_of_ble_eq_true rfl | decide); (case k6 => ((with_reducible rename PySem.intText? _ = some _ => inX); exact (part_ok (by assumption) (by assumption) (by assumption) (by assumption) (by assumption)).2.2 _ inX)); (intro _ _ _ _ _))
    | (with_reducible refine wpC_x_nil ?_)
    | ((with_reducible refine wpC_gt ?_); k_dflt (refine wpC_execs_cons ?_; refine wpC_Try_except ?_); (try dsimp only))
    | ((with_reducible refine wpC_g ?_); k_dflt (refine wpC_execs_cons ?_; refine wpC_Assign_Name ?_; refine wpC_Call ?_); (try dsimp only))
    | ((with_reducible refine wpC_x_ret ?_); (try dsimp only))
    | ((with_reducible refine wpC_execs_cons (wpC_of_any ?_)); (try dsimp only))
    | ((with_reducible show wpC _ _ (callWith _ (Value.type _) _ _ _) _ _ _); refine callWithC_type1 ?_)
    | (k_here; (with_reducible show wpC _ _ (callWith _ (Value.ref _) _ _ _) _ _ _); k_dflt (refine' callWithC_K ?k1 ?k2 ?_; (case k1 => k_asm); (case k2 => k_is); k_whole))
    | (k_here; (with_reducible show wpC _ _ (call (Value.ref _) _) _ _ _); k_dflt (refine' call_join ?jB ?jF ?jN ?jA ?jh ?jk; (case jA => exact rfl); (case jF => k_asm); (case jB => k_asm); (case jN => k_asm)); (case' jk => (intro g' ea t' h' tk' FG' S' U' hTwo; have R' := S'.toK; (try dsimp only))); (case' jh => skip); refine wpC_call ?_; k_dflt (refine' codeC_defS ?k1 ?k2 ?k3 ?k4 ?k5 ?XB ?TB ?D ?T0 ?kA ?k6 ?k7 ?k8 ?k9 ?kB ?_ ?cK ?c2 ?c3 ?c4 ?c5; (case kA => exact rfl); (case k2 => k_asm); (case k1 => k_asm); (case XB => assumption); (case TB => assumption); (case D => assumption); (case T0 => first | assumption | exact KtsTurn.refl); (case k3 => k_asm); (case k4 => k_asm); (case k5 => k_asm); (case k6 => k_is); (case k7 => k_is); (case k8 => k_room); (case k9 => exact BindsTo.of_eq rfl); (case kB => exact locs rfl); (case cK => exact rfl); (case c2 => exact rfl); (case c3 => exact rfl); (case c4 => exact rfl); (case c5 => decide); k_whole; intro g' L' h' FG' F' N' B' X' T' D'; (try dsimp only); (try k_lift B'); (try k_fold)))
    | ((with_reducible show wpC _ _ (call (Value.type "int") [Value.str _ _]) _ _ _); (refine int_orC ?k1 ?kl ?kh ?kz ?_ ?_); (case k1 => exact part_len (by assumption) (by assumption) (by assumption) (by assumption)); (case kl => exact (part_ok (by assumption) (by assumption) (by assumption) (by assumption) (by assumption)).1); (case kh => exact rfl); (case kz => exact (part_ok (by assumption) (by assumption) (by assumption) (by assumption) (by assumption)).2.1); (intro _ _); rotate_left; (intro _ _ _ _ _))) <;> k_steps)
  all_goals first
    | (exfalso; simp at *; done)
    | (refine' hret _ _ _ _ ?eV ?eF (cb_drop ?eN ?eS)
       (case eF => k_asm)
       (case eN => with_reducible assumption)
       (case eS => kcj_all)
       (case eV => first | exact hv1 (by assumption) | exact hv2 (by with_reducible assumption) | exact h3 (by assumption) (by assumption) (by assumption) (by assumption) (by assumption) (by assumption) (by assumption) (by assumption) | exact h0 (by assumption) (by assumption) (by assumption) (by assumption) (by assumption) (by assumption) (by assumption) (by assumption)))
end Mine
end
section
open PySem PySem.W PySem.W.X PyProof.Rows PySem.Calls PySem.Builtin PyProof.Rows.LCg
set_option Elab.async false
set_option maxRecDepth 100000
set_option maxHeartbeats 8000000
namespace Mine
section
variable {w : World} {E : Value → Shared → Prop} {loose : List Str} {mean : ExcName → Option Value} {mg mb : Str → Option Value} {h₀ h : Heap} {g : Array GenState} {d : Drawn} {tk : Tok} {os : OsState} {L : Addr} {m : Str → Option Value}
theorem wpC_deep {α : Type} {M : Model} {dp dp' un un' : Nat} {gd : Option (List Code)} {cn : Str} {cs : Scope} {a : Addr} {ccd : Value} {cl : List (Str × Addr)} {outer : List Env} {t : Sem α} {Q : α → Shared → Prop} {s : Shared} (hd : dp ≤ dp') (hu : un ≤ un')
    (h : wpC M (ktrTop dp' un' gd cn cs L a ccd cl outer) t Q E s) : wpC M (ktrTop dp un gd cn cs L a ccd cl outer) t Q E s :=
  fun Γ p hΓ hc => h Γ p ⟨hΓ.1, Nat.le_trans hΓ.2.1 hd, hΓ.2.2.1, hΓ.2.2.2.1, Nat.le_trans hΓ.2.2.2.2 hu⟩ hc
theorem str_refl (y : Str) : (y == y) = true := by simp
theorem heard_keep {Q : Value → Shared → Prop} {x : Int} {i : Nat} {r tu ky : Addr} {t1 t2 t3 tp : Tok} (F : Fr h₀ L h m) (X : (hdx.heap_39 w.params).In h₀) (T : Top hdx.view_39 loose mean mg mb h₀)
    (er : h.get? r = some (listOf #[.str (replyS x) t1, .ref tu, .ref ky, .int i tp] 0)) (eu : h.get? tu = some (tupObj [.str (peerS x) t2, .int 21 t3])) (rL : r ≠ L) (uL : tu ≠ L) (nr0 : h₀.get? r = none) (nu0 : h₀.get? tu = none)
    (hret : ∀ l vals h' tk', (keyK x).enc vals → Fr h₀ L h' m → KpL L h h' → h'.get? l = some (listOf vals.toArray 0) → l ≠ L → h₀.get? l = none → Q (.ref l) ⟨h', g, d, tk', os⟩) :
    wpC (model prog w) (AL L) (call (.ref 88) [.ref r]) Q E ⟨h, g, d, tk, os⟩ := by
  obtain ⟨k, p, hk, ek, ep, FX⟩ := facts_x x
  refine wpC_deep (dp' := 400) (un' := 1000) (by decide) (by decide) ?_
  refine heard_call w loose mean mg mb (Str.ofString "law") (scopeOf lawS) 93 (.ref 92) (cellsL L) callerA h₀ h₀ L m (allNews h₀ L h) ⟨h, g, d, tk, os⟩ i tp r tu ky (replyS x) (peerS x) t1 t2 t3 FX.len FX.hF (str_refl _) FX.hT Q E trivial (below_caller h₀) F X (fun p hp => ?_) T (by kernel_rfl) X T fun l vals h' tk' hv F' N' => ?_
  · rcases List.mem_cons.mp hp with rfl | hp
    · exact ⟨er, rL, nr0⟩
    · rcases List.mem_cons.mp hp with rfl | hp
      · exact ⟨eu, uL, nu0⟩
      · exact all_news p hp
  · exact hret l vals h' tk' (heard_enc hv) F' (kpl_of F F' fun p hp => N' p (.tail _ (.tail _ (.tail _ hp)))) (N' _ (.head _)).1 (N' _ (.head _)).2.1 (N' _ (.head _)).2.2
end
/-- what is heard of a reply, as it lies in a heap -/
noncomputable def PairF (f : Addr → Obj → Prop) (x : Int) (i : Nat) (v : Value) : Prop := ∃ p l tp c vals, v = .ref p ∧ f p (listOf #[.ref l, .int i tp] c) ∧ f l (listOf vals.toArray 0) ∧ (keyK x).enc vals
theorem PairF.mono {f g : Addr → Obj → Prop} {x : Int} {i : Nat} {v : Value} (t : PairF f x i v) (k : ∀ b o, f b o → g b o) : PairF g x i v := by
  obtain ⟨p, l, tp, c, vals, e, a, b, r⟩ := t
  exact ⟨p, l, tp, c, vals, e, k _ _ a, k _ _ b, r⟩
theorem enc_ne {x : KD} {vals : List Value} (h : x.enc vals) : vals ≠ [] := by
  cases x with
  | ok b n => obtain ⟨t0, t1, t2, rfl⟩ := h; simp
  | no c => obtain ⟨t, rfl⟩ := h; simp
end Mine
end
section
open PySem PySem.W PySem.W.X PyProof.Rows PySem.Calls PySem.Builtin PyProof.Rows.LCg
set_option Elab.async false
set_option maxRecDepth 100000
set_option maxHeartbeats 8000000
namespace Mine
section
variable {M : Model} {A : Around} {E : Value → Shared → Prop} {s : Shared} {env : Env}
theorem wpC_spliced_cons {x : Sem Value} {rest : List (Bool × Sem Value)} {Q : List Value → Shared → Prop}
    (h : wpC M A x (fun v s₁ => wpAny M A (spliced rest) (fun vs s₂ => Q (v :: vs) s₂) E s₁) E s) : wpC M A (spliced ((false, x) :: rest)) Q E s := by
  rw [spliced]
  refine wpC_bind (wpC_mono h (fun v s₁ h₁ => ?_) fun _ _ x => x)
  simp only [Bool.false_eq_true, if_false]
  exact wpC_of_any (wpAny_bind (wpAny_pure (wpAny_bind (wpAny_holding (wpAny_mono h₁ (fun vs s₂ h₂ => wpAny_pure h₂) fun _ _ x => x)))))
theorem wpC_List {elts : List Expr} {pos : Pos} {Q : Value → Shared → Prop}
    (h : wpC M A (spliced (backTo pos (starEach elts env))) (fun vs s₁ => wpAny M A (newList vs) Q E s₁) E s) : wpC M A (eval (.List elts pos) env) Q E s := by
  show wpC M A (do standAt pos; newList (← spliced (backTo pos (starEach elts env)))) Q E s
  exact wpC_abind (wpAny_standAt (wpC_bind (wpC_mono h (fun _ _ h' => wpC_of_any h') fun _ _ x => x)))
end
/-- x[k] of a list that lies under the name x -/
theorem sub_at {w : World} {A : Around} {Q : Value → Shared → Prop} {E : Value → Shared → Prop} {h : Heap} {g : Array GenState} {d : Drawn} {tk : Tok} {os : OsState} {env : Env} {n : Str} {np cp pos : Pos} {k : Nat} {i : Int} {m : Str → Option Value} {l : Addr} {v : Value} {vs : Array Value}
   (hk : env.scope.kind = .function) (hl : env.kindOf n = some .local) (hns : h.Ns env.locals m) (hv : m n = some (.ref l)) (hd : (n == ("__debug__" : Str)) = false) (hL : h.IsList l vs) (i0 : 0 ≤ i) (i1 : i < 2 ^ 63) (h0 : vs[i.toNat]? = some v)
   (kk : ∀ tk', Q v ⟨h, g, d, tk', os⟩) : wpAny (model prog w) A (eval (.Subscript (.Name n np) (.Constant (.int i) k cp) pos) env) Q E ⟨h, g, d, tk, os⟩ := by
  refine Subscript_Constant ?_
  refine wpAny_Name (wpAny_loadName_local hk hl hns hv ?_) hd
  refine wpAny_Constant_int ?_
  obtain ⟨o, ho, hc, ne, hdt⟩ := id hL
  exact ⟨"list", "list.__getitem__", q_list_gi, ⟨o, ho, hc⟩, wpAny_getItem_list hL i0 i1 h0 (kk _)⟩
theorem kpl_ns {h h' : Heap} {L C : Addr} {m : Str → Option Value} (x : h.Ns C m) (k : KpL L h h') (hC : C ≠ L) : h'.Ns C m := x.at' fun o e => k C o hC e
theorem list_kpl {h h' : Heap} {L l : Addr} {vs : Array Value} (x : h.IsList l vs) (k : KpL L h h') (hl : l ≠ L) : h'.IsList l vs := by
  obtain ⟨o, ho, r⟩ := x
  exact ⟨o, k _ _ hl ho, r⟩
section
variable {w : World} {E : Value → Shared → Prop} {loose : List Str} {mean : ExcName → Option Value} {mg mb : Str → Option Value} {h₀ h : Heap} {g : Array GenState} {d : Drawn} {tk : Tok} {os : OsState} {L : Addr} {m : Str → Option Value}
theorem stmt2 {D : Addr} {ys : List Value} {zs : List Int} {news : List (Addr × Obj)} {Q : Flow → Shared → Prop} (F : Fr h₀ L h m) (X : (hdx.heap_39 w.params).In h₀) (T : Top hdx.view_39 loose mean mg mb h₀)
    (hm : m (Str.ofString "things") = some (.ref D)) (oD : h.get? D = some (lst ys)) (DL : D ≠ L) (nD : h₀.get? D = none) (h19 : ys.length ≤ 19) (hrows : RowsF (ThingF h₀) (Facts' h [L, D]) zs ys) (N : ∀ p ∈ news, Facts' h [L, D] p.1 p.2)
    (hret : ∀ D2 ps h' tk', Fr h₀ L h' (fun z => if z = Str.ofString "heard" then some (.ref D2) else m z) → h'.get? D2 = some (lst ps) → D2 ≠ L → h₀.get? D2 = none → ps.length = ys.length → RowsF PairF (Facts' h' [L, D2]) zs ps → RowsF (ThingF h₀) (Facts' h' [L, D2]) zs ys → Facts' h' [L, D2] D (lst ys) → (∀ p ∈ news, Facts' h' [L, D2] p.1 p.2) → Q .next ⟨h', g, d, tk', os⟩) :
    wpC (model prog w) (AL L) (exec (lawBody 1) (envL L)) Q E ⟨h, g, d, tk, os⟩ := by
  show wpC _ _ (exec (.Assign [.Name (Str.ofString "heard") _] (.ListComp (.List [.Call (.Name (Str.ofString "_law_heard") _) [.Name (Str.ofString "thing") _] [] _, .Subscript (.Name (Str.ofString "thing") _) (.Constant (.int 3) _ _) _] _) [⟨.Name (Str.ofString "thing") _, .Name (Str.ofString "things") _, [], 0⟩] _ _) _) _) _ _ _
  refine Assign_CompC (h₀ := h₀) (cl := []) rfl (by kernel_rfl) (by kernel_rfl) (by decide) (by rfl) (by decide) (by kernel_rfl) (by kernel_rfl) ?_
  have hlr : mg (Str.ofString "_law_heard") = some (.ref 88) := mg_of X T.g (by kernel_rfl)
  refine wpAny_Name (wpAny_loadName_local rfl (by kernel_rfl) F.ns hm ?_) (by decide +kernel)
  have hl : h.IsList D ys.toArray := ⟨_, oD, rfl, _, rfl⟩
  have hDlt : D < h.objs.size := Heap.lt_size oD
  refine wpAny_pyIter_list (s := ⟨h, g, d, tk, os⟩) hl ?_
  dsimp only
  have nI : h.get? h.objs.size = none := Heap.get?_none_of_le (Nat.le_refl _)
  have up : ∀ b o, h.get? b = some o → (h.push { cls := .type "list_iterator", data := .fields #[.ref D, .int 0 0] }).get? b = some o := fun b o e => Heap.get?_push_of_some _ e
  have hit : (h.push { cls := .type "list_iterator", data := .fields #[.ref D, .int 0 0] }).IsListIter h.objs.size D 0 := ⟨_, Heap.get?_push_size _ rfl, rfl, rfl⟩
  have F1 := F.keeps up
  have hl1 := list_keeps hl up
  have hsz1 : (h.push { cls := .type "list_iterator", data := .fields #[.ref D, .int 0 0] }).objs.size = h.objs.size + 1 := size_push' ..
  have oD1 := up _ _ oD
  have hrows1 : RowsF (ThingF h₀) (Facts' (h.push { cls := .type "list_iterator", data := .fields #[.ref D, .int 0 0] }) (L :: [h.objs.size])) zs ys := hrows.mono fun x i v t => t.mono fun b o q => ⟨up _ _ q.1, fun z => by
    rcases List.mem_cons.mp z with z | z
    · exact q.2 (z ▸ .head _)
    · have e := q.1; rw [List.mem_singleton.mp z, nI] at e; cases e⟩
  have N1 : ∀ p ∈ news, Facts' (h.push { cls := .type "list_iterator", data := .fields #[.ref D, .int 0 0] }) (L :: [h.objs.size]) p.1 p.2 := fun p hp => ⟨up _ _ (N p hp).1, fun z => by
    rcases List.mem_cons.mp z with z | z
    · exact (N p hp).2 (z ▸ .head _)
    · have e := (N p hp).1; rw [List.mem_singleton.mp z, nI] at e; cases e⟩
  have nI0 := none_keep F nI
  have IL : h.objs.size ≠ L := ne_of_none F.ns nI
  have DI : D ≠ h.objs.size := Nat.ne_of_lt hDlt
  have Wk := Walks.list (prog := prog) (w := w) (A := AL L) rfl h.objs.size D DI ys.toArray
  generalize h.push { cls := .type "list_iterator", data := .fields #[.ref D, .int 0 0] } = h1 at *
  generalize h.objs.size = I at *
  have nl : ∀ (i : Nat) (h : Heap), (h.IsListIter I D i ∧ h.IsList D ys.toArray) → ∀ b ∈ [I], ∃ o, h.get? b = some o ∧ o.cls ≠ .type "list" := fun i h st b hb => by
    rw [List.mem_singleton.mp hb]
    obtain ⟨⟨o, x, hc, _⟩, _⟩ := st
    exact ⟨o, x, fun q => absurd (Value.type.inj (hc.symm.trans q)) (by decide)⟩
  refine CompGo.mk (J := fun i ps f => ps.length = i ∧ (∀ p ∈ news, f p.1 p.2) ∧ f D (lst ys) ∧ RowsF (ThingF h₀) f zs ys ∧ RowsF PairF f zs ps) (m := m) (front_name (px := _) Wk nl)
    (by rw [List.size_toArray, sizeLine_eq]; omega) (fun C => ⟨by kernel_rfl, by kernel_rfl⟩) ⟨hit, hl1⟩ (fun b hb => ?_) F1 (fun q => ?_) (fun b hb => by rw [List.mem_singleton.mp hb]; exact nI0)
    (fun i ys f g hfg hj => ⟨hj.1, fun p hp => hfg _ _ (hj.2.1 p hp), hfg _ _ hj.2.2.1, hj.2.2.2.1.mono fun x i v t => t.mono hfg, hj.2.2.2.2.mono fun x i v t => t.mono hfg⟩)
    ⟨rfl, N1, ⟨oD1, fun q => ?_⟩, hrows1, fun j y e => by simp at e⟩ ?turn ?fin
  case turn =>
    intro i ps C D2 h2 tk2 m2 hlt hyl hj F2 hnC htg hCL hDL hCD nC nD2 oD2 hst hwr
    obtain ⟨v, hv, hmv⟩ := htg
    obtain ⟨hlen, hnw, hD2, hth, hpr⟩ := hj
    have hv' : ys[i]? = some v := by simpa using hv
    obtain ⟨x, hxi, r, tu, ky, t1, t2, t3, tp, kv, rfl, er, eu, ek, hkv, nr0, nu0, nk0⟩ := hth i v hv'
    have off : ∀ {b o}, Facts' h2 (L :: C :: D2 :: [I]) b o → b ≠ L := fun q z => q.2 (z ▸ .head _)
    refine wpC_pure ?_
    simp only [if_true]
    refine wpC_List ?_
    refine wpC_spliced_cons ?_
    refine wpC_Call ?_
    refine Name_function_global rfl (by kernel_rfl) (loadGlobal_global (T.g.keeps F2.keep) hlr ?_) (by decide +kernel)
    refine callWithC_K (K := hdx.heap_39 w.params) X (by kernel_rfl) ?_
    refine spliced_cons (wpAny_Name (wpAny_loadName_local rfl (by kernel_rfl) hnC hmv ?_) (by decide +kernel))
    refine spliced_nil ⟨X.keeps F2.keep, ?_⟩
    refine heard_keep F2 X T er.1 eu.1 (off er) (off eu) nr0 nu0 fun l vals h3 tk3 henc F3 k3 el lL nl0 => ?_
    have er3 := k3 _ _ (off er) er.1
    refine spliced_cons (sub_at rfl (by kernel_rfl) (kpl_ns hnC k3 hCL) hmv (by decide +kernel) ⟨_, er3, rfl, _, rfl⟩ (by decide) (by decide) (v := .int i tp) (by rfl) fun tk4 => ?_)
    refine spliced_nil ?_
    refine wpAny_newObj_type ?_
    have hC3 := kpl_ns hnC k3 hCL
    have oD3 := k3 _ _ hDL oD2
    have lC : l ≠ C := fun q => by
      obtain ⟨o, es, ep, e, hd, _⟩ := hC3
      rw [← q, el] at e; cases e; cases hd
    have lD : l ≠ D2 := fun q => by
      rw [← q, el] at oD3
      have e : vals.toArray = ps.toArray ∧ 0 = ps.length := by
        have := congrArg Obj.data (Option.some.inj oD3)
        injection this with a b
        exact ⟨a, b⟩
      have : ps = [] := List.length_eq_zero_iff.mp e.2.symm
      rw [this] at e
      exact enc_ne henc (by simpa using e.1)
    have lI : l ≠ I := fun q => by
      obtain ⟨o, ho, hc⟩ := hwr I (.head _)
      have IL' : I ≠ L := IL
      have := k3 _ _ IL' ho
      rw [← q, el] at this; cases this
      exact hc rfl
    have lX : l ∉ L :: C :: D2 :: [I] := fun q => by
      rcases List.mem_cons.mp q with q | q
      · exact lL q
      · rcases List.mem_cons.mp q with q | q
        · exact lC q
        · rcases List.mem_cons.mp q with q | q
          · exact lD q
          · exact lI (List.mem_singleton.mp q)
    have up3 : ∀ b o, h3.get? b = some o → (h3.push { cls := .type "list", data := .seq [Value.ref l, .int i tp].toArray }).get? b = some o := fun b o e => Heap.get?_push_of_some _ e
    have np : h3.get? h3.objs.size = none := Heap.get?_none_of_le (Nat.le_refl _)
    have pX : h3.objs.size ∉ L :: C :: D2 :: [I] := fun q => by
      rcases List.mem_cons.mp q with q | q
      · exact ne_of_none F3.ns np q
      · rcases List.mem_cons.mp q with q | q
        · exact ne_of_none hC3 np q
        · rcases List.mem_cons.mp q with q | q
          · rw [q, oD3] at np; cases np
          · obtain ⟨o, ho, hc⟩ := hwr I (.head _)
            have := k3 _ _ IL ho
            rw [← List.mem_singleton.mp q, np] at this; cases this
    have push : ∀ b o, Facts' h2 (L :: C :: D2 :: [I]) b o → Facts' (h3.push { cls := .type "list", data := .seq [Value.ref l, .int i tp].toArray }) (L :: C :: D2 :: [I]) b o := fun b o q => ⟨up3 _ _ (k3 _ _ (off q) q.1), q.2⟩
    refine ⟨_, tk4, rfl, F3.keeps up3, fun b o hb e => up3 _ _ (k3 _ _ hb e), by rw [List.length_append, List.length_singleton, hlen], fun p hp => push _ _ (hnw p hp), push _ _ hD2, hth.mono fun x i v t => t.mono push, ?_⟩
    refine (hpr.mono fun x i v t => t.mono push).snoc (x := x) (by rw [hlen]; exact hxi) ?_
    rw [hlen]
    exact ⟨h3.objs.size, l, tp, _, vals, rfl, ⟨Heap.get?_push_size _ rfl, pX⟩, ⟨up3 _ _ el, lX⟩, henc⟩
  case fin =>
    intro D2 h2 tk2 ps F2 oD2 hDL nD0 hj
    exact hret D2 ps h2 tk2 F2 oD2 hDL nD0 (by simpa using hj.1) hj.2.2.2.2 hj.2.2.2.1 hj.2.2.1 hj.2.1
  · rcases List.mem_cons.mp hb with rfl | hb
    · rw [hsz1]; exact Nat.lt_succ_self _
    · rw [List.mem_singleton.mp hb, hsz1]; exact Nat.lt_succ_of_lt hDlt
  · rcases List.mem_cons.mp q with q | q
    · exact IL q.symm
    · exact DL (List.mem_singleton.mp q).symm
  · rcases List.mem_cons.mp q with q | q
    · exact DL q
    · exact DI (List.mem_singleton.mp q)
end
end Mine
end
section
open PySem PySem.W PySem.W.X PyProof.Rows PySem.Calls PySem.Builtin PyProof.Rows.LCg PySem.SeqAt
set_option Elab.async false
set_option maxRecDepth 100000
set_option maxHeartbeats 8000000
namespace Mine
theorem enc_vEqB {x : KD} {vs us : List Value} (hx : x.enc vs) (hy : x.enc us) : vs.length = us.length ∧ ∀ j (h1 : j < vs.length) (h2 : j < us.length), vEqB vs[j] us[j] = true := by
  cases x with
  | ok b n =>
    obtain ⟨t0, t1, t2, rfl⟩ := hx
    obtain ⟨u0, u1, u2, rfl⟩ := hy
    refine ⟨rfl, fun j h1 h2 => ?_⟩
    match j, h1 with
    | 0, _ => simp [vEqB]
    | 1, _ => simp [vEqB]
    | 2, _ => simp [vEqB]
  | no c =>
    obtain ⟨t, rfl⟩ := hx
    obtain ⟨u, rfl⟩ := hy
    refine ⟨rfl, fun j h1 h2 => ?_⟩
    match j, h1 with
    | 0, _ => simp [vEqB]
section
variable {A : Around} {s : Shared}
theorem all_true (n : Nat) : (List.range n).all (fun _ => true) = true := by simp
theorem eq_lists_true {l b : Addr} {items items2 : Array Value} (hl : s.heap.IsList l items) (hb : s.heap.IsList b items2) (hsz : items.size = items2.size) (hu : A.units < cLine)
    (he : ∀ j (h1 : j < items.size) (h2 : j < items2.size), EqAt A.in1 s items[j] items2[j] true) : EqAt A s (.ref l) (.ref b) true := by
  by_cases q : l = b
  · subst q; exact EqAt.same _
  · have := RcAt.lists (A := A) (s := s) (e := fun _ => true) hl hb hsz hu he
    rw [all_true] at this
    exact EqAt.of_refs q this
theorem enc_eq {x : KD} {vs us : List Value} {l b : Addr} (hx : x.enc vs) (hy : x.enc us) (hl : s.heap.IsList l vs.toArray) (hb : s.heap.IsList b us.toArray) (hu : A.units < cLine) : EqAt A s (.ref l) (.ref b) true := by
  obtain ⟨hz, he⟩ := enc_vEqB hx hy
  refine eq_lists_true hl hb (by simpa using hz) hu fun j h1 h2 => ?_
  have h1' : j < vs.length := by simpa using h1
  have h2' : j < us.length := by simpa using h2
  have := eq_kin (A := A.in1) (s := s) (kin_enc hx hy j h1' h2')
  rw [he j h1' h2'] at this
  simpa using this
theorem pair_eq {X : List Addr} {x : Int} {i : Nat} {v v' : Value} (h : PairF (Facts' s.heap X) x i v) (h' : PairF (Facts' s.heap X) x i v') (hu : A.units + 1 < cLine) : EqAt A s v v' true := by
  obtain ⟨p, l, tp, c, vals, rfl, e1, e2, henc⟩ := h
  obtain ⟨p', l', tp', c', vals', rfl, e1', e2', henc'⟩ := h'
  refine eq_lists_true ⟨_, e1.1, rfl, _, rfl⟩ ⟨_, e1'.1, rfl, _, rfl⟩ rfl (by lia) fun j h1 h2 => ?_
  match j, h1 with
  | 0, _ => exact enc_eq (A := A.in1) henc henc' ⟨_, e2.1, rfl, _, rfl⟩ ⟨_, e2'.1, rfl, _, rfl⟩ (by show A.units + 1 < cLine; exact hu)
  | 1, _ =>
    have := EqAt.int_int (A := A.in1) (s := s) (i : Int) tp (i : Int) tp'
    rw [beq_self_eq_true] at this
    exact this
end
section
variable {w : World} {E : Value → Shared → Prop} {loose : List Str} {mean : ExcName → Option Value} {mg mb : Str → Option Value} {h₀ h : Heap} {g : Array GenState} {d : Drawn} {tk : Tok} {os : OsState} {L : Addr} {m : Str → Option Value}
theorem rows_len {T : (Addr → Obj → Prop) → Int → Nat → Value → Prop} {f : Addr → Obj → Prop} {zs : List Int} {ys : List Value} (_ : RowsF T f zs ys) : True := trivial
theorem stmt3 {D D2 : Addr} {ys ps : List Value} {zs : List Int} {news : List (Addr × Obj)} {Q : Flow → Shared → Prop} (F : Fr h₀ L h m)
    (hm : m (Str.ofString "things") = some (.ref D)) (hm2 : m (Str.ofString "heard") = some (.ref D2)) (oD : Facts' h [L, D2] D (lst ys)) (oD2 : h.get? D2 = some (lst ps)) (D2L : D2 ≠ L) (nD2 : h₀.get? D2 = none) (h19 : ys.length ≤ 19) (hlen : ps.length = ys.length)
    (hrows : RowsF (ThingF h₀) (Facts' h [L, D2]) zs ys) (hprs : RowsF PairF (Facts' h [L, D2]) zs ps) (N : ∀ p ∈ news, Facts' h [L, D2] p.1 p.2)
    (hret : ∀ h' tk', Fr h₀ L h' m → Facts' h' [L] D2 (lst ps) → RowsF PairF (Facts' h' [L]) zs ps → (∀ p ∈ news, Facts' h' [L] p.1 p.2) → Q .next ⟨h', g, d, tk', os⟩) :
    wpAny (model prog w) (AL L) (exec (lawBody 2) (envL L)) Q E ⟨h, g, d, tk, os⟩ := by
  show wpAny _ _ (exec (.If (.Compare (.Name (Str.ofString "heard") _) [.NotEq] [.ListComp (.List [.Subscript (.Name (Str.ofString "thing") _) (.Constant (.int 2) _ _) _, .Subscript (.Name (Str.ofString "thing") _) (.Constant (.int 3) _ _) _] _) [⟨.Name (Str.ofString "thing") _, .Name (Str.ofString "things") _, [], 0⟩] _ _] _) _ [] _) _) _ _ _
  refine wpAny_If ?_
  refine wpAny_isTrue_Compare1 ?_
  refine wpAny_Name (wpAny_loadName_local rfl (by kernel_rfl) F.ns hm2 ?_) (by decide +kernel)
  refine ListCompA (h₀ := h₀) (L := L) (cl := []) (by kernel_rfl) (by decide) (by rfl) (by decide) ?_
  refine wpAny_Name (wpAny_loadName_local rfl (by kernel_rfl) F.ns hm ?_) (by decide +kernel)
  have DL : D ≠ L := fun q => oD.2 (q ▸ .head _)
  have hl : h.IsList D ys.toArray := ⟨_, oD.1, rfl, _, rfl⟩
  have hDlt : D < h.objs.size := Heap.lt_size oD.1
  refine wpAny_pyIter_list (s := ⟨h, g, d, tk, os⟩) hl ?_
  dsimp only
  have nI : h.get? h.objs.size = none := Heap.get?_none_of_le (Nat.le_refl _)
  have up : ∀ b o, h.get? b = some o → (h.push { cls := .type "list_iterator", data := .fields #[.ref D, .int 0 0] }).get? b = some o := fun b o e => Heap.get?_push_of_some _ e
  have hit : (h.push { cls := .type "list_iterator", data := .fields #[.ref D, .int 0 0] }).IsListIter h.objs.size D 0 := ⟨_, Heap.get?_push_size _ rfl, rfl, rfl⟩
  have F1 := F.keeps up
  have hl1 := list_keeps hl up
  have hsz1 : (h.push { cls := .type "list_iterator", data := .fields #[.ref D, .int 0 0] }).objs.size = h.objs.size + 1 := size_push' ..
  have lift : ∀ b o, h.get? b = some o → b ≠ L → Facts' (h.push { cls := .type "list_iterator", data := .fields #[.ref D, .int 0 0] }) (L :: [h.objs.size]) b o := fun b o e hb => ⟨up _ _ e, fun z => by
    rcases List.mem_cons.mp z with z | z
    · exact hb z
    · rw [List.mem_singleton.mp z, nI] at e; cases e⟩
  have nI0 := none_keep F nI
  have IL : h.objs.size ≠ L := ne_of_none F.ns nI
  have DI : D ≠ h.objs.size := Nat.ne_of_lt hDlt
  have Wk := Walks.list (prog := prog) (w := w) (A := AL L) rfl h.objs.size D DI ys.toArray
  generalize h.push { cls := .type "list_iterator", data := .fields #[.ref D, .int 0 0] } = h1 at *
  generalize h.objs.size = I at *
  have nl : ∀ (i : Nat) (h : Heap), (h.IsListIter I D i ∧ h.IsList D ys.toArray) → ∀ b ∈ [I], ∃ o, h.get? b = some o ∧ o.cls ≠ .type "list" := fun i h st b hb => by
    rw [List.mem_singleton.mp hb]
    obtain ⟨⟨o, x, hc, _⟩, _⟩ := st
    exact ⟨o, x, fun q => absurd (Value.type.inj (hc.symm.trans q)) (by decide)⟩
  have offL : ∀ {b o}, Facts' h [L, D2] b o → b ≠ L := fun q z => q.2 (z ▸ .head _)
  refine CompGoA.mk (J := fun i qs f => qs.length = i ∧ (∀ p ∈ news, f p.1 p.2) ∧ f D2 (lst ps) ∧ RowsF (ThingF h₀) f zs ys ∧ RowsF PairF f zs ps ∧ RowsF PairF f zs qs) (m := m) (front_name (px := _) Wk nl)
    (by rw [List.size_toArray, sizeLine_eq]; lia) (fun C => ⟨by kernel_rfl, by kernel_rfl⟩) ⟨hit, hl1⟩ (fun b hb => ?_) F1 (fun q => ?_) (fun b hb => by rw [List.mem_singleton.mp hb]; exact nI0)
    (fun i ys f g hfg hj => ⟨hj.1, fun p hp => hfg _ _ (hj.2.1 p hp), hfg _ _ hj.2.2.1, hj.2.2.2.1.mono fun x i v t => t.mono hfg, hj.2.2.2.2.1.mono fun x i v t => t.mono hfg, hj.2.2.2.2.2.mono fun x i v t => t.mono hfg⟩)
    ⟨rfl, fun p hp => lift _ _ (N p hp).1 (offL (N p hp)), lift _ _ oD2 D2L, hrows.mono fun x i v t => t.mono fun b o q => lift _ _ q.1 (offL q), hprs.mono fun x i v t => t.mono fun b o q => lift _ _ q.1 (offL q), fun j y e => by simp at e⟩ ?turn ?fin
  case turn =>
    intro i qs C D3 h2 tk2 m2 hlt hyl hj F2 hnC htg hCL hDL hCD nC nD3 oD3 hst hwr
    obtain ⟨v, hv, hmv⟩ := htg
    obtain ⟨hqlen, hnw, hD2, hth, hpr, hqr⟩ := hj
    have hv' : ys[i]? = some v := by simpa using hv
    obtain ⟨x, hxi, r, tu, ky, t1, t2, t3, tp, kv, rfl, er, eu, ek, hkv, nr0, nu0, nk0⟩ := hth i v hv'
    refine wpAny_pure ?_
    simp only [if_true]
    refine PyProof.Rows.List_ ?_
    refine spliced_cons (sub_at rfl (by kernel_rfl) hnC hmv (by decide +kernel) ⟨_, er.1, rfl, _, rfl⟩ (by decide) (by decide) (v := .ref ky) (by rfl) fun tk3 => ?_)
    refine spliced_cons (sub_at rfl (by kernel_rfl) hnC hmv (by decide +kernel) ⟨_, er.1, rfl, _, rfl⟩ (by decide) (by decide) (v := .int i tp) (by rfl) fun tk4 => ?_)
    refine spliced_nil ?_
    refine wpAny_newObj_type ?_
    have up3 : ∀ b o, h2.get? b = some o → (h2.push { cls := .type "list", data := .seq [Value.ref ky, .int i tp].toArray }).get? b = some o := fun b o e => Heap.get?_push_of_some _ e
    have np : h2.get? h2.objs.size = none := Heap.get?_none_of_le (Nat.le_refl _)
    have pX : h2.objs.size ∉ L :: C :: D3 :: [I] := fun q => by
      rcases List.mem_cons.mp q with q | q
      · exact ne_of_none F2.ns np q
      · rcases List.mem_cons.mp q with q | q
        · exact ne_of_none hnC np q
        · rcases List.mem_cons.mp q with q | q
          · rw [q, oD3] at np; cases np
          · obtain ⟨o, ho, hc⟩ := hwr I (.head _)
            rw [← List.mem_singleton.mp q, np] at ho; cases ho
    have push : ∀ b o, Facts' h2 (L :: C :: D3 :: [I]) b o → Facts' (h2.push { cls := .type "list", data := .seq [Value.ref ky, .int i tp].toArray }) (L :: C :: D3 :: [I]) b o := fun b o q => ⟨up3 _ _ q.1, q.2⟩
    refine ⟨_, tk4, rfl, F2.keeps up3, fun b o hb e => up3 _ _ e, by rw [List.length_append, List.length_singleton, hqlen], fun p hp => push _ _ (hnw p hp), push _ _ hD2, hth.mono fun x i v t => t.mono push, hpr.mono fun x i v t => t.mono push, ?_⟩
    refine (hqr.mono fun x i v t => t.mono push).snoc (x := x) (by rw [hqlen]; exact hxi) ?_
    rw [hqlen]
    exact ⟨h2.objs.size, ky, tp, _, kv, rfl, ⟨Heap.get?_push_size _ rfl, pX⟩, push _ _ ek, key_enc hkv⟩
  case fin =>
    intro D3 h2 tk2 qs F2 oD3 hDL nD0 nD3 hj
    obtain ⟨hqlen, hnw, hD2, hth, hpr, hqr⟩ := hj
    have hqlen' : qs.length = ys.length := by simpa using hqlen
    show wpAny _ _ (richCompare .NotEq _ _) _ _ _
    have ne := RcNeAt.lists (A := AL L) (s := ⟨h2, g, d, tk2, os⟩) (l := D2) (b := D3) (items := ps.toArray) (items2 := qs.toArray) (e := fun _ => true) ⟨_, hD2.1, rfl, _, rfl⟩ ⟨_, oD3, rfl, _, rfl⟩ (by simp; lia) (show 20 < cLine by decide) (fun j h1 h2' => by
      have h1' : j < ps.length := by simpa using h1
      have h2'' : j < qs.length := by simpa using h2'
      obtain ⟨x, ex, hx⟩ := hpr j ps[j] (by simp)
      obtain ⟨x', ex', hx'⟩ := hqr j qs[j] (by simp)
      rw [ex] at ex'; cases ex'
      exact pair_eq (s := ⟨h2, g, d, tk2, os⟩) hx hx' (show 20 + 1 + 1 < cLine by decide))
    rw [all_true] at ne
    refine ne prog w E _ ?_
    refine wpAny_truthy_bool ?_
    simp only [Bool.not_true, Bool.false_eq_true, if_false]
    refine wpAny_execs_nil ?_
    have wk : ∀ b o, Facts' h2 [L, D3] b o → Facts' h2 [L] b o := fun b o q => ⟨q.1, fun z => q.2 (by rw [List.mem_singleton.mp z]; exact .head _)⟩
    exact hret h2 tk2 F2 (wk _ _ hD2) (hpr.mono fun x i v t => t.mono wk) fun p hp => wk _ _ (hnw p hp)
  · rcases List.mem_cons.mp hb with rfl | hb
    · rw [hsz1]; exact Nat.lt_succ_self _
    · rw [List.mem_singleton.mp hb, hsz1]; exact Nat.lt_succ_of_lt hDlt
  · rcases List.mem_cons.mp q with q | q
    · exact IL q.symm
    · exact DL (List.mem_singleton.mp q).symm
end
end Mine
end
section
open PySem PySem.W PySem.W.X PyProof.Rows PySem.Calls PySem.Builtin PyProof.Rows.LCg
set_option Elab.async false
set_option maxRecDepth 100000
set_option maxHeartbeats 8000000
namespace Mine
section
variable {M : Model} {A : Around} {E Q : Value → Shared → Prop} {h₀ h : Heap} {g : Array GenState} {d : Drawn} {tk : Tok} {os : OsState} {L : Addr} {m : Str → Option Value} {p : Program} {loose : List Str} {mean : ExcName → Option Value} {mg mb : Str → Option Value}
/-- a lambda that the law's frame makes -/
theorem mk_lam {params : Arguments} {body : Expr} {scope : Scope} {pos : Pos} {clos : List (Str × Addr)} {ps : Array Value} (F : Fr h₀ L h m) (T : Top p loose mean mg mb h₀) (C : CodeHd h₀ 92 90) (n90 : h₀.get? 90 = none) (hP : h.get? 90 = some (tabObj ps)) (ht : TriplesOk ps.toList)
    (hnf : codeAmong pos ps.toList = none) (hcl : closureFor scope (envL L) = pure clos) (hdef : defaultsOf params (envL L) = ([], []))
    (hQ : ∀ f c' ctv h' tk', h'.get? f = some (kla_obj "<lambda>" ((envL L).qual ++ "<lambda>") params body scope clos ((mg "__name__").getD .none) c' ctv) → h'.CodeRec (.ref c') ((envL L).qual ++ "<lambda>") → (∀ b o, b ≠ 90 → h.get? b = some o → h'.get? b = some o) →
      h'.get? 90 = some (tabObj (ps ++ #[rawInt pos.line, rawInt pos.col, .ref c'])) → h.get? f = none → Fr h₀ L h' m → Q (.ref f) ⟨h', g, d, tk', os⟩) :
    wpAny M A (eval (.Lambda params body scope pos) (envL L)) Q E ⟨h, g, d, tk, os⟩ := by
  refine kla_eval hdef ?_
  have hgs := T.g.keeps F.keep
  obtain ⟨bm, ob, b1, b2, b3, b4, b5, b6⟩ := T.bmain
  have hgP : mainGlobals ≠ 90 := fun q => by
    obtain ⟨o, es, ep, e, hd, _⟩ := hgs
    rw [q, hP] at e; cases e; cases hd
  have hbP : bm ≠ 90 := fun q => by
    have e := F.keep _ _ b3
    rw [q, hP] at e; cases e; cases b4
  have hbG : bm ≠ mainGlobals := fun q => by
    obtain ⟨o, es, ep, e, hd, _⟩ := T.g
    rw [q, e] at b3; cases b3; rw [hd] at b6; cases b6
  have L90 : L ≠ 90 := fun q => by
    obtain ⟨o, es, ep, e, hd, _⟩ := F.ns
    rw [q, hP] at e; cases e; cases hd
  refine kla_makeFunction (s := ⟨h, g, d, tk, os⟩) (mg := mg) hcl rfl hgs rfl (C.keeps F.keep) hP ht hnf hgP ⟨bm, ob, b1, b2, hbG, hbP, F.keep _ _ b3, b4, b5, b6⟩ fun c' ctv h' tk' hx hge hlt hrec htb => ?_
  have up : ∀ (o : Obj) b x, h'.get? b = some x → (h'.push o).get? b = some x := fun o b x e => Heap.get?_push_of_some _ e
  refine hQ h'.objs.size c' ctv _ tk' (Heap.get?_push_size _ rfl) (hrec.keeps (up _)) (fun b o hb e => up _ _ _ (hx b o hb e)) (up _ _ _ htb) (Heap.get?_none_of_le (Nat.le_trans hge (Nat.le_of_lt hlt))) ?_
  exact ⟨(F.ns.extBut hx L90).keeps (up _), fun b o e => up _ _ _ (hx b o (fun q => by rw [q, n90] at e; cases e) (F.keep _ _ e)), F.above⟩
end
section
variable {w : World} {A : Around} {E : Value → Shared → Prop} {h₀ h : Heap} {g : Array GenState} {d : Drawn} {tk : Tok} {os : OsState} {L : Addr} {m : Str → Option Value} {p : Program} {loose : List Str} {mean : ExcName → Option Value} {mg mb : Str → Option Value}
theorem stmt4 {Q : Flow → Shared → Prop} (F : Fr h₀ L h m) (T : Top p loose mean mg mb h₀) (C : CodeHd h₀ 92 90) (n90 : h₀.get? 90 = none) (hP : h.get? 90 = some (tabObj #[])) (hc : h.IsCell (L + 2) none) (nc : h₀.get? (L + 2) = none)
    (hret : ∀ tf c' ctv h' tk', Fr h₀ L h' m → h'.get? tf = some (turnO (Str.ofString "<lambda>") ((envL L).qual ++ Str.ofString "<lambda>") ((mg "__name__").getD .none) ctv c') → h'.CodeRec (.ref c') ((envL L).qual ++ Str.ofString "<lambda>") → h'.IsCell (L + 2) (some (.ref tf)) → h'.get? 90 = some (tabObj #[rawInt 88, rawInt 11, .ref c']) →
      (∀ b o, b ≠ 90 → b ≠ L + 2 → h.get? b = some o → h'.get? b = some o) → h.get? tf = none → Q .next ⟨h', g, d, tk', os⟩) :
    wpAny (model prog w) A (exec (lawBody 3) (envL L)) Q E ⟨h, g, d, tk, os⟩ := by
  show wpAny _ _ (exec (.Assign [.Name (Str.ofString "turn") _] (.Lambda _ _ _ _) _) _) _ _ _
  refine wpAny_Assign_Name ?_
  refine mk_lam (ps := #[]) (clos := []) F T C n90 hP trivial rfl (by kernel_rfl) rfl fun tf c' ctv h1 tk1 e1 e2 k1 e90 nf F1 => ?_
  have c90 : L + 2 ≠ 90 := fun q => by
    obtain ⟨o, e, hd⟩ := hc
    rw [q, hP] at e; cases e; cases hd
  have hc1 : h1.IsCell (L + 2) none := by
    obtain ⟨o, e, hd⟩ := hc
    exact ⟨o, k1 _ _ c90 e, hd⟩
  refine wpAny_storeName_cell rfl (by kernel_rfl) (c := L + 2) (by kernel_rfl) hc1 fun h2 hc2 hs2 => ?_
  have tf2 : tf ≠ L + 2 := fun q => by
    obtain ⟨o, e, hd⟩ := hc
    rw [q, e] at nf; cases nf
  have L2 : L ≠ L + 2 := Nat.ne_of_lt (Nat.lt_add_of_pos_right (by decide))
  have rec2 : h2.CodeRec (.ref c') ((envL L).qual ++ Str.ofString "<lambda>") := by
    obtain ⟨c, o, vs, t, q, e, hd, r⟩ := e2
    refine ⟨c, o, vs, t, q, (hs2.2 c fun z => ?_).trans e, hd, r⟩
    obtain ⟨o', e', hd'⟩ := hc1
    rw [z, e'] at e; cases e; rw [hd] at hd'; cases hd'
  refine hret tf c' ctv h2 _ ⟨F1.ns.at' fun o e => (hs2.2 _ L2).trans e, fun b o e => (hs2.2 b fun q => by rw [q, nc] at e; cases e).trans (F1.keep _ _ e), F1.above⟩ ((hs2.2 tf tf2).trans e1) rec2 hc2 ((hs2.2 90 c90.symm).trans e90) (fun b o h1 h2 e => (hs2.2 b h2).trans (k1 _ _ h1 e)) nf
end
end Mine
end
section
open PySem PySem.W PySem.W.X PyProof.Rows PySem.Calls PySem.Builtin PyProof.Rows.LCg
set_option Elab.async false
set_option maxRecDepth 100000
set_option maxHeartbeats 8000000
namespace Mine
noncomputable abbrev rkZ (zs : List Int) (i : Nat) : Int := (keyK (zs.getD i 0)).rk
/-- the pairs of a list, as they lie in a heap -/
noncomputable abbrev PairsAt (h : Heap) (zs : List Int) (ps : List Value) : Prop := RowsF PairF (fun b o => h.get? b = some o) zs ps
theorem PairsAt.keeps {h h' : Heap} {zs : List Int} {ps : List Value} (x : PairsAt h zs ps) (k : Kp h h') : PairsAt h' zs ps := x.mono fun _ _ _ t => t.mono k
/-- one pair -/
theorem pair_at {h : Heap} {zs : List Int} {ps : List Value} (x : PairsAt h zs ps) {i : Nat} {v : Value} (e : ps[i]? = some v) :
    ∃ p l vi, v = .ref p ∧ h.IsList p #[.ref l, vi] ∧ KeyAt h l (keyK (zs.getD i 0)) ∧ rkZ zs i = (keyK (zs.getD i 0)).rk := by
  obtain ⟨z, ez, p, l, tp, c, vals, rfl, e1, e2, henc⟩ := x i v e
  have hz : zs.getD i 0 = z := by rw [List.getD_eq_getElem?_getD, ez]; rfl
  rw [hz]
  exact ⟨p, l, _, rfl, ⟨_, e1, rfl, _, rfl⟩, ⟨keyK_wf z, vals, henc, ⟨_, e2, rfl, _, rfl⟩⟩, by show (keyK (zs.getD i 0)).rk = _; rw [hz]⟩
/-- the comparison's answer -/
noncomputable abbrev rT (a b : Int) : Int := if decide (b < a) then 2 else if decide (a < b) then -3 else 0
theorem rT_lt (a b : Int) : decide (rT a b < 0) = decide (a < b) := by
  unfold rT
  by_cases h1 : b < a
  · simp [h1]; lia
  · by_cases h2 : a < b
    · simp [h1, h2]
    · simp [h1, h2]
theorem rT_gt (a b : Int) : decide (0 < rT a b) = decide (b < a) := by
  unfold rT
  by_cases h1 : b < a
  · simp [h1]
  · by_cases h2 : a < b
    · simp [h1, h2]
    · simp [h1, h2]
/-- the function turn with what its calls want -/
structure TurnAt (h : Heap) (tf : Addr) (pm : Value) (ql : Str) : Prop where
  fn : ∃ ctv ci, h.get? tf = some (turnO (Str.ofString "<lambda>") ql pm ctv ci) ∧ h.CodeRec (.ref ci) ql
theorem TurnAt.keeps {h h' : Heap} {tf : Addr} {pm : Value} {ql : Str} (x : TurnAt h tf pm ql) (k : Kp h h') : TurnAt h' tf pm ql := by
  obtain ⟨ctv, ci, a, b⟩ := x.fn
  exact ⟨ctv, ci, k _ _ a, b.keeps k⟩
theorem TurnAt.fnAt {h : Heap} {tf : Addr} {pm : Value} {ql : Str} (x : TurnAt h tf pm ql) : FnAt tf h := by
  obtain ⟨ctv, ci, a, b⟩ := x.fn
  exact ⟨_, _, _, _, a⟩
section
variable {w : World} {A : Around} {E Q : Value → Shared → Prop} {h₀ h : Heap} {g : Array GenState} {d : Drawn} {tk : Tok} {os : OsState} {zs : List Int} {ps : List Value} {tf : Addr} {pm : Value} {ql : Str}
theorem turn_at (hlim : h.NoLimit) (hf : TurnAt h tf pm ql) (hp : PairsAt h zs ps) {i j : Nat} {p q : Addr} (ei : ps[i]? = some (.ref p)) (ej : ps[j]? = some (.ref q)) : TurnOk w h g d os tf p q (rT (rkZ zs i) (rkZ zs j)) := by
  obtain ⟨p', l, vi, e1, hl, hk, r1⟩ := pair_at hp ei
  cases e1
  obtain ⟨q', l', vj, e2, hl', hk', r2⟩ := pair_at hp ej
  cases e2
  obtain ⟨ctv, ci, a, b⟩ := hf.fn
  exact turn_ok hlim a b hl hl' _ _ (fun A s k hu => key_gt (hk.keeps k) (hk'.keeps k) (Nat.lt_of_le_of_lt hu (by decide))) (fun A s k hu => key_lt (hk.keeps k) (hk'.keeps k) (Nat.lt_of_le_of_lt hu (by decide)))
/-- a key that K has made of the i-th pair -/
noncomputable def KInst (c : Addr) (ps : List Value) (g : Heap) (i : Nat) (k : Value) : Prop := ∃ x dx p, k = .ref x ∧ g.get? x = some (instK c dx (.ref p)) ∧ ps[i]? = some (.ref p)
/-- sorted(heard, key=K) -/
theorem sorted_K {l c cl : Addr} {v0 : Value} (hA : A.depth ≤ 340 ∧ A.units ≤ 3400) (hl : h.IsList l ps.toArray) (h2 : 2 ≤ ps.length) (h64 : ps.length < 64) (hlim : h.NoLimit) (KX : (K2 w.params).In h) (K : KCls h v0 cl c) (hcl : h.IsCell cl (some (.ref tf))) (hf : TurnAt h tf pm ql) (hp : PairsAt h zs ps)
    (k : ∀ D h' tk', Kp h h' → h.get? D = none → h'.IsList D ((kev (ltR (rkZ zs)) (kas_sort ps.length)).map fun i => ps.getD i .none) → Q (.ref D) ⟨h', g, d, tk', os⟩) :
    wpAny (model prog w) A (call (.builtin "sorted") [.ref l] [(Str.ofString "key", .ref c)]) Q E ⟨h, g, d, tk, os⟩ := by
  refine sorted_key (P := KInst c ps) (rk := rkZ zs) (T := .ref c) hl (fun x => ksk_t1 c x) h2 h64 ?_ ?_ (by rfl) (by simp) ?_ ?_ k
  · rintro g1 g2 i v kk ⟨x, dx, p, rfl, e, ei⟩
    exact ⟨x, dx, p, rfl, kk _ _ e (by intro q; cases q), ei⟩
  · rintro g1 i v ⟨x, dx, p, rfl, e, ei⟩ kk
    exact (Looks.ld e).andThen Looks.now
  · intro i v ei g1 tk1 Q' kk hq
    obtain ⟨p, l', vi, rfl, _, _, _⟩ := pair_at hp ei
    have hA4 : A.in1.in1.depth ≤ 400 ∧ A.in1.in1.units ≤ 4000 := ⟨Nat.le_trans hA.1 (by decide), Nat.le_trans (Nat.add_le_add_right hA.2 2) (by decide)⟩
    refine kmake hA4 (KX.keeps kk) (K.keeps kk) fun x dx h' tk' ex nx k' => ?_
    exact hq h' tk' _ k' ⟨x, dx, p, rfl, ex, ei⟩
  · rintro i j _ _ g1 tk1 C hi hj kk ⟨x, dx, p, rfl, ex, ei⟩ ⟨y, dy, q, rfl, ey, ej⟩ hC
    have hA' : A.in1.in1.depth ≤ 350 ∧ A.in1.in1.units ≤ 3500 := ⟨Nat.le_trans hA.1 (by decide), Nat.le_trans (Nat.add_le_add_right hA.2 2) (by decide)⟩
    refine klt_sort hA' (hlim.keeps kk) (K.keeps kk) ex ey (by obtain ⟨o, e, r⟩ := hcl; exact ⟨o, kk _ _ e, r⟩) (hf.keeps kk).fnAt (turn_at (hlim.keeps kk) (hf.keeps kk) (hp.keeps kk) ei ej) fun h' tk' k' => ?_
    rw [rT_lt]
    exact hC h' tk' k'
end
end Mine
end
section
open PySem PySem.W PySem.W.X PyProof.Rows PySem.Calls PySem.Builtin PyProof.Rows.LCg
set_option Elab.async false
set_option maxRecDepth 100000
set_option maxHeartbeats 8000000
namespace Mine
noncomputable def kwVal (e : Expr) : Expr := match e with | .Call _ _ (k :: _) _ => k.value | _ => default
noncomputable def eltsOf (e : Expr) : List Expr := match e with | .Tuple es _ _ => es | .List es _ => es | _ => []
/-- lambda pair: pair[0] -/
noncomputable def keyE : Expr := kwVal ((eltsOf (valueOf (lawBody 4))).getD 1 default)
noncomputable def KeyL (h : Heap) (zs : List Int) (ps : List Value) (_ : Heap) (i : Nat) (k : Value) : Prop := ∃ p l vi, ps[i]? = some (.ref p) ∧ k = .ref l ∧ h.IsList p #[.ref l, vi] ∧ KeyAt h l (keyK (zs.getD i 0))
section
variable {w : World} {A : Around} {E Q : Value → Shared → Prop} {h : Heap} {g : Array GenState} {d : Drawn} {tk : Tok} {os : OsState} {zs : List Int} {ps : List Value} {q : Addr} {pm ctv : Value} {ql : Str} {ci : Addr}
theorem key_call {p l : Addr} {vi : Value} (hA : A.depth ≤ 400) (hlim : h.NoLimit) (hf : h.get? q = some (kla_obj "<lambda>" ql (lamArgs keyE) (lamBody keyE) (lamScope keyE) [] pm ci ctv)) (hcd : h.CodeRec (.ref ci) ql) (hp : h.IsList p #[.ref l, vi])
    (k : ∀ h' tk', Kp h h' → Q (.ref l) ⟨h', g, d, tk', os⟩) : wpAny (model prog w) A (call (.ref q) [.ref p]) Q E ⟨h, g, d, tk, os⟩ := by
  refine wpAny_call (kla_callFunE (s := ⟨h, g, d, tk, os⟩) (Nat.lt_of_le_of_lt hA (by decide)) hf rfl rfl rfl rfl hcd ?_)
  refine wpAny_of_eq (a := [(Str.ofString "pair", .ref p)]) (by kernel_rfl) ?_
  refine wpAny_newFunctionEnv (show ∀ x ∈ (lamScope keyE).names, x.2 ≠ .cell by decide +kernel) (locs (by kernel_rfl)) (fun h2 hns hsb => ?_) rfl
  have k2 : Kp h h2 := fun b o e => hsb.extBut b o (Nat.ne_of_lt (Heap.lt_size e)) (Heap.get?_push_of_some _ e)
  refine ⟨hlim.keeps k2, kla_codeExpr ?_⟩
  dsimp only at hns ⊢
  refine sub0 rfl (by kernel_rfl) hns (v := .ref l) (by kernel_rfl) (by decide +kernel) (list_keeps hp k2) rfl fun tk1 => ?_
  exact k h2 _ k2
/-- sorted(heard, key=lambda pair: pair[0]) -/
theorem sorted_L {l : Addr} (hA : A.depth ≤ 340 ∧ A.units ≤ 3400) (hl : h.IsList l ps.toArray) (h2 : 2 ≤ ps.length) (h64 : ps.length < 64) (hlim : h.NoLimit) (hf : h.get? q = some (kla_obj "<lambda>" ql (lamArgs keyE) (lamBody keyE) (lamScope keyE) [] pm ci ctv)) (hcd : h.CodeRec (.ref ci) ql) (hp : PairsAt h zs ps)
    (k : ∀ D h' tk', Kp h h' → h.get? D = none → h'.IsList D ((kev (ltR (rkZ zs)) (kas_sort ps.length)).map fun i => ps.getD i .none) → Q (.ref D) ⟨h', g, d, tk', os⟩) :
    wpAny (model prog w) A (call (.builtin "sorted") [.ref l] [(Str.ofString "key", .ref q)]) Q E ⟨h, g, d, tk, os⟩ := by
  refine sorted_key (P := KeyL h zs ps) (rk := rkZ zs) (T := .type "list") hl (fun x => ksk_t1 q x) h2 h64 ?_ ?_ (by rfl) (by rfl) ?_ ?_ k
  · exact fun _ _ _ _ _ x => x
  · rintro g1 i v ⟨p, l', vi, ei, rfl, hl', _, vals, _, o, e, hc, _⟩ kk
    have lk : Looks (model prog w) g1 (typeOf (.ref l')) o.cls := (Looks.ld (kk _ _ e)).andThen Looks.now
    rw [hc] at lk; exact lk
  · intro i v ei g1 tk1 Q' kk hq
    obtain ⟨p, l', vi, rfl, hl', hk, _⟩ := pair_at hp ei
    refine key_call (Nat.le_trans hA.1 (by decide)) (hlim.keeps kk) (kk _ _ hf) (hcd.keeps kk) (list_keeps hl' kk) fun h' tk' k' => ?_
    exact hq h' tk' _ k' ⟨p, l', vi, ei, rfl, hl', hk⟩
  · rintro i j _ _ g1 tk1 C hi hj kk ⟨p, l', vi, ei, rfl, hl', hk⟩ ⟨p2, l2, vj, ej, rfl, hl2, hk2⟩ hC
    have hu : A.in1.in1.units + 1 < cLine := Nat.lt_of_le_of_lt (Nat.add_le_add_right hA.2 3) (by decide)
    refine list_sort_lt (hk.keeps kk) (hk2.keeps kk) hu ?_
    exact hC g1 tk1 fun _ _ e => e
/-- a key that K has made, for max -/
theorem max_K {l c cl : Addr} {v0 : Value} {tf : Addr} (hh : A.handled = none) (hA : A.depth ≤ 340 ∧ A.units ≤ 3400) (hl : h.IsList l ps.toArray) (hne : 0 < ps.length) (hlim : h.NoLimit) (KX : (K2 w.params).In h) (K : KCls h v0 cl c) (hcl : h.IsCell cl (some (.ref tf))) (hf : TurnAt h tf pm ql) (hp : PairsAt h zs ps)
    (k : ∀ i v h' tk', ps[i]? = some v → (∀ j, j < ps.length → rkZ zs j ≤ rkZ zs i ∧ (j < i → rkZ zs j < rkZ zs i)) → Kp h h' → Q v ⟨h', g, d, tk', os⟩) :
    wpAny (model prog w) A (call (.builtin "max") [.ref l] [(Str.ofString "key", .ref c)]) Q E ⟨h, g, d, tk, os⟩ := by
  refine max_key (P := KInst c ps) (rk := rkZ zs) hh hl hne ?_ ?_ ?_ k
  · rintro g1 g2 i v kk ⟨x, dx, p, rfl, e, ei⟩
    exact ⟨x, dx, p, rfl, kk _ _ e (by intro q; cases q) (by intro q; cases q), ei⟩
  · intro i v ei g1 tk1 Q' kk hq
    obtain ⟨p, l', vi, rfl, _, _, _⟩ := pair_at hp ei
    have hA4 : A.in1.depth ≤ 400 ∧ A.in1.units ≤ 4000 := ⟨Nat.le_trans hA.1 (by decide), Nat.le_trans (Nat.add_le_add_right hA.2 1) (by decide)⟩
    refine kmake hA4 (KX.keeps kk) (K.keeps kk) fun x dx h' tk' ex nx k' => ?_
    exact hq h' tk' _ k' ⟨x, dx, p, rfl, ex, ei⟩
  · rintro i j _ _ g1 tk1 C hi hj kk ⟨x, dx, p, rfl, ex, ei⟩ ⟨y, dy, q', rfl, ey, ej⟩ hC
    have hA' : A.in1.depth ≤ 350 ∧ A.in1.units ≤ 3500 := ⟨Nat.le_trans hA.1 (by decide), Nat.le_trans (Nat.add_le_add_right hA.2 1) (by decide)⟩
    refine kcmp_gt hA' (hlim.keeps kk) (K.keeps kk) (K.keeps kk) ex ey (by obtain ⟨o, e, r⟩ := hcl; exact ⟨o, kk _ _ e, r⟩) (hf.keeps kk).fnAt (turn_at (hlim.keeps kk) (hf.keeps kk) (hp.keeps kk) ei ej) fun h' tk' k' => ?_
    rw [rT_gt]
    exact hC h' tk' k'
end
end Mine
end
section
open PySem PySem.W PySem.W.X PyProof.Rows PySem.Calls PySem.Builtin PyProof.Rows.LCg
set_option Elab.async false
set_option maxRecDepth 100000
set_option maxHeartbeats 8000000
namespace Mine
/-- what the second part of the law wants of the heap below it (its code tables hidden) -/
structure BaseB (w : World) (h₀ : Heap) (p : Program) (loose : List Str) (mean : ExcName → Option Value) (mg mb : Str → Option Value) (v0 : Value) : Prop where
  T : Top p loose mean mg mb h₀
  KX : (K2 w.params).In h₀
  sm : ∃ oM, h₀.get? sysModules = some oM
  st : ∃ oS, h₀.get? cStatics = some oS ∧ lookIn "thirdparty.any" oS = some none
  nm : mg "__name__" = some v0
  n60 : h₀.get? 60 = none
  n90 : h₀.get? 90 = none
  c60 : CodeHd h₀ 64 60
  c90 : CodeHd h₀ 92 90
  f65 : ∃ oc od doc pm ct osl, h₀.get? 65 = some ⟨oc, od, .func (cmpFd doc pm ct 64), osl⟩
  r64 : h₀.CodeRec (.ref 64) (Str.ofString "cmp_to_key")
  f74 : ∃ oc od doc pm ct osl, h₀.get? 74 = some ⟨oc, od, .func (redFd doc pm ct), osl⟩
  o67 : ∃ oc od n osl, h₀.get? 67 = some ⟨oc, od, .seq #[.ref 66] n, osl⟩
  r73 : h₀.CodeRec (.ref 73) (Str.ofString "reduce")
  ob : mg "object" = none
  cmp : mg (Str.ofString "cmp_to_key") = some (.ref 65)
  red : mg (Str.ofString "reduce") = some (.ref 74)
  ini : mg (Str.ofString "_initial_missing") = some (.ref 66)
  it : mg (Str.ofString "iter") = none
  nx : mg (Str.ofString "next") = none
  so : mg (Str.ofString "sorted") = none
  mx : mg (Str.ofString "max") = none
theorem q_type_call : typeLookup (.type "type") (Str.ofString "__call__") = pure (some (.builtin "type.__call__")) := by rw [typeLookup_type, builtinLookup_eq_fast]; kernel_rfl
noncomputable def ClsAt (c : Addr) (h : Heap) : Prop := ∃ dd cd sl, h.get? c = some ⟨.type "type", dd, .cls cd, sl⟩
theorem KCls.clsAt {h : Heap} {v0 : Value} {cl c : Addr} (K : KCls h v0 cl c) : ClsAt c h := by
  obtain ⟨PK, ns, md, hs, ts, m0, sL, fI, fL, fG, fE, fLe, fGe, sT, bT, t, x1, x2, t3, t4, t5, o2, o3, o4, g1, g2, g3⟩ := K
  exact ⟨_, _, _, g1⟩
theorem keeps_cls {M : Model} {c : Addr} (h : Heap) (X : ClsAt c h) : ∃ k, (k = Keeper.frame ∨ k = Keeper.machine ∨ k = Keeper.boundFrame) ∧ Looks M h (keeperOf (.ref c)) k := by
  obtain ⟨dd, cd, sl, e⟩ := X
  refine ⟨.machine, .inr (.inl rfl), (Looks.ld (part := none) e).andThen ?_⟩
  exact (lk_special e q_type_call).andThen .now
theorem callWith_cls {M : Model} {A : Around} {E : Value → Shared → Prop} {s : Shared} {env : Env} {pos : Pos} {Q : Value → Shared → Prop} {c : Addr} {e : Expr} {rest : List Expr} (h : wpAny M A (spliced (backTo pos (starEach (e :: rest) env))) (fun vs s₁ => ClsAt c s₁.heap ∧ wpAny M A (call (.ref c) vs) Q E s₁) E s)
    (he : starEach (e :: rest) env = (false, eval e env) :: starEach rest env := by rfl) (hplain : (backTo pos (starEach rest env)).any (·.1) = false := by rfl) :
    wpAny M A (callWith pos (.ref c) [] (backTo pos (starEach (e :: rest) env)) []) Q E s := by
  rw [he] at h ⊢
  exact callWith_of (by show ((false || (backTo pos (starEach rest env)).any (·.1)) || false) = false; rw [hplain]; rfl) keeps_cls (evalArgs_plain h)
section
variable {w : World} {A : Around} {E Q : Value → Shared → Prop} {h₀ h : Heap} {g : Array GenState} {d : Drawn} {tk : Tok} {os : OsState} {p : Program} {loose : List Str} {mean : ExcName → Option Value} {mg mb : Str → Option Value} {v0 : Value}
theorem cmpL (B : BaseB w h₀ p loose mean mg mb v0) (hA : A.depth ≤ 320 ∧ A.units ≤ 2900) (S : Kp h₀ h) (tf : Value) (K : KTab h₀ 64 60 h)
    (k : ∀ cl c h' tk', KCls h' v0 cl c → h'.IsCell cl (some tf) → Kp h h' → Q (.ref c) ⟨h', g, d, tk', os⟩) : wpAny (model prog w) A (call (.ref 65) [tf]) Q E ⟨h, g, d, tk, os⟩ := by
  obtain ⟨oM, sm⟩ := B.sm
  obtain ⟨oS, st, op⟩ := B.st
  obtain ⟨oc, od, doc, pm, ct, osl, f⟩ := B.f65
  exact cmp_later hA sm B.T S B.nm B.n60 st op f B.r64 B.ob tf K fun cl c h' tk' a b _ e => k cl c h' tk' a b e
theorem cmpF (B : BaseB w h₀ p loose mean mg mb v0) (hA : A.depth ≤ 320 ∧ A.units ≤ 2900) (S : Kp h₀ h) (tf : Value) (hP : h.get? 60 = some (tabObj #[]))
    (k : ∀ cl c h' tk', KTab h₀ 64 60 h' → KCls h' v0 cl c → h'.IsCell cl (some tf) → (∀ b o, b ≠ 60 → h.get? b = some o → h'.get? b = some o) → Q (.ref c) ⟨h', g, d, tk', os⟩) : wpAny (model prog w) A (call (.ref 65) [tf]) Q E ⟨h, g, d, tk, os⟩ := by
  obtain ⟨oM, sm⟩ := B.sm
  obtain ⟨oS, st, op⟩ := B.st
  obtain ⟨oc, od, doc, pm, ct, osl, f⟩ := B.f65
  exact cmp_first hA sm B.T S B.nm B.n60 st op f B.r64 B.ob tf (B.c60.keeps S) hP fun cl c h' tk' a b c' _ e => k cl c h' tk' a b c' fun b o hb x => e b o x hb
noncomputable def argsOf (e : Expr) : List Expr := match e with | .Call _ as _ _ => as | _ => []
/-- the lambda of the reduce -/
noncomputable def leastE : Expr := (argsOf (valueOf (lawBody 5))).getD 0 default
theorem least_call {zs : List Int} {ps : List Value} {i j : Nat} {a b r c2 tf ci : Addr} {pm pm' ctv : Value} {ql ql' : Str} (B : BaseB w h₀ p loose mean mg mb v0) (S : Kp h₀ h) (KT : KTab h₀ 64 60 h) (hA : A.depth ≤ 310 ∧ A.units ≤ 2000)
    (hf : h.get? r = some (kla_obj "<lambda>" ql (lamArgs leastE) (lamBody leastE) (lamScope leastE) [(Str.ofString "turn", c2)] pm ci ctv)) (hcd : h.CodeRec (.ref ci) ql) (hc : h.IsCell c2 (some (.ref tf))) (hT : TurnAt h tf pm' ql') (hp : PairsAt h zs ps) (ei : ps[i]? = some (.ref a)) (ej : ps[j]? = some (.ref b))
    (k : ∀ h' tk', Kp h h' → Q (if rkZ zs j < rkZ zs i then .ref b else .ref a) ⟨h', g, d, tk', os⟩) : wpAny (model prog w) A (call (.ref r) [.ref a, .ref b]) Q E ⟨h, g, d, tk, os⟩ := by
  have hlim : h.NoLimit := B.T.nolimit.keeps S
  refine wpAny_call (kla_callFunE (s := ⟨h, g, d, tk, os⟩) (Nat.lt_of_le_of_lt hA.1 (by decide)) hf rfl rfl rfl rfl hcd ?_)
  refine wpAny_of_eq (a := [(Str.ofString "least", .ref a), (Str.ofString "pair", .ref b)]) (by kernel_rfl) ?_
  refine wpAny_newFunctionEnv (show ∀ x ∈ (lamScope leastE).names, x.2 ≠ .cell by decide +kernel) (locs (by kernel_rfl)) (fun h2 hns hsb => ?_) rfl
  have k2 : Kp h h2 := fun b o e => hsb.extBut b o (Nat.ne_of_lt (Heap.lt_size e)) (Heap.get?_push_of_some _ e)
  refine ⟨hlim.keeps k2, kla_codeExpr ?_⟩
  dsimp only at hns ⊢
  generalize h.objs.size = L' at hns ⊢
  have hu : (A.deeper (newEnv (lamScope leastE) L' mainGlobals [(Str.ofString "turn", c2)] (ql ++ Str.ofString ".<locals>.") (some r) (.ref ci) none builtinsNs)).depth ≤ 320 ∧ (A.deeper (newEnv (lamScope leastE) L' mainGlobals [(Str.ofString "turn", c2)] (ql ++ Str.ofString ".<locals>.") (some r) (.ref ci) none builtinsNs)).units ≤ 2900 := ⟨Nat.le_trans (Nat.succ_le_succ hA.1) (by decide), Nat.le_trans (Nat.add_le_add_right hA.2 3) (by decide)⟩
  show wpAny _ _ (eval (.IfExp (.Compare (.Call (.Call (.Name (Str.ofString "cmp_to_key") _) [.Name (Str.ofString "turn") _] [] _) [.Name (Str.ofString "pair") _] [] _) [.Lt] [.Call (.Call (.Name (Str.ofString "cmp_to_key") _) [.Name (Str.ofString "turn") _] [] _) [.Name (Str.ofString "least") _] [] _] _) (.Name (Str.ofString "pair") _) (.Name (Str.ofString "least") _) _) _) _ _ _
  rw [arm_eval_IfExp]
  have fn65 : ∀ gg, Kp h gg → FnAt 65 gg := fun gg kg => by
    obtain ⟨oc, od, doc, pm, ct, osl, f⟩ := B.f65
    exact ⟨_, _, _, _, kg _ _ (S _ _ f)⟩
  have cell : ∀ gg, Kp h gg → gg.IsCell c2 (some (.ref tf)) := fun gg kg => by
    obtain ⟨o, e, q⟩ := hc
    exact ⟨o, kg _ _ e, q⟩
  refine wpAny_bind (wpAny_isTrue_Compare1 ?_)
  -- cmp_to_key(turn)(pair)
  refine any_Call ?_
  refine any_Call ?_
  refine Name_function_global rfl (by kernel_rfl) (loadGlobal_global (B.T.g.keeps fun b o e => k2 _ _ (S _ _ e)) B.cmp ?_) (by decide +kernel)
  refine callWith_F (fn65 _ k2) ?_
  refine spliced_cons (wpAny_Name (wpAny_loadName_free (c := c2) rfl (by kernel_rfl) (by kernel_rfl) (cell _ k2) ?_ (by decide +kernel)) (by decide +kernel))
  refine spliced_nil ⟨fn65 _ k2, ?_⟩
  refine cmpL B hu (fun b o e => k2 _ _ (S _ _ e)) (.ref tf) (KT.keeps k2) fun cl1 c1 h3 tk3 K1 cel1 k3' => ?_
  have k3 : Kp h h3 := fun b o e => k3' _ _ (k2 _ _ e)
  refine callWith_cls ?_
  refine spliced_cons (wpAny_Name (wpAny_loadName_local rfl (by kernel_rfl) (hns.keeps k3') (v := .ref b) (by kernel_rfl) ?_) (by decide +kernel))
  refine spliced_nil ⟨K1.clsAt, ?_⟩
  have hu4 : ∀ {n m : Nat}, n ≤ 320 ∧ m ≤ 2900 → n ≤ 400 ∧ m ≤ 4000 := fun x => ⟨Nat.le_trans x.1 (by decide), Nat.le_trans x.2 (by decide)⟩
  have hu5 : ∀ {n m : Nat}, n ≤ 320 ∧ m ≤ 2900 → n ≤ 350 ∧ m ≤ 3500 := fun x => ⟨Nat.le_trans x.1 (by decide), Nat.le_trans x.2 (by decide)⟩
  refine kmake (hu4 hu) (B.KX.keeps fun b o e => k3 _ _ (S _ _ e)) K1 fun x dx h4 tk4 ex nx k4' => ?_
  have k4 : Kp h h4 := fun b o e => k4' _ _ (k3 _ _ e)
  -- cmp_to_key(turn)(least)
  refine any_Call ?_
  refine any_Call ?_
  refine Name_function_global rfl (by kernel_rfl) (loadGlobal_global (B.T.g.keeps fun b o e => k4 _ _ (S _ _ e)) B.cmp ?_) (by decide +kernel)
  refine callWith_F (fn65 _ k4) ?_
  refine spliced_cons (wpAny_Name (wpAny_loadName_free (c := c2) rfl (by kernel_rfl) (by kernel_rfl) (cell _ k4) ?_ (by decide +kernel)) (by decide +kernel))
  refine spliced_nil ⟨fn65 _ k4, ?_⟩
  refine cmpL B hu (fun b o e => k4 _ _ (S _ _ e)) (.ref tf) (KT.keeps k4) fun cl2 c2' h5 tk5 K2' cel2 k5' => ?_
  have k5 : Kp h h5 := fun b o e => k5' _ _ (k4 _ _ e)
  refine callWith_cls ?_
  refine spliced_cons (wpAny_Name (wpAny_loadName_local rfl (by kernel_rfl) (((hns.keeps k3').keeps k4').keeps k5') (v := .ref a) (by kernel_rfl) ?_) (by decide +kernel))
  refine spliced_nil ⟨K2'.clsAt, ?_⟩
  refine kmake (hu4 hu) (B.KX.keeps fun b o e => k5 _ _ (S _ _ e)) K2' fun y dy h6 tk6 ey ny k6' => ?_
  have k6 : Kp h h6 := fun b o e => k6' _ _ (k5 _ _ e)
  have k36 : Kp h3 h6 := fun b o e => k6' _ _ (k5' _ _ (k4' _ _ e))
  have hns6 := hns.keeps fun b o e => k36 _ _ (k3' _ _ e)
  refine kcmp_lt (hu5 hu) (hlim.keeps k6) (K1.keeps k36) (K2'.keeps k6') (k6' _ _ (k5' _ _ ex)) ey (by obtain ⟨o, e, q⟩ := cel1; exact ⟨o, k36 _ _ e, q⟩) (hT.keeps k6).fnAt (turn_at (hlim.keeps k6) (hT.keeps k6) (hp.keeps k6) ej ei) fun h7 tk7 k7 => ?_
  rw [rT_lt]
  refine wpAny_truthy_bool ?_
  by_cases q : rkZ zs j < rkZ zs i
  · simp only [q, decide_true, if_true] at k ⊢
    refine wpAny_Name (wpAny_loadName_local rfl (by kernel_rfl) (hns6.keeps k7) (v := .ref b) (by kernel_rfl) ?_) (by decide +kernel)
    exact k h7 _ fun b o e => k7 _ _ (k6 _ _ e)
  · simp only [q, decide_false, Bool.false_eq_true, if_false] at k ⊢
    refine wpAny_Name (wpAny_loadName_local rfl (by kernel_rfl) (hns6.keeps k7) (v := .ref a) (by kernel_rfl) ?_) (by decide +kernel)
    exact k h7 _ fun b o e => k7 _ _ (k6 _ _ e)
end
end Mine
end
section
open PySem PySem.W PySem.W.X PyProof.Rows PySem.Calls PySem.Builtin PyProof.Rows.LCg
set_option Elab.async false
set_option maxRecDepth 100000
set_option maxHeartbeats 8000000
namespace Mine
/-- all but the table P is kept -/
noncomputable abbrev KpT (P : Addr) (h h' : Heap) : Prop := ∀ b o, b ≠ P → h.get? b = some o → h'.get? b = some o
theorem Kp.tab {P : Addr} {h h' : Heap} (k : Kp h h') : KpT P h h' := fun b o _ e => k b o e
section
variable {h h' : Heap} {P : Addr} {tb : Array Value}
theorem list_tab {a : Addr} {its : Array Value} (x : h.IsList a its) (k : KpT P h h') (hP : h.get? P = some (tabObj tb)) : h'.IsList a its := by
  obtain ⟨o, e, hc, r⟩ := x
  exact ⟨o, k _ _ (fun q => by rw [q, hP] at e; cases e; cases hc) e, hc, r⟩
theorem cell_tab {a : Addr} {v : Option Value} (x : h.IsCell a v) (k : KpT P h h') (hP : h.get? P = some (tabObj tb)) : h'.IsCell a v := by
  obtain ⟨o, e, hd⟩ := x
  exact ⟨o, k _ _ (fun q => by rw [q, hP] at e; cases e; cases hd) e, hd⟩
theorem codeRec_tab {c : Value} {q : Str} (x : h.CodeRec c q) (k : KpT P h h') (hP : h.get? P = some (tabObj tb)) (hn : ∀ y t, tb[1]? ≠ some (.str y t)) : h'.CodeRec c q := by
  obtain ⟨c, o, vs, t, rfl, e, hd, hv⟩ := x
  exact ⟨c, o, vs, t, rfl, k _ _ (fun q => by
    rw [q, hP] at e; cases e
    have : tb = vs := by injection hd
    exact hn _ _ (this ▸ hv)) e, hd, hv⟩
theorem turn_tab {tf : Addr} {pm : Value} {ql : Str} (x : TurnAt h tf pm ql) (k : KpT P h h') (hP : h.get? P = some (tabObj tb)) (hn : ∀ y t, tb[1]? ≠ some (.str y t)) : TurnAt h' tf pm ql := by
  obtain ⟨ctv, ci, a, b⟩ := x.fn
  exact ⟨ctv, ci, k _ _ (fun q => by rw [q, hP] at a; cases a) a, codeRec_tab b k hP hn⟩
theorem pairs_tab {zs : List Int} {ps : List Value} (x : PairsAt h zs ps) (k : KpT P h h') (hP : h.get? P = some (tabObj tb)) : PairsAt h' zs ps := fun j y e => by
  obtain ⟨z, ez, p, l, tp, c, vals, rfl, e1, e2, henc⟩ := x j y e
  exact ⟨z, ez, p, l, tp, c, vals, rfl, k _ _ (fun q => by rw [q, hP] at e1; cases e1) e1, k _ _ (fun q => by rw [q, hP] at e2; cases e2) e2, henc⟩
theorem fr_tab {h₀ : Heap} {L : Addr} {m : Str → Option Value} (F : Fr h₀ L h m) (k : KpT P h h') (hP : h.get? P = some (tabObj tb)) (n : h₀.get? P = none) : Fr h₀ L h' m :=
  ⟨F.ns.at' fun o e => k _ _ (fun q => by
    obtain ⟨o', es, ep, e', hd, _⟩ := F.ns
    rw [q, hP] at e'; cases e'; cases hd) e, fun b o e => k _ _ (fun q => by rw [q, n] at e; cases e) (F.keep _ _ e), F.above⟩
end
theorem trips_len : ∀ (k : Nat) (cs : List Value), (tripsFrom k cs).length = 3 * cs.length
  | _, [] => rfl
  | k, v :: vs => by
    show (tripsFrom (k + 1) vs).length + 1 + 1 + 1 = 3 * (vs.length + 1)
    rw [trips_len]
    exact rfl
theorem KTab.move {h₀ h h' : Heap} {cC PC : Addr} (x : KTab h₀ cC PC h) (k : ∀ b o vs, h.get? b = some o → o.data = .fields vs → (b = PC ∨ o.cls = .type "code" ∨ vs.size = 18 ∨ ∃ y t, vs[1]? = some (.str y t)) → h'.get? b = some o) : KTab h₀ cC PC h' := by
  obtain ⟨cK, PK, cs, hl, hr, C, hP, hI, hne⟩ := x
  obtain ⟨C2, hP2, hc⟩ := hI
  refine ⟨cK, PK, cs, hl, hr, ?_, k _ _ _ hP rfl (.inl rfl), ⟨?_, k _ _ _ hP2 rfl (.inr (.inr (.inl ?_))), fun j hj => ?_⟩, hne⟩
  · obtain ⟨o, vs, f1, f2, f3, f4, f5, f6, f7, e, e2, e3, r⟩ := C
    exact ⟨o, vs, f1, f2, f3, f4, f5, f6, f7, k _ _ _ e e3 (.inr (.inl e2)), e2, e3, r⟩
  · obtain ⟨o, vs, f1, f2, f3, f4, f5, f6, f7, e, e2, e3, r⟩ := C2
    exact ⟨o, vs, f1, f2, f3, f4, f5, f6, f7, k _ _ _ e e3 (.inr (.inl e2)), e2, e3, r⟩
  · rw [List.size_toArray, trips_len, hl]
  · obtain ⟨c, oc, vs, tq, h1, h2, h3, h4, r⟩ := hc j hj
    exact ⟨c, oc, vs, tq, h1, k _ _ _ h2 h3 (.inr (.inr (.inr ⟨_, _, h4⟩))), h3, h4, r⟩
theorem any_CallK {M : Model} {A : Around} {E : Value → Shared → Prop} {s : Shared} {env : Env} {func : Expr} {args : List Expr} {kws : List Keyword} {pos : Pos} {Q : Value → Shared → Prop}
    (h : wpAny M A (eval func env) (fun f s₁ => wpAny M A (callWith pos f [] (backTo pos (starEach args env)) (backToKw pos (keywordEach kws env))) Q E s₁) E s)
    (he : eval (.Call func args kws pos) env = (do callWith pos (← eval func env) [] (backTo pos (starEach args env)) (backToKw pos (keywordEach kws env))) := by rfl) :
    wpAny M A (eval (.Call func args kws pos) env) Q E s := by
  rw [he]; exact wpAny_bind h
/-- the sorted pairs -/
noncomputable abbrev srt (zs : List Int) (ps : List Value) : Array Value := (kev (ltR (rkZ zs)) (kas_sort ps.length)).map fun i => ps.getD i .none
section
variable {w : World} {E : Value → Shared → Prop} {h₀ h : Heap} {g : Array GenState} {d : Drawn} {tk : Tok} {os : OsState} {L : Addr} {m : Str → Option Value} {p : Program} {loose : List Str} {mean : ExcName → Option Value} {mg mb : Str → Option Value} {v0 : Value} {zs : List Int} {ps : List Value} {tf D2 : Addr} {pm : Value} {ql : Str}
theorem stmt5 {Q : Flow → Shared → Prop} {c1 : Addr} (B : BaseB w h₀ p loose mean mg mb v0) (F : Fr h₀ L h m) (hP60 : h.get? 60 = some (tabObj #[])) (hP90 : h.get? 90 = some (tabObj #[rawInt 88, rawInt 11, .ref c1])) (hcT : h.IsCell (L + 2) (some (.ref tf))) (hcD : h.IsCell (L + 1) none) (n1 : h₀.get? (L + 1) = none) (hT : TurnAt h tf pm ql)
    (hm : m (Str.ofString "heard") = some (.ref D2)) (hl : h.IsList D2 ps.toArray) (hp : PairsAt h zs ps) (h2 : 2 ≤ ps.length) (h64 : ps.length < 64)
    (hret : ∀ R R' h' tk' c2, Fr h₀ L h' (fun z => if z = Str.ofString "row" then some (.ref R) else m z) → h'.IsCell (L + 1) (some (.ref R')) → h'.IsCell (L + 2) (some (.ref tf)) → KTab h₀ 64 60 h' → h'.get? 90 = some (tabObj #[rawInt 88, rawInt 11, .ref c1, rawInt 89, rawInt 71, .ref c2]) → TurnAt h' tf pm ql →
      h'.IsList D2 ps.toArray → PairsAt h' zs ps → h'.IsList R (srt zs ps) → h'.IsList R' (srt zs ps) → Q .next ⟨h', g, d, tk', os⟩) :
    wpAny (model prog w) (AL L) (exec (lawBody 4) (envL L)) Q E ⟨h, g, d, tk, os⟩ := by
  have S := F.keep
  show wpAny _ _ (exec (.Assign [.Tuple [.Name (Str.ofString "row") _, .Name (Str.ofString "due") _] _ _] (.Tuple [.Call (.Name (Str.ofString "sorted") _) [.Name (Str.ofString "heard") _] [⟨some "key", .Call (.Name (Str.ofString "cmp_to_key") _) [.Name (Str.ofString "turn") _] [] _, _⟩] _, .Call (.Name (Str.ofString "sorted") _) [.Name (Str.ofString "heard") _] [⟨some "key", .Lambda _ _ _ _, _⟩] _] _ _) _) _) _ _ _
  refine PyProof.Rows.Assign_Tuple ?_ (by kernel_rfl) (by kernel_rfl)
  refine PyProof.Rows.Tuple_ ?_
  refine spliced_cons ?_
  refine any_CallK ?_
  refine Name_function_global rfl (by kernel_rfl) (loadGlobal_builtin (B.T.g.keeps S) B.so (B.T.b.keeps S) ((B.T.builtins _ (by decide +kernel)).trans (by kernel_rfl : bootBuiltins (Str.ofString "sorted") = some (.builtin "sorted"))) ?_) (by decide +kernel)
  refine callWith_kw ?_
  refine spliced_cons (wpAny_Name (wpAny_loadName_local rfl (by kernel_rfl) F.ns hm ?_) (by decide +kernel))
  refine spliced_nil ?_
  refine kws_cons ?_
  refine any_Call ?_
  refine Name_function_global rfl (by kernel_rfl) (loadGlobal_global (B.T.g.keeps S) B.cmp ?_) (by decide +kernel)
  have fn65 : ∀ gg, Kp h₀ gg → FnAt 65 gg := fun gg kg => by
    obtain ⟨oc, od, doc, pm, ct, osl, f⟩ := B.f65
    exact ⟨_, _, _, _, kg _ _ f⟩
  refine callWith_F (fn65 _ S) ?_
  refine spliced_cons (wpAny_Name (wpAny_loadName_cell rfl (by kernel_rfl) (c := L + 2) (by kernel_rfl) hcT ?_) (by decide +kernel))
  refine spliced_nil ⟨fn65 _ S, ?_⟩
  have hu : (AL L).depth ≤ 320 ∧ (AL L).units ≤ 2900 := ⟨show 302 ≤ 320 by decide, show 20 ≤ 2900 by decide⟩
  have hu2 : (AL L).depth ≤ 340 ∧ (AL L).units ≤ 3400 := ⟨show 302 ≤ 340 by decide, show 20 ≤ 3400 by decide⟩
  refine cmpF B hu S (.ref tf) hP60 fun cl c h1 tk1 KT K1 cel1 k1 => ?_
  have nt0 : ∀ y t, (#[] : Array Value)[1]? ≠ some (.str y t) := fun y t q => by simp at q
  have F1 := fr_tab F k1 hP60 B.n60
  have hcT1 := cell_tab hcT k1 hP60
  have hcD1 := cell_tab hcD k1 hP60
  have hT1 := turn_tab hT k1 hP60 nt0
  have hl1 := list_tab hl k1 hP60
  have hp1 := pairs_tab hp k1 hP60
  have h901 : h1.get? 90 = some (tabObj #[rawInt 88, rawInt 11, .ref c1]) := k1 _ _ (by decide) hP90
  refine kws_nil ?_
  show wpAny _ _ (call (.builtin "sorted") [.ref D2] [(Str.ofString "key", .ref c)]) _ _ _
  refine sorted_K hu2 hl1 h2 h64 (B.T.nolimit.keeps F1.keep) (B.KX.keeps F1.keep) K1 cel1 hT1 hp1 fun R h2' tk2 k2 nR lR => ?_
  have F2 := F1.keeps k2
  -- the second
  refine spliced_cons ?_
  refine any_CallK ?_
  refine Name_function_global rfl (by kernel_rfl) (loadGlobal_builtin (B.T.g.keeps F2.keep) B.so (B.T.b.keeps F2.keep) ((B.T.builtins _ (by decide +kernel)).trans (by kernel_rfl : bootBuiltins (Str.ofString "sorted") = some (.builtin "sorted"))) ?_) (by decide +kernel)
  refine callWith_kw ?_
  refine spliced_cons (wpAny_Name (wpAny_loadName_local rfl (by kernel_rfl) F2.ns hm ?_) (by decide +kernel))
  refine spliced_nil ?_
  refine kws_cons ?_
  refine mk_lam (ps := #[rawInt 88, rawInt 11, .ref c1]) (clos := []) F2 B.T B.c90 B.n90 (k2 _ _ h901) (by simp [TriplesOk, rawInt]) (by simp [codeAmong, rawInt]) (by kernel_rfl) rfl fun f c2 ctv h3 tk3 e3 r3 k3 e90 nf F3 => ?_
  have nt1 : ∀ y t, (#[rawInt 88, rawInt 11, Value.ref c1] : Array Value)[1]? ≠ some (.str y t) := fun y t q => by simp [rawInt] at q
  have h902 := k2 _ _ h901
  refine kws_nil ?_
  show wpAny _ _ (call (.builtin "sorted") [.ref D2] [(Str.ofString "key", .ref f)]) _ _ _
  refine sorted_L hu2 (list_tab (list_keeps hl1 k2) k3 h902) h2 h64 (B.T.nolimit.keeps F3.keep) e3 r3 (pairs_tab (hp1.keeps k2) k3 h902) fun R' h4 tk4 k4 nR' lR' => ?_
  have F4 := F3.keeps k4
  refine spliced_nil ?_
  refine wpAny_newObj_type ?_
  have k5 : Kp h4 (h4.push { cls := .type "tuple", data := .seq [Value.ref R, .ref R'].toArray }) := fun b o e => Heap.get?_push_of_some _ e
  have eT : (h4.push { cls := .type "tuple", data := .seq [Value.ref R, .ref R'].toArray }).get? h4.objs.size = some { cls := .type "tuple", data := .seq [Value.ref R, .ref R'].toArray } := Heap.get?_push_size _ rfl
  dsimp only
  generalize h4.objs.size = T at *
  generalize h4.push { cls := .type "tuple", data := .seq [Value.ref R, .ref R'].toArray } = h5 at *
  refine assign_Tuple_tuple (items := #[.ref R, .ref R']) rfl ⟨_, eT, rfl, _, rfl⟩ rfl rfl fun h6 he => ?_
  have k6 : Kp h4 h6 := fun b o e => he b o (Nat.ne_of_lt (Heap.lt_size (k5 _ _ e))) (k5 _ _ e)
  have F6 := F4.keeps k6
  refine assignInOrder_cons (wpAny_assign_Name (wpAny_storeName_local (by kernel_rfl) F6.ns (fun h7 hn7 hs7 => ?_) (by kernel_rfl)))
  have F7 := F6.set hn7 hs7
  have hcD3 := cell_tab (by obtain ⟨o, e, r⟩ := hcD1; exact ⟨o, k2 _ _ e, r⟩ : h2'.IsCell (L + 1) none) k3 h902
  have hcT3 := cell_tab (by obtain ⟨o, e, r⟩ := hcT1; exact ⟨o, k2 _ _ e, r⟩ : h2'.IsCell (L + 2) (some (.ref tf))) k3 h902
  have L1 : L ≠ L + 1 := Nat.ne_of_lt (Nat.lt_succ_self _)
  have L2 : L ≠ L + 2 := Nat.ne_of_lt (Nat.lt_add_of_pos_right (by decide))
  have L12 : L + 1 ≠ L + 2 := Nat.ne_of_lt (Nat.lt_succ_self _)
  have cellk : ∀ {a : Addr} {v : Option Value}, a ≠ L → h3.IsCell a v → h7.IsCell a v := fun ha x => by
    obtain ⟨o, e, r⟩ := x
    exact ⟨o, (hs7.2 _ ha).trans (k6 _ _ (k4 _ _ e)), r⟩
  refine assignInOrder_cons (wpAny_assign_Name (wpAny_storeName_cell rfl (by kernel_rfl) (c := L + 1) (by kernel_rfl) (cellk L1.symm hcD3) fun h8 hc8 hs8 => ?_))
  refine assignInOrder_nil ?_
  -- all but the frame's dict and the cell of due is kept
  have kk : ∀ b o, b ≠ L → b ≠ L + 1 → h4.get? b = some o → h8.get? b = some o := fun b o h1 h2 e => (hs8.2 b h2).trans ((hs7.2 b h1).trans (k6 _ _ e))
  have dictL : ∀ {b : Addr} {o : Obj}, h4.get? b = some o → (∀ es n, o.data ≠ .dict es n) → b ≠ L := fun e hd q => by
    obtain ⟨o', es, ep, e', hd', _⟩ := F4.ns
    rw [q, e'] at e; cases e; exact hd _ _ hd'
  have cellD : ∀ {b : Addr} {o : Obj}, h4.get? b = some o → (∀ v, o.data ≠ .cell v) → b ≠ L + 1 := fun e hd q => by
    obtain ⟨o', e', hd'⟩ := hcD3
    rw [q, k4 _ _ e'] at e; cases e; exact hd _ hd'
  have k34 : Kp h3 h4 := k4
  have lk : ∀ {a : Addr} {its : Array Value}, h4.IsList a its → h8.IsList a its := fun x => by
    obtain ⟨o, e, hc, n, hd⟩ := x
    exact ⟨o, kk _ _ (dictL e fun es n q => by rw [hd] at q; cases q) (cellD e fun v q => by rw [hd] at q; cases q) e, hc, n, hd⟩
  have hT4 : TurnAt h4 tf pm ql := (turn_tab (hT1.keeps k2) k3 h902 nt1).keeps k4
  refine hret R R' h8 _ c2 ⟨F7.ns.at' fun o e => (hs8.2 _ L1).trans e, fun b o e => (hs8.2 b fun q => by rw [q, n1] at e; cases e).trans (F7.keep _ _ e), F7.above⟩ hc8 ?_ ?_ ?_ ?_ ?_ ?_ ?_ ?_
  · obtain ⟨o, e, r⟩ := cellk L2.symm hcT3
    exact ⟨o, (hs8.2 _ L12.symm).trans e, r⟩
  · have KT3 : KTab h₀ 64 60 h3 := (KT.keeps k2).move fun b o vs e hd hx => k3 _ _ (fun q => by
      rw [q, h902] at e; cases e
      have hv : #[rawInt 88, rawInt 11, Value.ref c1] = vs := by injection hd
      subst hv
      rcases hx with r | r | r | ⟨y, t, r⟩
      · exact absurd (q.symm.trans r) (by decide)
      · cases r
      · exact absurd r (by simp)
      · exact nt1 y t r) e
    exact (KT3.keeps k4).move fun b o vs e hd _ => kk _ _ (dictL e fun es n q => by rw [hd] at q; cases q) (cellD e fun v q => by rw [hd] at q; cases q) e
  · exact kk _ _ (dictL (k4 _ _ e90) fun es n q => by cases q) (cellD (k4 _ _ e90) fun v q => by cases q) (k4 _ _ e90)
  · obtain ⟨ctv', ci', a, b⟩ := hT4.fn
    refine ⟨ctv', ci', kk _ _ (dictL a fun es n q => by cases q) (cellD a fun v q => by cases q) a, ?_⟩
    obtain ⟨c, o, vs, t, rfl', e, hd, hv⟩ := b
    exact ⟨c, o, vs, t, rfl', kk _ _ (dictL e fun es n q => by rw [hd] at q; cases q) (cellD e fun v q => by rw [hd] at q; cases q) e, hd, hv⟩
  · exact lk (list_keeps (list_tab (list_keeps hl1 k2) k3 h902) k4)
  · intro j y ey
    obtain ⟨z, ez, p', l, tp, c, vals, rfl, e1, e2, henc⟩ := ((pairs_tab (hp1.keeps k2) k3 h902).keeps k4) j y ey
    exact ⟨z, ez, p', l, tp, c, vals, rfl, kk _ _ (dictL e1 fun es n q => by cases q) (cellD e1 fun v q => by cases q) e1, kk _ _ (dictL e2 fun es n q => by cases q) (cellD e2 fun v q => by cases q) e2, henc⟩
  · exact lk (list_keeps (list_tab lR k3 h902) k4)
  · exact lk lR'
end
end Mine
end
section
open PySem PySem.W PySem.W.X PyProof.Rows PySem.Calls PySem.Builtin PyProof.Rows.LCg
set_option Elab.async false
set_option maxRecDepth 100000
set_option maxHeartbeats 8000000
namespace Mine
/-- the earliest of the least rank among the first j -/
noncomputable def MinAt (zs : List Int) (ps : List Value) (j : Nat) (acc : Value) : Prop := ∃ i a, ps[i]? = some (.ref a) ∧ acc = .ref a ∧ i < j ∧ ∀ j', j' < j → rkZ zs i ≤ rkZ zs j' ∧ (j' < i → rkZ zs i < rkZ zs j')
section
variable {w : World} {E : Value → Shared → Prop} {h₀ h : Heap} {g : Array GenState} {d : Drawn} {tk : Tok} {os : OsState} {L : Addr} {m : Str → Option Value} {p : Program} {loose : List Str} {mean : ExcName → Option Value} {mg mb : Str → Option Value} {v0 : Value} {zs : List Int} {ps : List Value} {tf D2 : Addr} {pm : Value} {ql : Str}
theorem stmt6 {Q : Flow → Shared → Prop} {c1 c2 : Addr} (B : BaseB w h₀ p loose mean mg mb v0) (F : Fr h₀ L h m) (KT : KTab h₀ 64 60 h) (hP90 : h.get? 90 = some (tabObj #[rawInt 88, rawInt 11, .ref c1, rawInt 89, rawInt 71, .ref c2])) (hcT : h.IsCell (L + 2) (some (.ref tf))) (hT : TurnAt h tf pm ql)
    (hm : m (Str.ofString "heard") = some (.ref D2)) (hl : h.IsList D2 ps.toArray) (hp : PairsAt h zs ps) (hne : 0 < ps.length)
    (hret : ∀ acc h' tk' tb, MinAt zs ps ps.length acc → Fr h₀ L h' (fun z => if z = Str.ofString "least" then some acc else m z) → KTab h₀ 64 60 h' → h'.get? 90 = some (tabObj tb) → TurnAt h' tf pm ql → (∀ b o, b ≠ 90 → b ≠ L → h.get? b = some o → h'.get? b = some o) → Q .next ⟨h', g, d, tk', os⟩) :
    wpAny (model prog w) (AL L) (exec (lawBody 5) (envL L)) Q E ⟨h, g, d, tk, os⟩ := by
  have S := F.keep
  show wpAny _ _ (exec (.Assign [.Name (Str.ofString "least") _] (.Call (.Name (Str.ofString "reduce") _) [.Lambda _ _ _ _, .Name (Str.ofString "heard") _] [] _) _) _) _ _ _
  refine wpAny_Assign_Name ?_
  refine any_Call ?_
  refine Name_function_global rfl (by kernel_rfl) (loadGlobal_global (B.T.g.keeps S) B.red ?_) (by decide +kernel)
  have fn74 : ∀ gg, Kp h₀ gg → FnAt 74 gg := fun gg kg => by
    obtain ⟨oc, od, doc, pm, ct, osl, f⟩ := B.f74
    exact ⟨_, _, _, _, kg _ _ f⟩
  refine callWith_F (fn74 _ S) ?_
  refine spliced_cons ?_
  rw [if_neg Bool.false_ne_true]
  refine mk_lam (ps := #[rawInt 88, rawInt 11, .ref c1, rawInt 89, rawInt 71, .ref c2]) (clos := [(Str.ofString "turn", L + 2)]) F B.T B.c90 B.n90 hP90 (by simp [TriplesOk, rawInt]) (by first | rfl | kernel_rfl) (by kernel_rfl) rfl fun f c3 ctv h1 tk1 e1 r1 k1 e90 nf F1 => ?_
  have nt : ∀ y t, (#[rawInt 88, rawInt 11, Value.ref c1, rawInt 89, rawInt 71, .ref c2] : Array Value)[1]? ≠ some (.str y t) := fun y t q => by simp [rawInt] at q
  refine spliced_cons (wpAny_Name (wpAny_loadName_local rfl (by kernel_rfl) F1.ns hm ?_) (by decide +kernel))
  refine spliced_nil ⟨fn74 _ F1.keep, ?_⟩
  have hcT1 := cell_tab hcT k1 hP90
  have hT1 := turn_tab hT k1 hP90 nt
  have hl1 := list_tab hl k1 hP90
  have hp1 := pairs_tab hp k1 hP90
  have KT1 : KTab h₀ 64 60 h1 := KT.move fun b o vs e hd hx => k1 _ _ (fun q => by
    rw [q, hP90] at e; cases e
    have hv : #[rawInt 88, rawInt 11, Value.ref c1, rawInt 89, rawInt 71, .ref c2] = vs := by injection hd
    subst hv
    rcases hx with r | r | r | ⟨y, t, r⟩
    · exact absurd (q.symm.trans r) (by decide)
    · cases r
    · exact absurd r (by simp)
    · exact nt y t r) e
  obtain ⟨oc, od, doc, pmr, ct, osl, f74⟩ := B.f74
  obtain ⟨oc2, od2, n2, osl2, o67⟩ := B.o67
  refine reduce_call (I := MinAt zs ps) (h₀ := h₀) (vs := ps) (show 302 + 1 < recursionLimit by decide) rfl B.T F1.keep (F1.keep _ _ f74) (F1.keep _ _ o67) (B.r73.keeps F1.keep) B.it B.nx B.ini hl1 hne ⟨_, _, _, _, e1⟩ ?_ ?_ ?_
  · intro v ev
    obtain ⟨a, l', vi, rfl, _, _, _⟩ := pair_at hp1 ev
    exact ⟨0, a, ev, rfl, by lia, fun j' hj' => by
      have : j' = 0 := by lia
      subst this
      exact ⟨Int.le_refl _, fun q => absurd q (Nat.lt_irrefl _)⟩⟩
  · rintro A' j v acc g1 tk2 Q' hA' hh hv ⟨i, a, ei, rfl, hij, hmin⟩ kk hq
    obtain ⟨b, l', vi, rfl, _, _, _⟩ := pair_at hp1 hv
    have hA3 : A'.depth ≤ 310 ∧ A'.units ≤ 2000 := ⟨Nat.le_trans hA'.1 (show 302 + 1 ≤ 310 by decide), Nat.le_trans hA'.2 (show 20 + 3 ≤ 2000 by decide)⟩
    refine least_call (i := i) (j := j) B (fun b o e => kk _ _ (F1.keep _ _ e)) (KT1.keeps kk) hA3 (kk _ _ e1) (r1.keeps kk) (by obtain ⟨o, e, r⟩ := hcT1; exact ⟨o, kk _ _ e, r⟩) (hT1.keeps kk) (hp1.keeps kk) ei hv fun g2 tk3 kk2 => ?_
    refine hq g2 tk3 _ kk2 ?_
    by_cases q : rkZ zs j < rkZ zs i
    · rw [if_pos q]
      refine ⟨j, b, hv, rfl, by lia, fun j' hj' => ?_⟩
      rcases Nat.lt_or_ge j' j with hlt | hge
      · have := (hmin j' hlt).1
        exact ⟨by lia, fun _ => by lia⟩
      · have : j' = j := by lia
        subst this
        exact ⟨Int.le_refl _, fun q => absurd q (Nat.lt_irrefl _)⟩
    · rw [if_neg q]
      refine ⟨i, a, ei, rfl, by lia, fun j' hj' => ?_⟩
      rcases Nat.lt_or_ge j' j with hlt | hge
      · exact hmin j' hlt
      · have : j' = j := by lia
        subst this
        exact ⟨by lia, fun q => absurd q (by lia)⟩
  · intro acc h2 tk2 hI k2
    have F2 := F1.keeps k2
    refine wpAny_storeName_local (by kernel_rfl) F2.ns (fun h3 hn3 hs3 => ?_) (by kernel_rfl)
    have dictL : ∀ {b : Addr} {o : Obj}, h2.get? b = some o → (∀ es n, o.data ≠ .dict es n) → b ≠ L := fun e hd q => by
      obtain ⟨o', es, ep, e', hd', _⟩ := F2.ns
      rw [q, e'] at e; cases e; exact hd _ _ hd'
    have kk : ∀ b o, b ≠ L → h2.get? b = some o → h3.get? b = some o := fun b o hb e => (hs3.2 b hb).trans e
    refine hret acc h3 _ _ hI (F2.set hn3 hs3) ((KT1.keeps k2).move fun b o vs e hd _ => kk _ _ (dictL e fun es n q => by rw [hd] at q; cases q) e) (kk _ _ (dictL (k2 _ _ e90) fun es n q => by cases q) (k2 _ _ e90)) ?_ fun b o h1 h2 e => kk _ _ h2 (k2 _ _ (k1 _ _ h1 e))
    obtain ⟨ctv', ci', a, b⟩ := (hT1.keeps k2).fn
    refine ⟨ctv', ci', kk _ _ (dictL a fun es n q => by cases q) a, ?_⟩
    obtain ⟨c, o, vs, t, rfl', e, hd, hv⟩ := b
    exact ⟨c, o, vs, t, rfl', kk _ _ (dictL e fun es n q => by rw [hd] at q; cases q) e, hd, hv⟩
end
end Mine
end
section
set_option Elab.async false
set_option maxHeartbeats 4000000
namespace Mine
theorem nodup_len : ∀ (N : Nat) (l : List Nat), l.Nodup → (∀ x ∈ l, x < N) → l.length ≤ N
  | 0, l, _, h => by
    cases l with
    | nil => exact Nat.le_refl _
    | cons a l => exact absurd (h a (.head _)) (Nat.not_lt_zero _)
  | N + 1, l, hn, h => by
    by_cases hm : N ∈ l
    · have h1 := nodup_len N (l.erase N) (hn.erase N) fun x hx => by
        have hx' := (hn.mem_erase_iff).mp hx
        have := h x hx'.2
        have hne := hx'.1
        lia
      rw [List.length_erase_of_mem hm] at h1
      lia
    · have h1 := nodup_len N l hn fun x hx => by
        have := h x hx
        have hne : x ≠ N := fun q => hm (q ▸ hx)
        lia
      lia
section
variable {rk : Nat → Int} {N : Nat} {p : Array Nat}
theorem lex_ne {a b : Nat} (h : Lex rk a b) : a ≠ b := fun q => by
  subst q
  rcases h with h | h
  · lia
  · lia
theorem good_surj (G : Good rk N p N) (j : Nat) (hj : j < N) : ∃ i, i < N ∧ gd p i = j := by
  by_cases hm : j ∈ (List.range N).map (gd p)
  · obtain ⟨i, hi, e⟩ := List.mem_map.mp hm
    exact ⟨i, List.mem_range.mp hi, e⟩
  · exfalso
    have nd : ((List.range N).map (gd p)).Nodup := by
      rw [List.nodup_iff_pairwise_ne, List.pairwise_map]
      refine List.Pairwise.imp_of_mem (R := fun a b => a < b) (fun {a b} ha hb hab => ?_) List.pairwise_lt_range
      exact lex_ne (G.srt a b hab (List.mem_range.mp hb))
    have h1 := nodup_len N (j :: (List.range N).map (gd p)) (List.nodup_cons.mpr ⟨hm, nd⟩) fun x hx => by
      rcases List.mem_cons.mp hx with rfl | hx
      · exact hj
      · obtain ⟨i, hi, rfl⟩ := List.mem_map.mp hx
        exact G.bd i (List.mem_range.mp hi)
    rw [List.length_cons, List.length_map, List.length_range] at h1
    lia
theorem good_min (G : Good rk N p N) (_hN : 0 < N) (j : Nat) (hj : j < N) : rk (gd p 0) ≤ rk j ∧ (j < gd p 0 → rk (gd p 0) < rk j) := by
  obtain ⟨i, hi, rfl⟩ := good_surj G j hj
  by_cases h0 : i = 0
  · subst h0
    exact ⟨Int.le_refl _, fun q => absurd q (Nat.lt_irrefl _)⟩
  · rcases G.srt 0 i (by lia) hi with h | h
    · exact ⟨by lia, fun _ => h⟩
    · exact ⟨by lia, fun q => by lia⟩
theorem good_max (G : Good rk N p N) (hN : 0 < N) (j : Nat) (hj : j < N) : rk j ≤ rk (gd p (N - 1)) := by
  obtain ⟨i, hi, rfl⟩ := good_surj G j hj
  by_cases h0 : i = N - 1
  · subst h0
    exact Int.le_refl _
  · rcases G.srt i (N - 1) (by lia) (by lia) with h | h <;> lia
theorem min_one {a b : Nat} (ha : a < N) (hb : b < N) (h1 : ∀ j, j < N → rk a ≤ rk j ∧ (j < a → rk a < rk j)) (h2 : ∀ j, j < N → rk b ≤ rk j ∧ (j < b → rk b < rk j)) : a = b := by
  have q1 := h1 b hb
  have q2 := h2 a ha
  rcases Nat.lt_trichotomy a b with h | h | h
  · have := q2.2 h; lia
  · exact h
  · have := q1.2 h; lia
end
theorem filter_head {P : Nat → Bool} {i0 : Nat} (hp : P i0 = true) (hlt : ∀ j, j < i0 → P j = false) : ∀ n, i0 < n → ((List.range n).filter P)[0]? = some i0
  | 0, h => absurd h (Nat.not_lt_zero _)
  | n + 1, h => by
    rw [List.range_succ, List.filter_append]
    by_cases hn : i0 < n
    · have ih := filter_head hp hlt n hn
      cases e : (List.range n).filter P with
      | nil => rw [e] at ih; simp at ih
      | cons a l => rw [e] at ih; simpa using ih
    · have hi : i0 = n := by lia
      subst hi
      have e : (List.range i0).filter P = [] := List.filter_eq_nil_iff.mpr fun x hx => by rw [hlt x (List.mem_range.mp hx)]; decide
      rw [e]; simp [hp]
end Mine
end
section
open PySem PySem.W PySem.W.X PyProof.Rows PySem.Calls PySem.Builtin PyProof.Rows.LCg PySem.SeqAt
set_option Elab.async false
set_option maxRecDepth 100000
set_option maxHeartbeats 8000000
namespace Mine
theorem enc_rk {x y : KD} {vs : List Value} (hx : x.enc vs) (hy : y.enc vs) : x.rk = y.rk := by
  cases x with
  | ok b n =>
    obtain ⟨t0, t1, t2, rfl⟩ := hx
    cases y with
    | ok b' n' =>
      obtain ⟨u0, u1, u2, e⟩ := hy
      simp only [List.cons.injEq, Value.int.injEq, Value.str.injEq, and_true] at e
      obtain ⟨_, ⟨es, _⟩, en, _⟩ := e
      have hb : b = b' := by
        cases b <;> cases b' <;> first | rfl | skip
        · exact absurd es (by decide +kernel)
        · exact absurd es (by decide +kernel)
      rw [hb, en]
    | no c => obtain ⟨u, e⟩ := hy; simp at e
  | no c =>
    obtain ⟨t, rfl⟩ := hx
    cases y with
    | ok b' n' => obtain ⟨u0, u1, u2, e⟩ := hy; simp at e
    | no c' =>
      obtain ⟨u, e⟩ := hy
      simp only [List.cons.injEq, Value.int.injEq, and_true] at e
      rw [e.1]
section
variable {A : Around} {s : Shared}
theorem key_eq {k k' : Addr} {x y : KD} (hx : KeyAt s.heap k x) (hy : KeyAt s.heap k' y) (hu : A.units < cLine) : RcAt A s (.ref k) (.ref k') (decide (x.rk = y.rk)) := by
  obtain ⟨wx, vs, ex, lx⟩ := hx
  obtain ⟨wy, us, ey, ly⟩ := hy
  · skip
    have items : ∀ (hz : vs.length = us.length), RcAt A s (.ref k) (.ref k') ((List.range vs.toArray.size).all fun j => vEqB (vs.getD j .none) (us.getD j .none)) := fun hz =>
      RcAt.lists lx ly (by simpa using hz) hu fun j h1 h2 => by
        have h1' : j < vs.length := by simpa using h1
        have h2' : j < us.length := by simpa using h2
        have := eq_kin (A := A.in1) (s := s) (kin_enc ex ey j h1' h2')
        simpa [h1', h2'] using this
    cases x with
    | ok b n =>
      obtain ⟨t0, t1, t2, rfl⟩ := ex
      obtain ⟨w1, w2⟩ := wx
      cases y with
      | ok b' n' =>
        obtain ⟨u0, u1, u2, rfl⟩ := ey
        obtain ⟨w3, w4⟩ := wy
        have := items rfl
        have e : ((List.range (#[Value.int 0 t0, Value.str (if b then sB else sA) t1, Value.int n t2] : Array Value).size).all fun j => vEqB ([Value.int 0 t0, Value.str (if b then sB else sA) t1, Value.int n t2].getD j .none) ([Value.int 0 u0, Value.str (if b' then sB else sA) u1, Value.int n' u2].getD j .none)) = decide ((KD.ok b n).rk = (KD.ok b' n').rk) := by
          show ((List.range 3).all fun j => vEqB ([Value.int 0 t0, Value.str (if b then sB else sA) t1, Value.int n t2].getD j .none) ([Value.int 0 u0, Value.str (if b' then sB else sA) u1, Value.int n' u2].getD j .none)) = _
          have h3 : List.range 3 = [0, 1, 2] := by decide
          rw [h3]
          by_cases qn : n = n'
          · subst qn
            cases b <;> cases b' <;> simp [vEqB, KD.rk, ab_eq, ba_eq] <;> lia
          · cases b <;> cases b' <;> simp [vEqB, KD.rk, ab_eq, ba_eq, qn] <;> lia
        rw [e] at this; exact this
      | no c =>
        obtain ⟨u, rfl⟩ := ey
        have w : 1 ≤ c := wy
        have : decide ((KD.ok b n).rk = (KD.no c).rk) = false := by
          cases b <;> simp [KD.rk] <;> lia
        rw [this]
        exact RcAt.lists_lengths lx ly (by rfl) hu
    | no c =>
      obtain ⟨t, rfl⟩ := ex
      have w : 1 ≤ c := wx
      cases y with
      | ok b' n' =>
        obtain ⟨u0, u1, u2, rfl⟩ := ey
        obtain ⟨w3, w4⟩ := wy
        have : decide ((KD.no c).rk = (KD.ok b' n').rk) = false := by
          cases b' <;> simp [KD.rk] <;> lia
        rw [this]
        exact RcAt.lists_lengths lx ly (by rfl) hu
      | no c' =>
        obtain ⟨u, rfl⟩ := ey
        have := items rfl
        have e : ((List.range (#[Value.int c t] : Array Value).size).all fun j => vEqB ([Value.int c t].getD j .none) ([Value.int c' u].getD j .none)) = decide ((KD.no c).rk = (KD.no c').rk) := by
          show ((List.range 1).all fun j => vEqB ([Value.int c t].getD j .none) ([Value.int c' u].getD j .none)) = _
          have h1 : List.range 1 = [0] := by decide
          rw [h1]
          by_cases qn : c = c'
          · subst qn; simp [vEqB]
          · simp [vEqB, KD.rk, qn] <;> lia
        rw [e] at this; exact this
end
end Mine
end
section
open PySem PySem.W PySem.W.X PyProof.Rows PySem.Calls PySem.Builtin PyProof.Rows.LCg PySem.SeqAt
set_option Elab.async false
set_option maxRecDepth 100000
set_option maxHeartbeats 8000000
namespace Mine
noncomputable def cmpR (e : Expr) : Expr := match e with | .Compare _ _ (r :: _) _ => r | _ => default
noncomputable def subV (e : Expr) : Expr := match e with | .Subscript v _ _ => v | _ => default
/-- the last comprehension -/
noncomputable def compE : Expr := subV ((eltsOf (cmpR (valueOf (lawBody 6)))).getD 2 default)
theorem neg_at {w : World} {A : Around} {E Q : Value → Shared → Prop} {h : Heap} {g : Array GenState} {d : Drawn} {tk : Tok} {os : OsState} {env : Env} {n : Str} {np up cp pos : Pos} {k : Nat} {c l : Addr} {v : Value} {vs : Array Value}
   (hk : env.scope.kind = .function) (hl : env.kindOf n = some .cell) (hc : env.cells.lookup n = some c) (hcl : h.IsCell c (some (.ref l))) (hd : (n == ("__debug__" : Str)) = false) (hL : h.IsList l vs) (h1 : 1 ≤ vs.size) (h0 : vs[vs.size - 1]? = some v)
   (kk : ∀ tk', Q v ⟨h, g, d, tk', os⟩) : wpAny (model prog w) A (eval (.Subscript (.Name n np) (.UnaryOp .USub (.Constant (.int 1) k cp) up) pos) env) Q E ⟨h, g, d, tk, os⟩ := by
  refine PyProof.Rows.Subscript_ ?_
  refine wpAny_Name (wpAny_loadName_cell hk hl hc hcl ?_) hd
  refine wpAny_UnaryOp (wpAny_Constant_int ?_)
  refine neg_int ?_
  refine PyProof.Rows.subscriptTail_builtin (T := "list") hL.typeIs q_list_gi (wpAny_getItem_list_neg hL (by decide) (by lia) (by decide) ?_ (kk _))
  rw [show ((-1 : Int) + (vs.size : Int)).toNat = vs.size - 1 by lia]
  exact h0
section
variable {w : World} {E : Value → Shared → Prop} {h₀ h : Heap} {g : Array GenState} {d : Drawn} {tk : Tok} {os : OsState} {L : Addr} {m : Str → Option Value} {zs : List Int} {ps : List Value} {D2 : Addr}
theorem srt_at {i : Nat} (hi : i < ps.length) : (srt zs ps)[i]? = some (ps.getD (gd (kev (ltR (rkZ zs)) (kas_sort ps.length)) i) .none) ∧ gd (kev (ltR (rkZ zs)) (kas_sort ps.length)) i < ps.length := by
  have G := sort_good (rkZ zs) (N := ps.length) (by lia)
  refine ⟨?_, G.bd i hi⟩
  have hz : i < (kev (ltR (rkZ zs)) (kas_sort ps.length)).size := by rw [G.size]; exact hi
  rw [Array.getElem?_map, Array.getElem?_eq_getElem hz]
  unfold gd
  rw [Array.getD_eq_getD_getElem?, Array.getElem?_eq_getElem hz]
  rfl
theorem srt_size : (srt zs ps).size = ps.length ∨ ps.length = 0 := by
  by_cases h : ps.length = 0
  · exact .inr h
  · have G := sort_good (rkZ zs) (N := ps.length) (by lia)
    exact .inl (by rw [Array.size_map, G.size])
/-- the pairs with the last one's key -/
noncomputable abbrev lastOf (zs : List Int) (ps : List Value) (n : Nat) : List Value := ((List.range n).filter fun j => decide (rkZ zs j = rkZ zs (gd (kev (ltR (rkZ zs)) (kas_sort ps.length)) (ps.length - 1)))).map fun j => ps.getD j .none
theorem comp7 {Q : Value → Shared → Prop} {R' : Addr} (F : Fr h₀ L h m) (hm : m (Str.ofString "heard") = some (.ref D2)) (hl : h.IsList D2 ps.toArray) (DL : D2 ≠ L) (hp : PairsAt h zs ps) (hcD : h.IsCell (L + 1) (some (.ref R'))) (lR' : h.IsList R' (srt zs ps)) (hne : 0 < ps.length) (h64 : ps.length < 64)
    (hret : ∀ D3 h' tk', Fr h₀ L h' m → KpL L h h' → h'.get? D3 = some (lst (lastOf zs ps ps.length)) → D3 ≠ L → Q (.ref D3) ⟨h', g, d, tk', os⟩) :
    wpAny (model prog w) (AL L) (eval compE (envL L)) Q E ⟨h, g, d, tk, os⟩ := by
  show wpAny _ _ (eval (.ListComp (.Name (Str.ofString "pair") _) [⟨.Name (Str.ofString "pair") _, .Name (Str.ofString "heard") _, [.Compare (.Subscript (.Name (Str.ofString "pair") _) (.Constant (.int 0) _ _) _) [.Eq] [.Subscript (.Subscript (.Name (Str.ofString "due") _) (.UnaryOp .USub (.Constant (.int 1) _ _) _) _) (.Constant (.int 0) _ _) _] _], 0⟩] _ _) _) _ _ _
  refine ListCompA (h₀ := h₀) (L := L) (cl := [(Str.ofString "due", L + 1)]) (by kernel_rfl) (by decide) (by rfl) (by decide) ?_
  refine wpAny_Name (wpAny_loadName_local rfl (by kernel_rfl) F.ns hm ?_) (by decide +kernel)
  obtain ⟨oD, eD, _⟩ := id hl
  have hDlt : D2 < h.objs.size := Heap.lt_size eD
  refine wpAny_pyIter_list (s := ⟨h, g, d, tk, os⟩) hl ?_
  dsimp only
  have nI : h.get? h.objs.size = none := Heap.get?_none_of_le (Nat.le_refl _)
  have up : ∀ b o, h.get? b = some o → (h.push { cls := .type "list_iterator", data := .fields #[.ref D2, .int 0 0] }).get? b = some o := fun b o e => Heap.get?_push_of_some _ e
  have hit : (h.push { cls := .type "list_iterator", data := .fields #[.ref D2, .int 0 0] }).IsListIter h.objs.size D2 0 := ⟨_, Heap.get?_push_size _ rfl, rfl, rfl⟩
  have F1 := F.keeps up
  have hl1 := list_keeps hl up
  have hsz1 : (h.push { cls := .type "list_iterator", data := .fields #[.ref D2, .int 0 0] }).objs.size = h.objs.size + 1 := size_push' ..
  have lift : ∀ b o, b ≠ L → h.get? b = some o → Facts' (h.push { cls := .type "list_iterator", data := .fields #[.ref D2, .int 0 0] }) (L :: [h.objs.size]) b o := fun b o hb e => ⟨up _ _ e, fun z => by
    rcases List.mem_cons.mp z with z | z
    · exact hb z
    · rw [List.mem_singleton.mp z, nI] at e; cases e⟩
  have nI0 := none_keep F nI
  have IL : h.objs.size ≠ L := ne_of_none F.ns nI
  have DI : D2 ≠ h.objs.size := Nat.ne_of_lt hDlt
  have Wk := Walks.list (prog := prog) (w := w) (A := AL L) rfl h.objs.size D2 DI ps.toArray
  generalize h.push { cls := .type "list_iterator", data := .fields #[.ref D2, .int 0 0] } = h1 at *
  generalize h.objs.size = I at *
  have nl : ∀ (i : Nat) (h : Heap), (h.IsListIter I D2 i ∧ h.IsList D2 ps.toArray) → ∀ b ∈ [I], ∃ o, h.get? b = some o ∧ o.cls ≠ .type "list" := fun i h st b hb => by
    rw [List.mem_singleton.mp hb]
    obtain ⟨⟨o, x, hc, _⟩, _⟩ := st
    exact ⟨o, x, fun q => absurd (Value.type.inj (hc.symm.trans q)) (by decide)⟩
  have hsrt : (srt zs ps).size = ps.length := srt_size.elim id fun q => absurd q (by lia)
  obtain ⟨elast, blast⟩ := srt_at (zs := zs) (ps := ps) (i := ps.length - 1) (by lia)
  have notL : ∀ {b o}, h.get? b = some o → (∀ es n, o.data ≠ .dict es n) → b ≠ L := fun e hd q => by
    obtain ⟨o', es, ep, e', hd', _⟩ := F.ns
    rw [q, e'] at e; cases e; exact hd _ _ hd'
  have lkeep : ∀ {h2 : Heap} {a : Addr} {its : Array Value}, KpL L h h2 → h.IsList a its → h2.IsList a its := fun k x => by
    obtain ⟨o, e, hc, n, hd⟩ := x
    exact ⟨o, k _ _ (notL e fun es n q => by rw [hd] at q; cases q) e, hc, n, hd⟩
  refine CompGoA.mk (J := fun i qs f => (∀ b o, b ≠ L → h.get? b = some o → f b o) ∧ qs = lastOf zs ps i) (m := m) (front_name (px := _) Wk nl)
    (by rw [List.size_toArray, sizeLine_eq]; lia) (fun C => ⟨by kernel_rfl, by kernel_rfl⟩) ⟨hit, hl1⟩ (fun b hb => ?_) F1 (fun q => ?_) (fun b hb => by rw [List.mem_singleton.mp hb]; exact nI0)
    (fun i ys f g hfg hj => ⟨fun b o hb e => hfg _ _ (hj.1 b o hb e), hj.2⟩) ⟨lift, rfl⟩ ?turn ?fin
  case turn =>
    intro i qs C D3 h2 tk2 m2 hlt hyl hj F2 hnC htg hCL hDL hCD nC nD3 oD3 hst hwr
    obtain ⟨v, hv, hmv⟩ := htg
    obtain ⟨hk, rfl⟩ := hj
    have k2 : KpL L h h2 := fun b o hb e => (hk b o hb e).1
    have hv' : ps[i]? = some v := by simpa using hv
    have hi : i < ps.length := (List.getElem?_eq_some_iff.mp hv').1
    obtain ⟨p, l, vi, rfl, hlp, hkl, _⟩ := pair_at hp hv'
    have elv : ps[gd (kev (ltR (rkZ zs)) (kas_sort ps.length)) (ps.length - 1)]? = some (ps.getD (gd (kev (ltR (rkZ zs)) (kas_sort ps.length)) (ps.length - 1)) .none) := by
      rw [List.getD_eq_getElem?_getD, List.getElem?_eq_getElem blast]; rfl
    obtain ⟨p', l', vi', ep', hlp', hkl', _⟩ := pair_at hp elv
    rw [ep'] at elast
    have keyk : ∀ {a : Addr} {x : KD}, KeyAt h a x → KeyAt h2 a x := fun q => by
      obtain ⟨wf, vs, e, x⟩ := q
      exact ⟨wf, vs, e, lkeep k2 x⟩
    have hgi : ps.getD i .none = .ref p := by rw [List.getD_eq_getElem?_getD, hv']; rfl
    refine wpAny_tests_one ?_
    refine wpAny_isTrue_Compare1 ?_
    refine sub_at rfl (by kernel_rfl) hnC hmv (by decide +kernel) (lkeep k2 hlp) (by decide) (by decide) (v := .ref l) (by rfl) fun tk3 => ?_
    refine PyProof.Rows.Subscript_ ?_
    have hcD2 : h2.IsCell (L + 1) (some (.ref R')) := by
      obtain ⟨o, e, r⟩ := hcD
      exact ⟨o, k2 _ _ (notL e fun es n q => by rw [r] at q; cases q) e, r⟩
    refine neg_at rfl (by kernel_rfl) (c := L + 1) (by kernel_rfl) hcD2 (by decide +kernel) (lkeep k2 lR') (by rw [hsrt]; exact hne) (v := .ref p') (by rw [hsrt]; exact elast) fun tk4 => ?_
    refine wpAny_Constant_int ?_
    refine PyProof.Rows.tail_any (T := "list") (id := "list.__getitem__") ?tt q_list_gi ?gg (by with_unfolding_all rfl)
    case tt => exact Heap.IsList.typeIs (s := ⟨h2, g, d, _, os⟩) (lkeep k2 hlp')
    refine wpAny_getItem_list (lkeep k2 hlp') (by decide) (by decide) (x := .ref l') (by rfl) ?_
    refine key_eq (A := AL L) (s := ⟨h2, g, d, _, os⟩) (keyk hkl) (keyk hkl') (show 20 < cLine by decide) prog w _ _ ?_
    refine wpAny_truthy_bool ?_
    have ek : decide ((keyK (zs.getD i 0)).rk = (keyK (zs.getD (gd (kev (ltR (rkZ zs)) (kas_sort ps.length)) (ps.length - 1)) 0)).rk) = decide (rkZ zs i = rkZ zs (gd (kev (ltR (rkZ zs)) (kas_sort ps.length)) (ps.length - 1))) := rfl
    rw [ek]
    have esucc : lastOf zs ps (i + 1) = lastOf zs ps i ++ (if decide (rkZ zs i = rkZ zs (gd (kev (ltR (rkZ zs)) (kas_sort ps.length)) (ps.length - 1))) = true then [Value.ref p] else []) := by
      unfold lastOf
      rw [List.range_succ, List.filter_append, List.map_append]
      congr 1
      by_cases q : rkZ zs i = rkZ zs (gd (kev (ltR (rkZ zs)) (kas_sort ps.length)) (ps.length - 1))
      · simp [q, hv']
      · simp [q]
    by_cases q : decide (rkZ zs i = rkZ zs (gd (kev (ltR (rkZ zs)) (kas_sort ps.length)) (ps.length - 1))) = true
    · rw [if_pos q] at esucc ⊢
      refine wpAny_Name (wpAny_loadName_local rfl (by kernel_rfl) hnC hmv ?_) (by decide +kernel)
      exact ⟨h2, _, rfl, F2, fun _ _ _ e => e, hk, esucc.symm⟩
    · rw [if_neg q] at esucc ⊢
      exact ⟨h2, _, rfl, F2, fun _ _ _ e => e, hk, by rw [esucc, List.append_nil]⟩
  case fin =>
    intro D3 h2 tk2 qs F2 oD3 hDL nD0 nD3 hj
    obtain ⟨hk, rfl⟩ := hj
    refine hret D3 h2 tk2 F2 (fun b o hb e => (hk b o hb e).1) ?_ hDL
    simpa using oD3
  · rcases List.mem_cons.mp hb with rfl | hb
    · rw [hsz1]; exact Nat.lt_succ_self _
    · rw [List.mem_singleton.mp hb, hsz1]; exact Nat.lt_succ_of_lt hDlt
  · rcases List.mem_cons.mp q with q | q
    · exact IL q.symm
    · exact DL (List.mem_singleton.mp q).symm
end
end Mine
end
section
open PySem PySem.W PySem.W.X PyProof.Rows PySem.Calls PySem.Builtin PyProof.Rows.LCg PySem.SeqAt
set_option Elab.async false
set_option maxRecDepth 100000
set_option maxHeartbeats 8000000
namespace Mine
section
variable {w : World} {E : Value → Shared → Prop} {h₀ h : Heap} {g : Array GenState} {d : Drawn} {tk : Tok} {os : OsState} {L : Addr} {m : Str → Option Value} {p : Program} {loose : List Str} {mean : ExcName → Option Value} {mg mb : Str → Option Value} {v0 : Value} {zs : List Int} {ps : List Value} {tf D2 R R' : Addr} {pm : Value} {ql : Str} {acc : Value}
theorem stmt7 {Q : Flow → Shared → Prop} {tb : Array Value} (B : BaseB w h₀ p loose mean mg mb v0) (F : Fr h₀ L h m) (KT : KTab h₀ 64 60 h) (hP90 : h.get? 90 = some (tabObj tb)) (hcT : h.IsCell (L + 2) (some (.ref tf))) (hcD : h.IsCell (L + 1) (some (.ref R'))) (hT : TurnAt h tf pm ql)
    (hm1 : m (Str.ofString "row") = some (.ref R)) (hm2 : m (Str.ofString "least") = some acc) (hm : m (Str.ofString "heard") = some (.ref D2)) (hl : h.IsList D2 ps.toArray) (DL : D2 ≠ L) (hp : PairsAt h zs ps) (lR : h.IsList R (srt zs ps)) (lR' : h.IsList R' (srt zs ps)) (hacc : MinAt zs ps ps.length acc) (hne : 0 < ps.length) (h64 : ps.length < 64)
    (hret : ∀ h' tk', Fr h₀ L h' m → (∃ t1, h'.get? 60 = some (tabObj t1)) → (∃ t2, h'.get? 90 = some (tabObj t2)) → Q (.ret (.bool true)) ⟨h', g, d, tk', os⟩) :
    wpAny (model prog w) (AL L) (exec (lawBody 6) (envL L)) Q E ⟨h, g, d, tk, os⟩ := by
  have S := F.keep
  show wpAny _ _ (exec (.Return (some (.Compare (.List [.Name (Str.ofString "row") _, .Name (Str.ofString "least") _, .Call (.Name (Str.ofString "max") _) [.Name (Str.ofString "heard") _] [⟨some "key", .Call (.Name (Str.ofString "cmp_to_key") _) [.Name (Str.ofString "turn") _] [] _, _⟩] _] _) [.Eq] [.List [.Name (Str.ofString "due") _, .Subscript (.Name (Str.ofString "due") _) (.Constant (.int 0) _ _) _, .Subscript compE (.Constant (.int 0) _ _) _] _] _)) _) _) _ _ _
  refine wpAny_Return_some ?_
  refine wpAny_Compare1 ?_
  refine PyProof.Rows.List_ ?_
  refine spliced_cons (wpAny_Name (wpAny_loadName_local rfl (by kernel_rfl) F.ns hm1 ?_) (by decide +kernel))
  refine spliced_cons (wpAny_Name (wpAny_loadName_local rfl (by kernel_rfl) F.ns hm2 ?_) (by decide +kernel))
  refine spliced_cons ?_
  rw [if_neg Bool.false_ne_true]
  refine any_CallK ?_
  refine Name_function_global rfl (by kernel_rfl) (loadGlobal_builtin (B.T.g.keeps S) B.mx (B.T.b.keeps S) ((B.T.builtins _ (by decide +kernel)).trans (by kernel_rfl : bootBuiltins (Str.ofString "max") = some (.builtin "max"))) ?_) (by decide +kernel)
  refine callWith_kw ?_
  refine spliced_cons (wpAny_Name (wpAny_loadName_local rfl (by kernel_rfl) F.ns hm ?_) (by decide +kernel))
  refine spliced_nil ?_
  refine kws_cons ?_
  refine any_Call ?_
  refine Name_function_global rfl (by kernel_rfl) (loadGlobal_global (B.T.g.keeps S) B.cmp ?_) (by decide +kernel)
  have fn65 : ∀ gg, Kp h₀ gg → FnAt 65 gg := fun gg kg => by
    obtain ⟨oc, od, doc, pm, ct, osl, f⟩ := B.f65
    exact ⟨_, _, _, _, kg _ _ f⟩
  refine callWith_F (fn65 _ S) ?_
  refine spliced_cons (wpAny_Name (wpAny_loadName_cell rfl (by kernel_rfl) (c := L + 2) (by kernel_rfl) hcT ?_) (by decide +kernel))
  refine spliced_nil ⟨fn65 _ S, ?_⟩
  have hu : (AL L).depth ≤ 320 ∧ (AL L).units ≤ 2900 := ⟨show 302 ≤ 320 by decide, show 20 ≤ 2900 by decide⟩
  have hu2 : (AL L).depth ≤ 340 ∧ (AL L).units ≤ 3400 := ⟨show 302 ≤ 340 by decide, show 20 ≤ 3400 by decide⟩
  refine cmpL B hu S (.ref tf) KT fun cl c h1 tk1 K1 cel1 k1 => ?_
  have F1 := F.keeps k1
  refine kws_nil ?_
  show wpAny _ _ (call (.builtin "max") [.ref D2] [(Str.ofString "key", .ref c)]) _ _ _
  refine max_K rfl hu2 (list_keeps hl k1) hne (B.T.nolimit.keeps F1.keep) (B.KX.keeps F1.keep) K1 cel1 (hT.keeps k1) (hp.keeps k1) fun i v h2 tk2 ev hmax k2' => ?_
  have k2 : Kp h h2 := fun b o e => k2' _ _ (k1 _ _ e)
  refine spliced_nil ?_
  refine wpAny_newObj_type ?_
  have k3 : Kp h (h2.push { cls := .type "list", data := .seq [Value.ref R, acc, v].toArray }) := fun b o e => Heap.get?_push_of_some _ (k2 _ _ e)
  have eA : (h2.push { cls := .type "list", data := .seq [Value.ref R, acc, v].toArray }).get? h2.objs.size = some { cls := .type "list", data := .seq [Value.ref R, acc, v].toArray } := Heap.get?_push_size _ rfl
  have nA : h2.get? h2.objs.size = none := Heap.get?_none_of_le (Nat.le_refl _)
  have AnL : h2.objs.size ≠ L := ne_of_none (F.keeps k2).ns nA
  dsimp only
  generalize h2.objs.size = A1 at *
  generalize h2.push { cls := .type "list", data := .seq [Value.ref R, acc, v].toArray } = h3 at *
  have F3 := F.keeps k3
  have cellk : ∀ {a : Addr} {x : Option Value}, h.IsCell a x → h3.IsCell a x := fun q => by
    obtain ⟨o, e, r⟩ := q
    exact ⟨o, k3 _ _ e, r⟩
  -- the facts of the order
  have G := sort_good (rkZ zs) (N := ps.length) (by omega)
  obtain ⟨e0, b0⟩ := srt_at (zs := zs) (ps := ps) (i := 0) hne
  have hmin := good_min G hne
  obtain ⟨i', a', ei', rfl, _, hmin'⟩ := hacc
  have hi' : i' < ps.length := (List.getElem?_eq_some_iff.mp ei').1
  have ei0 : i' = gd (kev (ltR (rkZ zs)) (kas_sort ps.length)) 0 := min_one (rk := rkZ zs) hi' b0 hmin' hmin
  rw [← ei0, show ps.getD i' .none = .ref a' by rw [List.getD_eq_getElem?_getD, ei']; rfl] at e0
  have hi : i < ps.length := (List.getElem?_eq_some_iff.mp ev).1
  have bl := (srt_at (zs := zs) (ps := ps) (i := ps.length - 1) (by omega)).2
  have eM : rkZ zs i = rkZ zs (gd (kev (ltR (rkZ zs)) (kas_sort ps.length)) (ps.length - 1)) := by
    have q1 := good_max G hne i hi
    have q2 := (hmax _ bl).1
    omega
  have elast : (lastOf zs ps ps.length)[0]? = some v := by
    have q := filter_head (P := fun j => decide (rkZ zs j = rkZ zs (gd (kev (ltR (rkZ zs)) (kas_sort ps.length)) (ps.length - 1)))) (i0 := i) (by simp only [eM, decide_true]) (fun j hj => by
      have := (hmax j (by omega)).2 hj
      exact decide_eq_false (by omega)) ps.length hi
    rw [List.getElem?_map, q]
    show some (ps.getD i .none) = some v
    rw [List.getD_eq_getElem?_getD, ev]; rfl
  -- the right side
  refine PyProof.Rows.List_ ?_
  refine spliced_cons (wpAny_Name (wpAny_loadName_cell rfl (by kernel_rfl) (c := L + 1) (by kernel_rfl) (cellk hcD) ?_) (by decide +kernel))
  refine spliced_cons ?_
  rw [if_neg Bool.false_ne_true]
  refine Subscript_Constant ?_
  refine wpAny_Name (wpAny_loadName_cell rfl (by kernel_rfl) (c := L + 1) (by kernel_rfl) (cellk hcD) ?_) (by decide +kernel)
  refine wpAny_Constant_int ?_
  obtain ⟨o', ho', hc', hr'⟩ := id (list_keeps lR' k3)
  refine ⟨"list", "list.__getitem__", q_list_gi, ⟨o', ho', hc'⟩, wpAny_getItem_list (list_keeps lR' k3) (by decide) (by decide) (x := .ref a') e0 ?_⟩
  refine spliced_cons ?_
  rw [if_neg Bool.false_ne_true]
  refine PyProof.Rows.Subscript_ ?_
  refine comp7 F3 hm (list_keeps hl k3) DL (hp.keeps k3) (cellk hcD) (list_keeps lR' k3) hne h64 fun D3 h4 tk4 F4 k4 oD3 D3L => ?_
  refine wpAny_Constant_int ?_
  have lD3 : h4.IsList D3 (lastOf zs ps ps.length).toArray := ⟨_, oD3, rfl, _, rfl⟩
  refine PyProof.Rows.tail_any (T := "list") (id := "list.__getitem__") ?tt q_list_gi ?gg (by with_unfolding_all rfl)
  case tt => exact Heap.IsList.typeIs (s := ⟨h4, g, d, _, os⟩) lD3
  refine wpAny_getItem_list lD3 (by decide) (by decide) (x := v) (by simpa using elast) ?_
  refine spliced_nil ?_
  refine wpAny_newObj_type ?_
  dsimp only
  have k5 : Kp h4 (h4.push { cls := .type "list", data := .seq [Value.ref R', .ref a', v].toArray }) := fun b o e => Heap.get?_push_of_some _ e
  have eB : (h4.push { cls := .type "list", data := .seq [Value.ref R', .ref a', v].toArray }).get? h4.objs.size = some { cls := .type "list", data := .seq [Value.ref R', .ref a', v].toArray } := Heap.get?_push_size _ rfl
  generalize h4.objs.size = B1 at *
  generalize h4.push { cls := .type "list", data := .seq [Value.ref R', .ref a', v].toArray } = h5 at *
  have notL : ∀ {b o}, h3.get? b = some o → (∀ es n, o.data ≠ .dict es n) → b ≠ L := fun e hd q => by
    obtain ⟨o', es, ep, e', hd', _⟩ := F3.ns
    rw [q, e'] at e; cases e; exact hd _ _ hd'
  have lk5 : ∀ {a : Addr} {its : Array Value}, h3.IsList a its → h5.IsList a its := fun x => by
    obtain ⟨o, e, hc, n, hd⟩ := x
    exact ⟨o, k5 _ _ (k4 _ _ (notL e fun es n q => by rw [hd] at q; cases q) e), hc, n, hd⟩
  show wpAny _ _ (richCompare .Eq _ _) _ _ _
  have lA5 : h5.IsList A1 [Value.ref R, .ref a', v].toArray := lk5 ⟨_, eA, rfl, _, rfl⟩
  have lB5 : h5.IsList B1 [Value.ref R', .ref a', v].toArray := ⟨_, eB, rfl, _, rfl⟩
  have rc := RcAt.lists (A := AL L) (s := ⟨h5, g, d, tk4 + 1, os⟩) (e := fun _ => true) lA5 lB5 rfl (show 20 < cLine by decide) (fun j h1 h2 => by
    match j, h1 with
    | 0, _ =>
      exact eq_lists_true (A := (AL L).in1) (s := ⟨h5, g, d, tk4 + 1, os⟩) (lk5 (list_keeps lR k3)) (lk5 (list_keeps lR' k3)) rfl (show 20 + 1 < cLine by decide) fun j h1 h2 => EqAt.same _
    | 1, _ => exact EqAt.same _
    | 2, _ => exact EqAt.same _)
  rw [all_true] at rc
  refine rc prog w E _ ?_
  obtain ⟨cK, PK, cs, _, _, _, hP60, _⟩ := KT
  exact hret h5 _ (F4.keeps k5) ⟨_, k5 _ _ (k4 _ _ (notL (k3 _ _ hP60) fun es n q => by cases q) (k3 _ _ hP60))⟩ ⟨_, k5 _ _ (k4 _ _ (notL (k3 _ _ hP90) fun es n q => by cases q) (k3 _ _ hP90))⟩
end
end Mine
end
section
open PySem PySem.W PySem.W.X PyProof.Rows PySem.Calls PySem.Builtin PyProof.Rows.LCg PySem.SeqAt
set_option Elab.async false
set_option maxRecDepth 100000
set_option maxHeartbeats 8000000
namespace Mine
noncomputable abbrev tabsL : List (Addr × Addr) := [(64, 60), (92, 90)]
theorem body_is : bodyOf lawS = [lawBody 0, lawBody 1, lawBody 2, lawBody 3, lawBody 4, lawBody 5, lawBody 6] := by kernel_rfl
/-- how the law ends -/
noncomputable def LawEnd (hg : Heap) (g : Array GenState) (d : Drawn) (os : OsState) (f : Flow) (s' : Shared) : Prop := ∃ h' tk', f = .ret (.bool true) ∧ s' = ⟨h', g, d, tk', os⟩ ∧ Kp hg h' ∧ GrownAt 60 h' ∧ GrownAt 90 h'
section
variable {w : World} {E : Value → Shared → Prop} {h₁ h : Heap} {g : Array GenState} {d : Drawn} {tk : Tok} {os : OsState} {L l : Addr} {m : Str → Option Value} {p : Program} {loose : List Str} {mean : ExcName → Option Value} {mg mb : Str → Option Value} {p2 : Program} {loose2 : List Str} {mean2 : ExcName → Option Value} {v0 : Value} {vs : List Value} {xs : List Int}
theorem law_body (X : (hdx.heap_39 w.params).In h₁) (T : Top hdx.view_39 loose mean mg mb h₁) (hT9 : TabsAt tabsL h₁) (B : BaseB w (ghostOf h₁ tabsL) p2 loose2 mean2 mg mb v0) (F : Fr h₁ L h m) (c1 : h.IsCell (L + 1) none) (c2 : h.IsCell (L + 2) none)
    (hl : h.IsList l vs.toArray) (hi : IntsAre vs xs) (h63 : vs.length ≤ 63) (hm : m (Str.ofString "script") = some (.ref l)) :
    wpC (model prog w) (AL L) (execs (bodyOf lawS) (envL L)) (LawEnd (ghostOf h₁ tabsL) g d os) E ⟨h, g, d, tk, os⟩ := by
  rw [body_is]
  obtain ⟨o1, e1, d1⟩ := c1
  obtain ⟨o2, e2, d2⟩ := c2
  have L1 : L + 1 ≠ L := Nat.ne_of_gt (Nat.lt_succ_self _)
  have L2 : L + 2 ≠ L := Nat.ne_of_gt (Nat.lt_add_of_pos_right (by decide))
  have n1 : h₁.get? (L + 1) = none := Heap.get?_none_of_le (Nat.le_trans F.above (Nat.le_succ _))
  have n2 : h₁.get? (L + 2) = none := Heap.get?_none_of_le (Nat.le_trans F.above (Nat.le_add_right _ _))
  have N : News h₁ L h [(L + 1, o1), (L + 2, o2)] := fun q hq => by
    rcases List.mem_cons.mp hq with rfl | hq
    · exact ⟨e1, L1, n1⟩
    · rw [List.mem_singleton.mp hq]; exact ⟨e2, L2, n2⟩
  have hz : (xs.take 8 ++ eleven).length ≤ 19 ∧ 11 ≤ (xs.take 8 ++ eleven).length := by
    have q1 : (xs.take 8).length ≤ 8 := List.length_take_le ..
    have q2 : eleven.length = 11 := rfl
    rw [List.length_append]; lia
  refine wpC_execs_cons (stmt1 F N X T hl hi h63 hm fun D ys h2 tk2 F2 oD DL nD hlen hrows hN => ?_)
  generalize xs.take 8 ++ eleven = zs at *
  refine wpC_execs_cons (stmt2 F2 X T (by rw [if_pos rfl]) oD DL nD (by lia) hrows hN fun D2 ps h3 tk3 F3 oD2 D2L nD2 hlen2 hpr hth fD hN3 => ?_)
  refine wpC_of_any ?_
  refine wpAny_execs_cons (stmt3 F3 (by rw [if_neg (by decide +kernel)]; rw [if_pos rfl]) (by rw [if_pos rfl]) fD oD2 D2L nD2 (by lia) hlen2 hth hpr hN3 fun h4 tk4 F4 fD2 hpr4 hN4 => ?_)
  -- the tables are hidden now
  have F5 := ghost_fr hT9 F4
  have hp4 : PairsAt h4 zs ps := hpr4.mono fun x i v t => t.mono fun b o q => q.1
  have hl4 : h4.IsList D2 ps.toArray := ⟨_, fD2.1, rfl, _, rfl⟩
  have q60 : h4.get? 60 = some (tabObj #[]) := F4.keep _ _ (hT9 _ (.head _)).2
  have q90 : h4.get? 90 = some (tabObj #[]) := F4.keep _ _ (hT9 _ (.tail _ (.head _))).2
  have cD4 : h4.IsCell (L + 1) none := ⟨o1, (hN4 _ (.head _)).1, d1⟩
  have cT4 : h4.IsCell (L + 2) none := ⟨o2, (hN4 _ (.tail _ (.head _))).1, d2⟩
  refine wpAny_execs_cons (stmt4 F5 B.T B.c90 B.n90 q90 cT4 (ghost_fresh n2) fun tf c1' ctv h5 tk5 F6 etf rtf cT5 q905 k5 ntf => ?_)
  have keep5 : ∀ {b : Addr} {o : Obj}, h4.get? b = some o → o.cls ≠ .none → (∀ v, o.data ≠ .cell v) → h5.get? b = some o := fun e hc hd => k5 _ _ (fun q => by
    rw [q, q90] at e; cases e; exact hc rfl) (fun q => by
    obtain ⟨o', e', hd'⟩ := cT4
    rw [q, e'] at e; cases e; exact hd _ hd') e
  have hl5 : h5.IsList D2 ps.toArray := by
    obtain ⟨o, e, hc, n, hd⟩ := hl4
    exact ⟨o, keep5 e (by rw [hc]; intro q; cases q) (fun v q => by rw [hd] at q; cases q), hc, n, hd⟩
  have hp5 : PairsAt h5 zs ps := fun j y ey => by
    obtain ⟨z, ez, p', l', tp, c, vals, rfl, a, b, henc⟩ := hp4 j y ey
    exact ⟨z, ez, p', l', tp, c, vals, rfl, keep5 a (by intro q; cases q) (by intro v q; cases q), keep5 b (by intro q; cases q) (by intro v q; cases q), henc⟩
  have L12 : L + 1 ≠ L + 2 := Nat.ne_of_lt (Nat.lt_succ_self _)
  have cD5 : h5.IsCell (L + 1) none := by
    obtain ⟨o, e, hd⟩ := cD4
    exact ⟨o, k5 _ _ (fun q => by rw [q, q90] at e; cases e; cases hd) L12 e, hd⟩
  have q605 : h5.get? 60 = some (tabObj #[]) := k5 _ _ (by decide) (fun q => by
    obtain ⟨o', e', hd'⟩ := cT4
    rw [← q, q60] at e'; cases e'; cases hd') q60
  have hT5 : TurnAt h5 tf ((mg "__name__").getD .none) ((envL L).qual ++ Str.ofString "<lambda>") := ⟨ctv, c1', etf, rtf⟩
  have hm5 : (fun z => if z = Str.ofString "heard" then some (Value.ref D2) else if z = Str.ofString "things" then some (Value.ref D) else m z) (Str.ofString "heard") = some (.ref D2) := by simp only [if_true]
  refine wpAny_execs_cons (stmt5 B F6 q605 q905 cT5 cD5 (ghost_fresh n1) hT5 hm5 hl5 hp5 (by lia) (by lia) fun R R' h6 tk6 c2' F7 cD6 cT6 KT6 q906 hT6 hl6 hp6 lR6 lR6' => ?_)
  have hm6 : (fun z => if z = Str.ofString "row" then some (Value.ref R) else (fun z => if z = Str.ofString "heard" then some (Value.ref D2) else if z = Str.ofString "things" then some (Value.ref D) else m z) z) (Str.ofString "heard") = some (.ref D2) := by
    show (if Str.ofString "heard" = Str.ofString "row" then _ else _) = _
    rw [if_neg (by decide +kernel)]; exact hm5
  refine wpAny_execs_cons (stmt6 B F7 KT6 q906 cT6 hT6 hm6 hl6 hp6 (by lia) fun acc h7 tk7 tb hacc F8 KT7 q907 hT7 k7 => ?_)
  have keep7 : ∀ {b : Addr} {o : Obj}, h6.get? b = some o → (∀ vs, o.data ≠ .fields vs) → (∀ es n, o.data ≠ .dict es n) → h7.get? b = some o := fun e h1 h2 => k7 _ _ (fun q => by
    rw [q, q906] at e; cases e; exact h1 _ rfl) (fun q => by
    obtain ⟨o', es, ep, e', hd', _⟩ := F7.ns
    rw [q, e'] at e; cases e; exact h2 _ _ hd') e
  have lk7 : ∀ {a : Addr} {its : Array Value}, h6.IsList a its → h7.IsList a its := fun x => by
    obtain ⟨o, e, hc, n, hd⟩ := x
    exact ⟨o, keep7 e (fun v q => by rw [hd] at q; cases q) (fun v n q => by rw [hd] at q; cases q), hc, n, hd⟩
  have ck7 : ∀ {a : Addr} {v : Option Value}, h6.IsCell a v → h7.IsCell a v := fun x => by
    obtain ⟨o, e, hd⟩ := x
    exact ⟨o, keep7 e (fun v q => by rw [hd] at q; cases q) (fun v n q => by rw [hd] at q; cases q), hd⟩
  have hp7 : PairsAt h7 zs ps := fun j y ey => by
    obtain ⟨z, ez, p', l', tp, c, vals, rfl, a, b, henc⟩ := hp6 j y ey
    exact ⟨z, ez, p', l', tp, c, vals, rfl, keep7 a (by intro v q; cases q) (by intro v n q; cases q), keep7 b (by intro v q; cases q) (by intro v n q; cases q), henc⟩
  refine wpAny_execs_cons (stmt7 B F8 KT7 q907 (ck7 cT6) (ck7 cD6) hT7 ?_ ?_ ?_ (lk7 hl6) D2L hp7 (lk7 lR6) (lk7 lR6') hacc (by lia) (by lia) fun h8 tk8 F9 g60 g90 => ?_)
  · show (if Str.ofString "row" = Str.ofString "least" then _ else if Str.ofString "row" = Str.ofString "row" then _ else _) = _
    rw [if_neg (by decide +kernel), if_pos rfl]
  · show (if Str.ofString "least" = Str.ofString "least" then _ else _) = _
    rw [if_pos rfl]
  · show (if Str.ofString "heard" = Str.ofString "least" then _ else _) = _
    rw [if_neg (by decide +kernel)]; exact hm6
  exact ⟨h8, tk8, rfl, rfl, F9.keep, g60, g90⟩
end
end Mine
end
section
open PySem PySem.W PySem.W.X PyProof.Rows PySem.Calls PySem.Builtin PyProof.Rows.LCg PySem.SeqAt PySem.Spec
set_option Elab.async false
set_option maxRecDepth 100000
set_option maxHeartbeats 8000000
namespace Mine
section
variable {prog : Program} {w : World} {A : Around} {s : Shared}
theorem codeC_call_cells {R : Result → Shared → Prop} {a : Addr} {o : Obj} {fd : FuncData} {body : List Stmt} {vals : List Value} {binds : List (Str × Value)}
    (hroom : A.depth < recursionLimit) (ho : s.heap.get? a = some o) (hdata : o.data = .func fd) (hlim : s.heap.NoLimit) (hcd : s.heap.CodeRec fd.code fd.qualname)
    (hbody : fd.body = .stmts body) (hbind : bindArgs fd ⟨vals, []⟩ = pure binds) (hclo : fd.closure = [])
    (hkind : ∀ x ∈ binds, fd.scope.names.lookup x.1 = some .local ∨ (fd.scope.names.lookup x.1 = some .cell ∧ ((cellsFrom (s.heap.objs.size + 1) fd.scope.names []).lookup x.1).isSome = true))
    (h : ∀ s₁, InCallC s (callEnvC fd s.heap.objs.size a).locals (bindL (callEnvC fd s.heap.objs.size a).kindOf binds fun _ => none) (callEnvC fd s.heap.objs.size a).cells
        (bindC (callEnvC fd s.heap.objs.size a).kindOf binds fun _ => none) s₁ →
      wpC (model prog w) (A.deeper (callEnvC fd s.heap.objs.size a)) (execs body (callEnvC fd s.heap.objs.size a)) (fun f s' => R (.ok (.ret (match f with | .ret v => v | _ => .none))) s')
        (fun _ _ => False) s₁)
    (hco : fd.scope.isCoroutine = false := by rfl) (hgen : fd.scope.isGenerator = false := by rfl) (hk : fd.scope.kind = .function := by rfl) :
    codeC (model prog w) A (.call (.ref a) ⟨vals, []⟩) R s := by
  refine codeC_call_function hroom ho hdata hco hgen hbody hcd ?_
  rw [hbind, hclo]
  refine wpAny_pure (wpAny_newFunctionEnv_cells hk hkind fun env he s' x => ?_)
  subst he
  exact ⟨hlim.keeps x.toInCall.keep, codeC_func (wpC_False (h s' x))⟩
end
noncomputable def keysOnce : Frag → Bool
  | [] => true
  | q :: r => r.all (fun p => !Nat.beq p.1 q.1) && keysOnce r
theorem lookup_mem : ∀ {K : Frag} {a : Addr} {o : Obj}, keysOnce K = true → (a, o) ∈ K → K.lookup a = some o
  | [], _, _, _, hm => absurd hm List.not_mem_nil
  | q :: r, a, o, hK, hm => by
    unfold keysOnce at hK
    obtain ⟨h1, h2⟩ := Bool.and_eq_true_iff.mp hK
    rcases List.mem_cons.mp hm with e | hm
    · subst e; simp
    · have hne : (a == q.1) = false := by
        have h3 := List.all_eq_true.mp h1 _ hm
        simp only [Bool.not_eq_true'] at h3
        cases q' : (a == q.1) with
        | false => rfl
        | true =>
          have : a = q.1 := by simpa using q'
          rw [this, Nat.beq_refl] at h3
          cases h3
      rw [List.lookup_cons, hne]
      exact lookup_mem h2 hm
theorem K2_in {P : Params} {h : Heap} (X : (hdx.heap_39 P).In h) : (K2 P).In h := fun a o e => by
  have hm := mem_of_lookupK e
  unfold K2 at hm
  exact X a o (lookup_mem (by kernel_rfl) (List.mem_filter.mp hm).1)
theorem base_of {w : World} {h₁ : Heap} {loose : List Str} {mean : ExcName → Option Value} {mg mb : Str → Option Value} (X : (hdx.heap_39 w.params).In h₁) (T : Top hdx.view_39 loose mean mg mb h₁) (hT9 : TabsAt tabsL h₁) :
    ∃ p2 loose2 v0, BaseB w (ghostOf h₁ tabsL) p2 loose2 mean mg mb v0 := by
  have X2 : (K2 w.params).In (ghostOf h₁ tabsL) := ghost_K hT9 (K2_in X) (by kernel_rfl)
  have T2 := ghost_top hT9 T
  obtain ⟨cA, cB, _⟩ := ghost_code hT9
  have hnm : ∃ v0, mg "__name__" = some v0 := by
    cases e : nsIn (hdx.heap_39 w.params) mainGlobals "__name__" with
    | none => exact absurd (show (nsIn (hdx.heap_39 w.params) mainGlobals "__name__").isSome = true by kernel_rfl) (by rw [e]; decide)
    | some v =>
      cases v with
      | none => exact absurd (show ((nsIn (hdx.heap_39 w.params) mainGlobals "__name__").bind _root_.id).isSome = true by kernel_rfl) (by rw [e]; decide)
      | some v => exact ⟨v, mg_of X T.g e⟩
  obtain ⟨v0, hnm⟩ := hnm
  have hsm : ∃ oM, (ghostOf h₁ tabsL).get? sysModules = some oM := by
    obtain ⟨mm, ⟨o, es, ep, e, hd, _⟩, _⟩ := (T.seer (by kernel_rfl)).mods
    exact ⟨o, ghost_get hT9 e fun q => by rw [q] at hd; cases hd⟩
  refine ⟨_, _, v0, ⟨T2, X2, hsm, ?_, hnm, hideAll_none _ (by simp [tabsL]), hideAll_none _ (by simp [tabsL]), cA, cB, ⟨_, _, _, _, _, _, X2 65 ⟨.type "function", none, .func (cmpFd .none (.str (Str.ofString "cpy313.functools") 254) .none 64), #[]⟩ (by kernel_rfl)⟩,
    codeRec_of X2 (by kernel_rfl), ⟨_, _, _, _, _, _, X2 74 ⟨.type "function", none, .func (redFd .none (.str (Str.ofString "cpy313.functools") 254) .none), #[]⟩ (by kernel_rfl)⟩, ⟨_, _, _, _, X2 67 ⟨.type "tuple", none, .seq #[.ref 66] 0, #[]⟩ (by kernel_rfl)⟩, codeRec_of X2 (by kernel_rfl),
    mg_none_of X T.g (by kernel_rfl), mg_of X T.g (by kernel_rfl), mg_of X T.g (by kernel_rfl), mg_of X T.g (by kernel_rfl), mg_none_of X T.g (by kernel_rfl), mg_none_of X T.g (by kernel_rfl), mg_none_of X T.g (by kernel_rfl), mg_none_of X T.g (by kernel_rfl)⟩⟩
  cases e : (K2 w.params).lookup cStatics with
  | none => exact absurd (show ((K2 w.params).lookup cStatics).isSome = true by kernel_rfl) (by rw [e]; decide)
  | some oS =>
    refine ⟨oS, X2 _ _ e, ?_⟩
    have := show ((K2 w.params).lookup cStatics).bind (fun o => lookIn "thirdparty.any" o) = some none by kernel_rfl
    rw [e] at this
    exact this
end Mine
end
section
open PySem PySem.W PySem.W.X PyProof.Rows PySem.Calls PySem.Builtin PyProof.Rows.LCg PySem.SeqAt PySem.Spec
set_option Elab.async false
set_option maxRecDepth 100000
set_option maxHeartbeats 8000000
namespace Mine
section
variable {w : World} {l fa : Addr} {loose : List Str} {mean : ExcName → Option Value} {mg mb : Str → Option Value} {vs : List Value} {xs : List Int} {s : Shared}
theorem env_is {pm : Value} (L : Addr) : callEnvC (fnX (Str.ofString "law") (Str.ofString "law") (paramsOf lawS) (bodyOf lawS) (scopeOf lawS) [] .none .none .none pm none (.ref 92) .none) L 93 = envL L := by kernel_rfl
theorem law_call (X : (hdx.heap_39 w.params).In s.heap) (T : Top hdx.view_39 loose mean mg mb s.heap) (hT9 : TabsAt tabsL s.heap) (hmg : mg (Str.ofString "law") = some (.ref fa)) (hl : s.heap.IsList l vs.toArray) (hi : IntsAre vs xs) (h63 : vs.length ≤ 63) :
    wpC (model prog w) callerA (call (.ref fa) [.ref l]) (fun v s' => ∃ h' tk', v = .bool true ∧ s' = ⟨h', s.gens, s.drawn, tk', s.os⟩ ∧ Kp (ghostOf s.heap tabsL) h' ∧ GrownAt 60 h' ∧ GrownAt 90 h') NoErr s := by
  obtain ⟨p2, loose2, v0, B⟩ := base_of X T hT9
  have e93 : mg (Str.ofString "law") = some (.ref 93) := mg_of X T.g (by kernel_rfl)
  rw [hmg] at e93
  obtain rfl : fa = 93 := by cases e93; rfl
  refine wpC_call ?_
  refine codeC_call_cells (fd := fnX (Str.ofString "law") (Str.ofString "law") (paramsOf lawS) (bodyOf lawS) (scopeOf lawS) [] .none .none .none (.str (Str.ofString "law_nq0026_01") 278) none (.ref 92) .none) (binds := [(Str.ofString "script", .ref l)]) (by decide) (X 93 ⟨.type "function", none, .func (fnX (Str.ofString "law") (Str.ofString "law") (paramsOf lawS) (bodyOf lawS) (scopeOf lawS) [] .none .none .none (.str (Str.ofString "law_nq0026_01") 278) none (.ref 92) .none), #[]⟩ (by kernel_rfl)) rfl T.nolimit (codeRec_of X (by kernel_rfl)) rfl (by kernel_rfl) rfl ?_ ?_
  · intro x hx
    rw [List.mem_singleton.mp hx]
    exact .inl (by kernel_rfl)
  · intro s₁ x
    rw [env_is] at x ⊢
    obtain ⟨h1, tk1, rfl, k1⟩ := x.done
    have hns := x.toInCall.ns
    have c1 := x.cell (Str.ofString "due") (s.heap.objs.size + 1) (by kernel_rfl)
    have c2 := x.cell (Str.ofString "turn") (s.heap.objs.size + 2) (by kernel_rfl)
    have F : Fr s.heap s.heap.objs.size h1 _ := ⟨hns, k1, Nat.le_refl _⟩
    have hm : (bindL (envL s.heap.objs.size).kindOf [(Str.ofString "script", Value.ref l)] fun _ => none) (Str.ofString "script") = some (.ref l) := by kernel_rfl
    have e1 : (bindC (envL s.heap.objs.size).kindOf [(Str.ofString "script", Value.ref l)] fun _ => none) (Str.ofString "due") = none := by kernel_rfl
    have e2 : (bindC (envL s.heap.objs.size).kindOf [(Str.ofString "script", Value.ref l)] fun _ => none) (Str.ofString "turn") = none := by kernel_rfl
    rw [e1] at c1
    rw [e2] at c2
    show wpC _ (ktrTop 302 7 (some []) (Str.ofString "law") (scopeOf lawS) s.heap.objs.size 93 (.ref 92) (cellsL s.heap.objs.size) []) _ _ _ _
    refine wpC_deep (dp' := 302) (un' := 20) (by decide) (by decide) ?_
    refine wpC_mono (law_body (g := s.gens) (d := s.drawn) (os := s.os) (tk := tk1) (E := NoErr) X T hT9 B F c1 c2 (list_keeps hl k1) hi h63 hm) (fun f s' z => ?_) fun _ _ f => f
    obtain ⟨h', tk', rfl, rfl, kk, g60, g90⟩ := z
    exact ⟨h', tk', rfl, rfl, kk, g60, g90⟩
end
/-- what a claim wants of the end, from the end of a law whose tables grew -/
theorem goodWG_true {cw : ClaimW} {cl : Str → Option Addr} {mean : ExcName → Option Value} {args : List WData} {s₁ : Shared} {h' : Heap} {tk' : Tok} (hT : TabsAt tabsL s₁.heap) (hg : s₁.gens = #[]) (hr : ∀ x, cw.raises args x = false) (hp : cw.post args (.bool true) args = true)
    (kk : Kp (ghostOf s₁.heap tabsL) h') (g60 : GrownAt 60 h') (g90 : GrownAt 90 h') : GoodWG cw cl mean args s₁ (.ok (.ret (.bool true))) ⟨h', s₁.gens, s₁.drawn, tk', s₁.os⟩ := by
  have grown : ∀ b o, b ∈ tabsL.map (·.2) → s₁.heap.get? b = some o → isCodeTable s₁.heap b ∧ o = tabObj #[] ∧ ∃ ps, h'.get? b = some (tabObj ps) := fun b o hb e => by
    obtain ⟨q, hq, rfl⟩ := List.mem_map.mp hb
    have e2 := (hT q hq).2
    rw [e] at e2
    refine ⟨((hT q hq).1.tab (hT q hq).2).isCodeTable, Option.some.inj e2, ?_⟩
    rcases List.mem_cons.mp hq with rfl | hq
    · exact g60
    · rw [List.mem_singleton.mp hq]; exact g90
  refine ⟨.inl ⟨.bool true, .bool true, [], rfl, hr, .bool true, hp, unshared_nil⟩, ⟨fun b o e => ?_, fun b o e => ?_⟩, rfl, .of_eq hg⟩
  · by_cases hb : b ∈ tabsL.map (·.2)
    · obtain ⟨ht, rfl, ps, hP⟩ := grown b o hb e
      exact .inr (.inl ⟨ht, rfl, #[], ps, rfl, by rw [Array.empty_append]; exact hP⟩)
    · exact .inl (kk b o (ghost_ne e hb))
  · by_cases hb : b ∈ tabsL.map (·.2)
    · obtain ⟨_, _, ps, hP⟩ := grown b o hb e
      exact ⟨_, hP⟩
    · exact ⟨o, kk b o (ghost_ne e hb)⟩
end Mine
end
open PySem PySem.W PySem.W.X PyProof.Rows PySem.Calls PySem.Builtin PyProof.Rows.LCg PySem.SeqAt PySem.Spec
set_option maxRecDepth 100000 in
set_option maxHeartbeats 8000000 in
theorem PySem.Challenge.cw_nq0026_01_holds : PySem.Challenge.rw_nq0026_01.Holds := by
  refine Mine.hdx ?_
  k_fill
  intro w s₀ s₁ mg mb G Y fa o pm cd doc dV kV ho hd hcd hD hmg hg args vals as hpre hlay hrd hwl hlo
  have KX := km_in_of Y
  have hT9 : TabsAt Mine.tabsL s₁.heap := List.forall_mem_cons.mpr ⟨tab_of (x := PySem.Str.ofString "cmp_to_key") G.T KX rfl (by kernel_rfl), List.forall_mem_cons.mpr ⟨tab_of (x := PySem.Str.ofString "law") G.T KX rfl (by kernel_rfl), fun _ h => absurd h List.not_mem_nil⟩⟩
  have T := G.T
  clear G Y ho hd hcd hD
  wrow_args hpre hlay hrd hwl hlo
  rename Heap.IsList _ _ _ => hL
  rename IntsAre _ _ => hI
  rename ¬ _ < _ => hC
  have h63 := hI.length
  refine Mine.wpC_mono (Mine.law_call KX T hT9 hmg hL hI (by omega)) (fun v s' z => ?_) fun _ _ f => f.elim
  obtain ⟨h', tk', rfl, rfl, kk, g60, g90⟩ := z
  exact Mine.goodWG_true hT9 hg (raisesW_false (by wrow_none_raised)) (by wrow_post) kk g60 g90
