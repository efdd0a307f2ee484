import PyProof.Rows.All
import Wide.All
import OpenK.AllK
import Wide.FinOn
import PyProof.Conv_int
import KE.LcSums
import KE.KSlice
import KE.RegLcTurns
import KE.KDeep
import KE.KDictNew
import KE.KIntText
import KE.KTurnsAny
import KE.KLcPair
import KE.KSorted
import KE.KMulAny
import KE.KSortTup
import KE.KWhile
import Lean
import PySem.Challenge.RW_zd0005_01
set_option Elab.async false
set_option rowWalk.seconds 1500
open PySem PySem.W PyProof.Rows PySem.Calls
section
open PySem PySem.W PyProof.Rows PySem.Calls
open PySem.Sem (wp)
set_option maxRecDepth 100000
namespace Mine

/-- the stack holds the claim's caller -/
noncomputable def Cal (Γ : Ctx) : Prop := (Γ.code :: Γ.below.map (·.1)).any Code.isCaller = true
noncomputable def CalB (Γ : Ctx) : Prop := (Γ.below.map (·.1)).any Code.isCaller = true
theorem CalB.cal {Γ : Ctx} (h : CalB Γ) : Cal Γ := by
  unfold Cal
  rw [List.any_cons, Bool.or_eq_true]
  exact .inr h
theorem Cal.enter {Γ : Ctx} (h : Cal Γ) (c : Code) (hd : Option Value) (p : Pos) : CalB (Γ.enter c hd p) := h

/-- wpAny where the stack holds the claim's caller -/
noncomputable def wpC {α : Type} (M : Model) (A : Around) (t : Sem α) (Q : α → Shared → Prop) (E : Value → Shared → Prop) (s : Shared) : Prop :=
  ∀ Γ p, Γ.In A → Cal Γ → wp M Γ t (fun a _ s' => Q a s') (fun e _ s' => E e s') p s
noncomputable def codeC (M : Model) (A : Around) (c : Code) (R : Result → Shared → Prop) (s : Shared) : Prop :=
  ∀ Γ p, Γ.code = c → Γ.Below A → CalB Γ → wpCode M Γ R p s

section
variable {α β : Type} {M : Model} {A : Around} {E : Value → Shared → Prop} {s : Shared}
theorem wpC_of_any {t : Sem α} {Q : α → Shared → Prop} (h : wpAny M A t Q E s) : wpC M A t Q E s := fun Γ p hΓ _ => h Γ p hΓ
theorem codeC_of_any {c : Code} {R : Result → Shared → Prop} (h : codeAny M A c R s) : codeC M A c R s := fun Γ p hc hΓ _ => h Γ p hc hΓ
theorem wpC_pure {a : α} {Q : α → Shared → Prop} (h : Q a s) : wpC M A (pure a) Q E s := fun _ _ _ _ => h
theorem wpC_mono {t : Sem α} {Q Q' : α → Shared → Prop} {E' : Value → Shared → Prop} (h : wpC M A t Q E s)
    (hQ : ∀ a s, Q a s → Q' a s) (hE : ∀ e s, E e s → E' e s) : wpC M A t Q' E' s :=
  fun Γ p hΓ hk => Sem.wp_mono M Γ t (fun a _ s => hQ a s) (fun e _ s => hE e s) p s (h Γ p hΓ hk)
theorem wpC_bind {m : Sem α} {f : α → Sem β} {Q : β → Shared → Prop} (h : wpC M A m (fun a s' => wpC M A (f a) Q E s') E s) :
    wpC M A (m >>= f) Q E s := fun Γ p hΓ hk => by
  rw [Sem.wp_bind']
  exact Sem.wp_mono M Γ m (fun a p' s' h' => h' Γ p' hΓ hk) (fun _ _ _ h' => h') p s (h Γ p hΓ hk)
/-- a first part that needs no caller -/
theorem wpC_bind1 {m : Sem α} {f : α → Sem β} {Q : β → Shared → Prop} (h : wpAny M A m (fun a s' => wpC M A (f a) Q E s') E s) :
    wpC M A (m >>= f) Q E s := wpC_bind (wpC_of_any h)
theorem wpC_onRaise {m : Sem α} {k : Value → Sem Unit} {Q : α → Shared → Prop}
    (h : wpC M A m Q (fun e s' => wpAny M A (k e) (fun _ s'' => E e s'') E s') s) : wpC M A (m.onRaise k) Q E s := fun Γ p hΓ hk => by
  rw [Sem.wp_onRaise]
  exact Sem.wp_mono M Γ m (fun _ _ _ h' => h') (fun e p' s' h' => h' Γ p' hΓ) p s (h Γ p hΓ hk)
theorem wpC_attempt {m : Sem α} {Q : Except Value α → Shared → Prop} (h : wpC M A m (fun a => Q (.ok a)) (fun e => Q (.error e)) s) :
    wpC M A m.attempt Q E s := fun Γ p hΓ hk => by rw [Sem.wp_attempt]; exact h Γ p hΓ hk
theorem wpC_holding {vs : List Value} {m : Sem α} {Q : α → Shared → Prop} (h : wpC M A m Q E s) : wpC M A (holding vs m) Q E s :=
  fun Γ p hΓ hk => by rw [Sem.wp_holding]; exact h Γ p hΓ hk
theorem wpC_run {c : Code} {h : Option Value} {Q : Flow → Shared → Prop}
    (hc : codeC M (A.mark h) c (fun r s' => match r with | .ok f => Q f s' | .error e => E e s') s) (hnb : h ≠ some byPass := by intro x; cases x) :
    wpC M A (run c h) Q E s :=
  fun Γ p hΓ hk => by rw [Sem.wp_run]; exact hc _ p rfl (hΓ.enter c h p hnb) (hk.enter c h p)
theorem wpC_runValue {c : Code} {Q : Value → Shared → Prop}
    (hc : codeC M A c (fun r s' => match r with | .ok (.ret v) => Q v s' | .ok _ => False | .error e => E e s') s) :
    wpC M A (runValue c) Q E s := fun Γ p hΓ hk => by rw [Sem.wp_runValue]; exact hc _ p rfl (hΓ.enter c none p (by intro x; cases x)) (hk.enter c none p)
theorem wpC_call {f : Value} {pos : List Value} {kw : List (Str × Value)} {Q : Value → Shared → Prop}
    (hc : codeC M A (.call f ⟨pos, kw⟩) (fun r s' => match r with | .ok (.ret v) => Q v s' | .ok _ => False | .error e => E e s') s) :
    wpC M A (call f pos kw) Q E s := wpC_runValue hc
theorem codeC_of_tree {c : Code} {R : Result → Shared → Prop}
    (h : wpC M (A.under c) (M.den c) (fun fin s' => match fin with | .done f => R (.ok f) s' | .again c' => c'.quiet = true ∧ codeC M A c' R s')
      (fun e s' => R (.error e) s') s) : codeC M A c R s := fun Γ p hc hΓ hk => by
  rw [wpCode_iff_wp, hc]
  refine Sem.wp_mono M Γ _ (fun fin p' s' h' => ?_) (fun _ _ _ h' => h') p s (h Γ p (hc ▸ hΓ.in) hk.cal)
  cases fin with
  | done f => exact h'
  | again c' => exact ⟨h'.1, h'.2 (Γ.goto c') p' rfl (hΓ.goto c') hk⟩
theorem codeC_loop {c : Code} {R : Result → Shared → Prop} (hq : c.quiet = true) (I : Nat → Shared → Prop)
    (turn : ∀ n s, I n s → wpC M (A.under c) (M.den c)
      (fun fin s' => match fin with | .done f => R (.ok f) s' | .again c' => c' = c ∧ ∃ m, m < n ∧ I m s') (fun e s' => R (.error e) s') s)
    (n : Nat) (h : I n s) : codeC M A c R s := by
  induction n using Nat.strongRecOn generalizing s with
  | ind n ih =>
    refine codeC_of_tree (wpC_mono (turn n s h) (fun fin s' hf => ?_) fun _ _ h' => h')
    cases fin with
    | done f => exact hf
    | again c' => obtain ⟨rfl, m, hm, hI⟩ := hf; exact ⟨hq, ih m hm hI⟩
theorem wpC_execs_cons {env : Env} {st rest} {Q : Flow → Shared → Prop}
    (h : wpC M A (exec st env) (fun f s' => match f with | .next => wpC M A (execs rest env) Q E s' | f => Q f s') E s) :
    wpC M A (execs (st :: rest) env) Q E s := fun Γ p hΓ hk => by
  rw [execs_cons, Sem.wp_bind']
  refine Sem.wp_mono M Γ _ (fun f p' s' h' => ?_) (fun _ _ _ h' => h') _ _ (h Γ p hΓ hk)
  cases f <;> first | exact h' Γ p' hΓ hk | exact h'
end

theorem ends_C {prog : Program} {w : World} {t : Sem Fin} {s : Shared} {R : Result → Shared → Prop} (hreg : s.asleep)
    (h : wpC (model prog w) callerA t (fun fin s' => ∃ f, fin = .done f ∧ (R (.ok f) s' ∧ leftWithCleanup s'.gens = false)) (fun e s' => R (.error e) s' ∧ leftWithCleanup s'.gens = false) s) :
    ∃ n r s' s'', runN (denote table) prog w n s ⟨t, .builtin "claim.caller" {}, default, []⟩ = .halted (outcomeOf r) s' ∧
      schedN (denote table) prog w n (.single s ⟨t, .builtin "claim.caller" {}, default, []⟩) = .halted (outcomeOf r) s' ∧ s'.forget = s''.forget ∧ R r s'' := by
  have k : wp (model prog w) ⟨.builtin "claim.caller" {}, none, none, [], none⟩ t (Sem.finPost (model prog w) ⟨.builtin "claim.caller" {}, none, none, [], none⟩ (fun r s' => R r s' ∧ leftWithCleanup s'.gens = false)) (fun e _ s' => R (.error e) s' ∧ leftWithCleanup s'.gens = false) default s := by
    refine Sem.wp_mono _ _ t (fun fin p' s' h' => ?_) (fun _ _ _ h' => h') default s (h _ default caller_in rfl)
    obtain ⟨f, rfl, hf⟩ := h'
    exact hf
  obtain ⟨n, r, s₁, s₂, hs, hn, hfo, hR⟩ := wp_halts_full (M := model prog w) (R := R) hreg k
  exact ⟨n, r, s₂, s₁, hn, hs, hfo, hR⟩

theorem callFrom_C {c : ClaimW} {tree : List Value → Sem Fin} {w : World} {s : Shared} {free : Addr → Prop} {gens : Prop} {kept : Heap → Prop} (hz : s.asleep) (hgens : s.gens = #[])
    (hspec : ∀ args, c.pre args = true → WData.layableAll args = true → ∀ ord : List DictEntry → List DictEntry, (∀ l, (ord l).Perm l) →
      ∃ vs s₁, layAllW c.records (classAt s.heap) w.params ord args s = some (vs, s₁) ∧
        wpC (model c.prog w) callerA (tree vs) (fun fin s' => ∃ f, fin = .done f ∧ (c.Ends s args vs s₁ (.ok f) s' ∧ s'.os = s.os ∧ AllBare s'.gens ∧ kept s'.heap))
          (fun e s' => c.Ends s args vs s₁ (.error e) s' ∧ s'.os = s.os ∧ AllBare s'.gens ∧ kept s'.heap) s₁) :
    c.CallFrom (fun vs => ⟨tree vs, .builtin "claim.caller" {}, default, []⟩) w free gens kept s := by
  intro args hpre hlay ord hord
  obtain ⟨vs, s₁, hlaid, hcode⟩ := hspec args hpre hlay ord hord
  have hal := layAllW_rest _ _ _ hlaid
  obtain ⟨k, r, s', s'', hrun, hsched, hfo, hcase, hos, hkp⟩ := ends_C (prog := c.prog) (w := w) (t := tree vs) (s := s₁)
    (R := fun r s' => c.Ends s args vs s₁ r s' ∧ s'.os = s.os ∧ kept s'.heap) (Shared.asleep_of_life hal.2.2.2 hz)
    (wpC_mono hcode (by
      rintro fin s' ⟨f, e, h1, h2, h3, h4⟩
      exact ⟨f, e, ⟨h1, h2, h4⟩, leftWithCleanup_false_of_bare h3⟩) (by
      rintro e s' ⟨h1, h2, h3, h4⟩
      exact ⟨⟨h1, h2, h4⟩, leftWithCleanup_false_of_bare h3⟩))
  obtain ⟨eh, _, _, eo, _⟩ := Shared.forget_eq hfo
  have hcase := hcase.congr eh
  have hkp : kept s'.heap := by first | exact eh ▸ hkp | (rw [eh] at hkp; exact hkp) | (rw [← eh] at hkp; exact hkp)
  rw [← eo] at hos
  have hlife : s'.heap.life = s.heap.life := (runN_life _ _ _ hrun).trans hal.2.2.2
  refine ⟨vs, s₁, hlaid, k, _, s', hsched, ?_, (fun _ i x hx => by rw [hgens] at hx; simp at hx), hkp, by rw [hlife], Shared.rest_eq hos⟩
  rcases hcase with ⟨v, rfl, d1, d2, d3, d4, d5⟩ | ⟨e, ob, cls, rfl, d1, d2, d3, d4, d5⟩
  · exact .inl ⟨v, rfl, d1, d2, d3, fun b o y _ => d4 b o y, d5⟩
  · exact .inr ⟨e, ob, cls, rfl, d1, d2, d3, d4, fun b o y _ => d5 b o y⟩

/-- what a walk of one's own shows: WalkO, where the stack holds the caller -/
noncomputable abbrev WalkC (q : Program) (loose : List Str) (XP : (Str → Option Value) → Heap → Prop) (YP : World → Heap → Prop) (r : RowW) (d : DefRec) (kwd : List (Str × Expr)) : Prop :=
  ∀ (w : World) (s₀ s₁ : Shared) (mg mb : Str → Option Value), Ground q loose r.records XP w s₀ mg mb s₁.heap → YP w s₁.heap → ∀ (a : Addr) (o : Obj) (pm cd doc dV kV : Value), s₁.heap.get? a = some o →
    o.data = .func { docDef d.name d.params d.body d.scope pm cd doc with defaults := dV, kwdefaults := kV } → s₁.heap.CodeRec cd d.name → Dflts mg s₁.heap d.params kwd dV kV → mg d.name = some (.ref a) → s₁.gens = #[] →
    ∀ (args : List WData) (vals : List Value) (as : List Addr), r.claim.pre args = true → WData.layableAll args = true → ReadsAllW r.records (classAt s₀.heap) s₁.heap vals args as → WellAll w.params s₁.heap vals args → (∀ a ∈ as, (a == sysModules) = false) →
      wpC (model r.prog w) callerA (PySem.call (.ref a) vals) (fun v s' => GoodWG r.claim (classAt s₀.heap) (ExcName.means s₀.heap) args s₁ (.ok (.ret v)) s')
        (fun e s' => GoodWG r.claim (classAt s₀.heap) (ExcName.means s₀.heap) args s₁ (.error e) s') s₁

theorem PySem.W.holds_open {r : OpenRow} {q : Program} {loose : List Str} {Xt : Shared → Bool} {XP : (Str → Option Value) → Heap → Prop} {α : Type} {Yf : Shared → α} {Ya : World → α} {YP : World → Heap → Prop} {d : DefRec} {kwd : List (Str × Expr)} {N : Nat}
    (left : LeftO r.prog q loose Xt Yf Ya N) (hY : ∀ w s, Yf s = Ya w → YP w s.heap) (hYk : ∀ w h h', YP w h → (∀ b o, h.get? b = some o → h'.get? b = some o) → YP w h')
    (hX : ∀ s, Xt s = true → XP (s.heap.nsMap mainGlobals) s.heap) (hXk : ∀ mg h h', XP mg h → (∀ b o, h.get? b = some o → h'.get? b = some o) → XP mg h')
    (hdef : defOf q r.name = some (d, kwd)) (hp : r.prog.theDef r.name = some (d.params, d.body, d.scope)) (hk : kwWritten? d.params.kwonlyargs d.params.kw_defaults = some kwd) (hRf : ∀ s, Xt s = true → RecFacts r.records s.heap) (hwr : (!r.writes || r.records.isEmpty) = true)
    (k1 : r.wellSaid = true) (ok : (chainsOk q && opensWell r.prog && (frees r.toRowW && r.within.isEmpty)) = true) (hb : r.prog.bare) (hw : r.toRowW.promised)
    (call : WalkC q loose XP YP r.toRowW d kwd) : r.Holds := by
  obtain ⟨ok', k5⟩ := Bool.and_eq_true_iff.mp ok
  obtain ⟨hch, o1⟩ := Bool.and_eq_true_iff.mp ok'
  obtain ⟨k5, k6⟩ := Bool.and_eq_true_iff.mp k5
  obtain ⟨hsame, hu, ha, hap, hm⟩ := frees_parts k5
  refine ⟨k1, hw, ⟨hb, o1, by show r.toRowW.makers.map _ = []; rw [hm]; rfl⟩, hw.witness, fun w => ⟨(left.behind hX hch w).1, fun s' hs' => ?_⟩⟩
  obtain ⟨s₀, hf, hg0, s, hT, hz, hgens, hg, G00, y⟩ := (left.behind (XP := fun mg h => XP mg h ∧ RecFacts r.records h) (fun s hs => ⟨hX s hs, hRf s hs⟩) hch w).2 s' hs'
  have G0 : Ground q loose [] XP w s (s.heap.nsMap mainGlobals) (s.heap.nsMap builtinsNs) s.heap := ⟨G00.T, G00.B, G00.D, G00.TE, G00.TD, G00.W, G00.X.1, G00.cls, G00.has, G00.apart, G00.once, G00.K⟩
  have RF := G00.X.2
  have hT' := hT
  refine ⟨s₀, hf, hg0, s, hT, fun n hn => ?_, RF.1, RF.2.1, ?_⟩
  · obtain rfl : n = r.name := by split at hn <;> simp_all
    exact pinned_of_view hg G0 hdef hp hk
  have hgens : s.gens = #[] := Array.eq_empty_of_size_eq_zero (beq_iff_eq.mp hgens)
  have G : Ground q loose r.records XP w s _ _ s.heap := RF.ground G0
  refine callFrom_C (c := r.toRowW.claim) (tree := fun vs => do match ← nsGet mainNs r.name with
      | some f => do ret (← PySem.call f vs)
      | none => unsupported "claim.caller:no-such-global") hz hgens fun args hpre hlay ord hord => ?_
  obtain ⟨⟨vs, s₁⟩, hlaid⟩ := Option.isSome_iff_exists.mp (layAllW_isSome (P := w.params) (ord := ord) G.has args r.toRowW.args s (pre_splitW hpre).1)
  have keeps := layAllW_keeps _ _ _ hlaid
  have hal := layAllW_rest _ _ _ hlaid
  obtain ⟨as, hrd, hin, hold⟩ := reads_layAllW hord _ _ _ hlaid hlay s₁.heap (fun _ _ e => e)
  have L : Laid r.records w s s₁ args vs as := ⟨⟨ord, hord, hlaid⟩, hrd, hin, hold, keeps, hal.1.trans hgens, hal.2.2.1⟩
  have G₁ := G.keeps hXk keeps
  obtain ⟨a, o, pm, cd, doc, dV, kV, h1, h2, h3, h4, h5⟩ := G₁.fn hdef
  have h := call w s s₁ _ _ G₁ (hYk _ _ _ (hY w s y) keeps) a o pm cd doc dV kV h2 h3 h4 h5 (defOf_name hdef ▸ h1) L.gens args vs as hpre hlay L.reads L.well (L.low G.low)
  have hi := ident_freeW hu ha hap
  have hwi : r.toRowW.claim.within = [] := List.isEmpty_iff.mp k6
  refine ⟨vs, s₁, hlaid, wpC_bind1 (wpAny_nsGet G₁.T.g ?_)⟩
  rw [h1]
  refine wpC_bind (wpC_mono h (fun v s' g => wpC_pure ⟨_, rfl, ?_⟩) fun e s' g => ?_)
  · have z := g.laid (c := r.toRowW.claim) hsame hwi hi L
    exact ⟨z.1, z.2.1, z.2.2, fun q => ⟨namesKept_of hT' hg _ keeps g.2.1.old, noTable hwr q⟩⟩
  · have z := g.laid (c := r.toRowW.claim) hsame hwi hi L
    exact ⟨z.1, z.2.1, z.2.2, fun q => ⟨namesKept_of hT' hg _ keeps g.2.1.old, noTable hwr q⟩⟩
end Mine
end

section
open PySem PySem.W PyProof.Rows
namespace Mine
/-! plain facts of numbers, each once: a proof by omega inside a walk sees every fact there and is large -/
theorem le6 {n : Nat} (h : n ≤ 6) : n ≤ 16384 := Nat.le_trans h (by decide)
theorem le5 {n : Nat} (h : n ≤ 5) : n ≤ 16384 := Nat.le_trans h (by decide)
theorem le5s {n : Nat} (h : n ≤ 5) : n + 1 ≤ 16384 := Nat.le_trans (Nat.succ_le_succ h) (by decide)
theorem sub16 {n k : Nat} (h : n ≤ 6) : n - k ≤ 16384 := Nat.le_trans (Nat.sub_le _ _) (le6 h)
theorem i_le5 {n i : Nat} (h : i < n - 1) (h6 : n ≤ 6) : i ≤ 5 := Nat.le_of_lt (Nat.lt_of_lt_of_le h (Nat.sub_le_sub_right h6 1))
theorem k_le5 {i k : Nat} (hk : k < i + 1) (hi : i ≤ 5) : k ≤ 5 := Nat.le_trans (Nat.le_of_lt_succ hk) hi
theorem ik_le5 {i : Nat} (k : Nat) (hi : i ≤ 5) : i - k ≤ 5 := Nat.le_trans (Nat.sub_le _ _) hi
theorem lt_row {n i j k : Nat} (hj : j < n - (i + 1)) (hk : k < i + 1) : j < n - k := Nat.lt_of_lt_of_le hj (Nat.sub_le_sub_left (Nat.le_of_lt hk) n)
theorem jk_row {n i j k : Nat} (hj : j < n - (i + 1)) (hk : k < i + 1) : j + k + 1 < n - (i - k) := by
  obtain ⟨d, rfl⟩ := Nat.exists_eq_add_of_le (Nat.le_of_lt_succ hk)
  have h := Nat.add_lt_of_lt_sub hj
  rw [Nat.add_sub_cancel_left]
  refine Nat.lt_sub_of_add_lt ?_
  rw [show j + k + 1 + d = j + (k + d + 1) by ac_rfl]
  exact h
theorem small2 {n : Nat} (h : n ≤ 6) : Builtin.Range.small 2 ((n : Int) + 1) 1 = true := small_one (by decide) (by decide) (by omega) (by omega)
theorem small0 {n i : Nat} (h : n ≤ 6) (hi : i ≤ 5) : Builtin.Range.small 0 ((n : Int) - (2 + i) + 1) 1 = true := small_one (by decide) (by decide) (by omega) (by omega)
theorem small1 {i : Nat} (hi : i ≤ 5) : Builtin.Range.small 1 (2 + (i : Int)) 1 = true := small_one (by decide) (by decide) (by omega) (by omega)
theorem size2 {n : Nat} : Builtin.Range.rangeSize 2 ((n : Int) + 1) 1 = ((n - 1 : Nat) : Int) := by
  rw [rangeSize_nat, show (n : Int) + 1 - 2 = (n : Int) - ((1 : Nat) : Int) by omega, Int.toNat_sub]
theorem size0 {n i : Nat} : Builtin.Range.rangeSize 0 ((n : Int) - (2 + i) + 1) 1 = ((n - (i + 1) : Nat) : Int) := by
  rw [rangeSize_nat, show (n : Int) - (2 + i) + 1 - 0 = (n : Int) - ((i + 1 : Nat) : Int) by omega, Int.toNat_sub]
theorem size1 {i : Nat} : Builtin.Range.rangeSize 1 (2 + (i : Int)) 1 = ((i + 1 : Nat) : Int) := by
  rw [rangeSize_nat, show 2 + (i : Int) - 1 = ((i + 1 : Nat) : Int) by omega, Int.toNat_natCast]
theorem idx1 (k : Nat) : 1 + (k : Int) - 1 = (k : Int) := by omega
theorem idx2 {i k : Nat} (hk : k < i + 1) : 2 + (i : Int) - (1 + (k : Int)) - 1 = ((i - k : Nat) : Int) := by
  rw [Int.ofNat_sub (Nat.le_of_lt_succ hk)]; omega
theorem idx3 (j k : Nat) : 0 + (j : Int) + (1 + (k : Int)) = ((j + k + 1 : Nat) : Int) := by omega
theorem sum16 {x k p q : Nat} (h : x ≤ 1764 * k + 42 * p + q) (hk : k ≤ 5) (hp : p < 42) (hq : q < 42) : x ≤ 16384 :=
  Nat.le_trans h (Nat.le_trans (Nat.add_le_add (Nat.add_le_add (Nat.mul_le_mul_left _ hk) (Nat.mul_le_mul_left _ (Nat.le_of_lt hp))) (Nat.le_of_lt hq)) (by decide))
theorem sum_c {x a p c : Nat} (h : x ≤ a + 42 * p + c) (hc : c ≤ 42) : x ≤ a + 42 * (p + 1) := Nat.le_trans h (by rw [Nat.mul_succ, Nat.add_assoc]; exact Nat.add_le_add_left (Nat.add_le_add_left hc _) _)
theorem sum_k {x k c : Nat} (h : x ≤ 1764 * k + 42 * c) (hc : c ≤ 42) : x ≤ 1764 * (k + 1) := Nat.le_trans h (by rw [Nat.mul_succ]; exact Nat.add_le_add_left (Nat.mul_le_mul_left 42 hc) _)
theorem j16 {x n i j : Nat} (h : x ≤ j) (hj : j < n - (i + 1)) (h6 : n ≤ 6) : x ≤ 16384 := Nat.le_trans h (Nat.le_trans (Nat.le_of_lt hj) (sub16 h6))
theorem units2 {u c : Nat} (h : u + 8 * 6 < c) : u + 3 + 8 * 2 < c := Nat.lt_of_le_of_lt (by rw [Nat.add_assoc]; exact Nat.add_le_add_left (by decide) u) h
theorem depth2 {u c : Nat} (h : u + 6 < c) : u + 1 + 2 < c := Nat.lt_of_le_of_lt (by rw [Nat.add_assoc]; exact Nat.add_le_add_left (by decide) u) h
theorem pos_row {n : Nat} (h : 2 ≤ n) : 0 < n - (n - 1) := Nat.sub_pos_of_lt (Nat.sub_lt (Nat.lt_of_lt_of_le (by decide) h) (by decide))
end Mine
namespace Mine
theorem small1n {n : Nat} (h : n ≤ 16384) : Builtin.Range.small 1 (n : Int) 1 = true := small_one (by decide) (by decide) (by omega) (by omega)
theorem size1n {n : Nat} : Builtin.Range.rangeSize 1 (n : Int) 1 = ((n - 1 : Nat) : Int) := by
  rw [rangeSize_nat, show (n : Int) - 1 = (n : Int) - ((1 : Nat) : Int) by rfl, Int.toNat_sub]
theorem idx4 (q : Nat) : 1 + (q : Int) = ((q + 1 : Nat) : Int) := Int.add_comm _ _
theorem one_more {m n : Nat} (hm : m = n - 1) (h0 : 0 < n) : 1 + m = n := by rw [hm, Nat.add_comm]; exact Nat.succ_pred_eq_of_pos h0
theorem len_small {x k : Nat} (h : x ≤ k + 1) (hk : k ≤ 4) : x ≤ 5 := Nat.le_trans h (Nat.succ_le_succ hk)
theorem dbl16 {x j : Nat} (h : x ≤ 2 * j) (hj : j < 8) : x + 1 ≤ 16384 := Nat.le_trans (Nat.succ_le_succ (Nat.le_trans h (Nat.mul_le_mul_left 2 (Nat.le_of_lt hj)))) (by decide)
theorem few16 {x y : Nat} (h : x ≤ 42) (hy : y ≤ 42) : x + y ≤ 16777216 := Nat.le_trans (Nat.add_le_add h hy) (by decide)
end Mine
end

section
open PySem PySem.W PyProof.Rows
set_option maxRecDepth 100000
set_option maxHeartbeats 8000000
namespace Mine
open_top hd for PySem.Challenge.rw_zd0005_01
end Mine
end

section
namespace Mine
universe u v
/-- two names joined: `none` is a leaf that is None; a token `none` is the text C -/
noncomputable def joinG {α : Type u} (a b : Option (List (Option α))) : List (Option α) := match b with
  | none => a.getD [none]
  | some q => a.getD [none] ++ q

/-- the table's cell of size n + 1 at a start (fuel f ≥ n + 1) -/
noncomputable def cellF {α : Type u} (row : List (Option α)) : Nat → Nat → Nat → List (Option (List (Option α)))
  | 0, _, _ => []
  | _ + 1, 0, s => [(row.getD s none).map fun a => [some a]]
  | f + 1, n + 1, s => (List.range (n + 1)).flatMap fun c => (cellF row f c s).flatMap fun x => (cellF row f (n - c) (s + c + 1)).map fun y => some (joinG x y)

noncomputable def lowerG (ways : List Nat) : List Nat := ways.headD 0 :: (List.range (ways.length - 1)).map fun k => ways.getD k 0 + ways.getD (k + 1) 0

/-- a turn of the second reading: a state's two states -/
noncomputable def stepG {α : Type u} (leaf : Option α) (s : List (Option α) × List Nat) : List (List (Option α) × List Nat) := match leaf with
  | none => [(s.1, lowerG s.2), (s.1 ++ [none], lowerG s.2 ++ [s.2.getLastD 0])]
  | some a => [(s.1 ++ [some a], lowerG s.2), (s.1 ++ [some a], lowerG s.2 ++ [s.2.getLastD 0])]

noncomputable def statesG {α : Type u} (a : α) (ls : List (Option α)) : List (List (Option α) × List Nat) := ls.foldl (fun st leaf => st.flatMap (stepG leaf)) [([some a], [1])]

noncomputable def dueG {α : Type u} (a b : α) (ls : List (Option α)) : List (List (Option α)) := (statesG a ls).flatMap fun s => List.replicate (s.2.getLastD 0) (s.1 ++ [some b])

noncomputable def namesG {α : Type u} (row : List (Option α)) : List (List (Option α)) := (cellF row row.length (row.length - 1) 0).map fun o => o.getD []

noncomputable def idxRow (sh : List Bool) : List (Option Nat) := (sh.zipIdx).map fun p => if p.1 then some p.2 else none
noncomputable def shapes : Nat → List (List Bool)
  | 0 => [[]]
  | n + 1 => (shapes n).flatMap fun l => [true :: l, false :: l]
noncomputable def checkG (sh : List Bool) : Bool := (namesG ([some 100] ++ idxRow sh ++ [some 101])).isPerm (dueG 100 101 (idxRow sh)) && (namesG ([some 100] ++ idxRow sh ++ [some 101])).length ≤ 42
theorem check0 : ∀ sh ∈ shapes 0, checkG sh = true := by decide +kernel
theorem check1 : ∀ sh ∈ shapes 1, checkG sh = true := by decide +kernel
theorem check2 : ∀ sh ∈ shapes 2, checkG sh = true := by decide +kernel
theorem check3 : ∀ sh ∈ shapes 3, checkG sh = true := by decide +kernel
theorem check4 : ∀ sh ∈ shapes 4, checkG sh = true := by decide +kernel

section nat
variable {α : Type u} {β : Type v} (f : α → β)
noncomputable abbrev mapT (nm : List (Option α)) : List (Option β) := nm.map (Option.map f)
theorem getD_mapO (row : List (Option α)) (s : Nat) : ((row.map (Option.map f)).getD s none) = (row.getD s none).map f := by
  rw [List.getD_eq_getElem?_getD, List.getD_eq_getElem?_getD, List.getElem?_map]
  cases row[s]? <;> rfl
theorem joinG_map (a b : Option (List (Option α))) : joinG (a.map (mapT f)) (b.map (mapT f)) = mapT f (joinG a b) := by
  cases a <;> cases b <;> simp [joinG, mapT]
theorem cellF_map (row : List (Option α)) : ∀ fu n s, cellF (row.map (Option.map f)) fu n s = (cellF row fu n s).map (Option.map (mapT f)) := by
  intro fu
  induction fu with
  | zero => intro n s; rfl
  | succ fu ih =>
    intro n s
    cases n with
    | zero =>
      simp only [cellF, getD_mapO]
      cases row.getD s none <;> rfl
    | succ n =>
      simp only [cellF, ih, List.map_flatMap]
      congr 1
      funext c
      simp only [List.flatMap_map, List.map_map]
      congr 1
      funext x
      congr 1
      funext y
      simp only [Function.comp, Option.map_some, joinG_map]
theorem namesG_map (row : List (Option α)) : namesG (row.map (Option.map f)) = (namesG row).map (mapT f) := by
  simp only [namesG, cellF_map, List.map_map, List.length_map]
  congr 1
  funext o
  cases o <;> rfl
theorem stepG_map (leaf : Option α) (p : List (Option α) × List Nat) : stepG (leaf.map f) (mapT f p.1, p.2) = (stepG leaf p).map fun s => (mapT f s.1, s.2) := by
  cases leaf <;> simp [stepG, mapT]
theorem statesG_map (ls : List (Option α)) : ∀ st : List (List (Option α) × List Nat), (ls.map (Option.map f)).foldl (fun st leaf => st.flatMap (stepG leaf)) (st.map fun s => (mapT f s.1, s.2))
    = (ls.foldl (fun st leaf => st.flatMap (stepG leaf)) st).map fun s => (mapT f s.1, s.2) := by
  induction ls with
  | nil => intro st; rfl
  | cons l r ih =>
    intro st
    simp only [List.map_cons, List.foldl_cons]
    rw [← ih]
    congr 1
    simp only [List.flatMap_map, List.map_flatMap]
    congr 1
    funext p
    exact stepG_map f l p
theorem dueG_map (a b : α) (ls : List (Option α)) : dueG (f a) (f b) (ls.map (Option.map f)) = (dueG a b ls).map (mapT f) := by
  have e : statesG (f a) (ls.map (Option.map f)) = (statesG a ls).map fun s => (mapT f s.1, s.2) := statesG_map f ls [([some a], [1])]
  simp only [dueG, e, List.flatMap_map, List.map_flatMap, List.map_replicate, List.map_append, List.map_cons, List.map_nil, Option.map_some]
end nat

theorem mem_shapes : ∀ (sh : List Bool), sh ∈ shapes sh.length
  | [] => by simp [shapes]
  | b :: r => by
    simp only [shapes, List.length_cons, List.mem_flatMap]
    exact ⟨r, mem_shapes r, by cases b <;> simp⟩
theorem checkAll (sh : List Bool) (h : sh.length ≤ 4) : checkG sh = true := by
  have hm := mem_shapes sh
  rcases (by omega : sh.length = 0 ∨ sh.length = 1 ∨ sh.length = 2 ∨ sh.length = 3 ∨ sh.length = 4) with e | e | e | e | e <;> rw [e] at hm
  · exact check0 sh hm
  · exact check1 sh hm
  · exact check2 sh hm
  · exact check3 sh hm
  · exact check4 sh hm

theorem idxRow_map {α : Type u} (f : Nat → α) (ls : List (Option α)) : (∀ i v, ls[i]? = some (some v) → f i = v) → (idxRow (ls.map Option.isSome)).map (Option.map f) = ls := by
  intro hf
  apply List.ext_getElem?
  intro i
  simp only [idxRow, List.getElem?_map, List.getElem?_zipIdx]
  cases h : ls[i]? with
  | none => simp
  | some o =>
    cases o with
    | none => simp
    | some v => simp [hf i v h]

theorem names_due {α : Type u} (a b : α) (ls : List (Option α)) (h : ls.length ≤ 4) :
    (namesG ([some a] ++ ls ++ [some b])).Perm (dueG a b ls) ∧ (namesG ([some a] ++ ls ++ [some b])).length ≤ 42 := by
  let f : Nat → α := fun i => if i = 100 then a else if i = 101 then b else ((ls[i]?).getD none).getD a
  have hc := checkAll (ls.map Option.isSome) (by simpa using h)
  simp only [checkG, Bool.and_eq_true, List.isPerm_iff, decide_eq_true_eq] at hc
  obtain ⟨hp, hl⟩ := hc
  have e := idxRow_map f ls (fun i v hi => by
    have : i < ls.length := (List.getElem?_eq_some_iff.mp hi).1
    simp [f, hi, show i ≠ 100 by omega, show i ≠ 101 by omega])
  have e1 : ([some a] ++ ls ++ [some b]) = ([some 100] ++ idxRow (ls.map Option.isSome) ++ [some 101]).map (Option.map f) := by
    simp only [List.map_append, e, List.map_cons, List.map_nil]
    simp [f]
  have e2 : dueG a b ls = (dueG 100 101 (idxRow (ls.map Option.isSome))).map (mapT f) := by
    rw [← dueG_map, e]
    simp [f]
  rw [e1, namesG_map, e2]
  exact ⟨hp.map _, by simpa using hl⟩

/-- what a cell holds -/
noncomputable def TokOk {α : Type u} (row : List (Option α)) (t : Option α) : Prop := t = none ∨ t ∈ row
theorem cellF_ok {α : Type u} (row : List (Option α)) : ∀ fu n s o, o ∈ cellF row fu n s → (∀ nm, o = some nm → nm ≠ [] ∧ nm.length ≤ n + 1 ∧ ∀ t ∈ nm, TokOk row t) ∧ (1 ≤ n → o ≠ none) := by
  intro fu
  induction fu with
  | zero => intro n s o h; simp [cellF] at h
  | succ fu ih =>
    intro n s o h
    cases n with
    | zero =>
      simp only [cellF, List.mem_singleton] at h
      subst h
      refine ⟨fun nm e => ?_, fun h => by omega⟩
      have hg : row.getD s none = none ∨ row.getD s none ∈ row := by
        rw [List.getD_eq_getElem?_getD]
        cases hs : row[s]? with
        | none => exact .inl rfl
        | some v => exact .inr (List.mem_of_getElem? hs)
      cases hr : row.getD s none with
      | none => rw [hr] at e; cases e
      | some a =>
        rw [hr] at e hg
        cases e
        exact ⟨by simp, by simp, fun t ht => by rw [List.mem_singleton.mp ht]; exact hg⟩
    | succ n =>
      simp only [cellF, List.mem_flatMap, List.mem_range, List.mem_map] at h
      obtain ⟨c, hc, x, hx, y, hy, rfl⟩ := h
      refine ⟨fun nm e => ?_, fun _ h => by cases h⟩
      cases e
      have gx := (ih c s x hx).1
      have gy := (ih (n - c) (s + c + 1) y hy).1
      have bx : x.getD [none] ≠ [] ∧ (x.getD [none]).length ≤ c + 1 ∧ ∀ t ∈ x.getD [none], TokOk row t := by
        cases x with
        | none => exact ⟨by simp, by simp, fun t ht => .inl (by simpa using ht)⟩
        | some nm => exact gx nm rfl
      cases y with
      | none => exact ⟨bx.1, by have := bx.2.1; simp only [joinG]; omega, bx.2.2⟩
      | some q =>
        have by_ := gy q rfl
        refine ⟨by simp [joinG, by_.1], ?_, fun t ht => ?_⟩
        · have h1 := bx.2.1
          have h2 := by_.2.1
          simp only [joinG, List.length_append]; omega
        · simp only [joinG, List.mem_append] at ht
          exact ht.elim (bx.2.2 t) (by_.2.2 t)
end Mine
end

section
open PySem PyProof.Rows
namespace Mine

inductive Lf where
  | e
  | n (i : Int)

noncomputable def ltx : Option Lf → Str
  | none => Str.ofString "C"
  | some .e => Str.ofString ""
  | some (.n i) => Str.ofString (toString i)

noncomputable def TokFit : Option Lf → Prop
  | some (.n i) => -2 ≤ i ∧ i ≤ 19997
  | _ => True

noncomputable def txt (nm : List (Option Lf)) : Str := Str.join (Str.ofString ".") (nm.map ltx)

theorem str_ext {x y : Str} (h : x.cps.toList = y.cps.toList) : x = y := by
  obtain ⟨x⟩ := x
  obtain ⟨y⟩ := y
  congr 1
  exact Array.toList_inj.mp h
theorem cps_add (x y : Str) : (x ++ y).cps.toList = x.cps.toList ++ y.cps.toList := by
  rw [PySem.Str.cps_append, Array.toList_append]
theorem len_list (x : Str) : x.length = x.cps.toList.length := by
  show x.cps.size = _
  rw [Array.length_toList]
theorem dot_eq : Str.ofString "." = (⟨#[46]⟩ : Str) := by decide +kernel

theorem num_signs {i : Int} (h : -2 ≤ i ∧ i ≤ 19997) : (∀ c ∈ (Str.ofString (toString i)).cps.toList, c = 45 ∨ (48 ≤ c ∧ c ≤ 57)) ∧ (Str.ofString (toString i)).length ≤ 10 ∧ PySem.intText? (Str.ofString (toString i)) = some i := by
  rcases (by omega : i = -2 ∨ i = -1 ∨ 0 ≤ i) with rfl | rfl | h0
  · exact ⟨by decide +kernel, by decide +kernel, by decide +kernel⟩
  · exact ⟨by decide +kernel, by decide +kernel, by decide +kernel⟩
  · refine ⟨fun c hc => ?_, PySem.W.KT.len_num h0 (by omega), PySem.W.KIN.num_reads h0 (by omega)⟩
    obtain ⟨m, rfl⟩ := Int.eq_ofNat_of_zero_le h0
    rw [PySem.W.KIN.signs_num] at hc
    obtain ⟨ch, hch, e⟩ := List.mem_map.mp hc
    have r := digit_range (Nat.isDigit_of_mem_toDigits (by decide) (by decide) hch)
    rw [← e]
    exact .inr r

theorem ltx_chars {t : Option Lf} (h : TokFit t) : ∀ c ∈ (ltx t).cps.toList, c = 67 ∨ c = 45 ∨ (48 ≤ c ∧ c ≤ 57) := by
  intro c hc
  cases t with
  | none => left; revert c; decide +kernel
  | some l =>
    cases l with
    | e => revert c; decide +kernel
    | n i => exact .inr ((num_signs h).1 c hc)
theorem ltx_len {t : Option Lf} (h : TokFit t) : (ltx t).length ≤ 10 := by
  cases t with
  | none => decide +kernel
  | some l =>
    cases l with
    | e => decide +kernel
    | n i => exact (num_signs h).2.1

theorem join_chars (y : Str) : ∀ (l : List Str) (c : Nat), c ∈ (Str.join y l).cps.toList → c ∈ y.cps.toList ∨ ∃ p ∈ l, c ∈ p.cps.toList
  | [], c, h => by
    have : (Str.join y []).cps.toList = [] := rfl
    rw [this] at h; simp at h
  | [x], c, h => .inr ⟨x, by simp, h⟩
  | x :: z :: r, c, h => by
    have e : (Str.join y (x :: z :: r)).cps.toList = x.cps.toList ++ y.cps.toList ++ (Str.join y (z :: r)).cps.toList := by
      show (x ++ y ++ Str.join y (z :: r)).cps.toList = _
      rw [cps_add, cps_add]
    rw [e, List.mem_append, List.mem_append] at h
    rcases h with (h | h) | h
    · exact .inr ⟨x, by simp, h⟩
    · exact .inl h
    · rcases join_chars y (z :: r) c h with q | ⟨p, hp, q⟩
      · exact .inl q
      · exact .inr ⟨p, List.mem_cons_of_mem _ hp, q⟩
theorem join_len (y : Str) : ∀ (l : List Str) (B : Nat), (∀ p ∈ l, p.length ≤ B) → (Str.join y l).length ≤ (B + y.length) * l.length
  | [], _, _ => by simp; rfl
  | [x], B, h => by
    have := h x (by simp)
    show x.length ≤ _
    simp only [List.length_cons, List.length_nil]
    omega
  | x :: z :: r, B, h => by
    have h1 := h x (by simp)
    have h2 := join_len y (z :: r) B fun p hp => h p (List.mem_cons_of_mem _ hp)
    show (x ++ y ++ Str.join y (z :: r)).length ≤ _
    rw [PySem.Str.length_append, PySem.Str.length_append]
    simp only [List.length_cons, Nat.mul_add, Nat.mul_one] at h2 ⊢
    omega
theorem txt_chars {nm : List (Option Lf)} (h : ∀ t ∈ nm, TokFit t) : ∀ c ∈ (txt nm).cps.toList, c = 46 ∨ c = 67 ∨ c = 45 ∨ (48 ≤ c ∧ c ≤ 57) := by
  intro c hc
  rcases join_chars _ _ c hc with q | ⟨p, hp, q⟩
  · left
    rw [dot_eq] at q
    simpa using q
  · obtain ⟨t, ht, rfl⟩ := List.mem_map.mp hp
    exact .inr (ltx_chars (h t ht) c q)
theorem txt_len {nm : List (Option Lf)} (h : ∀ t ∈ nm, TokFit t) : (txt nm).length ≤ 11 * nm.length := by
  have := join_len (Str.ofString ".") (nm.map ltx) 10 (fun p hp => by
    obtain ⟨t, ht, rfl⟩ := List.mem_map.mp hp
    exact ltx_len (h t ht))
  have e : (Str.ofString ".").length = 1 := rfl
  rw [e, List.length_map] at this
  exact this

theorem join_app (y : Str) : ∀ (a b : List Str), a ≠ [] → b ≠ [] → Str.join y (a ++ b) = Str.join y a ++ y ++ Str.join y b
  | [], _, h, _ => absurd rfl h
  | [x], z :: r, _, _ => rfl
  | [_], [], _, h => absurd rfl h
  | x :: x' :: a, b, _, hb => by
    have ih := join_app y (x' :: a) b (by simp) hb
    show x ++ y ++ Str.join y (x' :: a ++ b) = x ++ y ++ Str.join y (x' :: a) ++ y ++ Str.join y b
    rw [ih]
    simp only [PySem.Str.append_assoc]
theorem txt_app {a b : List (Option Lf)} (ha : a ≠ []) (hb : b ≠ []) : txt (a ++ b) = txt a ++ Str.ofString "." ++ txt b := by
  unfold txt
  rw [List.map_append]
  exact join_app _ _ _ (by simpa using ha) (by simpa using hb)

/-- texts that are free of the sign are told by what they are joined to -/
theorem join_inj (c : Nat) : ∀ (a b : List Str), a ≠ [] → b ≠ [] → (∀ p ∈ a, c ∉ p.cps.toList) → (∀ p ∈ b, c ∉ p.cps.toList) → Str.join ⟨#[c]⟩ a = Str.join ⟨#[c]⟩ b → a = b := by
  have key : ∀ (u v s t : List Nat), c ∉ u → c ∉ v → u ++ c :: s = v ++ c :: t → u = v ∧ s = t := by
    intro u
    induction u with
    | nil =>
      intro v s t _ hv e
      cases v with
      | nil => simpa using e
      | cons d v =>
        simp only [List.nil_append, List.cons_append, List.cons.injEq] at e
        exact absurd (List.mem_cons.mpr (.inl e.1)) hv
    | cons d u ih =>
      intro v s t hu hv e
      cases v with
      | nil =>
        simp only [List.nil_append, List.cons_append, List.cons.injEq] at e
        exact absurd (List.mem_cons.mpr (.inl e.1.symm)) hu
      | cons d' v =>
        simp only [List.cons_append, List.cons.injEq] at e
        obtain ⟨rfl, e⟩ := e
        obtain ⟨h1, h2⟩ := ih v s t (fun h => hu (List.mem_cons_of_mem _ h)) (fun h => hv (List.mem_cons_of_mem _ h)) e
        exact ⟨by rw [h1], h2⟩
  have one : ∀ (u v t : List Nat), c ∉ u → u = v ++ c :: t → False := by
    intro u v t hu e
    exact hu (by rw [e]; simp)
  intro a
  induction a with
  | nil => intro b h; exact absurd rfl h
  | cons x a ih =>
    intro b _ hb ha hb' e
    cases b with
    | nil => exact absurd rfl hb
    | cons z b =>
      have hx := ha x (by simp)
      have hz := hb' z (by simp)
      have app : ∀ (x x' : Str) (r : List Str), (Str.join ⟨#[c]⟩ (x :: x' :: r)).cps.toList = x.cps.toList ++ c :: (Str.join ⟨#[c]⟩ (x' :: r)).cps.toList := by
        intro x x' r
        show (x ++ ⟨#[c]⟩ ++ Str.join ⟨#[c]⟩ (x' :: r)).cps.toList = _
        rw [cps_add, cps_add]
        simp
      have e' := congrArg (fun s : Str => s.cps.toList) e
      have e' : (Str.join ⟨#[c]⟩ (x :: a)).cps.toList = (Str.join ⟨#[c]⟩ (z :: b)).cps.toList := e'
      cases a with
      | nil =>
        cases b with
        | nil => exact congrArg (· :: []) e
        | cons z' b =>
          rw [app] at e'
          exact (one _ _ _ hx e').elim
      | cons x' a =>
        cases b with
        | nil =>
          rw [app] at e'
          exact (one _ _ _ hz e'.symm).elim
        | cons z' b =>
          rw [app, app] at e'
          obtain ⟨h1, h2⟩ := key _ _ _ _ hx hz e'
          rw [str_ext h1]
          exact congrArg (z :: ·) (ih (z' :: b) (by simp) (by simp) (fun p hp => ha p (List.mem_cons_of_mem _ hp)) (fun p hp => hb' p (List.mem_cons_of_mem _ hp)) (str_ext h2))
theorem split_ne (x y : Str) (hy : 1 ≤ y.length) : Txt.split x y ≠ [] := by
  have h := StrLaws.join_split x y
  intro e
  rw [e] at h
  have hx : x = Str.empty := h.symm
  subst hx
  unfold Txt.split at e
  rw [if_pos (by
    have : (Str.empty).length = 0 := rfl
    simp only [Bool.or_eq_true, decide_eq_true_eq]
    omega)] at e
  cases e
theorem split_txt {nm : List (Option Lf)} (h : ∀ t ∈ nm, TokFit t) (hne : nm ≠ []) : Txt.split (txt nm) (Str.ofString ".") = nm.map ltx := by
  rw [dot_eq]
  refine join_inj 46 _ _ (split_ne _ _ (by decide)) (by simpa using hne) (fun p hp => StrLaws.split_free _ _ p hp) (fun p hp => ?_) ?_
  · obtain ⟨t, ht, rfl⟩ := List.mem_map.mp hp
    intro hc
    have := ltx_chars (h t ht) 46 hc
    omega
  · rw [StrLaws.join_split]
    unfold txt
    rw [dot_eq]

theorem item_at {x : Str} {i : Int} {c : Nat} (h0 : 0 ≤ i) (h : x.cps.toList[i.toNat]? = some c) : Txt.item x i = ⟨#[c]⟩ :=
  item_meets h0 (by rw [← Array.getElem?_toList]; exact h)
theorem find3_at {x : Str} {c lo k : Nat} (hlo : lo ≤ k) (hc : x.cps.toList[k]? = some c) (hn : ∀ j, lo ≤ j → j < k → x.cps.toList[j]? ≠ some c) : Txt.find3 x ⟨#[c]⟩ (lo : Int) = (k : Int) := by
  have hk : k < x.length := by
    rw [len_list]
    exact (List.getElem?_eq_some_iff.mp hc).1
  have hfi : fromIndex x.length (lo : Int) = lo := by
    unfold fromIndex
    rw [if_neg (by omega)]
    omega
  have hd : ∀ v, v < x.length → (x.cps.getD v 0 = c ↔ x.cps.toList[v]? = some c) := fun v hv => ⟨fun h => StrLaws.getElem?_of_getD hv h, fun h => StrLaws.getD_of_getElem? h⟩
  rcases StrLaws.find3_spec x c (lo : Int) with ⟨_, h2⟩ | ⟨k', h1, h2, h3, h4, h5⟩
  · exact absurd ((hd k hk).mpr hc) (h2 k (by rw [hfi]; exact hlo) hk)
  · rw [hfi] at h2 h5
    rw [h1]
    rcases Nat.lt_trichotomy k' k with q | q | q
    · exact absurd ((hd k' h3).mp h4) (hn k' h2 q)
    · rw [q]
    · exact absurd ((hd k hk).mpr hc) (h5 k hlo q)

/-- the reply -/
noncomputable abbrev reply (nm : Str) : Str := Str.ofString "229 Entering (" ++ nm ++ Str.ofString ")"
theorem pre_eq : (Str.ofString "229 Entering (").cps.toList = [50, 50, 57, 32, 69, 110, 116, 101, 114, 105, 110, 103, 32, 40] := by decide +kernel
theorem post_eq : (Str.ofString ")").cps.toList = [41] := by decide +kernel
theorem open_eq : Str.ofString "(" = (⟨#[40]⟩ : Str) := by decide +kernel
theorem close_eq : Str.ofString ")" = (⟨#[41]⟩ : Str) := by decide +kernel
theorem reply_cps (nm : Str) : (reply nm).cps.toList = [50, 50, 57, 32, 69, 110, 116, 101, 114, 105, 110, 103, 32, 40] ++ nm.cps.toList ++ [41] := by
  rw [cps_add, cps_add, pre_eq, post_eq]
theorem reply_len (nm : Str) : (reply nm).length = nm.length + 15 := by
  rw [len_list, reply_cps, len_list]
  simp only [List.length_append, List.length_cons, List.length_nil]
  omega
theorem reply_slice3 (nm : Str) : Txt.slice (reply nm) none (some 3) = Str.ofString "229" := by
  have h := slice_closes_to (x := reply nm) (j := 3) (by have := reply_len nm; rw [len_list] at this; omega)
  rw [eq_of_beq h]
  have e : (Str.ofString "229") = (⟨#[50, 50, 57]⟩ : Str) := by decide +kernel
  rw [e, reply_cps]
  rfl
theorem reply_find (nm : Str) : Txt.find (reply nm) (Str.ofString "(") = 13 := by
  rw [find_is_find3, open_eq]
  refine find3_at (lo := 0) (k := 13) (by omega) (by rw [reply_cps]; rfl) fun j _ hj => ?_
  rw [reply_cps, List.append_assoc, List.getElem?_append_left (Nat.lt_trans hj (by decide))]
  exact (show ∀ j, j < 13 → ([50, 50, 57, 32, 69, 110, 116, 101, 114, 105, 110, 103, 32, 40] : List Nat)[j]? ≠ some 40 by decide) j hj
theorem reply_find3 {nm : Str} (h : ∀ c ∈ nm.cps.toList, c ≠ 41) : Txt.find3 (reply nm) (Str.ofString ")") 14 = ((14 + nm.length : Nat) : Int) := by
  rw [close_eq]
  refine find3_at (lo := 14) (k := 14 + nm.length) (by omega) ?_ fun j h1 h2 => ?_
  · rw [reply_cps, List.getElem?_append_right (by rw [List.length_append, ← len_list]; show 14 + nm.length ≤ _; omega)]
    have e : 14 + nm.length - ([50, 50, 57, 32, 69, 110, 116, 101, 114, 105, 110, 103, 32, 40] ++ nm.cps.toList).length = 0 := by
      rw [List.length_append, ← len_list]
      show 14 + nm.length - (14 + nm.length) = 0
      omega
    rw [e]
    rfl
  · rw [reply_cps, List.getElem?_append_left (by rw [List.length_append, ← len_list]; show j < 14 + nm.length; omega), List.getElem?_append_right (by show 14 ≤ j; omega)]
    intro hc
    exact h 41 (List.mem_of_getElem? hc) rfl
theorem reply_slice (nm : Str) : Txt.slice (reply nm) (some 14) (some ((14 + nm.length : Nat) : Int)) = nm := by
  have h := slice_closes (x := reply nm) (i := 14) (j := ((14 + nm.length : Nat) : Int)) (by have := reply_len nm; rw [len_list] at this; omega)
  rw [eq_of_beq h]
  apply str_ext
  rw [reply_cps]
  show List.take (((14 + nm.length : Nat) : Int) - 14).toNat (List.drop 14 _) = _
  have e : (((14 + nm.length : Nat) : Int) - 14).toNat = nm.cps.toList.length := by rw [← len_list]; omega
  rw [e]
  show List.take nm.cps.toList.length (nm.cps.toList ++ [41]) = _
  simp
theorem reply_first {nm : Str} {c : Nat} {r : List Nat} (h : nm.cps.toList = c :: r) : Txt.item (reply nm) 14 = ⟨#[c]⟩ :=
  item_at (by decide) (by rw [reply_cps, h]; rfl)
theorem reply_last {nm : Str} {c : Nat} {r : List Nat} (h : nm.cps.toList = r ++ [c]) : Txt.item (reply nm) (((14 + nm.length : Nat) : Int) - 1) = ⟨#[c]⟩ := by
  refine item_at (by omega) ?_
  have hl : nm.length = r.length + 1 := by rw [len_list, h]; simp
  have e : ((((14 + nm.length : Nat) : Int) - 1)).toNat = 14 + r.length := by omega
  rw [e, reply_cps, h, List.append_assoc, List.append_assoc, List.getElem?_append_right (by show 14 ≤ _; omega), List.getElem?_append_right (by show _ ≤ 14 + r.length - 14; omega)]
  have e2 : 14 + r.length - [50, 50, 57, 32, 69, 110, 116, 101, 114, 105, 110, 103, 32, 40].length - r.length = 0 := by
    show 14 + r.length - 14 - r.length = 0
    omega
  rw [e2]
  rfl
/-- a name that a row gives: it begins and ends with an empty leaf -/
theorem txt_ends {nm : List (Option Lf)} {r : List (Option Lf)} (h : nm = some .e :: (r ++ [some .e])) : (∃ u, (txt nm).cps.toList = 46 :: u) ∧ ∃ u, (txt nm).cps.toList = u ++ [46] := by
  have hE : (ltx (some .e)).cps.toList = [] := by decide +kernel
  have h1 : txt nm = txt [some .e] ++ Str.ofString "." ++ txt (r ++ [some .e]) := by
    rw [h]; exact txt_app (a := [some .e]) (by simp) (by simp)
  have h2 : txt nm = txt (some .e :: r) ++ Str.ofString "." ++ txt [some .e] := by
    rw [h, ← List.cons_append]; exact txt_app (by simp) (by simp)
  have ht : (txt [some .e]).cps.toList = [] := hE
  exact ⟨⟨(txt (r ++ [some .e])).cps.toList, by rw [h1, cps_add, cps_add, dot_eq, ht]; rfl⟩, ⟨(txt (some .e :: r)).cps.toList, by rw [h2, cps_add, cps_add, dot_eq, ht, List.append_nil]⟩⟩

theorem states_head {α : Type} (a : α) (ls : List (Option α)) : ∀ s ∈ statesG a ls, (∃ r, s.1 = some a :: r ∧ ∀ t ∈ r, TokOk ls t) ∧ s.1.length ≤ ls.length + 1 := by
  unfold statesG
  have key : ∀ (l : List (Option α)) (k : Nat) (st : List (List (Option α) × List Nat)), (∀ t ∈ l, t ∈ ls) → (∀ s ∈ st, (∃ r, s.1 = some a :: r ∧ ∀ t ∈ r, TokOk ls t) ∧ s.1.length ≤ k + 1) →
      ∀ s ∈ l.foldl (fun st leaf => st.flatMap (stepG leaf)) st, (∃ r, s.1 = some a :: r ∧ ∀ t ∈ r, TokOk ls t) ∧ s.1.length ≤ k + l.length + 1 := by
    intro l
    induction l with
    | nil => intro k st _ h s hs; simpa using h s hs
    | cons x l ih =>
      intro k st hl h s hs
      rw [List.foldl_cons] at hs
      have := ih (k + 1) _ (fun t ht => hl t (List.mem_cons_of_mem _ ht)) (fun s' hs' => ?_) s hs
      · refine ⟨this.1, ?_⟩
        have h2 := this.2
        simp only [List.length_cons]
        omega
      · obtain ⟨p, hp, hs'⟩ := List.mem_flatMap.mp hs'
        obtain ⟨⟨r, hr, hok⟩, hlen⟩ := h p hp
        have hx : TokOk ls x := .inr (hl x (by simp))
        cases x with
        | none =>
          simp only [stepG, List.mem_cons, List.not_mem_nil, or_false] at hs'
          rcases hs' with rfl | rfl
          · exact ⟨⟨r, hr, hok⟩, by dsimp only; omega⟩
          · refine ⟨⟨r ++ [none], by simp [hr], fun t ht => ?_⟩, by simp only [List.length_append, List.length_cons, List.length_nil]; omega⟩
            rcases List.mem_append.mp ht with h' | h'
            · exact hok t h'
            · rw [List.mem_singleton.mp h']; exact .inl rfl
        | some b =>
          have fin : (∃ r', p.1 ++ [some b] = some a :: r' ∧ ∀ t ∈ r', TokOk ls t) ∧ (p.1 ++ [some b]).length ≤ k + 1 + 1 := by
            refine ⟨⟨r ++ [some b], by simp [hr], fun t ht => ?_⟩, by simp only [List.length_append, List.length_cons, List.length_nil]; omega⟩
            rcases List.mem_append.mp ht with h' | h'
            · exact hok t h'
            · rw [List.mem_singleton.mp h']; exact hx
          simp only [stepG, List.mem_cons, List.not_mem_nil, or_false] at hs'
          rcases hs' with rfl | rfl <;> exact fin
  intro s hs
  have := key ls 0 [([some a], [1])] (fun _ h => h) (fun s hs => by
    rw [List.mem_singleton.mp hs]
    exact ⟨⟨[], rfl, by simp⟩, by simp⟩) s hs
  simpa using this
theorem due_ok {α : Type} (a b : α) (ls : List (Option α)) : ∀ nm ∈ dueG a b ls, ∃ r, nm = some a :: (r ++ [some b]) ∧ (∀ t ∈ r, TokOk ls t) ∧ nm.length ≤ ls.length + 2 := by
  intro nm h
  obtain ⟨s, hs, h⟩ := List.mem_flatMap.mp h
  obtain ⟨⟨r, hr, hok⟩, hl⟩ := states_head a ls s hs
  have e := (List.mem_replicate.mp h).2
  subst e
  exact ⟨r, by rw [hr]; rfl, hok, by simp only [List.length_append, List.length_cons, List.length_nil]; omega⟩
end Mine
end

section
open PySem PySem.W PyProof.Rows
set_option maxHeartbeats 800000
namespace Mine
theorem fm_congr {α β : Type} {f g : α → List β} : ∀ (l : List α), (∀ x ∈ l, f x = g x) → l.flatMap f = l.flatMap g
  | [], _ => rfl
  | a :: r, h => by rw [List.flatMap_cons, List.flatMap_cons, h a List.mem_cons_self, fm_congr r fun x hx => h x (List.mem_cons_of_mem _ hx)]
theorem cellF_fuel {α : Type} (row : List (Option α)) : ∀ n f s, n + 1 ≤ f → cellF row f n s = cellF row (n + 1) n s := by
  intro n
  induction n using Nat.strongRecOn with
  | ind n ih =>
    intro f s hf
    obtain ⟨f, rfl⟩ : ∃ g, f = g + 1 := ⟨f - 1, by omega⟩
    cases n with
    | zero => rfl
    | succ n =>
      simp only [cellF]
      refine fm_congr _ fun c hc => ?_
      · have hc := List.mem_range.mp hc
        have e1 : ∀ s, cellF row f c s = cellF row (n + 1) c s := fun s => by
          rw [ih c (by omega) f s (by omega), ih c (by omega) (n + 1) s (by omega)]
        have e2 : ∀ s, cellF row f (n - c) s = cellF row (n + 1) (n - c) s := fun s => by
          rw [ih (n - c) (by omega) f s (by omega), ih (n - c) (by omega) (n + 1) s (by omega)]
        rw [e1, e2]
/-- the table's cell of size n + 1 at s -/
noncomputable def cell {α : Type} (row : List (Option α)) (n s : Nat) : List (Option (List (Option α))) := cellF row (n + 1) n s
theorem cell_zero {α : Type} (row : List (Option α)) (s : Nat) : cell row 0 s = [(row.getD s none).map fun a => [some a]] := rfl
/-- what one cut gives -/
noncomputable def cutG {α : Type} (row : List (Option α)) (n s c : Nat) : List (Option (List (Option α))) := (cell row c s).flatMap fun x => (cell row (n - c) (s + c + 1)).map fun y => some (joinG x y)
theorem cell_succ {α : Type} (row : List (Option α)) (n s : Nat) : cell row (n + 1) s = (List.range (n + 1)).flatMap (cutG row n s) := by
  unfold cell
  rw [cellF]
  refine fm_congr _ fun c hc => ?_
  have hc := List.mem_range.mp hc
  unfold cutG cell
  rw [cellF_fuel row c (n + 1) s (by omega), cellF_fuel row (n - c) (n + 1) (s + c + 1) (by omega)]
theorem names_cell {α : Type} (row : List (Option α)) (h : 1 ≤ row.length) : namesG row = (cell row (row.length - 1) 0).map fun o => o.getD [] := by
  unfold namesG cell
  rw [cellF_fuel row (row.length - 1) row.length 0 (by omega)]
theorem cell_ok {row : List (Option Lf)} (hr : ∀ t ∈ row, TokFit t) {n s : Nat} {o : Option (List (Option Lf))} (ho : o ∈ cell row n s) :
    (∀ nm, o = some nm → nm ≠ [] ∧ nm.length ≤ n + 1 ∧ ∀ t ∈ nm, TokFit t) ∧ (1 ≤ n → o ≠ none) := by
  have h := cellF_ok row (n + 1) n s o ho
  refine ⟨fun nm e => ⟨(h.1 nm e).1, (h.1 nm e).2.1, fun t ht => ?_⟩, h.2⟩
  rcases (h.1 nm e).2.2 t ht with rfl | h2
  · trivial
  · exact hr t h2
/-- at most so many in a cell -/
theorem cell_len {α : Type} (row : List (Option α)) : ∀ s, (cell row 0 s).length = 1 ∧ (cell row 1 s).length = 1 ∧ (cell row 2 s).length = 2 ∧ (cell row 3 s).length = 5 ∧ (cell row 4 s).length = 14 ∧ (cell row 5 s).length = 42 := by
  have h0 : ∀ s, (cell row 0 s).length = 1 := fun s => rfl
  have step : ∀ n s, (cell row (n + 1) s).length = ((List.range (n + 1)).map fun c => (cell row c s).length * (cell row (n - c) (s + c + 1)).length).sum := by
    intro n s
    rw [cell_succ, List.length_flatMap]
    congr 1
    apply List.map_congr_left
    intro c _
    unfold cutG
    rw [List.length_flatMap]
    simp only [List.length_map, List.map_const', List.sum_replicate_nat]
  have h1 : ∀ s, (cell row 1 s).length = 1 := fun s => by rw [step]; simp [List.range_succ, h0]
  have h2 : ∀ s, (cell row 2 s).length = 2 := fun s => by rw [step]; simp [List.range_succ, h0, h1]
  have h3 : ∀ s, (cell row 3 s).length = 5 := fun s => by rw [step]; simp [List.range_succ, h0, h1, h2]
  have h4 : ∀ s, (cell row 4 s).length = 14 := fun s => by rw [step]; simp [List.range_succ, h0, h1, h2, h3]
  have h5 : ∀ s, (cell row 5 s).length = 42 := fun s => by rw [step]; simp [List.range_succ, h0, h1, h2, h3, h4]
  exact fun s => ⟨h0 s, h1 s, h2 s, h3 s, h4 s, h5 s⟩
theorem cell_le {α : Type} (row : List (Option α)) {n : Nat} (s : Nat) (h : n ≤ 5) : (cell row n s).length ≤ 42 := by
  obtain ⟨h0, h1, h2, h3, h4, h5⟩ := cell_len row s
  rcases (by omega : n = 0 ∨ n = 1 ∨ n = 2 ∨ n = 3 ∨ n = 4 ∨ n = 5) with rfl | rfl | rfl | rfl | rfl | rfl <;> omega
end Mine
end

section
open PySem PySem.W PyProof.Rows
set_option maxHeartbeats 800000
namespace Mine
theorem states_take {α : Type} (a : α) (ls : List (Option α)) (i : Nat) {x : Option α} (hx : ls[i]? = some x) : statesG a (ls.take (i + 1)) = (statesG a (ls.take i)).flatMap (stepG x) := by
  unfold statesG
  rw [List.take_add_one, hx, List.foldl_append]
  rfl
theorem lower_len (ways : List Nat) (h : ways ≠ []) : (lowerG ways).length = ways.length := by
  cases ways with
  | nil => exact absurd rfl h
  | cons a r => simp [lowerG]
theorem step_ok {α : Type} {x : Option α} {s s' : List (Option α) × List Nat} (h : s' ∈ stepG x s) (hw : s.2 ≠ []) : s'.2 ≠ [] ∧ s'.2.length ≤ s.2.length + 1 ∧ s'.1.length ≤ s.1.length + 1 := by
  have hl : lowerG s.2 ≠ [] := by simp [lowerG]
  have hn := lower_len s.2 hw
  cases x <;> simp only [stepG, List.mem_cons, List.not_mem_nil, or_false] at h <;> rcases h with rfl | rfl <;> simp [hl, hn]
theorem states_ok {α : Type} (a : α) (ls : List (Option α)) : ∀ i, i ≤ ls.length → (∀ s ∈ statesG a (ls.take i), s.2 ≠ [] ∧ s.2.length ≤ i + 1 ∧ s.1.length ≤ i + 1) ∧ (statesG a (ls.take i)).length = 2 ^ i := by
  intro i
  induction i with
  | zero =>
    intro _
    refine ⟨fun s hs => ?_, rfl⟩
    simp only [List.take_zero, statesG, List.foldl_nil, List.mem_singleton] at hs
    subst hs
    simp
  | succ i ih =>
    intro hi
    obtain ⟨h1, h2⟩ := ih (by omega)
    obtain ⟨x, hx⟩ : ∃ x, ls[i]? = some x := ⟨_, List.getElem?_eq_getElem (by omega)⟩
    rw [states_take a ls i hx]
    refine ⟨fun s hs => ?_, ?_⟩
    · obtain ⟨s0, hs0, hs⟩ := List.mem_flatMap.mp hs
      have k := h1 s0 hs0
      have k2 := step_ok hs k.1
      exact ⟨k2.1, by omega, by omega⟩
    · rw [List.length_flatMap]
      have e : ((statesG a (ls.take i)).map fun s => (stepG x s).length) = List.replicate (statesG a (ls.take i)).length 2 := by
        rw [← List.map_const']
        apply List.map_congr_left
        intro s _
        cases x <;> rfl
      rw [e, List.sum_replicate_nat, h2, Nat.pow_succ]
theorem states_full {α : Type} (a : α) (ls : List (Option α)) : statesG a (ls.take ls.length) = statesG a ls := by rw [List.take_length]
end Mine
end

section
open PySem PySem.W PyProof.Rows PySem.Calls
set_option maxRecDepth 100000
set_option maxHeartbeats 8000000
namespace Mine
/-- the walk holds here -/
structure Hold (p : Prop) : Prop where
  out : p

noncomputable abbrev tupOf (vs : List Value) (n : Nat) : Obj := { cls := .type "tuple", data := .seq vs.toArray n }

/-- a call of a def of the text: what it gives back and what it leaves on the ledger -/
noncomputable abbrev Says (w : World) (loose : List Str) (mean : ExcName → Option Value) (mg mb : Str → Option Value) (f : Addr) (vs : List Value) (news : List (Addr × Obj)) (dN : Nat) (Out : List (Addr × Obj) → Value → Prop) : Prop :=
  ∀ (dp un : Nat) (gd : Option (List Code)) (cn : Str) (cs : Scope) (a : Addr) (ccd : Value) (cl : List (Str × Addr)) (outer : List Env) (A₀ : Around) (base h₀ : Heap) (L : Addr) (m : Str → Option Value) (s : Shared) (Q E : Value → Shared → Prop),
    Below A₀ base outer h₀ → Fr h₀ L s.heap m → (hd.heap_39 w.params).In h₀ → News h₀ L s.heap news → Top hd.view_39 loose mean mg mb h₀ → cs.kind = .function →
    dp + dN < recursionLimit → un + 8 * dN < cLine →
    (∀ r tl h' tk', Fr h₀ L h' m → News h₀ L h' (news ++ tl) → (∀ q ∈ news, ∀ p ∈ tl, q.1 ≠ p.1) → Out tl r → Q r { s with heap := h', toks := tk' }) →
    wpAny (model Challenge.rw_zd0005_01.prog w) (ktrTop dp un gd cn cs L a ccd cl outer) (call (.ref f) vs) Q E s

noncomputable abbrev topA (dp un : Nat) (gd : Option (List Code)) (cn : Str) (cs : Scope) (L a : Addr) (ccd : Value) : Around := { handled := none, depth := dp, frames := some [envOf cn cs L a ccd], guards := gd, units := un }
/-- the same from the law's own frame: a try in the callee -/
noncomputable abbrev SaysT (w : World) (loose : List Str) (mean : ExcName → Option Value) (mg mb : Str → Option Value) (f : Addr) (vs : List Value) (news : List (Addr × Obj)) (dN : Nat) (Out : List (Addr × Obj) → Value → Prop) : Prop :=
  ∀ (dp un : Nat) (gd : Option (List Code)) (cn : Str) (cs : Scope) (a : Addr) (ccd : Value) (A₀ : Around) (base h₀ : Heap) (L : Addr) (m : Str → Option Value) (s : Shared) (Q E : Value → Shared → Prop),
    Below A₀ base [] h₀ → Fr h₀ L s.heap m → (hd.heap_39 w.params).In h₀ → News h₀ L s.heap news → Top hd.view_39 loose mean mg mb h₀ → (hd.heap_39 w.params).In base → Top hd.view_39 loose mean mg mb base → cs.kind = .function →
    dp + dN < recursionLimit → un + 8 * dN < cLine →
    (∀ r tl h' tk', Fr h₀ L h' m → News h₀ L h' (news ++ tl) → (∀ q ∈ news, ∀ p ∈ tl, q.1 ≠ p.1) → Out tl r → Q r { s with heap := h', toks := tk' }) →
    wpAny (model Challenge.rw_zd0005_01.prog w) (topA dp un gd cn cs L a ccd) (call (.ref f) vs) Q E s

section
variable {prog : Program} {w : World} {A : Around} {E : Value → Shared → Prop} {s : Shared} {h₀ : Heap} {L : Addr} {m : Str → Option Value} {news : List (Addr × Obj)} {x y z : Str} {t u : Tok} {Q : Value → Shared → Prop} {k i j : Int} {value slice : PySem.Expr}
theorem r_add (hsz : x.length + y.length ≤ 16777216) (h : ∀ t' tk, Q (.str (x ++ y) t') { s with toks := tk }) :
    wpAny (model prog w) A (binaryOp .Add (.str x t) (.str y u)) Q E s := PyProof.Rows.add_str h (by rw [sizeLine_eq]; exact hsz)
theorem r_find (e : Txt.find x y = k) (h : ∀ t' tk, Q (.int k t') { s with toks := tk }) : wpAny (model prog w) A (call (.builtin "str.find") [.str x t, .str y u]) Q E s :=
  SC.find (by rw [e]; exact h _ _)
theorem r_find3 {v : Tok} (e : Txt.find3 x y i = k) (h : ∀ t' tk, Q (.int k t') { s with toks := tk }) : wpAny (model prog w) A (call (.builtin "str.find") [.str x t, .str y u, .int i v]) Q E s :=
  SC.find3 (by rw [e]; exact h _ _)
theorem r_slice_ns {uj : Tok} (hF : Fr h₀ L s.heap m) (hN : News h₀ L s.heap news) (e : Txt.slice x none (some j) = y) (hsz : x.length ≤ 16777216) (h : ∀ h' t' tk, Fr h₀ L h' m → News h₀ L h' news → Q (.str y t') { s with heap := h', toks := tk })
    (hs : subscripted slice false (.str x t) (.ref s.heap.objs.size) = operate [.ref s.heap.objs.size, .str x t] (getItem (.str x t) (.ref s.heap.objs.size)) := by with_unfolding_all rfl)
    (ht : ∀ r, letTemporaryGo value (.str x t) r = pure () := by intro _; with_unfolding_all rfl) :
    wpAny (model prog w) A (subscriptTail value slice (.str x t) (.ref s.heap.objs.size)) Q E { s with heap := s.heap.push { cls := .type "slice", data := .fields #[.none, .int j uj, .none] } } :=
  slice_strN_ns hF hN (fun h' t' k a b => by rw [e]; exact h h' t' k a b) hs ht (by rw [sizeLine_eq]; exact hsz)
theorem r_slice_ss {ui uj : Tok} (hF : Fr h₀ L s.heap m) (hN : News h₀ L s.heap news) (e : Txt.slice x (some i) (some j) = y) (hsz : x.length ≤ 16777216) (h : ∀ h' t' tk, Fr h₀ L h' m → News h₀ L h' news → Q (.str y t') { s with heap := h', toks := tk })
    (hs : subscripted slice false (.str x t) (.ref s.heap.objs.size) = operate [.ref s.heap.objs.size, .str x t] (getItem (.str x t) (.ref s.heap.objs.size)) := by with_unfolding_all rfl)
    (ht : ∀ r, letTemporaryGo value (.str x t) r = pure () := by intro _; with_unfolding_all rfl) :
    wpAny (model prog w) A (subscriptTail value slice (.str x t) (.ref s.heap.objs.size)) Q E { s with heap := s.heap.push { cls := .type "slice", data := .fields #[.int i ui, .int j uj, .none] } } :=
  slice_strN_ss hF hN (fun h' t' k a b => by rw [e]; exact h h' t' k a b) hs ht (by rw [sizeLine_eq]; exact hsz)
theorem r_item (e : Txt.item x i = y) (h0 : 0 ≤ i) (h1 : i < (x.length : Int)) (hn : x.length ≤ 16777216) (h : ∀ t' tk, Q (.str y t') { s with toks := tk })
    (hs : subscripted slice false (.str x t) (.int i u) = operate [.str x t, .int i u] (getItem (.str x t) (.int i u)) := by with_unfolding_all rfl)
    (ht : ∀ r, letTemporaryGo value (.str x t) r = pure () := by intro _; with_unfolding_all rfl) :
    wpAny (model prog w) A (subscriptTail value slice (.str x t) (.int i u)) Q E s :=
  item_str (fitsSsize_of (N := 9223372036854775808) (by omega) (by omega) (Int.le_refl _)) (by omega) (by omega) (fun _ => by rw [e]; exact h _ _) hs ht
theorem r_ne {b : Bool} (e : (x != y) = b) (h : Q (.bool b) s) : wpAny (model prog w) A (compareOp .NotEq (.str x t) (.str y u)) Q E s :=
  PyProof.Rows.ne_str (by rw [e]; exact h)
theorem r_eq {b : Bool} (e : (x == y) = b) (h : Q (.bool b) s) : wpAny (model prog w) A (compareOp .Eq (.str x t) (.str y u)) Q E s :=
  PyProof.Rows.eq_str (by rw [e]; exact h)
theorem r_len {l : Addr} {vs : List Value} {n k : Nat} (hN : News h₀ L s.heap news) (hm : (l, listOf vs.toArray n) ∈ news) (e : vs.length = k) (hz : k ≤ 16384) (h : ∀ t' tk, Q (.int (k : Int) t') { s with toks := tk }) :
    wpAny (model prog w) A (call (.builtin "len") [.ref l]) Q E s :=
  kun_lenL (News.isList hN hm) (by simp [e]) (by omega) (h _ _)
theorem r_neI {b : Bool} (e : (i != j) = b) (h : Q (.bool b) s) : wpAny (model prog w) A (compareOp .NotEq (.int i t) (.int j u)) Q E s := by
  subst e
  exact PyProof.Rows.ne_int h
theorem list4 {α : Type} {l : List α} (h : l.length = 4) : ∃ a b c d, l = [a, b, c, d] := by
  rcases l with _ | ⟨a, _ | ⟨b, _ | ⟨c, _ | ⟨d, _ | ⟨e, l⟩⟩⟩⟩⟩
  all_goals first | exact ⟨_, _, _, _, rfl⟩ | cases h
theorem list5 {α : Type} {l : List α} (h : l.length = 5) : ∃ a b c d e, l = [a, b, c, d, e] := by
  rcases l with _ | ⟨a, _ | ⟨b, _ | ⟨c, _ | ⟨d, _ | ⟨e, _ | ⟨f, l⟩⟩⟩⟩⟩⟩
  all_goals first | exact ⟨_, _, _, _, _, rfl⟩ | cases h
theorem strs_cons {vs : List Value} {a : Str} {r : List Str} (h : StrsAre vs (a :: r)) : ∃ t ws, vs = .str a t :: ws ∧ StrsAre ws r := by
  cases h with
  | cons _ t h => exact ⟨t, _, rfl, h⟩
theorem strs5 {vs : List Value} {a b c d e : Str} (h : StrsAre vs [a, b, c, d, e]) : ∃ t1 t2 t3 t4 t5, vs = [.str a t1, .str b t2, .str c t3, .str d t4, .str e t5] := by
  obtain ⟨t1, _, e1, h⟩ := strs_cons h
  obtain ⟨t2, _, e2, h⟩ := strs_cons h
  obtain ⟨t3, _, e3, h⟩ := strs_cons h
  obtain ⟨t4, _, e4, h⟩ := strs_cons h
  obtain ⟨t5, _, e5, h⟩ := strs_cons h
  cases h
  exact ⟨t1, t2, t3, t4, t5, by rw [e1, e2, e3, e4, e5]⟩
theorem r_split {ps : List Str} (hF : Fr h₀ L s.heap m) (hN : News h₀ L s.heap news) (hy : (y.length == 0) = false) (hsz : x.length + 2 ≤ 16777216) (e : Txt.split x y = ps)
    (h : ∀ D vs h' k, StrsAre vs ps → Fr h₀ L h' m → News h₀ L h' ((D, listOf vs.toArray 0) :: news) → (∀ p ∈ news, p.1 < D) → Q (.ref D) { s with heap := h', toks := k }) :
    wpAny (model prog w) A (call (.builtin "str.split") [.str x t, .str y u]) Q E s :=
  KSpl.split1 hF hN hy (fun D l h' k e1 a F N l1 => h D _ h' k (by rw [← e, ← e1]; exact a) F N l1) (by rw [sizeLine_eq]; exact hsz)
end
theorem news_pick {h₀ h : Heap} {L : Addr} {l news : List (Addr × Obj)} {p : Addr × Obj} (N : News h₀ L h l) (hp : p ∈ l) (hs : ∀ q ∈ news, q ∈ l) : News h₀ L h (news ++ [p]) := fun q hq => by
  rcases List.mem_append.mp hq with z | z
  · exact N q (hs q z)
  · rw [List.mem_singleton.mp z]; exact N p hp
theorem allLt_mem {d : Addr} (l : List (Addr × Obj)) (h : AllLt d l) (q : Addr × Obj) (hq : q ∈ l) : q.1 < d := by
  induction l with
  | nil => cases hq
  | cons p r ih =>
    rcases List.mem_cons.mp hq with z | z
    · rw [z]; exact h.1
    · exact ih h.2 z
end Mine
end

section
open PySem PySem.W PyProof.Rows PySem.Calls
open PySem.Sem (wp)
set_option maxRecDepth 100000
set_option maxHeartbeats 8000000
namespace Mine
theorem new_S (x : Str) (t : Tok) : Builtin.«int.__new__» ⟨[.type "int", .str x t], []⟩ = ((int_private% "intFromText") (.str x t) (PySem.numTextOf x) 10 >>= ret) := by kernel_rfl
theorem nt_C : PySem.numTextOf (Str.ofString "C") = [67] := by kernel_rfl
theorem nt_E : PySem.numTextOf (Str.ofString "") = [] := by kernel_rfl
noncomputable def refusal (v : Value) : Sem Value := do
  rule "int.__new__.invalid-literal"
  let shown ← pyRepr v
  let refusal ← newExc (.type "ValueError") [← mkStr (((s!"invalid literal for int() with base {10}: " : String) ++ ⟨shown.cps.extract 0 200⟩ : Str))]
  markTheRefusal ["int.__new__"] refusal
  raiseNew refusal
theorem text_C (t : Tok) : (int_private% "intFromText") (.str (Str.ofString "C") t) [67] 10 = refusal (.str (Str.ofString "C") t) := by kernel_rfl
theorem text_E (t : Tok) : (int_private% "intFromText") (.str (Str.ofString "") t) [] 10 = refusal (.str (Str.ofString "") t) := by kernel_rfl
theorem called (v : Value) : ∃ K : Value → Sem Fin, Builtin.«type.__call__» ⟨[.type "int", v], []⟩ = (holding [Value.builtin "int.__new__"] (call (.builtin "int.__new__") [.type "int", v] []) >>= K) := by
  obtain ⟨c, tl, hm⟩ := F.called_int.mro
  unfold Builtin.«type.__call__»
  simp only [F.called_int.notType, Bool.false_eq_true, if_false, F.called_int.canCreate, F.typeCall_int_1, pure_bind, hm, List.isEmpty_cons, F.called_int.made]
  exact ⟨_, rfl⟩

section
variable {prog : Program} {w : World} {A : Around} {E : Value → Shared → Prop} {s : Shared} {R : Result → Shared → Prop}
theorem wpC_mark {M : Model} {own : List String} {e : Value} {Q : Unit → Shared → Prop} (h : Q () s) : wpC M A (markTheRefusal own e) Q E s := fun Γ p hΓ hk => by
  have hf : pythonCodeMadeTheCall own (((Γ.code, p) :: Γ.below).map (·.1)) = false := by
    show ((!((((Γ.code, p) :: Γ.below).map (·.1)).any Code.isCaller) && _) && _) = false
    rw [show (((Γ.code, p) :: Γ.below).map (·.1)).any Code.isCaller = true from hk]
    rfl
  show wp M Γ (if pythonCodeMadeTheCall own (((Γ.code, p) :: Γ.below).map (·.1)) = true then _ else _) _ _ p s
  rw [if_neg (by rw [hf]; exact Bool.false_ne_true)]
  exact h
theorem codeC_builtin {id : String} {args : Args} {b : Builtin} (hb : entryFor table id = some b)
    (h : wpC (model prog w) (A.under (.builtin id args)) (b args)
      (fun fin s' => match fin with | .done f => R (.ok f) s' | .again c' => c'.quiet = true ∧ codeC (model prog w) A c' R s') (fun e s' => R (.error e) s') s) :
    codeC (model prog w) A (.builtin id args) R s := by
  refine codeC_of_tree ?_
  show wpC _ _ (match entryFor table id with | some b => b args | none => unsupported ((withoutEnding? id "#data").getD id)) _ _ s
  rw [hb]; exact h
theorem codeC_call_builtin {id : String} {args : Args} {b : Builtin} (hq : plainId id = true) (hb : entryFor table id = some b) (hc : checkBuiltinCall id args = pure ())
    (h : wpC (model prog w) A.in1 (b args)
      (fun fin s' => match fin with | .done f => R (.ok f) s' | .again c' => c'.quiet = true ∧ codeC (model prog w) A c' R s') (fun e s' => R (.error e) s') s) : codeC (model prog w) A (.call (.builtin id) args) R s := by
  refine codeC_of_tree ?_
  show wpC _ A.in1 (do checkBuiltinCall id args; again (.builtin id args)) _ _ s
  rw [hc]
  refine wpC_bind (wpC_pure (wpC_pure ⟨plainId_quiet hq args, codeC_builtin hb ?_⟩))
  rw [Around.under_plainId hq args]; exact h

theorem wpC_refusal {v : Str} {t : Tok} {Q : Value → Shared → Prop} (hh : A.handled = none) (hv : (reprText v).length ≤ 100) (h : ∀ h' tk e args, Heap.MadeExc s.heap h' e "ValueError" args → E (.ref e) { s with heap := h', toks := tk }) :
    wpC (model prog w) A (refusal (.str v t)) Q E s := by
  unfold refusal
  refine wpC_bind1 (wpAny_rule (wpC_bind1 (wpAny_pyRepr_str (wpC_bind1 (wpAny_mkStr (wpC_bind1 (wpAny_newExc_plain plainExc_ValueError fun h' e hm => ?_)) ?_)) (Nat.le_trans hv (by rw [sizeLine_eq]; decide)))))
  · exact wpC_bind (wpC_mark (wpC_of_any (wpAny_raiseNew_none hh (h h' _ e _ hm))))
  · rw [PySem.Str.length_append]
    have : (({ cps := (reprText v).cps.extract 0 200 } : Str)).length ≤ 200 := by
      show ((reprText v).cps.extract 0 200).size ≤ 200
      rw [Array.size_extract]; omega
    have e : ((s!"invalid literal for int() with base {10}: " : String) : Str).length ≤ 100 := by decide +kernel
    rw [sizeLine_eq]; omega

theorem int_refuses {x : Str} {t : Tok} {Q : Value → Shared → Prop} (hx : x = Str.ofString "C" ∨ x = Str.ofString "") (hh : A.handled = none)
    (h : ∀ h' tk e args, Heap.MadeExc s.heap h' e "ValueError" args → E (.ref e) { s with heap := h', toks := tk }) : wpC (model prog w) A (call (.type "int") [.str x t]) Q E s := by
  refine wpC_call (codeC_of_tree ?_)
  show wpC _ _ (callAny (.type "int") _) _ _ _
  refine wpC_pure ⟨Code.quiet_builtin _ (by decide +kernel), codeC_builtin F.entry_type_call ?_⟩
  rw [Around.under_plain (weight_type_call_type "int" _ []) (units_type_call_type "int" _ [])]
  obtain ⟨K, hK⟩ := called (.str x t)
  rw [hK]
  refine wpC_bind (wpC_holding (wpC_call (codeC_call_builtin F.called_int.plain F.entry_int_new (F.newCall_int_1 _) ?_)))
  rcases hx with rfl | rfl
  · rw [new_S, nt_C, text_C]
    exact wpC_bind (wpC_refusal hh (by decide +kernel) h)
  · rw [new_S, nt_E, text_E]
    exact wpC_bind (wpC_refusal hh (by decide +kernel) h)

theorem callWith_typeC {pos : Pos} {T : String} {first : List Value} {args : List (Bool × Sem Value)} {Q : Value → Shared → Prop} {M : Model}
    (hplain : args.any (·.1) = false)
    (h : wpAny M A (evalArgs (.type T) true args []) (fun a s₁ => wpC M A (call (.type T) (first ++ a.pos) a.kw) Q E s₁) E s) :
    wpC M A (callWith pos (.type T) first args []) Q E s := by
  unfold callWith
  refine wpC_bind1 (wpAny_holding (wpAny_mono h (fun a s₁ h₁ => wpC_bind1 (wpAny_standAt ?_)) fun _ _ x => x))
  simp only [hplain, List.any_nil, Bool.or_false]
  refine wpC_bind1 (wpAny_pure ?_)
  exact wpC_bind (wpC_mono h₁ (fun r s₂ hr => wpC_of_any (wpAny_bind (wpAny_holding (wpAny_point (wpAny_pure hr))))) fun _ _ x => x)
theorem wpC_keep {M : Model} {α : Type} {vs : List Value} {m : Sem α} {Q : α → Shared → Prop} (h : wpC M A m Q E s) : wpC M A (m.keep vs) Q E s := fun Γ p hΓ hk => by
  rw [Sem.wp_keep]; exact h Γ p hΓ hk
noncomputable def IsFn (h : Heap) (a : Addr) : Prop := ∃ o fd, h.get? a = some o ∧ o.data = .func fd
theorem callWith_functionC {pos : Pos} {a : Addr} {first : List Value} {args : List (Bool × Sem Value)} {Q : Value → Shared → Prop} {M : Model} (hplain : args.any (·.1) = false) (hl : args.length ≤ 30)
    (h : wpAny M A (evalArgs (.ref a) true args []) (fun x s₁ => IsFn s₁.heap a ∧ wpC M A (call (.ref a) (first ++ x.pos) x.kw) Q E s₁) E s) :
    wpC M A (callWith pos (.ref a) first args []) Q E s := by
  unfold callWith
  refine wpC_bind1 (wpAny_holding (wpAny_mono h (fun x s₁ h₁ => wpC_bind1 (wpAny_standAt ?_)) fun _ _ x => x))
  simp only [hplain, List.any_nil, Bool.or_false]
  refine wpC_bind1 (m := keeperOf (.ref a)) ?_
  unfold keeperOf
  obtain ⟨⟨o, fd, ho, hd⟩, h₁⟩ := h₁
  refine wpAny_bind (wpAny_load ho ?_)
  rw [hd]
  refine wpAny_pure ?_
  show wpC M A (if args.length + 2 * ([] : List (Option Str × Sem Value)).length > 30 then _ else _) Q E s₁
  rw [if_neg (by rw [List.length_nil]; omega)]
  unfold callMarked
  exact wpC_bind (wpC_keep (wpC_mono h₁ (fun r s₂ hr => wpC_of_any (wpAny_bind (wpAny_holding (wpAny_point (wpAny_pure hr))))) fun _ _ x => x))
end
end Mine
end

section
open PySem PySem.W PyProof.Rows PySem.Calls
open PySem.Sem (wp)
set_option maxRecDepth 100000
set_option maxHeartbeats 8000000
namespace Mine
section
variable {prog : Program} {w : World} {A : Around} {E : Value → Shared → Prop} {s : Shared} {R : Result → Shared → Prop}

theorem codeC_func {body : List Stmt} {env : Env}
    (h : wpC (model prog w) (A.deeper env) (execs body env) (fun f s' => R (.ok (.ret (match f with | .ret v => v | _ => .none))) s')
      (fun e s' => wpAny (model prog w) (A.deeper env) (leaving env e) (fun _ s'' => R (.error e) s'') (fun e' s'' => R (.error e') s'') s') s) :
    codeC (model prog w) A (.func body env) R s := by
  refine codeC_of_tree ?_
  show wpC _ (A.deeper env) (do point; match ← (execs body env).onRaise (leaving env) with | .ret v => ret v | _ => ret .none) _ _ s
  refine wpC_bind1 (wpAny_point (wpC_bind ?_))
  have k : wpC (model prog w) (A.deeper env) ((execs body env).onRaise (leaving env)) (fun f s' => R (.ok (.ret (match f with | .ret v => v | _ => .none))) s') (fun e s' => R (.error e) s') s := by
    intro Γ p hΓ hk
    rw [Sem.wp_onRaise]
    exact Sem.wp_mono _ Γ _ (fun _ _ _ h' => h') (fun e p' s' h' => h' Γ p' hΓ) p s (h Γ p hΓ hk)
  refine wpC_mono k (fun f s' h' => ?_) fun _ _ h' => h'
  cases f <;> exact wpC_pure h'

theorem codeC_call_def {a : Addr} {o : Obj} {fd : FuncData} {body : List Stmt} {args : Args} {binds : List (Str × Value)}
    (hroom : A.depth < recursionLimit) (ho : s.heap.get? a = some o) (hdata : o.data = .func fd) (hlim : s.heap.NoLimit) (hcd : s.heap.CodeRec fd.code fd.qualname)
    (hbody : fd.body = .stmts body) (hbind : BindsTo s fd args binds)
    (hcell : ∀ x ∈ fd.scope.names, x.2 ≠ .cell) (hloc : ∀ x ∈ binds, fd.scope.names.lookup x.1 = some .local)
    (h : ∀ h₀, h₀.Ns s.heap.objs.size (fun x => binds.reverse.lookup x) → (∀ b o, s.heap.get? b = some o → h₀.get? b = some o) →
      wpC (model prog w) (A.deeper (callEnv fd s.heap.objs.size a)) (execs body (callEnv fd s.heap.objs.size a)) (fun f s' => R (.ok (.ret (match f with | .ret v => v | _ => .none))) s')
        (fun e s' => wpAny (model prog w) (A.deeper (callEnv fd s.heap.objs.size a)) (leaving (callEnv fd s.heap.objs.size a) e) (fun _ s'' => R (.error e) s'') (fun e' s'' => R (.error e') s'') s')
        { s with heap := h₀, toks := s.toks + binds.length })
    (hco : fd.scope.isCoroutine = false) (hgen : fd.scope.isGenerator = false) (hk : fd.scope.kind = .function) :
    codeC (model prog w) A (.call (.ref a) args) R s := by
  refine codeC_of_tree ?_
  show wpC _ A.in1 (callAny (.ref a) args) _ _ s
  simp only [callAny]
  refine wpC_bind1 (wpAny_load ho ?_)
  obtain ⟨c, oc, vs, tq, hc, hoc, hdc, hq⟩ := hcd
  simp only [hdata, callFunction, hco, hgen, hbody, hc]
  refine wpC_bind1 (m := field (.ref c) 1) (wpAny_field hoc hdc hq (wpC_bind1 (wpAny_pure ?_)))
  refine wpC_bind1 (hbind _ _ _ _ (wpC_bind1 (wpAny_newFunctionEnv hcell hloc (fun h₀ hns₀ hsb₀ => ?_) hk)))
  refine wpC_bind1 (wpAny_enterFrame (hlim.fresh _ hsb₀) hroom (wpC_pure (And.intro rfl (codeC_func ?_))))
  have g := h h₀ hns₀ fun b o e => hsb₀.extBut b o (Nat.ne_of_lt (Heap.lt_size e)) (Heap.get?_push_of_some _ e)
  unfold callEnv at g
  rw [hc] at g
  exact g
end

section
variable {prog : Program} {w : World} {A₀ A : Around} {s : Shared} {base h₀ g₀ : Heap} {outer : List Env} {L a : Addr} {m : Str → Option Value} {cn : Str} {cs : Scope} {ccd : Value} {news : List (Addr × Obj)} {K : Frag} {p : Program} {loose : List Str} {mean : ExcName → Option Value} {mg mb : Str → Option Value}
    {R : Result → Shared → Prop} {name qual : Str} {params : Arguments} {body : List Stmt} {scope : Scope} {dV kV doc pm cdv ct oc : Value} {an od : Option Addr} {osl : Array (Option Value)} {f : Addr} {args : Args} {binds : List (Str × Value)}

/-- the entry into a def of the text, where the stack holds the caller -/
theorem enterC (B : Below A₀ base outer h₀) (F : Fr h₀ L s.heap m) (X₀ : K.In h₀) (N : News h₀ L s.heap news) (T : Top p loose mean mg mb h₀) (D : KtsDicts (outer.filterMap (·.frame)) h₀) (hA : A.frames = some (envOf cn cs L a ccd :: outer))
    (ho : K.lookup f = some ⟨oc, od, .func (fnOf name qual params body scope dV kV doc pm an cdv ct), osl⟩) (hcd : codeIn K cdv qual = true) (hroom : A.depth < recursionLimit)
    (hbind : BindsTo s (fnOf name qual params body scope dV kV doc pm an cdv ct) args binds) (hloc : ∀ y ∈ binds, scope.names.lookup y.1 = some .local)
    {Q : Heap → Value → Shared → Prop}
    (back : ∀ oL g v s', g.get? L = some oL → (∀ sl h', h'.get? L = some { oL with slots := sl } → Heap.Ns h' L m) → h₀.StaysIn g → Q g v s' → R (.ok (.ret v)) s')
    (h : ∀ g L' h₁, Fr h₀ L g m → Fr g L' h₁ (fun y => binds.reverse.lookup y) → News g L' h₁ news → Below A base (envOf cn cs L a ccd :: outer) g → K.In g → Top p loose mean mg mb g → KtsDicts ((envOf cn cs L a ccd :: outer).filterMap (·.frame)) g →
      wpC (model prog w) (A.deeper (envOf qual scope L' f cdv)) (execs body (envOf qual scope L' f cdv))
        (fun fl s' => Q g (match fl with | .ret v => v | _ => .none) s')
        (fun e s' => wpAny (model prog w) (A.deeper (envOf qual scope L' f cdv)) (leaving (envOf qual scope L' f cdv) e) (fun _ s'' => R (.error e) s'') (fun e' s'' => R (.error e') s'') s')
        { s with heap := h₁, toks := s.toks + binds.length })
    (hck : cs.kind = .function) (hco : scope.isCoroutine = false) (hgen : scope.isGenerator = false) (hk : scope.kind = .function)
    (hcell : ∀ x ∈ scope.names, x.2 ≠ .cell) : codeC (model prog w) A (.call (.ref f) args) R s := by
  have X := X₀.keeps F.keep
  refine codeC_call_def (fd := fnOf name qual params body scope dV kV doc pm an cdv ct) (body := body) (binds := binds) hroom (X _ _ ho) rfl (T.nolimit.keeps F.keep) (codeRec_of X hcd) rfl hbind hcell hloc (fun h₁ hns hk₁ => ?_) hco hgen hk
  obtain ⟨oL, es, ep, hLg, hLd, hN, hNs, st, B₂⟩ := kts_enter B F N hA hck
  refine wpC_mono (h _ s.heap.objs.size h₁ ⟨hN _ hLg, st, F.above⟩ ⟨hns, fun b o e => hk₁ b o (of_hideAll _ e), Nat.le_of_eq (hideAll_size _ _)⟩
    (fun p hp => ⟨hk₁ _ _ (N p hp).1, Nat.ne_of_lt (Heap.lt_size (N p hp).1), hideAll_none _ (List.mem_map_of_mem hp)⟩) B₂ (X₀.keeps st) (T.keeps st) (fun b hb => by
      rcases kts_mem hb with rfl | hb
      · exact ⟨oL, es, ep, hLg, hLd⟩
      · obtain ⟨o, es', n', ho', hd'⟩ := D b hb
        exact ⟨o, es', n', st b o ho', hd'⟩)) (fun fl s' hl => back oL _ _ s' hLg (fun sl h' e => hNs sl h' e) st hl) fun _ _ y => y

/-- from the law's own frame -/
theorem enterC0 (B : Below A₀ base [] h₀) (F : Fr h₀ L s.heap m) (X₀ : K.In h₀) (N : News h₀ L s.heap news) (T : Top p loose mean mg mb h₀) (hA : A.frames = some [envOf cn cs L a ccd])
    (ho : K.lookup f = some ⟨oc, od, .func (fnOf name qual params body scope dV kV doc pm an cdv ct), osl⟩) (hcd : codeIn K cdv qual = true) (hroom : A.depth < recursionLimit)
    (hbind : BindsTo s (fnOf name qual params body scope dV kV doc pm an cdv ct) args binds) (hloc : ∀ y ∈ binds, scope.names.lookup y.1 = some .local)
    (h : ∀ g L' h₁, Fr h₀ L g m → Fr g L' h₁ (fun y => binds.reverse.lookup y) → News g L' h₁ news → Below A base [envOf cn cs L a ccd] g → K.In g → Top p loose mean mg mb g → KtsDicts ([envOf cn cs L a ccd].filterMap (·.frame)) g →
      wpC (model prog w) (A.deeper (envOf qual scope L' f cdv)) (execs body (envOf qual scope L' f cdv))
        (fun fl s' => LeaveS0 ([envOf cn cs L a ccd].filterMap (·.frame)) h₀ L m g R (match fl with | .ret v => v | _ => .none) s')
        (fun e s' => wpAny (model prog w) (A.deeper (envOf qual scope L' f cdv)) (leaving (envOf qual scope L' f cdv) e) (fun _ s'' => R (.error e) s'') (fun e' s'' => R (.error e') s'') s')
        { s with heap := h₁, toks := s.toks + binds.length })
    (hck : cs.kind = .function) (hco : scope.isCoroutine = false) (hgen : scope.isGenerator = false) (hk : scope.kind = .function)
    (hcell : ∀ x ∈ scope.names, x.2 ≠ .cell) : codeC (model prog w) A (.call (.ref f) args) R s := by
  refine enterC (Q := fun g v s' => LeaveS0 ([envOf cn cs L a ccd].filterMap (·.frame)) h₀ L m g R v s') B F X₀ N T (fun _ hb => nomatch hb) hA ho hcd hroom hbind hloc (fun oL g v s' hLg hNs st hl => ?_) h hck hco hgen hk hcell
  obtain ⟨g', L', m', news', T', F', N', k⟩ := hl
  have nL : h₀.get? L = none := kts_self F
  obtain ⟨sl, hs⟩ := T'.up hLg
  refine k ⟨hNs sl _ (F'.keep _ _ hs), fun b o e => F'.keep b o (T'.other b o (st b o e) fun q => ?_), F.above⟩ fun p hp => ⟨(N' p hp).1, fun q => ?_, ?_⟩
  · rcases kts_mem q with z | z
    · rw [z, nL] at e; cases e
    · cases z
  · have z := (N' p hp).2.2
    rw [q, hs] at z; cases z
  · cases q : h₀.get? p.1 with
    | none => rfl
    | some o =>
      obtain ⟨sl', hs'⟩ := T'.up (st _ _ q)
      have z := (N' p hp).2.2
      rw [hs'] at z; cases z
end

section
variable {prog : Program} {w : World} {A : Around} {E : Value → Shared → Prop} {s : Shared} {env : Env}
theorem tryC {body orelse : List Stmt} {h₀ : ExceptHandler} {hs : List ExceptHandler} {pos : Pos} {Q : Flow → Shared → Prop}
    (h : wpC (model prog w) A (execs body env) (fun f s₁ => match f with | .next => wpAny (model prog w) A (execs orelse env) Q E s₁ | f => Q f s₁)
      (fun e s₁ => wpAny (model prog w) A (noteFrame e env) (fun _ s₂ => wpAny (model prog w) A (setFlight e none) (fun _ s₃ => wpAny (model prog w) A (handleBy e env (h₀ :: hs)) Q E s₃) E s₂) E s₁) s) :
    wpC (model prog w) A (exec (.Try body (h₀ :: hs) orelse [] pos) env) Q E s := by
  rw [arm_exec_Try]
  refine wpC_bind1 (wpAny_standAt ?_)
  unfold tryStmt
  simp only [List.isEmpty_nil, if_true, List.isEmpty_cons, Bool.false_and, Bool.false_eq_true, if_false]
  refine wpC_bind (wpC_attempt (wpC_mono h (fun f s₁ h₁ => wpC_of_any ?_) fun e s₁ h₁ => wpC_of_any ?_))
  · cases f <;> first | exact h₁ | exact wpAny_pure h₁
  · exact wpAny_bind (wpAny_mono h₁ (fun _ _ h₂ => wpAny_bind h₂) fun _ _ x => x)
theorem returnC {e : PySem.Expr} {pos : Pos} {Q : Flow → Shared → Prop} (h : wpC (model prog w) A (eval e env) (fun v s' => Q (.ret v) s') E s) : wpC (model prog w) A (exec (.Return (some e) pos) env) Q E s := by
  rw [exec_Return_some]
  exact wpC_bind1 (wpAny_standAt (wpC_bind (wpC_mono h (fun v s' q => wpC_pure q) fun _ _ x => x)))
theorem assignC {x : Str} {pos' pos : Pos} {value : PySem.Expr} {Q : Flow → Shared → Prop} (hs : swapsWith value (some (.Name x pos')) pos.line env = pure false)
    (h : wpC (model prog w) A (eval value env) (fun v s' => wpAny (model prog w) A (bindName env x v) (fun _ s'' => Q .next s'') E s') E s) : wpC (model prog w) A (exec (.Assign [.Name x pos'] value pos) env) Q E s := by
  rw [exec_Assign_Name (hs := hs)]
  refine wpC_bind1 (wpAny_standAt (wpC_bind (wpC_mono h (fun v s' q => wpC_of_any (wpAny_bind (wpAny_standAt (wpAny_bind (wpAny_mono q (fun _ _ r => wpAny_pure r) fun _ _ x => x))))) fun _ _ x => x)))
theorem callNameC {id : Str} {p pos : Pos} {args : List PySem.Expr} {Q : Value → Shared → Prop}
    (h : wpAny (model prog w) A (eval (.Name id p) env) (fun f s₁ => wpC (model prog w) A (callWith pos f [] (backTo pos (starEach args env)) []) Q E s₁) E s) :
    wpC (model prog w) A (eval (.Call (.Name id p) args [] pos) env) Q E s := by
  rw [arm_eval_Call_Name']
  exact wpC_bind1 h
theorem addC {l r : PySem.Expr} {op : Operator} {pos : Pos} {Q : Value → Shared → Prop}
    (h : wpAny (model prog w) A (eval l env) (fun a s₁ => wpC (model prog w) A (eval r env) (fun b s₂ => wpAny (model prog w) A (binaryOp op a b) Q E s₂) E s₁) E s) : wpC (model prog w) A (eval (.BinOp l op r pos) env) Q E s := by
  rw [eval_BinOp]
  exact wpC_bind1 (wpAny_mono h (fun a s₁ h₁ => wpC_bind (wpC_holding (wpC_mono h₁ (fun b s₂ h₂ => wpC_of_any (wpAny_bind (wpAny_standAt fun Γ p hΓ => by rw [Sem.wp_operate]; exact h₂ Γ p hΓ))) fun _ _ x => x))) fun _ _ x => x)
theorem isFn_of {h₀ h : Heap} {L : Addr} {m : Str → Option Value} {K : Frag} {f : Addr} {oc : Value} {od : Option Addr} {fd : FuncData} {osl : Array (Option Value)} (F : Fr h₀ L h m) (X : K.In h₀) (ho : K.lookup f = some ⟨oc, od, .func fd, osl⟩) : IsFn h f := ⟨_, _, F.keep _ _ (X _ _ ho), rfl⟩
theorem callWith1C {pos : Pos} {a : Addr} {e1 : PySem.Expr} {Q : Value → Shared → Prop} {l : List (Bool × Sem Value)} (hl : l = [(false, eval e1 env)])
    (h : wpAny (model prog w) A (eval e1 env) (fun v1 s1 => IsFn s1.heap a ∧ wpC (model prog w) A (call (.ref a) [v1] []) Q E s1) E s) :
    wpC (model prog w) A (callWith pos (.ref a) [] l []) Q E s := by
  subst hl
  refine callWith_functionC rfl (Nat.le_of_ble_eq_true rfl) (Calls.evalArgs_plain (Calls.spliced_cons (wpAny_mono h (fun v1 s1 h1 => Calls.spliced_nil ?_) fun _ _ x => x)))
  exact h1
theorem callWith2C {pos : Pos} {a : Addr} {e1 e2 : PySem.Expr} {Q : Value → Shared → Prop} {l : List (Bool × Sem Value)} (hl : l = [(false, eval e1 env), (false, eval e2 env)])
    (h : wpAny (model prog w) A (eval e1 env) (fun v1 s1 => wpAny (model prog w) A (eval e2 env) (fun v2 s2 => IsFn s2.heap a ∧ wpC (model prog w) A (call (.ref a) [v1, v2] []) Q E s2) E s1) E s) :
    wpC (model prog w) A (callWith pos (.ref a) [] l []) Q E s := by
  subst hl
  refine callWith_functionC rfl (Nat.le_of_ble_eq_true rfl) (Calls.evalArgs_plain (Calls.spliced_cons (wpAny_mono h (fun v1 s1 h1 => Calls.spliced_cons (wpAny_mono h1 (fun v2 s2 h2 => Calls.spliced_nil ?_) fun _ _ x => x)) fun _ _ x => x)))
  exact h2
theorem callWithTC {pos : Pos} {T : String} {e1 : PySem.Expr} {Q : Value → Shared → Prop} {l : List (Bool × Sem Value)} (hl : l = [(false, eval e1 env)])
    (h : wpAny (model prog w) A (eval e1 env) (fun v1 s1 => wpC (model prog w) A (call (.type T) [v1] []) Q E s1) E s) :
    wpC (model prog w) A (callWith pos (.type T) [] l []) Q E s := by
  subst hl
  refine callWith_typeC rfl (Calls.evalArgs_plain (Calls.spliced_cons (wpAny_mono h (fun v1 s1 h1 => Calls.spliced_nil ?_) fun _ _ x => x)))
  exact h1
end
end Mine
end

local macro_rules | `(tactic| k_room) => `(tactic| ((simp only [depth_mark, depth_under_make, depth_under_kw, depth_in1, depth_deeper, depth_caller, recursionLimit] at *); omega))
local macro_rules | `(tactic| k_units) => `(tactic| ((simp only [units_in1, units_deeper, Around.mark_units, units_caller, cLine] at *); omega))
section
open PySem PySem.W PyProof.Rows PySem.Calls
set_option maxRecDepth 100000
set_option maxHeartbeats 8000000
namespace Mine
/-- the contract of a call of a def with a try, from the law's own frame, where the stack holds the caller -/
noncomputable abbrev SaysC (w : World) (loose : List Str) (mean : ExcName → Option Value) (mg mb : Str → Option Value) (f : Addr) (vs : List Value) (news : List (Addr × Obj)) (dN : Nat) (Out : List (Addr × Obj) → Value → Prop) : Prop :=
  ∀ (dp un : Nat) (gd : Option (List Code)) (cn : Str) (cs : Scope) (a : Addr) (ccd : Value) (A₀ : Around) (base h₀ : Heap) (L : Addr) (m : Str → Option Value) (s : Shared) (Q E : Value → Shared → Prop),
    Below A₀ base [] h₀ → Fr h₀ L s.heap m → (hd.heap_39 w.params).In h₀ → News h₀ L s.heap news → Top hd.view_39 loose mean mg mb h₀ → (hd.heap_39 w.params).In base → Top hd.view_39 loose mean mg mb base → cs.kind = .function →
    dp + dN < recursionLimit → un + 8 * dN < cLine →
    (∀ r tl h' tk', Fr h₀ L h' m → News h₀ L h' (news ++ tl) → (∀ q ∈ news, ∀ p ∈ tl, q.1 ≠ p.1) → Out tl r → Q r { s with heap := h', toks := tk' }) →
    wpC (model Challenge.rw_zd0005_01.prog w) (topA dp un gd cn cs L a ccd) (call (.ref f) vs) Q E s
theorem saysC_of_T {w : World} {loose : List Str} {mean : ExcName → Option Value} {mg mb : Str → Option Value} {f : Addr} {vs : List Value} {news : List (Addr × Obj)} {dN : Nat} {Out : List (Addr × Obj) → Value → Prop} (h : SaysT w loose mean mg mb f vs news dN Out) : SaysC w loose mean mg mb f vs news dN Out :=
  fun dp un gd cn cs a ccd A₀ base h₀ L m s Q E B F X N T XB TB hk hd hu hret => wpC_of_any (h dp un gd cn cs a ccd A₀ base h₀ L m s Q E B F X N T XB TB hk hd hu hret)
/-- the entry into a def without a try, where the stack holds the caller -/
theorem enterK {prog : Program} {w : World} {A₀ A : Around} {s : Shared} {base h₀ : Heap} {outer : List Env} {L a : Addr} {m : Str → Option Value} {cn : Str} {cs : Scope} {ccd : Value} {news : List (Addr × Obj)} {K : Frag} {p : Program} {loose : List Str} {mean : ExcName → Option Value} {mg mb : Str → Option Value}
    {R : Result → Shared → Prop} {name qual : Str} {params : Arguments} {body : List Stmt} {scope : Scope} {dV kV doc pm cdv ct oc : Value} {an od : Option Addr} {osl : Array (Option Value)} {f : Addr} {args : Args} {binds : List (Str × Value)}
    (B : Below A₀ base outer h₀) (F : Fr h₀ L s.heap m) (X₀ : K.In h₀) (N : News h₀ L s.heap news) (T : Top p loose mean mg mb h₀) (D : KtsDicts (outer.filterMap (·.frame)) h₀) (hA : A.frames = some (envOf cn cs L a ccd :: outer))
    (ho : K.lookup f = some ⟨oc, od, .func (fnOf name qual params body scope dV kV doc pm an cdv ct), osl⟩) (hcd : codeIn K cdv qual = true) (hroom : A.depth < recursionLimit)
    (hbind : BindsTo s (fnOf name qual params body scope dV kV doc pm an cdv ct) args binds) (hloc : ∀ y ∈ binds, scope.names.lookup y.1 = some .local)
    (h : ∀ g L' h₁, Fr h₀ L g m → Fr g L' h₁ (fun y => binds.reverse.lookup y) → News g L' h₁ news → Below A base (envOf cn cs L a ccd :: outer) g → K.In g → Top p loose mean mg mb g → KtsDicts ((envOf cn cs L a ccd :: outer).filterMap (·.frame)) g →
      wpC (model prog w) (A.deeper (envOf qual scope L' f cdv)) (execs body (envOf qual scope L' f cdv))
        (fun fl s' => LeaveK h₀ L m g R (match fl with | .ret v => v | _ => .none) s')
        (fun e s' => wpAny (model prog w) (A.deeper (envOf qual scope L' f cdv)) (leaving (envOf qual scope L' f cdv) e) (fun _ s'' => R (.error e) s'') (fun e' s'' => R (.error e') s'') s')
        { s with heap := h₁, toks := s.toks + binds.length })
    (hck : cs.kind = .function) (hco : scope.isCoroutine = false) (hgen : scope.isGenerator = false) (hk : scope.kind = .function)
    (hcell : ∀ x ∈ scope.names, x.2 ≠ .cell) : codeC (model prog w) A (.call (.ref f) args) R s := by
  refine enterC (Q := fun g v s' => LeaveK h₀ L m g R v s') B F X₀ N T D hA ho hcd hroom hbind hloc (fun oL g v s' hLg hNs st hl => ?_) h hck hco hgen hk hcell
  obtain ⟨L', m', news', F', N', k⟩ := hl
  refine k ⟨hNs _ _ (F'.keep _ _ hLg), fun b o e => F'.keep b o (st b o e), F.above⟩ fun p hp => ⟨(N' p hp).1, fun q => ?_, ?_⟩
  · have z := (N' p hp).2.2
    rw [q, hLg] at z; cases z
  · cases q : h₀.get? p.1 with
    | none => rfl
    | some o =>
      have z := (N' p hp).2.2
      rw [st _ _ q] at z; cases z
theorem wpC_fog {α : Type} {M : Model} {A : Around} {t : Sem α} {Q : α → Shared → Prop} {E : Value → Shared → Prop} {s : Shared} (h : ∀ Q', Q' = Q → ∀ E', E' = E → wpC M A t Q' E' s) : wpC M A t Q E s := h Q rfl E rfl
variable {w : World} {loose : List Str} {mean : ExcName → Option Value} {mg mb : Str → Option Value}
theorem len_pre : (Str.ofString "229 Entering (").length = 14 := rfl
theorem len_post : (Str.ofString ")").length = 1 := rfl
/-- what parse229 reads of the reply about a name -/
structure Rep (x c : Str) (ps : List Str) : Prop where
  hz : x.length ≤ 1000
  h1 : 1 ≤ x.length
  e1 : Txt.slice (reply x) none (some 3) = Str.ofString "229"
  e2 : Txt.find (reply x) (Str.ofString "(") = 13
  e3 : Txt.find3 (reply x) (Str.ofString ")") (13 + 1) = ((14 + x.length : Nat) : Int)
  e4 : Txt.item (reply x) (13 + 1) = c
  e5 : Txt.item (reply x) (((14 + x.length : Nat) : Int) - 1) = c
  e6 : Txt.slice (reply x) (some (13 + 1)) (some ((14 + x.length : Nat) : Int)) = x
  hc : (c.length == 0) = false
  e7 : Txt.split x c = ps
  hpz : ps.length ≤ 16384
section
local macro_rules | `(tactic| k_room) => `(tactic| ((simp only [PySem.Str.length_append, len_pre, len_post]); omega))
local macro_rules | `(tactic| walk_at "subscriptTail") => `(tactic| (k_here; (with_reducible show wpAny _ _ (subscriptTail _ _ (Value.str _ _) (Value.int _ _)) _ _ _); refine r_item (by assumption) (by omega) (by k_room) (by k_room) ?_; intro _ _))
local macro_rules | `(tactic| walk_at $k:str) => (if (["binaryOp Add str str", "call builtin:str.find", "subscriptTail Name Slice str ref", "compareOp NotEq str str", "call builtin:len", "compareOp NotEq int int", "call builtin:str.split", "call type:int"] : List String).contains k.getString then `(tactic| (refine Hold.out ?_)) else Lean.Macro.throwUnsupported)
theorem read_any {news : List (Addr × Obj)} {x c : Str} {u : Tok} {ps : List Str} {wd : Str} {i : Int} (R : Rep x c ps)
    (H : (ps.length ≠ 5 ∧ wd = Str.ofString "refused" ∧ i = 0) ∨ ∃ p1 p2 p3 p4 p5, ps = [p1, p2, p3, p4, p5] ∧ ((wd = Str.ofString "ours" ∧ PySem.intText? p4 = some i ∧ p4.length ≤ 640) ∨ (wd = Str.ofString "no number" ∧ i = 0 ∧ (p4 = Str.ofString "C" ∨ p4 = Str.ofString "")))) :
    SaysC w loose mean mg mb 91 [.str x u] news 6 (fun tl r => ∃ t k k' k'', r = .ref t ∧ tl = [(t, tupOf [.str x k, .str wd k', .int i k''] 0)]) := by
  unfold SaysC
  k_fill
  w_top off
  intro dp un gd cn cs fa ccd A₀ base h₀ L m s Q E B F X N T XB TB hk hd hu hret
  obtain ⟨hz, h1, e1, e2, e3, e4, e5, e6, hc, e7, hpz⟩ := R
  refine wpC_call ?_
  refine' enterC0 ?k1 ?k2 ?k3 ?k4 ?k5 ?kA ?k6 ?k7 ?k8 ?k9 ?kB ?_ ?cK ?c2 ?c3 ?c4 ?c5
  case kA => exact rfl
  case k2 => k_asm
  case k1 => k_asm
  case k3 => k_asm
  case k4 => k_asm
  case k5 => k_asm
  case k6 => k_dflt k_is
  case k7 => k_dflt k_is
  case k8 => show dp < _; simp only [recursionLimit] at *; omega
  case k9 => exact BindsTo.of_eq rfl
  case kB => exact locs rfl
  case cK => exact hk
  case c2 => exact rfl
  case c3 => exact rfl
  case c4 => exact rfl
  case c5 => decide
  intro g' L' h' FG' F' N' B' X' T' D'
  (try dsimp only)
  (try k_lift B')
  refine wpC_execs_cons (tryC (wpC_execs_cons (returnC (addC ?_))))
  (try k_fold)
  k_steps
  refine callNameC ?_
  k_steps
  refine callWith2C rfl ?_
  k_steps
  refine Hold.mk ?_
  (try dsimp only)
  refine r_add (by k_room) ?_
  intro _ _
  k_steps
  refine Hold.mk ?_
  (try dsimp only)
  refine r_add (by k_room) ?_
  intro _ _
  k_steps
  all_goals first | exact isFn_of (by k_asm) (by k_asm) (by k_dflt k_is) | skip
  refine wpC_call ?_
  refine' enterK ?k1 ?k2 ?k3 ?k4 ?k5 ?D ?kA ?k6 ?k7 ?k8 ?k9 ?kB ?_ ?cK ?c2 ?c3 ?c4 ?c5
  case D => assumption
  case kA => exact rfl
  case k2 => k_asm
  case k1 => k_asm
  case k3 => k_asm
  case k4 => k_asm
  case k5 => k_asm
  case k6 => k_dflt k_is
  case k7 => k_dflt k_is
  case k8 => k_room
  case k9 => exact BindsTo.of_eq rfl
  case kB => exact locs rfl
  case cK => exact rfl
  case c2 => exact rfl
  case c3 => exact rfl
  case c4 => exact rfl
  case c5 => decide
  intro g2 L2 h2 FG2 F2 N2 B2 X2 T2 D2
  (try dsimp only)
  (try k_lift B2)
  refine wpC_fog fun Q₁ hQ₁ E₁ hE₁ => ?_
  refine wpC_execs_cons (wpC_of_any ?_)
  (try k_fold)
  k_steps
  refine Hold.mk ?_
  (try dsimp only)
  with_reducible rename Fr _ _ _ _ => F'
  with_reducible rename News _ _ _ _ => N'
  refine r_slice_ns (s := ⟨_, _, _, _, _⟩) F' N' (by assumption) (by k_room) ?_
  intro _ _ _ _ _
  clear F' N'
  k_steps
  refine Hold.mk ?_
  (try dsimp only)
  refine r_ne (bne_self_eq_false _) ?_
  k_steps
  (try dsimp only)
  refine wpC_execs_cons (wpC_of_any ?_)
  (try k_fold)
  k_steps
  refine Hold.mk ?_
  (try dsimp only)
  refine r_find (by assumption) ?_
  intro _ _
  k_steps
  (try dsimp only)
  refine wpC_execs_cons (wpC_of_any ?_)
  (try k_fold)
  k_steps
  (try dsimp only)
  refine wpC_execs_cons (wpC_of_any ?_)
  (try k_fold)
  k_steps
  refine Hold.mk ?_
  (try dsimp only)
  refine r_find3 (by assumption) ?_
  intro _ _
  k_steps
  (try dsimp only)
  refine wpC_execs_cons (wpC_of_any ?_)
  (try k_fold)
  k_steps
  (try dsimp only)
  refine wpC_execs_cons (wpC_of_any ?_)
  (try k_fold)
  k_steps
  refine Hold.mk ?_
  (try dsimp only)
  refine r_ne (bne_self_eq_false _) ?_
  k_steps
  (try dsimp only)
  refine wpC_execs_cons (wpC_of_any ?_)
  (try k_fold)
  k_steps
  refine Hold.mk ?_
  (try dsimp only)
  with_reducible rename Fr _ _ _ _ => F'
  with_reducible rename News _ _ _ _ => N'
  refine r_slice_ss (s := ⟨_, _, _, _, _⟩) F' N' (by assumption) (by k_room) ?_
  intro _ _ _ _ _
  clear F' N'
  k_steps
  refine Hold.mk ?_
  (try dsimp only)
  refine r_split (by k_asm) (by k_asm) (by assumption) (by omega) (by assumption) ?_
  intro D3 vs' h3 k3 S' F3 N3 l1
  (try k_lt l1)
  k_steps
  (try dsimp only)
  refine wpC_execs_cons (wpC_of_any ?_)
  (try k_fold)
  k_steps
  refine Hold.mk ?_
  (try dsimp only)
  k_dflt (refine r_len (by k_asm) (by k_mem) (StrsAre.length S') (by assumption) ?_)
  intro _ _
  k_steps
  refine Hold.mk ?_
  (try dsimp only)
  rcases H with ⟨hne, rfl, rfl⟩ | ⟨p1, p2, p3, p4, p5, rfl, H⟩
  · refine r_neI (b := true) (by simp only [bne_iff_ne]; omega) ?_
    k_steps
    subst hE₁
    (try dsimp only)
    k_steps
    (rename_i l1 kF kN Tc kX; exact hret _ [_] _ _ kF (news_pick kN (List.Mem.head _) (fun q hq => by repeat (first | exact hq | refine List.mem_cons_of_mem _ ?_))) (fun q hq p hp => by rw [List.mem_singleton.mp hp]; exact Nat.ne_of_lt (allLt_mem _ (by first | exact l1.2.2.2 | exact l1.2.2.2.2 | exact l1.2.2 | exact l1.2.2.2.2.2) q hq)) ⟨_, _, _, _, rfl, rfl⟩)
  · obtain ⟨_, _, _, _, _, rfl⟩ := strs5 S'
    simp only [List.length_cons, List.length_nil]
    refine r_neI (b := false) (by simp only [bne_eq_false_iff_eq]; omega) ?_
    k_steps
    (try dsimp only)
    refine wpC_execs_cons (wpC_of_any ?_)
    (try k_fold)
    k_steps
    (try dsimp only)
    refine wpC_execs_cons (assignC rfl (callNameC ?_))
    (try k_fold)
    k_steps
    refine callWithTC rfl ?_
    (try k_fold)
    k_steps
    rcases H with ⟨rfl, hi, hi2⟩ | ⟨rfl, rfl, h4⟩
    · refine wpC_of_any ?_
      refine KIN.call_text hi hi2 ?_
      k_steps
      (try dsimp only)
      refine wpC_execs_cons (wpC_of_any ?_)
      (try k_fold)
      k_steps
      subst hQ₁
      (try dsimp only)
      k_steps
      (rename_i l1 kF kN Tc kX; exact hret _ [_] _ _ kF (news_pick kN (List.Mem.head _) (fun q hq => by repeat (first | exact hq | refine List.mem_cons_of_mem _ ?_))) (fun q hq p hp => by rw [List.mem_singleton.mp hp]; exact Nat.ne_of_lt (allLt_mem _ (by first | exact l1.2.2.2 | exact l1.2.2.2.2 | exact l1.2.2 | exact l1.2.2.2.2.2) q hq)) ⟨_, _, _, _, rfl, rfl⟩)
    · refine int_refuses (by assumption) rfl ?_
      intro h3 tk3 e3 args3 M3
      subst hE₁
      (try dsimp only)
      k_steps
      (rename_i l1 kF kN Tc kX; exact hret _ [_] _ _ kF (news_pick kN (List.Mem.head _) (fun q hq => by repeat (first | exact hq | refine List.mem_cons_of_mem _ ?_))) (fun q hq p hp => by rw [List.mem_singleton.mp hp]; exact Nat.ne_of_lt (allLt_mem _ (by first | exact l1.2.2.2 | exact l1.2.2.2.2 | exact l1.2.2 | exact l1.2.2.2.2.2) q hq)) ⟨_, _, _, _, rfl, rfl⟩)
end
/-- what is told of a name -/
noncomputable def told (nm : List (Option Lf)) : Str × Int := match nm.length == 5, nm[3]? with
  | true, some (some (Lf.n i)) => (Str.ofString "ours", i)
  | true, _ => (Str.ofString "no number", 0)
  | false, _ => (Str.ofString "refused", 0)
/-- a name that a row gives -/
structure NameOk (nm : List (Option Lf)) : Prop where
  ends : ∃ r, nm = some .e :: (r ++ [some .e])
  fit : ∀ t ∈ nm, TokFit t
  len : nm.length ≤ 6
theorem rep_of {nm : List (Option Lf)} (h : NameOk nm) : Rep (txt nm) (Str.ofString ".") (nm.map ltx) := by
  obtain ⟨r, hr⟩ := h.ends
  obtain ⟨⟨u, hu⟩, v, hv⟩ := txt_ends hr
  have hl := txt_len h.fit
  have h6 := h.len
  have e14 : (13 + 1 : Int) = 14 := rfl
  refine ⟨by omega, by rw [len_list, hu]; simp, reply_slice3 _, reply_find _, ?_, ?_, ?_, ?_, by decide +kernel, split_txt h.fit (by rw [hr]; simp), by rw [List.length_map]; omega⟩
  · rw [e14]
    exact reply_find3 fun c hc e => by have := txt_chars h.fit c hc; omega
  · rw [e14, dot_eq]; exact reply_first hu
  · rw [dot_eq]; exact reply_last hv
  · rw [e14]; exact reply_slice _
theorem read_says {news : List (Addr × Obj)} {nm : List (Option Lf)} {u : Tok} (h : NameOk nm) :
    SaysC w loose mean mg mb 91 [.str (txt nm) u] news 6 (fun tl r => ∃ t k k' k'', r = .ref t ∧ tl = [(t, tupOf [.str (txt nm) k, .str (told nm).1 k', .int (told nm).2 k''] 0)]) := by
  have R := rep_of h
  by_cases h5 : nm.length = 5
  · have hf := h.fit
    clear h
    obtain ⟨a, b, c, d, e, rfl⟩ := list5 h5
    cases d with
    | none => exact read_any R (.inr ⟨_, _, _, _, _, rfl, .inr ⟨rfl, rfl, .inl rfl⟩⟩)
    | some l => cases l with
      | e => exact read_any R (.inr ⟨_, _, _, _, _, rfl, .inr ⟨rfl, rfl, .inr rfl⟩⟩)
      | n i =>
        have q := num_signs (hf (some (.n i)) (List.Mem.tail _ (List.Mem.tail _ (List.Mem.tail _ (List.Mem.head _)))))
        exact read_any R (.inr ⟨_, _, _, _, _, rfl, .inl ⟨rfl, q.2.2, Nat.le_trans q.2.1 (by decide)⟩⟩)
  · have e : told nm = (Str.ofString "refused", 0) := by
      unfold told
      rw [show (nm.length == 5) = false from beq_eq_false_iff_ne.mpr h5]
    rw [e]
    exact read_any R (.inl ⟨by rw [List.length_map]; exact h5, rfl, rfl⟩)
end Mine
end

section
open PySem PySem.W PyProof.Rows
set_option maxHeartbeats 400000
namespace Mine
theorem lower_pos {ways : List Nat} (h : ∀ n ∈ ways, 1 ≤ n) (hne : ways ≠ []) : ∀ n ∈ lowerG ways, 1 ≤ n := by
  intro n hn
  unfold lowerG at hn
  rcases List.mem_cons.mp hn with rfl | hn
  · cases ways with
    | nil => exact absurd rfl hne
    | cons a r => exact h a (by simp)
  · obtain ⟨k, hk, rfl⟩ := List.mem_map.mp hn
    have hk := List.mem_range.mp hk
    have : 1 ≤ ways.getD k 0 := by
      rw [List.getD_eq_getElem?_getD, List.getElem?_eq_getElem (by omega)]
      exact h _ (List.getElem_mem _)
    omega
theorem last_pos {ways : List Nat} (h : ∀ n ∈ ways, 1 ≤ n) (hne : ways ≠ []) : 1 ≤ ways.getLastD 0 := by
  rw [List.getLastD_eq_getLast?, List.getLast?_eq_some_getLast hne]
  exact h _ (List.getLast_mem hne)
theorem step_pos {α : Type} {x : Option α} {s s' : List (Option α) × List Nat} (h : s' ∈ stepG x s) (hw : s.2 ≠ []) (hp : ∀ n ∈ s.2, 1 ≤ n) : s'.2 ≠ [] ∧ ∀ n ∈ s'.2, 1 ≤ n := by
  have hl : lowerG s.2 ≠ [] := by simp [lowerG]
  have h1 := lower_pos hp hw
  have h2 := last_pos hp hw
  have h3 : ∀ n ∈ lowerG s.2 ++ [s.2.getLastD 0], 1 ≤ n := fun n hn => (List.mem_append.mp hn).elim (h1 n) fun q => by rw [List.mem_singleton.mp q]; exact h2
  cases x <;> simp only [stepG, List.mem_cons, List.not_mem_nil, or_false] at h <;> rcases h with rfl | rfl
  · exact ⟨hl, h1⟩
  · exact ⟨by simp, h3⟩
  · exact ⟨hl, h1⟩
  · exact ⟨by simp, h3⟩
theorem states_pos {α : Type} (a : α) (ls : List (Option α)) : ∀ s ∈ statesG a ls, 1 ≤ s.2.getLastD 0 := by
  have key : ∀ i, i ≤ ls.length → ∀ s ∈ statesG a (ls.take i), s.2 ≠ [] ∧ ∀ n ∈ s.2, 1 ≤ n := by
    intro i
    induction i with
    | zero =>
      intro _ s hs
      simp only [List.take_zero, statesG, List.foldl_nil, List.mem_singleton] at hs
      subst hs
      simp
    | succ i ih =>
      intro hi s hs
      obtain ⟨x, hx⟩ : ∃ x, ls[i]? = some x := ⟨_, List.getElem?_eq_getElem (by omega)⟩
      rw [states_take a ls i hx] at hs
      obtain ⟨s0, hs0, hs⟩ := List.mem_flatMap.mp hs
      have k := ih (by omega) s0 hs0
      exact step_pos hs k.1 k.2
  intro s hs
  have k := key ls.length (Nat.le_refl _) s (by rw [states_full]; exact hs)
  exact last_pos k.2 k.1
theorem le_sum_mem : ∀ {l : List Nat} {n : Nat}, n ∈ l → n ≤ l.sum
  | a :: r, n, h => by
    rw [List.sum_cons]
    rcases List.mem_cons.mp h with rfl | h
    · omega
    · have := le_sum_mem h; omega
theorem last_le {α : Type} (a b : α) (ls : List (Option α)) (h : ls.length ≤ 4) : ∀ s ∈ statesG a ls, s.2.getLastD 0 ≤ 42 := by
  intro s hs
  have h1 := names_due a b ls h
  have h2 := h1.1.length_eq
  have h3 : s.2.getLastD 0 ≤ (dueG a b ls).length := by
    unfold dueG
    rw [List.length_flatMap]
    have := le_sum_mem (List.mem_map_of_mem (f := fun s : List (Option α) × List Nat => (List.replicate (s.2.getLastD 0) (s.1 ++ [some b])).length) hs)
    simpa using this
  omega
theorem txt_e (p : List (Option Lf)) (h : p ≠ []) : txt (p ++ [some .e]) = txt p ++ Str.ofString "." := by
  rw [txt_app h (by simp)]
  have : txt [some .e] = Str.ofString "" := rfl
  rw [this]
  exact str_ext (by rw [cps_add]; have : (Str.ofString "").cps.toList = [] := rfl; rw [this, List.append_nil])
theorem state_ne {α : Type} (a : α) (ls : List (Option α)) : ∀ s ∈ statesG a ls, s.1 ≠ [] := by
  intro s hs
  obtain ⟨⟨r, hr, _⟩, _⟩ := states_head a ls s hs
  rw [hr]; simp
theorem state_fit {ls : List (Option Lf)} (hf : ∀ t ∈ ls, TokFit t) : ∀ s ∈ statesG Lf.e ls, ∀ t ∈ s.1, TokFit t := by
  intro s hs t ht
  obtain ⟨⟨r, hr, hok⟩, _⟩ := states_head Lf.e ls s hs
  rw [hr] at ht
  rcases List.mem_cons.mp ht with rfl | ht
  · trivial
  · rcases hok t ht with rfl | h
    · trivial
    · exact hf t h
noncomputable def toldD (nm : List (Option Lf)) : Dat := .tuple [.str (txt nm), .str (told nm).1, .int (told nm).2]
theorem due_take {sts : List (List (Option Lf) × List Nat)} {j : Nat} {s : List (Option Lf) × List Nat} (hs : sts[j]? = some s) :
    ((sts.take (j + 1)).flatMap fun s => List.replicate (s.2.getLastD 0) (s.1 ++ [some Lf.e])) = ((sts.take j).flatMap fun s => List.replicate (s.2.getLastD 0) (s.1 ++ [some Lf.e])) ++ List.replicate (s.2.getLastD 0) (s.1 ++ [some Lf.e]) := by
  rw [List.take_add_one, hs, List.flatMap_append]
  simp
theorem dat_rep {X : List (Addr × Obj)} {v : Value} {d : Dat} (h : DatIn X v d) : ∀ n, DatAll X (List.replicate n v) (List.replicate n d)
  | 0 => .nil
  | n + 1 => .cons h (dat_rep h n)
theorem carried_of {α : Type} {X : List (Addr × Obj)} {g : α → Str} : ∀ {xs : List α} {vs : List Value}, DatAll X vs (xs.map fun x => Dat.str (g x)) → CarriedAll vs (xs.map fun x => PyData.str (g x)) := by
  intro xs
  induction xs with
  | nil => intro vs h; cases h; exact .nil
  | cons x r ih =>
    intro vs h
    rw [List.map_cons] at h
    cases h with
    | cons h1 h2 => cases h1; exact .cons (.str _ _) (ih h2)
theorem rep_flat {α : Type} (v : α) (n : Nat) : (List.replicate n [v]).flatten = List.replicate n v := by
  induction n with
  | zero => rfl
  | succ n ih => rw [List.replicate_succ, List.flatten_cons, ih]; rfl
end Mine
end

section
open PySem PySem.W PyProof.Rows PySem.Calls
set_option maxRecDepth 100000
set_option maxHeartbeats 1600000
namespace Mine
theorem says_use {w : World} {loose : List Str} {mean : ExcName → Option Value} {mg mb : Str → Option Value} {f : Addr} {vs : List Value} {news : List (Addr × Obj)} {dN : Nat} {Out : List (Addr × Obj) → Value → Prop}
    {dp un : Nat} {gd : Option (List Code)} {cn : Str} {cs : Scope} {a : Addr} {ccd : Value} {cl : List (Str × Addr)} {outer : List Env} {A₀ : Around} {base h₀ : Heap} {L : Addr} {m : Str → Option Value} {s : Shared} {Q E : Value → Shared → Prop}
    (B : Below A₀ base outer h₀) (F : Fr h₀ L s.heap m) (X : (hd.heap_39 w.params).In h₀) (N : News h₀ L s.heap news) (T : Top hd.view_39 loose mean mg mb h₀) (hk : cs.kind = .function)
    (C : Says w loose mean mg mb f vs news dN Out) (hd : dp + dN < recursionLimit) (hu : un + 8 * dN < cLine)
    (ret : ∀ r tl h' tk', Fr h₀ L h' m → News h₀ L h' (news ++ tl) → (∀ q ∈ news, ∀ p ∈ tl, q.1 ≠ p.1) → Out tl r → Q r { s with heap := h', toks := tk' }) :
    wpAny (model Challenge.rw_zd0005_01.prog w) (ktrTop dp un gd cn cs L a ccd cl outer) (call (.ref f) vs) Q E s :=
  C _ _ _ _ _ _ _ _ _ _ _ _ _ _ _ _ _ B F X N T hk hd hu ret
theorem str_len_join (x y : Str) : (x ++ Str.ofString "." ++ y).length = x.length + 1 + y.length := by
  rw [PySem.Str.length_append, PySem.Str.length_append]; rfl

inductive LeafV : Value → Option Str → Prop
  | none : LeafV .none none
  | some (x : Str) (t : Tok) : LeafV (.str x t) (some x)

noncomputable def joinS (a b : Option Str) : Str := match b with
  | none => a.getD (Str.ofString "C")
  | some y => a.getD (Str.ofString "C") ++ Str.ofString "." ++ y
noncomputable def lenO (a : Option Str) : Nat := match a with
  | none => 1
  | some x => x.length

variable {w : World} {loose : List Str} {mean : ExcName → Option Value} {mg mb : Str → Option Value}
theorem len_dot : (Str.ofString ".").length = 1 := rfl
theorem len_C : (Str.ofString "C").length = 1 := rfl
theorem add_mine {prog : Program} {A : Around} {E : Value → Shared → Prop} {s : Shared} {x y : Str} {t u : Tok} {Q : Value → Shared → Prop} (hsz : x.length + y.length ≤ 16777216) (h : ∀ t' tk, Q (.str (x ++ y) t') { s with toks := tk }) :
    wpAny (model prog w) A (binaryOp .Add (.str x t) (.str y u)) Q E s := PyProof.Rows.add_str h (by rw [sizeLine_eq]; exact hsz)
local macro_rules | `(tactic| walk_at "binaryOp Add str str") => `(tactic| (k_here; (refine' add_mine ?hsz ?_); (case hsz => ((simp only [PySem.Str.length_append, len_dot, len_C]); omega)); intro _ _))
theorem build_says {news : List (Addr × Obj)} {t : Addr} {v₁ v₂ : Value} {a b : Option Str} (ht : (t, tupOf [v₁, v₂] 0) ∈ news) (h1 : LeafV v₁ a) (h2 : LeafV v₂ b) (hs1 : lenO a ≤ 1000) (hs2 : lenO b ≤ 1000) :
    Says w loose mean mg mb 21 [.ref t] news 2 (fun tl r => tl = [] ∧ ∃ k, r = .str (joinS a b) k) := by
  unfold Says
  k_fill
  w_top off
  intro dp un gd cn cs fa ccd cl outer A₀ base h₀ L m s Q E B F X N T hk hd hu hret
  cases h1 <;> cases h2
  all_goals (
    simp only [lenO] at hs1 hs2
    refine wpAny_call ?_
    k_dflt ktr_enter
    k_steps)
  all_goals exact hret _ [] _ _ (by k_asm) (by rw [List.append_nil]; k_asm) (fun _ _ _ h9 => nomatch h9) ⟨rfl, _, rfl⟩
end Mine
end

section
open PySem PySem.W PyProof.Rows PySem.Calls
set_option maxRecDepth 100000
set_option maxHeartbeats 800000
namespace Mine
/-- the addresses of the first are none of the second -/
noncomputable def Bl (a b : List (Addr × Obj)) : Prop := ∀ p ∈ a, ∀ q ∈ b, p.1 ≠ q.1
theorem Bl.of_lt {a b : List (Addr × Obj)} (h : ∀ p ∈ a, ∀ q ∈ b, p.1 < q.1) : Bl a b := fun p hp q hq => Nat.ne_of_lt (h p hp q hq)
theorem Bl.nil {a : List (Addr × Obj)} : Bl a [] := fun _ _ _ h => nomatch h
theorem Bl.sub {a a' b : List (Addr × Obj)} (h : Bl a b) (hs : ∀ p ∈ a', p ∈ a) : Bl a' b := fun p hp => h p (hs p hp)
theorem Bl.app {a b c : List (Addr × Obj)} (h : Bl a b) (k : Bl a c) : Bl a (b ++ c) := fun p hp q hq => (List.mem_append.mp hq).elim (h p hp q) (k p hp q)
/-- the locals: what is stored may be anything -/
noncomputable abbrev locW (st : List Str) (u m₀ : Str → Option Value) : Str → Option Value := fun y => if st.contains y then u y else m₀ y
theorem locW_eq {st : List Str} {m' m₀ : Str → Option Value} (h : ∀ y, st.contains y = false → m' y = m₀ y) : locW st m' m₀ = m' := by
  funext y
  show (if st.contains y then m' y else m₀ y) = m' y
  cases hc : st.contains y with
  | true => rfl
  | false => exact (h y hc).symm
/-- a turn's end: one list that is turned, what else lies, what is new -/
noncomputable def BodyD (h₀ : Heap) (L D : Addr) (m₀ : Str → Option Value) (st : List Str) (R0 : List (Addr × Obj)) (Inv : List Value → List (Addr × Obj) → Prop) (s₁ : Shared) (f : Flow) (s₂ : Shared) : Prop :=
  (f = .next ∨ f = .cont) ∧ ∃ h' tk m' vals n add, s₂ = { s₁ with heap := h', toks := tk } ∧ Fr h₀ L h' m' ∧ (∀ y, st.contains y = false → m' y = m₀ y) ∧
    News h₀ L h' ((D, listOf vals.toArray n) :: (R0 ++ add)) ∧ Bl ((D, listOf vals.toArray n) :: R0) add ∧ Inv vals add
theorem subL_of : ∀ {k all : List (Addr × Obj)}, (∀ p ∈ k, p ∈ all) → SubL k all
  | [], _, _ => trivial
  | p :: r, _, h => ⟨h p List.mem_cons_self, subL_of fun q hq => h q (List.mem_cons_of_mem _ hq)⟩

section
variable {prog : Program} {w : World} {A : Around} {E : Value → Shared → Prop} {s : Shared} {env : Env} {h₀ : Heap} {target : PySem.Expr} {body : List Stmt} {Q : Flow → Shared → Prop}
theorem items_D {I D : Addr} {ic : String} {keep cst : List (Addr × Obj)} {st : List Str} {m₀ : Str → Option Value} {xs : List Itm} (Inv : Nat → List Value → List (Addr × Obj) → Prop) (hkeep : ∀ p ∈ keep, p ∈ cst) (hID : D ≠ I)
    (turn : ∀ i a v vals n tl oI u h tk, xs[i]? = some a → a.Is v h → Inv i vals tl → (∀ p ∈ (cst ++ tl) ++ [(I, oI)], p.1 ≠ D) → Bl ((D, listOf vals.toArray n) :: cst) tl →
      Fr h₀ env.locals h (locW st u m₀) → News h₀ env.locals h ((D, listOf vals.toArray n) :: ((cst ++ tl) ++ [(I, oI)])) →
      wpAny (model prog w) A (assign target env v) (fun _ s₃ => wpAny (model prog w) A (execs body env) (BodyD h₀ env.locals D m₀ st ((cst ++ tl) ++ [(I, oI)]) (fun vals' add => Inv (i + 1) vals' (tl ++ add)) { s with heap := h, toks := tk }) E s₃) E { s with heap := h, toks := tk })
    (done : ∀ vals n tl u h tk, Inv xs.length vals tl → (∀ p ∈ cst ++ tl, p.1 ≠ D) → Bl ((D, listOf vals.toArray n) :: cst) tl → Fr h₀ env.locals h (locW st u m₀) → News h₀ env.locals h ((D, listOf vals.toArray n) :: (cst ++ tl)) → Q .next { s with heap := h, toks := tk }) :
    ∀ (k i : Nat), i + k = xs.length → ∀ vals n tl u, Inv i vals tl → (∀ p ∈ cst ++ tl, p.1 ≠ D ∧ p.1 ≠ I) → Bl ((D, listOf vals.toArray n) :: cst) tl →
      ItemsRest prog w A E h₀ env target body Q s [(I, ic)] keep (xs.drop i) (locW st u m₀) ((D, listOf vals.toArray n) :: (cst ++ tl)) := by
  intro k
  induction k with
  | zero =>
    intro i hi vals n tl u hinv hoff hbl
    rw [List.drop_eq_nil_of_le (by omega)]
    exact fun h tk F N => done vals n tl u h tk (by rw [← hi]; exact hinv) (fun p hp => (hoff p hp).1) hbl F N
  | succ k ih =>
    intro i hi vals n tl u hinv hoff hbl
    have hlt : i < xs.length := by omega
    rw [List.drop_eq_getElem_cons hlt]
    intro v h tk hv F oI hoI N
    have N' : News h₀ env.locals h ((D, listOf vals.toArray n) :: ((cst ++ tl) ++ [(I, oI)])) := fun p hp => N p (by
      rcases List.mem_cons.mp hp with h1 | h1
      · exact List.mem_append_right _ (h1 ▸ List.mem_cons_self)
      · rcases List.mem_append.mp h1 with h1 | h1
        · exact List.mem_append_right _ (List.mem_cons_of_mem _ h1)
        · exact List.mem_append_left _ h1)
    have hoffD : ∀ p ∈ (cst ++ tl) ++ [(I, oI)], p.1 ≠ D := fun p hp => by
      rcases List.mem_append.mp hp with h1 | h1
      · exact (hoff p h1).1
      · rw [List.mem_singleton.mp h1]; exact fun e => hID e.symm
    refine wpAny_mono (turn i _ v vals n tl oI u h tk (List.getElem?_eq_getElem hlt) hv hinv hoffD hbl F N') (fun _ s₃ h₃ => wpAny_mono h₃ (fun f s₄ hb => ?_) fun _ _ x => x) fun _ _ x => x
    obtain ⟨hf, h', tk', m', vals', n', add, rfl, F', hm, N2, hb2, hinv'⟩ := hb
    have hoffI : ∀ q ∈ add, q.1 ≠ I := fun q hq e => hb2 (I, oI) (by simp) q hq e.symm
    have hoffD' : ∀ q ∈ add, q.1 ≠ D := fun q hq e => hb2 (D, listOf vals'.toArray n') List.mem_cons_self q hq e.symm
    have hoff' : ∀ p ∈ cst ++ (tl ++ add), p.1 ≠ D ∧ p.1 ≠ I := fun p hp => by
      rw [← List.append_assoc] at hp
      rcases List.mem_append.mp hp with h1 | h1
      · exact hoff p h1
      · exact ⟨hoffD' p h1, hoffI p h1⟩
    have fin : UnrEndW h₀ env.locals { s with heap := h, toks := tk } [(I, oI)] (fun m' n' => SubL keep n' ∧ ItemsRest prog w A E h₀ env target body Q s [(I, ic)] keep (xs.drop (i + 1)) m' n') { s with heap := h', toks := tk' } := by
      refine ⟨h', tk', m', (D, listOf vals'.toArray n') :: (cst ++ (tl ++ add)), rfl, F', fun p hp => N2 p ?_, fun p hp q hq => ?_, subL_of fun p hp => ?_, ?_⟩
      · simp only [List.mem_cons, List.mem_append, List.not_mem_nil, or_false, List.cons_append, List.nil_append] at hp ⊢
        rcases hp with h1 | h1 | h1 | h1 | h1
        · exact .inr (.inl (.inr h1))
        · exact .inl h1
        · exact .inr (.inl (.inl (.inl h1)))
        · exact .inr (.inl (.inl (.inr h1)))
        · exact .inr (.inr h1)
      · rw [List.mem_singleton.mp hq]
        rcases List.mem_cons.mp hp with h1 | h1
        · rw [h1]; exact hID
        · exact (hoff' p h1).2
      · exact List.mem_cons_of_mem _ (List.mem_append_left _ (hkeep p hp))
      · have g := ih (i + 1) (by omega) vals' n' (tl ++ add) m' hinv' hoff' (Bl.app (fun p hp q hq => by
          rcases List.mem_cons.mp hp with h1 | h1
          · rw [h1]; exact hbl (D, listOf vals.toArray n) List.mem_cons_self q hq
          · exact hbl p (List.mem_cons_of_mem _ h1) q hq) (hb2.sub fun p hp => by
          rcases List.mem_cons.mp hp with h1 | h1
          · rw [h1]; exact List.mem_cons_self
          · exact List.mem_cons_of_mem _ (List.mem_append_left _ (List.mem_append_left _ h1))))
        rw [locW_eq hm] at g
        exact g
    rcases hf with rfl | rfl
    · exact fin
    · exact fin

/-- a loop over a list on the ledger, whose turns turn one list -/
theorem loop_D {l D : Addr} {vs : List Value} {nn : Nat} {cst : List (Addr × Obj)} {st : List Str} {m₀ : Str → Option Value} {vals₀ : List Value} {n₀ : Nat} (Inv : Nat → List Value → List (Addr × Obj) → Prop) (hh : A.handled = none)
    (F : Fr h₀ env.locals s.heap m₀) (N : News h₀ env.locals s.heap ((D, listOf vals₀.toArray n₀) :: cst)) (hl : (l, listOf vs.toArray nn) ∈ cst) (hoff : ∀ p ∈ cst, p.1 ≠ D) (h0 : Inv 0 vals₀ [])
    (turn : ∀ i v vals n tl I oI u h tk, vs[i]? = some v → Inv i vals tl → (∀ p ∈ (cst ++ tl) ++ [(I, oI)], p.1 ≠ D) → Bl ((D, listOf vals.toArray n) :: cst) tl →
      Fr h₀ env.locals h (locW st u m₀) → News h₀ env.locals h ((D, listOf vals.toArray n) :: ((cst ++ tl) ++ [(I, oI)])) →
      wpAny (model prog w) A (assign target env v) (fun _ s₃ => wpAny (model prog w) A (execs body env) (BodyD h₀ env.locals D m₀ st ((cst ++ tl) ++ [(I, oI)]) (fun vals' add => Inv (i + 1) vals' (tl ++ add)) { s with heap := h, toks := tk }) E s₃) E { s with heap := h, toks := tk })
    (done : ∀ vals n tl u h tk, Inv vs.length vals tl → (∀ p ∈ cst ++ tl, p.1 ≠ D) → Bl ((D, listOf vals.toArray n) :: cst) tl → Fr h₀ env.locals h (locW st u m₀) → News h₀ env.locals h ((D, listOf vals.toArray n) :: (cst ++ tl)) → Q .next { s with heap := h, toks := tk }) :
    wpAny (model prog w) A (pyIter (.ref l)) (fun it s₂ => TurnsAt prog w A h₀ env target body Q E it s₂) E s := by
  have F : Fr h₀ env.locals s.heap (locW st m₀ m₀) := by rw [locW_eq fun _ _ => rfl]; exact F
  refine iter_listTurns hh F N (List.mem_cons_of_mem _ hl) rfl rfl fun I hI => ?_
  have hID : D ≠ I := Nat.ne_of_lt (hI (D, _) List.mem_cons_self)
  have g := items_D (prog := prog) (w := w) (A := A) (E := E) (s := s) (env := env) (h₀ := h₀) (target := target) (body := body) (Q := Q) (I := I) (D := D) (ic := "list_iterator") (keep := [(l, listOf vs.toArray nn)]) (cst := cst) (st := st) (m₀ := m₀) (xs := vs.map .val) Inv
    (fun p hp => by rw [List.mem_singleton.mp hp]; exact hl) hID (fun i a v vals n tl oI u h tk ha hv => by
      rw [List.getElem?_map] at ha
      cases hx : vs[i]? with
      | none => rw [hx] at ha; cases ha
      | some v' =>
        rw [hx] at ha
        cases ha
        have e : v = v' := hv
        subst e
        exact turn i v vals n tl I oI u h tk hx) (fun vals n tl u h tk hv => done vals n tl u h tk (by rw [List.length_map] at hv; exact hv)) vs.length 0 (by rw [List.length_map]; omega) vals₀ n₀ [] m₀ h0
    (fun p hp => by
      rw [List.append_nil] at hp
      exact ⟨hoff p hp, Nat.ne_of_lt (hI p (List.mem_cons_of_mem _ hp))⟩) Bl.nil
  rw [List.append_nil] at g
  exact g

theorem iter_rangeTurns {x : Str} {px : Pos} {r : Addr} {a b : Int} {t₀ u₀ v₀ : Tok} {n : Nat} {m₀ : Str → Option Value} {news : List (Addr × Obj)} (hh : A.handled = none) (hr : IsRange s.heap r a b 1 t₀ u₀ v₀) (hsm : Builtin.Range.small a b 1 = true) (hn : Builtin.Range.rangeSize a b 1 = ((n : Nat) : Int))
    (F : Fr h₀ env.locals s.heap m₀) (N : News h₀ env.locals s.heap news)
    (rest₀ : ∀ I : Addr, (∀ p ∈ news, p.1 < I) → ItemsRest prog w A E h₀ env (.Name x px) body Q s [(I, "range_iterator")] [] ((List.range n).map fun (i : Nat) => Itm.tok fun t => .int (a + (i : Int)) t) m₀ news) :
    wpAny (model prog w) A (pyIter (.ref r)) (fun it s₂ => TurnsAt prog w A h₀ env (.Name x px) body Q E it s₂) E s := by
  refine wpAny_pyIter_range hr hsm ?_
  have W : Walks prog w A s.heap.objs.size [s.heap.objs.size] [s.heap.objs.size] n (fun i v => i < n ∧ ∃ t, v = .int (a + i * 1) t)
      (fun i h => IsRangeIter h s.heap.objs.size (a + (i : Nat) * 1) ((n : Int) - (i : Nat)) 1) := (Walks.range hh _ a 1 n).bound
  refine ktu_core (tk0 := s.toks) (keep := []) (ws := [(s.heap.objs.size, "range_iterator")]) (KTurns.ofWalks W fun i v s Q E st q => wpAny_of_eq (by rfl) q) (by simp) (fun i v h hp => ?_) (fun i h st => ⟨[(s.heap.objs.size, _)], And.intro ⟨rfl, rfl⟩ trivial, fun p hp => by rw [List.mem_singleton.mp hp]; exact st⟩) (fun b hb => ?_) (fun b hb => by simpa using hb) (fun b hb => .inl (by simpa using hb)) ?_ (fun p hp hI => ?_) ?_ (F.push _) (fun p hp => ⟨Heap.get?_push_of_some _ (N p hp).1, (N p hp).2⟩) trivial (rest₀ _ fun p hp => Heap.lt_size (N p hp).1)
  · obtain ⟨hi, t, e⟩ := hp
    refine ⟨.tok fun t => .int (a + (i : Int)) t, by simp [hi], t, ?_⟩
    rw [e, Int.mul_one]
  · have hb' : b = s.heap.objs.size := by simpa using hb
    rw [hb']
    exact ⟨List.mem_cons_self .., next_is_new F⟩
  · intro hI
    exact absurd F.ns.lt ((List.mem_singleton.mp hI) ▸ Nat.lt_irrefl _)
  · exact absurd (Heap.lt_size (N p hp).1) ((List.mem_singleton.mp hI) ▸ Nat.lt_irrefl _)
  · show IsRangeIter _ _ _ _ _
    rw [hn]
    simpa using Heap.get?_push_size _ rfl

/-- the same over range(a, b) -/
theorem range_D {x : Str} {px : Pos} {r D : Addr} {a b : Int} {t₁ t₂ t₃ : Tok} {k : Nat} {cst : List (Addr × Obj)} {st : List Str} {m₀ : Str → Option Value} {vals₀ : List Value} {n₀ : Nat} (Inv : Nat → List Value → List (Addr × Obj) → Prop) (hh : A.handled = none)
    (hr : IsRange s.heap r a b 1 t₁ t₂ t₃) (hsm : Builtin.Range.small a b 1 = true) (hn : Builtin.Range.rangeSize a b 1 = ((k : Nat) : Int))
    (F : Fr h₀ env.locals s.heap m₀) (N : News h₀ env.locals s.heap ((D, listOf vals₀.toArray n₀) :: cst)) (hoff : ∀ p ∈ cst, p.1 ≠ D) (h0 : Inv 0 vals₀ [])
    (turn : ∀ i t vals n tl I oI u h tk, i < k → Inv i vals tl → (∀ p ∈ (cst ++ tl) ++ [(I, oI)], p.1 ≠ D) → Bl ((D, listOf vals.toArray n) :: cst) tl →
      Fr h₀ env.locals h (locW st u m₀) → News h₀ env.locals h ((D, listOf vals.toArray n) :: ((cst ++ tl) ++ [(I, oI)])) →
      wpAny (model prog w) A (assign (.Name x px) env (.int (a + (i : Int)) t)) (fun _ s₃ => wpAny (model prog w) A (execs body env) (BodyD h₀ env.locals D m₀ st ((cst ++ tl) ++ [(I, oI)]) (fun vals' add => Inv (i + 1) vals' (tl ++ add)) { s with heap := h, toks := tk }) E s₃) E { s with heap := h, toks := tk })
    (done : ∀ vals n tl u h tk, Inv k vals tl → (∀ p ∈ cst ++ tl, p.1 ≠ D) → Bl ((D, listOf vals.toArray n) :: cst) tl → Fr h₀ env.locals h (locW st u m₀) → News h₀ env.locals h ((D, listOf vals.toArray n) :: (cst ++ tl)) → Q .next { s with heap := h, toks := tk }) :
    wpAny (model prog w) A (pyIter (.ref r)) (fun it s₂ => TurnsAt prog w A h₀ env (.Name x px) body Q E it s₂) E s := by
  have F : Fr h₀ env.locals s.heap (locW st m₀ m₀) := by rw [locW_eq fun _ _ => rfl]; exact F
  refine iter_rangeTurns hh hr hsm hn F N fun I hI => ?_
  have hID : D ≠ I := Nat.ne_of_lt (hI (D, _) List.mem_cons_self)
  have hlen : ((List.range k).map fun (i : Nat) => Itm.tok fun t => .int (a + (i : Int)) t).length = k := by simp
  have g := items_D (prog := prog) (w := w) (A := A) (E := E) (s := s) (env := env) (h₀ := h₀) (target := .Name x px) (body := body) (Q := Q) (I := I) (D := D) (ic := "range_iterator") (keep := []) (cst := cst) (st := st) (m₀ := m₀) (xs := (List.range k).map fun (i : Nat) => Itm.tok fun t => .int (a + (i : Int)) t) Inv
    (fun p hp => nomatch hp) hID (fun i it v vals n tl oI u h tk ha hv => by
      rw [List.getElem?_map] at ha
      cases hx : (List.range k)[i]? with
      | none => rw [hx] at ha; cases ha
      | some j =>
        rw [hx] at ha
        cases ha
        obtain ⟨t, e⟩ := hv
        have e : v = .int (a + (j : Int)) t := e
        subst e
        obtain ⟨h1, h2⟩ := List.getElem?_eq_some_iff.mp hx
        rw [List.getElem_range] at h2
        subst h2
        exact turn i t vals n tl I oI u h tk (by simpa using h1)) (fun vals n tl u h tk hv => done vals n tl u h tk (by rw [hlen] at hv; exact hv)) k 0 (by rw [hlen]; omega) vals₀ n₀ [] m₀ h0
    (fun p hp => by
      rw [List.append_nil] at hp
      exact ⟨hoff p hp, Nat.ne_of_lt (hI p (List.mem_cons_of_mem _ hp))⟩) Bl.nil
  rw [List.append_nil] at g
  exact g
/-- an append to the list that is turned -/
theorem r_append {D : Addr} {vals : List Value} {n : Nat} {v : Value} {rest : List (Addr × Obj)} {L : Addr} {m : Str → Option Value} {Q : Value → Shared → Prop} (F : Fr h₀ L s.heap m) (N : News h₀ L s.heap ((D, listOf vals.toArray n) :: rest)) (hoff : ∀ p ∈ rest, p.1 ≠ D) (hsz : vals.length ≤ 16384)
    (h : ∀ h' n', Fr h₀ L h' m → News h₀ L h' ((D, listOf (vals ++ [v]).toArray n') :: rest) → Q .none { s with heap := h' }) : wpAny (model prog w) A (call (.builtin "list.append") [.ref D, v]) Q E s :=
  append_head F N hoff (fun h' F' N' => h h' (n + 1) F' (by rw [List.push_toArray] at N'; exact N')) (by show vals.toArray.size ≤ sizeLine; rw [List.size_toArray, sizeLine_eq]; omega)
theorem body_end {D : Addr} {m₀ m' : Str → Option Value} {st : List Str} {R0 : List (Addr × Obj)} {Inv : List Value → List (Addr × Obj) → Prop} {s₁ : Shared} {L : Addr} {h' : Heap} {tk : Nat} {vals : List Value} {n : Nat}
    (F : Fr h₀ L h' m') (hm : ∀ y, st.contains y = false → m' y = m₀ y) (N : News h₀ L h' ((D, listOf vals.toArray n) :: R0)) (hI : Inv vals []) : BodyD h₀ L D m₀ st R0 Inv s₁ .next { s₁ with heap := h', toks := tk } :=
  ⟨.inl rfl, h', tk, m', vals, n, [], rfl, F, hm, by rw [List.append_nil]; exact N, Bl.nil, hI⟩
theorem loc1 {x y : Str} {st : List Str} {u m₀ : Str → Option Value} {v : Option Value} (hx : st.contains x = true) (hy : st.contains y = false) : (if y = x then v else locW st u m₀ y) = m₀ y := by
  have h : y ≠ x := by
    rintro rfl
    rw [hx] at hy; cases hy
  rw [if_neg h]
  show (if st.contains y then u y else m₀ y) = m₀ y
  rw [hy]; rfl
theorem locOut {y : Str} {st : List Str} {u m₀ : Str → Option Value} (hy : st.contains y = false) : locW st u m₀ y = m₀ y := by
  show (if st.contains y then u y else m₀ y) = m₀ y
  rw [hy]; rfl
theorem locIf {x y : Str} {st : List Str} {v r r' : Option Value} (hx : st.contains x = true) (hy : st.contains y = false) (h : r = r') : (if y = x then v else r) = r' := by
  have hne : y ≠ x := by
    rintro rfl
    rw [hx] at hy; cases hy
  rw [if_neg hne, h]
theorem contSub {y : Str} {st st' : List Str} (h : (st'.all fun z => st.contains z) = true) (hy : st.contains y = false) : st'.contains y = false := by
  cases hc : st'.contains y with
  | false => rfl
  | true =>
    have := List.all_eq_true.mp h y (List.contains_iff_mem.mp hc)
    rw [hy] at this; cases this
theorem datIn_list {l : List (Addr × Obj)} {v : Value} {ds : List Dat} (h : DatIn l v (.list ds)) : ∃ a vs n, v = .ref a ∧ (a, listOf vs.toArray n) ∈ l ∧ DatAll l vs ds := by
  cases h with
  | list hm hd => exact ⟨_, _, _, rfl, hm, hd⟩
theorem r_idxF {l : Addr} {L : Addr} {news L9 : List (Addr × Obj)} {us : List Value} {n M j : Nat} {f : Nat → Dat} {k : Int} {u : Tok} {value slice : PySem.Expr} {Q : Value → Shared → Prop} (N : News h₀ L s.heap news) (hm : (l, listOf us.toArray n) ∈ news) (hd : DatAll L9 us ((List.range M).map f))
    (hj : k = (j : Int)) (hk : j < M) (hM : M ≤ 16384) (h : ∀ v, DatIn L9 v (f j) → Q v s)
    (hs : subscripted slice false (.ref l) (.int k u) = operate [.ref l, .int k u] (getItem (.ref l) (.int k u)) := by with_unfolding_all rfl) :
    wpAny (model prog w) A (subscriptTail value slice (.ref l) (.int k u)) Q E s := by
  subst hj
  refine kd_item N hm hd (by omega) (by simpa using hk) (by omega) (fun v d hd' _ hin => h v ?_) hs
  rw [Int.toNat_natCast, List.getElem?_map, List.getElem?_range hk] at hd'
  cases hd'
  exact hin
theorem r_lastF {l : Addr} {L : Addr} {news L9 : List (Addr × Obj)} {us : List Value} {n M : Nat} {f : Nat → Dat} {u : Tok} {value slice : PySem.Expr} {Q : Value → Shared → Prop} (N : News h₀ L s.heap news) (hm : (l, listOf us.toArray n) ∈ news) (hd : DatAll L9 us ((List.range (M + 1)).map f))
    (hM : M ≤ 16384) (h : ∀ v, DatIn L9 v (f M) → Q v s)
    (hs : subscripted slice false (.ref l) (.int (-1) u) = operate [.ref l, .int (-1) u] (getItem (.ref l) (.int (-1) u)) := by with_unfolding_all rfl) :
    wpAny (model prog w) A (subscriptTail value slice (.ref l) (.int (-1) u)) Q E s := by
  have hlen : us.length = M + 1 := by have := hd.length; simpa using this
  obtain ⟨v, hv, hin⟩ := hd.get (k := M) (by simp)
  rw [List.getElem_map, List.getElem_range] at hin
  exact kde_neg ⟨_, (N _ hm).1, rfl, n, rfl⟩ (by decide) (by decide) (j := M) (by rw [hlen]; simp [seqIndex?]; omega) hv (h v hin) hs
theorem fr_keep {h₀ h : Heap} {L : Addr} {M : Str → Option Value} {xs : List (Str × Value)} (F : Fr h₀ L h M) (hx : ∀ p ∈ xs, M p.1 = some p.2) : Fr h₀ L h (kstB M xs) := by
  have e : kstB M xs = M := funext fun y => kstB_eq hx fun _ => rfl
  rw [e]; exact F
theorem wpAny_fog {α : Type} {M : Model} {A : Around} {t : Sem α} {Q : α → Shared → Prop} {E : Value → Shared → Prop} {s : Shared} (h : ∀ Q', Q' = Q → wpAny M A t Q' (fun _ _ => False) s) : wpAny M A t Q E s := wpAny_mono (h Q rfl) (fun _ _ h => h) fun _ _ h => h.elim
/-- a turn of a loop is walked with what it does not read taken away: the state's rest, the locals that it does not read, the raise, the continuation -/
theorem turn_cutD {α : Type} {M : Model} {A : Around} {t : Sem α} {t2 : Sem Flow} {D : Addr} {h₀ h : Heap} {L : Addr} {m₀ M₀ : Str → Option Value} {st : List Str} {R0 : List (Addr × Obj)} {Inv : List Value → List (Addr × Obj) → Prop} {s : Shared} {k : Nat} {E : Value → Shared → Prop}
    (xs : List (Str × Value)) (F : Fr h₀ L h M₀) (hx : ∀ p ∈ xs, M₀ p.1 = some p.2) (hM : ∀ y, st.contains y = false → M₀ y = m₀ y)
    (hw : ∀ R g d o mX, Fr h₀ L h (kstB mX xs) → (∀ f s', BodyD h₀ L D (kstB mX xs) st R0 Inv ⟨h, g, d, k, o⟩ f s' → R f s') → wpAny M A t (fun _ s₃ => wpAny M A t2 R (fun _ _ => False) s₃) (fun _ _ => False) ⟨h, g, d, k, o⟩) :
    wpAny M A t (fun _ s₃ => wpAny M A t2 (BodyD h₀ L D m₀ st R0 Inv { s with heap := h, toks := k }) E s₃) E { s with heap := h, toks := k } := by
  have e : kstB M₀ xs = M₀ := funext fun y => kstB_eq hx fun _ => rfl
  refine wpAny_mono (hw (BodyD h₀ L D m₀ st R0 Inv { s with heap := h, toks := k }) s.gens s.drawn s.os M₀ (fr_keep F hx) fun f s' hb => ?_) (fun _ s₃ h3 => wpAny_mono h3 (fun _ _ x => x) fun _ _ x => x.elim) fun _ _ x => x.elim
  obtain ⟨hf, h', tk, m', vals, n, add, hs, F', hm, N', hb', hI⟩ := hb
  refine ⟨hf, h', tk, m', vals, n, add, hs, F', fun y hy => (hm y hy).trans ?_, N', hb', hI⟩
  rw [e]; exact hM y hy
theorem keep_all {M : Str → Option Value} : ∀ {xs : List (Str × Value)}, (xs.foldr (fun p P => M p.1 = some p.2 ∧ P) True) → ∀ p ∈ xs, M p.1 = some p.2
  | [], _, p, hp => (List.not_mem_nil hp).elim
  | _ :: _, h, p, hp => by
    rcases List.mem_cons.mp hp with e | e
    · rw [e]; exact h.1
    · exact keep_all h.2 p e
theorem r_idxL {l : Addr} {L : Addr} {news L9 : List (Addr × Obj)} {us : List Value} {n M j : Nat} {f : Nat → List Dat} {k : Int} {u : Tok} {value slice : PySem.Expr} {Q : Value → Shared → Prop} (N : News h₀ L s.heap news) (hm : (l, listOf us.toArray n) ∈ news) (hd : DatAll L9 us ((List.range M).map fun i => Dat.list (f i)))
    (hj : k = (j : Int)) (hk : j < M) (hM : M ≤ 16384) (h : ∀ a vs n, (a, listOf vs.toArray n) ∈ L9 → DatAll L9 vs (f j) → Q (.ref a) s)
    (hs : subscripted slice false (.ref l) (.int k u) = operate [.ref l, .int k u] (getItem (.ref l) (.int k u))) :
    wpAny (model prog w) A (subscriptTail value slice (.ref l) (.int k u)) Q E s :=
  r_idxF N hm hd hj hk hM (fun v hv => by
    obtain ⟨a, vs, n, e, h1, h2⟩ := datIn_list hv
    rw [e]; exact h a vs n h1 h2) hs
end
end Mine
end

section
open PySem PySem.W PyProof.Rows PySem.Calls
set_option maxRecDepth 100000
set_option maxHeartbeats 800000
namespace Mine
/-- an element's end in a list comprehension -/
noncomputable def EltEnd (h₀ : Heap) (L : Addr) (m : Str → Option Value) (I : Addr) (oI : Obj) (C : Addr) (oC : Obj) (D : Addr) (ys : List Value) (R0 : List (Addr × Obj)) (Inv : Value → List (Addr × Obj) → Prop) (s₁ : Shared) (y : Value) (s₂ : Shared) : Prop :=
  ∃ h' tk add, s₂ = { s₁ with heap := h', toks := tk } ∧ Fr h₀ L h' m ∧ News h₀ L h' ((I, oI) :: (C, oC) :: (D, LCg.lst ys) :: (R0 ++ add)) ∧ Bl ((I, oI) :: (C, oC) :: (D, LCg.lst ys) :: R0) add ∧ Inv y add
section
variable {prog : Program} {w : World} {A : Around} {E : Value → Shared → Prop} {s : Shared} {env : Env} {h₀ : Heap} {L : Addr} {m : Str → Option Value}
theorem elt_end {I C D : Addr} {oI oC : Obj} {ys : List Value} {R0 : List (Addr × Obj)} {Inv : Value → List (Addr × Obj) → Prop} {s₁ : Shared} {y : Value} {h' : Heap} {tk : Nat} {all : List (Addr × Obj)} (F : Fr h₀ L h' m) (N : News h₀ L h' all)
    (hs : ∀ p ∈ (I, oI) :: (C, oC) :: (D, LCg.lst ys) :: R0, p ∈ all) (hI : Inv y []) : EltEnd h₀ L m I oI C oC D ys R0 Inv s₁ y { s₁ with heap := h', toks := tk } :=
  ⟨h', tk, [], rfl, F, by rw [List.append_nil]; exact fun p hp => N p (hs p hp), Bl.nil, hI⟩
theorem comp_rest {elt : PySem.Expr} {x : Str} {scope : Scope} {cl : List (Str × Addr)} {S : List (Addr × Obj) → Prop} {P : Nat → Value → Prop} {cst : List (Addr × Obj)} {N : Nat} {Fin : List Value → List (Addr × Obj) → Prop} (Inv : Nat → List Value → List (Addr × Obj) → Prop)
    (hS : ∀ l, S (cst ++ l))
    (turn : ∀ i v ys tl I oI C oC D m₂ h tk (E' : Value → Shared → Prop), i < N → P i v → Inv i ys tl → Bl cst tl → LCg.NsObj oC m₂ → m₂ x = some v → Fr h₀ L h m → News h₀ L h ((I, oI) :: (C, oC) :: (D, LCg.lst ys) :: (cst ++ tl)) →
      wpAny (model prog w) A (eval elt (compEnvC scope cl C env)) (EltEnd h₀ L m I oI C oC D ys (cst ++ tl) (fun y add => Inv (i + 1) (ys ++ [y]) (tl ++ add)) { s with heap := h, toks := tk }) E' { s with heap := h, toks := tk })
    (done : ∀ ys tl, Inv N ys tl → Bl cst tl → Fin ys (cst ++ tl)) :
    ∀ (k i : Nat), i + k = N → ∀ ys tl, Inv i ys tl → Bl cst tl → LCg.CompRest prog w A h₀ L m env elt x scope cl s S P Fin k i ys (cst ++ tl) := by
  intro k
  induction k with
  | zero => intro i hi ys tl hinv hbl; exact LCg.CompRest.zero (done ys tl (by rw [← hi]; exact hinv) hbl)
  | succ k ih =>
    intro i hi ys tl hinv hbl
    refine LCg.CompRest.succ fun v I oI C oC D m₂ h tk E' hP hoC hx F N' off3 hne => ?_
    refine wpAny_mono (turn i v ys tl I oI C oC D m₂ h tk E' (by omega) hP hinv hbl hoC hx F N') (fun y s₂ he => ?_) fun _ _ e => e
    obtain ⟨h', tk', add, rfl, F', N2, hb, hi'⟩ := he
    refine ⟨h', tk', cst ++ (tl ++ add), rfl, F', by rw [← List.append_assoc]; exact N2, LCg.Off3.of fun p hp => ?_, hS _, ih (i + 1) (by omega) (ys ++ [y]) (tl ++ add) hi' (hbl.app (hb.sub fun p hp => ?_))⟩
    · rw [← List.append_assoc] at hp
      rcases List.mem_append.mp hp with h1 | h1
      · exact off3.mem p h1
      · exact ⟨(hb _ List.mem_cons_self p h1).symm, (hb _ (List.mem_cons_of_mem _ List.mem_cons_self) p h1).symm, (hb _ (List.mem_cons_of_mem _ (List.mem_cons_of_mem _ List.mem_cons_self)) p h1).symm⟩
    · exact List.mem_cons_of_mem _ (List.mem_cons_of_mem _ (List.mem_cons_of_mem _ (List.mem_append_left _ hp)))
/-- a list comprehension over a list of the ledger -/
theorem comp_src {elt : PySem.Expr} {x : Str} {scope : Scope} {cl : List (Str × Addr)} {ax : Addr} {vs : List Value} {nn : Nat} {cst : List (Addr × Obj)} {Fin : Shared → List Value → List (Addr × Obj) → Prop} (Inv : Nat → List Value → List (Addr × Obj) → Prop) (hh : A.handled = none)
    (F : Fr h₀ L s.heap m) (N : News h₀ L s.heap cst) (hm : (ax, listOf vs.toArray nn) ∈ cst) (hsz : vs.length ≤ 16384) (h0 : Inv 0 [] [])
    (turn : ∀ i v ys tl I oI C oC D m₂ g h tk (E' : Value → Shared → Prop), vs[i]? = some v → Inv i ys tl → Bl cst tl → LCg.NsObj oC m₂ → m₂ x = some v → Fr h₀ L h m → News h₀ L h ((I, oI) :: (C, oC) :: (D, LCg.lst ys) :: (cst ++ tl)) →
      wpAny (model prog w) A (eval elt (compEnvC scope cl C env)) (EltEnd h₀ L m I oI C oC D ys (cst ++ tl) (fun y add => Inv (i + 1) (ys ++ [y]) (tl ++ add)) { ({ s with heap := g } : Shared) with heap := h, toks := tk }) E' { ({ s with heap := g } : Shared) with heap := h, toks := tk })
    (done : ∀ ys tl g, Inv vs.length ys tl → Bl cst tl → Fin { s with heap := g } ys (cst ++ tl)) :
    LCg.CompSrc prog w A h₀ L m env elt x scope cl Fin (.ref ax) s := by
  refine LCg.CompSrc.ledger (its := vs.toArray) (k := nn) hh F N hm (by rw [List.size_toArray, sizeLine_eq]; omega) fun g => ?_
  have e : vs.toArray.size = vs.length := by simp
  rw [e]
  have r := comp_rest (prog := prog) (w := w) (A := A) (s := { s with heap := g }) (env := env) (h₀ := h₀) (L := L) (m := m) (elt := elt) (x := x) (scope := scope) (cl := cl) (S := LCg.SrcAt h₀ ax vs.toArray) (P := fun i v => vs.toArray[i]? = some v) (cst := cst) (N := vs.length)
    (Fin := Fin { s with heap := g }) Inv (fun l => .inr ⟨_, List.mem_append_left _ hm, rfl, _, rfl⟩) (fun i v ys tl I oI C oC D m₂ h tk E' hi hP => turn i v ys tl I oI C oC D m₂ g h tk E' (by simpa using hP)) (fun ys tl hi hb => done ys tl g hi hb) vs.length 0 (by omega) [] [] h0 Bl.nil
  rw [List.append_nil] at r
  exact r
end
end Mine
end

section
local macro_rules | `(tactic| walk_at $k:str) => (if (["exec For Name Name cons nil", "exec For Name Call cons nil", "exec For Name Subscript cons nil", "exec For Tuple Name cons nil"] : List String).contains k.getString then `(tactic| (k_here; (with_reducible rename Fr _ _ _ _ => lF'); (with_unfolding_all refine' For_turns lF' ?_))) else Lean.Macro.throwUnsupported)
local macro_rules | `(tactic| walk_at "pyIter ref") => `(tactic| ((with_reducible show wpAny _ _ (pyIter _) (fun it s₂ => TurnsAt _ _ _ _ _ _ _ _ _ it s₂) _ _); refine Mine.Hold.out ?_))
section
open PySem PySem.W PyProof.Rows PySem.Calls
set_option maxRecDepth 100000
set_option maxHeartbeats 4000000
namespace Mine
variable {w : World} {loose : List Str} {mean : ExcName → Option Value} {mg mb : Str → Option Value}
noncomputable def leafOf (x : Int) : List (Option Lf) :=
  if Int.fmod x 5 = 1 ∨ Int.fmod x 5 = 2 then [none] else if Int.fmod x 5 = 3 then [some .e] else if Int.fmod x 5 = 4 then [some (.n (Int.fmod (Int.fdiv x 5) 20000 - 2))] else []
noncomputable def cellsOf (ns : List Int) : List Int := ns.take 4 ++ [1, 8, 2, 119].drop (min 4 ns.length)
noncomputable def leavesOf (ns : List Int) : List (Option Lf) := (cellsOf ns).flatMap leafOf
noncomputable def rowOf (ns : List Int) : List (Option Lf) := [some .e] ++ leavesOf ns ++ [some .e]
noncomputable def rowD : Option Lf → Dat
  | none => .none
  | some l => .str (ltx (some l))
section
variable {prog : Program} {A : Around} {E : Value → Shared → Prop} {s : Shared} {h₀ : Heap} {L l : Addr} {m : Str → Option Value} {news : List (Addr × Obj)} {value slice : PySem.Expr} {vs : List Value} {ns : List Int} {vl vu : Value} {y : Int} {t : Tok} {Q : Value → Shared → Prop}
theorem r_sliceUp (F : Fr h₀ L s.heap m) (N : News h₀ L s.heap news) (hl : s.heap.IsList l vs.toArray) (hi : IntsAre vs ns) (hy : 0 ≤ y) (hz : vs.length ≤ 16384)
    (h : ∀ D ws h', Fr h₀ L h' m → News h₀ L h' ((D, listOf (List.toArray ws) 0) :: news) → (∀ p ∈ news, p.1 < D) → IntsAre ws (ns.take y.toNat) → Q (.ref D) { s with heap := h' })
    (hs : subscripted slice false (.ref l) (.ref s.heap.objs.size) = operate [.ref s.heap.objs.size, .ref l] (getItem (.ref l) (.ref s.heap.objs.size)) := by with_unfolding_all rfl) (ht : ∀ r, letTemporaryGo value (.ref l) r = pure () := by intro _; with_unfolding_all rfl) :
    wpAny (model prog w) A (subscriptTail value slice (.ref l) (.ref s.heap.objs.size)) Q E { s with heap := s.heap.push { cls := .type "slice", data := .fields #[.none, .int y t, .none] } } :=
  kmk_slice_ints F N hl .none (.int _ _) hi (kmk_upto hi hy) rfl (fun D ws h' F' N' l1 i1 _ _ => h D ws h' F' N' l1 i1) hs ht (by rw [sizeLine_eq, List.size_toArray]; omega)
theorem r_sliceFrom (F : Fr h₀ L s.heap m) (N : News h₀ L s.heap news) (hl : s.heap.IsList l vs.toArray) (hi : IntsAre vs ns) (hy : 0 ≤ y) (hz : vs.length ≤ 16384)
    (h : ∀ D ws h', Fr h₀ L h' m → News h₀ L h' ((D, listOf (List.toArray ws) 0) :: news) → (∀ p ∈ news, p.1 < D) → IntsAre ws (ns.drop y.toNat) → Q (.ref D) { s with heap := h' })
    (hs : subscripted slice false (.ref l) (.ref s.heap.objs.size) = operate [.ref s.heap.objs.size, .ref l] (getItem (.ref l) (.ref s.heap.objs.size)) := by with_unfolding_all rfl) (ht : ∀ r, letTemporaryGo value (.ref l) r = pure () := by intro _; with_unfolding_all rfl) :
    wpAny (model prog w) A (subscriptTail value slice (.ref l) (.ref s.heap.objs.size)) Q E { s with heap := s.heap.push { cls := .type "slice", data := .fields #[.int y t, .none, .none] } } :=
  kmk_slice_ints F N hl (.int _ _) .none hi (kmk_from hi hy) rfl (fun D ws h' F' N' l1 i1 _ _ => h D ws h' F' N' l1 i1) hs ht (by rw [sizeLine_eq, List.size_toArray]; omega)
theorem ints_len (hi : IntsAre vs ns) (h : ns.length ≤ 63) : vs.length ≤ 16384 := by rw [hi.length]; omega
end
theorem row_step {c : List Int} {i : Nat} {x : Int} {vals ws : List Value} (hx : c[i]? = some x) (hD : DatAll [] vals (([some Lf.e] ++ (c.take i).flatMap leafOf).map rowD)) (hv : DatAll [] ws ((leafOf x).map rowD)) :
    DatAll [] (vals ++ ws) (([some Lf.e] ++ (c.take (i + 1)).flatMap leafOf).map rowD) := by
  have e : c.take (i + 1) = c.take i ++ [x] := by rw [List.take_add_one, hx]; rfl
  rw [e, List.flatMap_append, ← List.append_assoc, List.map_append]
  refine DatAll.append hD ?_
  simpa using hv
theorem row_step0 {c : List Int} {i : Nat} {x : Int} {vals : List Value} (hx : c[i]? = some x) (hD : DatAll [] vals (([some Lf.e] ++ (c.take i).flatMap leafOf).map rowD)) (hv : leafOf x = []) :
    DatAll [] vals (([some Lf.e] ++ (c.take (i + 1)).flatMap leafOf).map rowD) := by
  have := row_step (ws := []) hx hD (by rw [hv]; exact .nil)
  rwa [List.append_nil] at this
theorem leaf1 {x : Int} (h : x.fmod 5 = 1) : leafOf x = [none] := by simp [leafOf, h]
theorem leaf2 {x : Int} (h : x.fmod 5 = 2) : leafOf x = [none] := by simp [leafOf, h]
theorem leaf3 {x : Int} (h : x.fmod 5 = 3) : leafOf x = [some .e] := by simp [leafOf, h]
theorem leaf4 {x : Int} (h : x.fmod 5 = 4) : leafOf x = [some (.n (Int.fmod (Int.fdiv x 5) 20000 - 2))] := by simp [leafOf, h]
theorem leaf0 {x : Int} (h1 : x.fmod 5 ≠ 1) (h2 : x.fmod 5 ≠ 2) (h3 : x.fmod 5 ≠ 3) (h4 : x.fmod 5 ≠ 4) : leafOf x = [] := by simp [leafOf, h1, h2, h3, h4]
theorem row_end {ns : List Int} {k : Nat} {vals : List Value} {t : Tok} (hk : (cellsOf ns).length ≤ k) (hD : DatAll [] vals (([some Lf.e] ++ ((cellsOf ns).take k).flatMap leafOf).map rowD)) :
    DatAll [] (vals ++ [.str (Str.ofString "") t]) ((rowOf ns).map rowD) := by
  rw [List.take_of_length_le hk] at hD
  have h := DatAll.append hD (DatAll.one (.str (Str.ofString "") t))
  have e : (rowOf ns).map rowD = ([some Lf.e] ++ (cellsOf ns).flatMap leafOf).map rowD ++ [Dat.str (Str.ofString "")] := by
    rw [rowOf, List.map_append]; rfl
  rw [e]; exact h
theorem len1 {vals : List Value} {v : Value} {i : Nat} (h : vals.length ≤ 1 + i) : (vals ++ [v]).length ≤ 1 + (i + 1) := by simp; omega
section
local macro_rules | `(tactic| walk_at $k:str) => (if (["subscriptTail Name Slice ref ref", "subscriptTail List Slice ref ref", "call builtin:len"] : List String).contains k.getString then `(tactic| (refine Hold.out ?_)) else Lean.Macro.throwUnsupported)
local macro_rules | `(tactic| walk_at "call builtin:list.append") => `(tactic| (k_here; k_dflt (refine r_append (by k_asm) (by k_asm) (by assumption) (by assumption) ?_); intro h' n' F' N'))
theorem row_says {news : List (Addr × Obj)} {sc : Addr} {vs : List Value} {ns : List Int} (hi : IntsAre vs ns) (hlen : ns.length ≤ 63) :
   ∀ (dp un : Nat) (gd : Option (List Code)) (cn : Str) (cs : Scope) (fa : Addr) (ccd : Value) (A₀ : Around) (base h₀ : Heap) (L : Addr) (m : Str → Option Value) (s : Shared) (Q E : Value → Shared → Prop),
    Below A₀ base [] h₀ → Fr h₀ L s.heap m → (hd.heap_39 w.params).In h₀ → News h₀ L s.heap news → Top hd.view_39 loose mean mg mb h₀ → base.IsList sc vs.toArray → cs.kind = .function →
    dp + 6 < recursionLimit → un + 8 * 6 < cLine →
    (∀ D vals n h' tk', Fr h₀ L h' m → News h₀ L h' (news ++ [(D, listOf vals.toArray n)]) → (∀ q ∈ news, q.1 < D) → DatAll [] vals ((rowOf ns).map rowD) → Q (.ref D) { s with heap := h', toks := tk' }) →
    wpAny (model Challenge.rw_zd0005_01.prog w) (topA dp un gd cn cs L fa ccd) (call (.ref 79) [.ref sc]) Q E s := by
  k_fill
  w_top off
  intro dp un gd cn cs fa ccd A₀ base h₀ L m s Q E B F X N T hsc hk hd hu hret
  refine wpAny_call ?_
  k_dflt ktr_enter
  with_reducible rename Below _ _ _ _ => B'
  have hsc' := hsc.at fun o e => B'.stays _ _ e
  refine wpAny_fog fun Q₁ hQ₁ => ?_
  k_steps
  refine Hold.mk ?_
  with_reducible rename Fr _ _ _ _ => F1
  with_reducible rename News _ _ _ _ => N1
  refine r_sliceUp (s := ⟨_, _, _, _, _⟩) F1 N1 (Fr.lst F1 hsc') hi (by decide) (ints_len hi hlen) ?_
  intro D1 w1 h1 F2 N2 l2 i2
  (try simp only [Int.reduceToNat] at i2)
  k_steps
  refine Hold.mk ?_
  with_reducible rename Fr _ _ _ _ => F3
  with_reducible rename News _ _ _ _ => N3
  refine r_sliceUp (s := ⟨_, _, _, _, _⟩) F3 N3 (Fr.lst F3 hsc') hi (by decide) (ints_len hi hlen) ?_
  intro D2 w2 h2 F4 N4 l4 i4
  (try simp only [Int.reduceToNat] at i4)
  k_steps
  refine Hold.mk ?_
  refine r_len N4 List.mem_cons_self i4.length (by rw [List.length_take]; omega) ?_
  intro t5 tk5
  k_steps
  refine Hold.mk ?_
  with_reducible rename Fr _ _ _ _ => F5
  with_reducible rename News _ _ _ _ => N5
  refine r_sliceFrom (s := ⟨_, _, _, _, _⟩) (ns := [1, 8, 2, 119]) F5 N5 (News.isList N5 (by k_mem)) (by l_ints) (by omega) (Nat.le_of_ble_eq_true rfl) ?_
  intro D3 w3 h3 F6 N6 l6 i6
  k_steps
  refine Hold.mk ?_
  rename_i D4 ws4 h4 hI4 l14 h5 tk5 R h6 l15 h7 F7 N7
  have hcc : List.take 4 ns ++ List.drop (((List.take 4 ns).length : Nat) : Int).toNat [1, 8, 2, 119] = cellsOf ns := by
    simp only [cellsOf, List.length_take, Int.toNat_natCast]
  rw [hcc] at hI4
  have hc4 : (cellsOf ns).length ≤ 8 := by
    simp only [cellsOf, List.length_append, List.length_take, List.length_drop, List.length_cons, List.length_nil]; omega
  have l15' : D4 < R ∧ _ := l15
  refine loop_D (D := R) (vals₀ := [.str (Str.ofString "") tk5]) (st := [Str.ofString "x"]) (fun i vals tl => tl = [] ∧ vals.length ≤ 1 + i ∧ DatAll [] vals (([some Lf.e] ++ ((cellsOf ns).take i).flatMap leafOf).map rowD)) rfl F7 N7 (List.Mem.head _) (fun p hp => Nat.ne_of_lt (allLt_mem (d := R) _ (by exact l15) p hp)) ⟨rfl, by simp, .cons (.str _ _) .nil⟩ ?turn ?done
  case turn =>
    intro i v vals n tl I oI u h tk hv hinv hoff hbl F8 N8
    refine turn_cutD [(Str.ofString "row", .ref R)] F8 (keep_all (And.intro rfl trivial)) (fun y hy => locOut hy) ?_
    clear F8
    intro RQ g1 d1 o1 mX F8 hRQ
    obtain ⟨rfl, hl, hD⟩ := hinv
    obtain ⟨x, t, rfl, hx⟩ : ∃ x t, v = .int x t ∧ (cellsOf ns)[i]? = some x := by
      have hi4 : i < (cellsOf ns).length := by rw [← hI4.length]; exact (List.getElem?_eq_some_iff.mp hv).1
      obtain ⟨t, ht⟩ := hI4.get i _ (List.getElem?_eq_getElem hi4)
      rw [hv] at ht
      exact ⟨_, t, Option.some.inj ht, List.getElem?_eq_getElem hi4⟩
    have hsz : vals.length ≤ 16384 := by
      have := (List.getElem?_eq_some_iff.mp hx).1
      omega
    k_steps
    all_goals (
      with_reducible rename Fr _ _ _ _ => F9
      with_reducible rename News _ _ _ _ => N9
      first
      | exact hRQ _ _ (body_end F9 (fun y hy => locIf (by decide) hy rfl) N9 ⟨rfl, len1 hl, row_step hx hD (by first | (rw [leaf1 (by assumption)]; exact .cons .none .nil) | (rw [leaf2 (by assumption)]; exact .cons .none .nil) | (rw [leaf3 (by assumption)]; exact .cons (.str _ _) .nil) | (rw [leaf4 (by assumption)]; exact .cons (.str _ _) .nil))⟩)
      | exact hRQ _ _ (body_end F9 (fun y hy => locIf (by decide) hy rfl) N9 ⟨rfl, Nat.le_succ_of_le hl, row_step0 hx hD (leaf0 (by assumption) (by assumption) (by assumption) (by assumption))⟩))
  case done =>
    intro vals n tl u h tk hinv hoff hbl F8 N8
    obtain ⟨rfl, hl, hD⟩ := hinv
    have hsz : vals.length ≤ 16384 := by
      have := hI4.length
      omega
    rw [List.append_nil] at hoff N8
    k_steps
    subst hQ₁
    k_steps
    all_goals (
      rename_i kF kN _ _
      refine hret R _ _ _ _ kF (news_pick kN (List.Mem.head _) (fun q hq => by repeat (first | exact hq | refine List.mem_cons_of_mem _ ?_))) (fun q hq => allLt_mem (d := R) _ l15.2.2.2.2.2 q hq) ?_
      exact row_end (by rw [hI4.length]; exact Nat.le_refl _) hD)
end
end Mine
end

section
open PySem PySem.W PyProof.Rows PySem.Calls
set_option maxRecDepth 100000
set_option maxHeartbeats 4000000
namespace Mine
variable {w : World} {loose : List Str} {mean : ExcName → Option Value} {mg mb : Str → Option Value}
noncomputable def cellD : Option (List (Option Lf)) → Dat
  | none => .none
  | some nm => .str (txt nm)
noncomputable def listD (l : List (Option (List (Option Lf)))) : Dat := .list (l.map cellD)
noncomputable def lineD (row : List (Option Lf)) (n : Nat) : Dat := .list ((List.range (row.length - n)).map fun s => listD (cell row n s))
theorem cell0D {row : List (Option Lf)} {i : Nat} {v : Value} {vs : List Value} (hD : DatAll [] vs (row.map rowD)) (hv : vs[i]? = some v) : DatAll [] [v] ((cell row 0 i).map cellD) := by
  have hi : i < (row.map rowD).length := by rw [← hD.length]; exact (List.getElem?_eq_some_iff.mp hv).1
  obtain ⟨v', h1, h2⟩ := hD.get hi
  rw [hv] at h1
  cases h1
  rw [cell_zero]
  rw [List.length_map] at hi
  rw [List.getElem_map] at h2
  have e : row.getD i none = row[i] := by simp [List.getD_eq_getElem?_getD, hi]
  rw [e]
  refine .cons ?_ .nil
  cases h : row[i] with
  | none => rw [h] at h2; exact h2
  | some a => rw [h] at h2; exact h2
theorem comp0_step {row : List (Option Lf)} {i : Nat} {v : Value} {ys : List Value} {tl : List (Addr × Obj)} {D : Addr} {n : Nat} (h : DatAll [] [v] ((cell row 0 i).map cellD)) (hi : DatAll tl ys ((List.range i).map fun s => listD (cell row 0 s))) :
    DatAll (tl ++ [(D, listOf [v].toArray n)]) (ys ++ [.ref D]) ((List.range (i + 1)).map fun s => listD (cell row 0 s)) := by
  rw [List.range_succ, List.map_append]
  exact DatAll.append (hi.mono fun p hp => List.mem_append_left _ hp) (.cons (.list (List.mem_append_right _ (List.Mem.head _)) (h.mono fun _ hp => (List.not_mem_nil hp).elim)) .nil)
theorem elt_new {h₀ : Heap} {L : Addr} {m : Str → Option Value} {I C D : Addr} {oI oC : Obj} {ys : List Value} {R0 : List (Addr × Obj)} {Inv : Value → List (Addr × Obj) → Prop} {s₁ : Shared} {y : Value} {h' : Heap} {tk : Nat} {q : Addr × Obj} (F : Fr h₀ L h' m)
    (N : News h₀ L h' (q :: (I, oI) :: (C, oC) :: (D, LCg.lst ys) :: R0)) (hlt : ∀ p ∈ (I, oI) :: (C, oC) :: (D, LCg.lst ys) :: R0, p.1 < q.1) (hI : Inv y [q]) : EltEnd h₀ L m I oI C oC D ys R0 Inv s₁ y { s₁ with heap := h', toks := tk } :=
  ⟨h', tk, [q], rfl, F, fun p hp => N p (by
    simp only [List.mem_cons, List.mem_append, List.not_mem_nil, or_false] at hp ⊢
    rcases hp with h | h | h | h | h
    · exact .inr (.inl h)
    · exact .inr (.inr (.inl h))
    · exact .inr (.inr (.inr (.inl h)))
    · exact .inr (.inr (.inr (.inr h)))
    · exact .inl h), Bl.of_lt fun p hp r hr => by rw [List.mem_singleton.mp hr]; exact hlt p hp, hI⟩
theorem leaf_dat {l : List (Addr × Obj)} {v : Value} {x : Option (List (Option Lf))} (h : DatIn l v (cellD x)) : LeafV v (x.map txt) := by
  cases x with
  | none => cases h; exact .none
  | some nm => cases h; exact .some _ _
theorem leaf_len {row : List (Option Lf)} (hfit : ∀ t ∈ row, TokFit t) {n s : Nat} {x : Option (List (Option Lf))} (hx : x ∈ cell row n s) (hn : n ≤ 5) : lenO (x.map txt) ≤ 1000 := by
  cases x with
  | none => decide
  | some nm =>
    have h := (cell_ok hfit hx).1 nm rfl
    have := txt_len h.2.2
    show (txt nm).length ≤ 1000
    omega
theorem join_txt {row : List (Option Lf)} (hfit : ∀ t ∈ row, TokFit t) {n s n' s' : Nat} {x y : Option (List (Option Lf))} (hx : x ∈ cell row n s) (hy : y ∈ cell row n' s') : joinS (x.map txt) (y.map txt) = txt (joinG x y) := by
  have hC : txt [none] = Str.ofString "C" := rfl
  cases y with
  | none => cases x with
    | none => rfl
    | some a => rfl
  | some b =>
    have hb := ((cell_ok hfit hy).1 b rfl).1
    cases x with
    | none =>
      show Str.ofString "C" ++ Str.ofString "." ++ txt b = txt ([none] ++ b)
      rw [txt_app (by simp) hb, hC]
    | some a =>
      have ha := ((cell_ok hfit hx).1 a rfl).1
      show txt a ++ Str.ofString "." ++ txt b = txt (a ++ b)
      rw [txt_app ha hb]
theorem dat_at {l : List (Addr × Obj)} {vs : List Value} {xs : List (Option (List (Option Lf)))} {p : Nat} {v : Value} (hd : DatAll l vs (xs.map cellD)) (hv : vs[p]? = some v) : ∃ x, xs[p]? = some x ∧ DatIn l v (cellD x) := by
  have hp : p < (xs.map cellD).length := by rw [← hd.length]; exact (List.getElem?_eq_some_iff.mp hv).1
  obtain ⟨v', h1, h2⟩ := hd.get hp
  rw [hv] at h1
  cases h1
  rw [List.length_map] at hp
  rw [List.getElem_map] at h2
  exact ⟨xs[p], List.getElem?_eq_getElem hp, h2⟩
theorem step5 {vals : List Value} {G4 ys : List (Option (List (Option Lf)))} {x y : Option (List (Option Lf))} {q : Nat} {kk : Tok} {z : Str} (hz : z = txt (joinG x y)) (hy : ys[q]? = some y) (h : DatAll [] vals ((G4 ++ (ys.take q).map fun y => some (joinG x y)).map cellD)) :
    DatAll [] (vals ++ [.str z kk]) ((G4 ++ (ys.take (q + 1)).map fun y => some (joinG x y)).map cellD) := by
  have e : (G4 ++ (ys.take (q + 1)).map fun y => some (joinG x y)) = (G4 ++ (ys.take q).map fun y => some (joinG x y)) ++ [some (joinG x y)] := by
    rw [List.take_add_one, hy, List.map_append, ← List.append_assoc]; rfl
  rw [e, List.map_append]
  subst hz
  exact DatAll.append h (.cons (.str _ _) .nil)
theorem step4 {vals : List Value} {G3 xs ys : List (Option (List (Option Lf)))} {x : Option (List (Option Lf))} {p : Nat} (hx : xs[p]? = some x)
    (h : DatAll [] vals (((G3 ++ (xs.take p).flatMap fun x => ys.map fun y => some (joinG x y)) ++ ys.map fun y => some (joinG x y)).map cellD)) :
    DatAll [] vals ((G3 ++ (xs.take (p + 1)).flatMap fun x => ys.map fun y => some (joinG x y)).map cellD) := by
  have e : (G3 ++ (xs.take (p + 1)).flatMap fun x => ys.map fun y => some (joinG x y)) = (G3 ++ (xs.take p).flatMap fun x => ys.map fun y => some (joinG x y)) ++ ys.map fun y => some (joinG x y) := by
    rw [List.take_add_one, hx, List.flatMap_append, ← List.append_assoc]
    simp
  rw [e]; exact h
theorem step3 {row : List (Option Lf)} {vals : List Value} {i j k : Nat} (h : DatAll [] vals (((List.range k).flatMap (cutG row i j) ++ (cell row k j).flatMap fun x => (cell row (i - k) (j + k + 1)).map fun y => some (joinG x y)).map cellD)) :
    DatAll [] vals (((List.range (k + 1)).flatMap (cutG row i j)).map cellD) := by
  have e : (List.range (k + 1)).flatMap (cutG row i j) = (List.range k).flatMap (cutG row i j) ++ (cell row k j).flatMap fun x => (cell row (i - k) (j + k + 1)).map fun y => some (joinG x y) := by
    rw [List.range_succ, List.flatMap_append]
    simp [cutG]
  rw [e]; exact h
theorem line_step {row : List (Option Lf)} {tl : List (Addr × Obj)} {vals nvals : List Value} {i j nn : Nat} {Nm : Addr} (h : DatAll tl vals ((List.range j).map fun s => listD (cell row (i + 1) s))) (hn : DatAll [] nvals (((List.range (i + 1)).flatMap (cutG row i j)).map cellD)) :
    DatAll (tl ++ [(Nm, listOf nvals.toArray nn)]) (vals ++ [.ref Nm]) ((List.range (j + 1)).map fun s => listD (cell row (i + 1) s)) := by
  rw [List.range_succ, List.map_append]
  refine DatAll.append (h.mono fun p hp => List.mem_append_left _ hp) (.cons (.list (List.mem_append_right _ (List.Mem.head _)) ?_) .nil)
  rw [cell_succ]
  exact hn.mono fun _ hp => (List.not_mem_nil hp).elim
theorem table_step {row : List (Option Lf)} {X0 tl1 tl2 : List (Addr × Obj)} {tvals lvals : List Value} {i ln : Nat} {Ln : Addr} (h : DatAll (X0 ++ tl1) tvals ((List.range (i + 1)).map (lineD row))) (hl : DatAll tl2 lvals ((List.range (row.length - (i + 1))).map fun s => listD (cell row (i + 1) s))) :
    DatAll (X0 ++ (tl1 ++ ((Ln, listOf lvals.toArray ln) :: tl2))) (tvals ++ [.ref Ln]) ((List.range (i + 1 + 1)).map (lineD row)) := by
  rw [List.range_succ, List.map_append]
  refine DatAll.append (h.mono fun p hp => ?_) (.cons (.list (List.mem_append_right _ (List.mem_append_right _ (List.Mem.head _))) (hl.mono fun p hp => List.mem_append_right _ (List.mem_append_right _ (List.mem_cons_of_mem _ hp)))) .nil)
  rcases List.mem_append.mp hp with h | h
  · exact List.mem_append_left _ h
  · exact List.mem_append_right _ (List.mem_append_left _ h)
theorem cells_flat {l : List (Addr × Obj)} : ∀ {vs : List Value} (xs : List (Option (List (Option Lf)))), DatAll l vs (xs.map cellD) → DatAll [] vs (xs.map cellD) := by
  intro vs xs
  induction xs generalizing vs with
  | nil => intro h; cases h; exact .nil
  | cons x r ih =>
    intro h
    cases h with
    | cons h1 h2 =>
      refine .cons ?_ (ih h2)
      cases x with
      | none => cases h1; exact .none
      | some nm => cases h1; exact .str _ _
theorem names_dat {l : List (Addr × Obj)} {row : List (Option Lf)} {vs : List Value} (hfit : ∀ t ∈ row, TokFit t) (h2 : 2 ≤ row.length) (h : DatAll l vs ((cell row (row.length - 1) 0).map cellD)) : DatAll [] vs ((namesG row).map fun nm => Dat.str (txt nm)) := by
  have h := cells_flat _ h
  rw [names_cell row (by omega), List.map_map]
  have e : (cell row (row.length - 1) 0).map ((fun nm => Dat.str (txt nm)) ∘ fun o => o.getD []) = (cell row (row.length - 1) 0).map cellD := by
    apply List.map_congr_left
    intro o ho
    cases o with
    | none => exact absurd rfl ((cell_ok hfit ho).2 (by omega))
    | some nm => rfl
  rw [e]; exact h
theorem news_swap {h₀ h : Heap} {L : Addr} {a b : Addr × Obj} {r : List (Addr × Obj)} (N : News h₀ L h (a :: b :: r)) : News h₀ L h (b :: a :: r) := fun p hp => N p (by
  rcases List.mem_cons.mp hp with h | h
  · exact h ▸ List.mem_cons_of_mem _ List.mem_cons_self
  · rcases List.mem_cons.mp h with h | h
    · exact h ▸ List.mem_cons_self
    · exact List.mem_cons_of_mem _ (List.mem_cons_of_mem _ h))
theorem body_endS {h₀ : Heap} {D : Addr} {m₀ m' : Str → Option Value} {st : List Str} {R0 all add : List (Addr × Obj)} {Inv : List Value → List (Addr × Obj) → Prop} {s₁ : Shared} {L : Addr} {h' : Heap} {tk : Nat} {vals : List Value} {n : Nat}
    (F : Fr h₀ L h' m') (hm : ∀ y, st.contains y = false → m' y = m₀ y) (N : News h₀ L h' all) (hs : ∀ p ∈ (D, listOf vals.toArray n) :: (R0 ++ add), p ∈ all) (hb : Bl ((D, listOf vals.toArray n) :: R0) add) (hI : Inv vals add) : BodyD h₀ L D m₀ st R0 Inv s₁ .next { s₁ with heap := h', toks := tk } :=
  ⟨.inl rfl, h', tk, m', vals, n, add, rfl, F, hm, fun p hp => N p (hs p hp), hb, hI⟩
theorem body_end1 {h₀ : Heap} {D : Addr} {m₀ m' : Str → Option Value} {st : List Str} {R0 : List (Addr × Obj)} {q : Addr × Obj} {Inv : List Value → List (Addr × Obj) → Prop} {s₁ : Shared} {L : Addr} {h' : Heap} {tk : Nat} {vals : List Value} {n : Nat}
    (F : Fr h₀ L h' m') (hm : ∀ y, st.contains y = false → m' y = m₀ y) (N : News h₀ L h' ((D, listOf vals.toArray n) :: q :: R0)) (hb : ∀ p ∈ (D, listOf vals.toArray n) :: R0, p.1 ≠ q.1) (hI : Inv vals [q]) : BodyD h₀ L D m₀ st R0 Inv s₁ .next { s₁ with heap := h', toks := tk } :=
  body_endS F hm N (fun p hp => by
    rcases List.mem_cons.mp hp with h | h
    · exact h ▸ List.mem_cons_self
    · rcases List.mem_append.mp h with h | h
      · exact List.mem_cons_of_mem _ (List.mem_cons_of_mem _ h)
      · exact List.mem_cons_of_mem _ (List.mem_singleton.mp h ▸ List.mem_cons_self)) (fun p hp r hr => by rw [List.mem_singleton.mp hr]; exact hb p hp) hI
theorem off1_mem {D : Addr} : ∀ {l : List (Addr × Obj)}, LCg.Off1 D l → ∀ p ∈ l, p.1 ≠ D := by
  intro l
  induction l with
  | nil => intro _ p hp; exact (List.not_mem_nil hp).elim
  | cons q r ih =>
    intro h p hp
    rcases List.mem_cons.mp hp with rfl | hp
    · exact h.1
    · exact ih h.2 p hp
section
local macro_rules | `(tactic| walk_at $k:str) => (if (["CompSrc", "call builtin:list.append", "call ref", "subscriptTail Name BinOp ref int", "subscriptTail Subscript Name ref int", "subscriptTail Subscript BinOp ref int", "subscriptTail Name UnaryOp ref int", "subscriptTail Subscript Constant ref int", "call builtin:len"] : List String).contains k.getString then `(tactic| (refine Hold.out ?_)) else Lean.Macro.throwUnsupported)
theorem names_says {news : List (Addr × Obj)} {ra : Addr} {rvs : List Value} {rn : Nat} {row : List (Option Lf)} (hm : (ra, listOf rvs.toArray rn) ∈ news) (hD : DatAll [] rvs (row.map rowD)) (hfit : ∀ t ∈ row, TokFit t) (h2 : 2 ≤ row.length) (h6 : row.length ≤ 6) :
    Says w loose mean mg mb 84 [.ref ra] news 6 (fun tl r => ∃ D vals n, r = .ref D ∧ tl = [(D, listOf vals.toArray n)] ∧ DatAll [] vals ((namesG row).map fun nm => Dat.str (txt nm))) := by
  unfold Says
  k_fill
  w_top off
  intro dp un gd cn cs fa ccd cl outer A₀ base h₀ L m s Q E B F X N T hk hd hu hret
  refine wpAny_call ?_
  k_dflt ktr_enter
  refine wpAny_fog fun Q₁ hQ₁ => ?_
  k_steps
  refine Hold.mk ?_
  with_reducible rename Fr _ _ _ _ => F1
  with_reducible rename News _ _ _ _ => N1
  have hlen : rvs.length = row.length := by have := hD.length; rw [List.length_map] at this; exact this
  refine comp_src (fun i ys tl => DatAll tl ys ((List.range i).map fun s => listD (cell row 0 s))) rfl F1 N1 (by assumption) (by rw [hlen]; exact le6 h6) .nil ?turn0 ?done0
  case turn0 =>
    intro i v ys tl I oI C oC D m₂ g h tk E' hv hinv hbl hoC hx F2 N2
    have hc := cell0D hD hv
    k_steps
    with_reducible rename Fr _ _ _ _ => F3
    with_reducible rename News _ _ _ _ => N3
    rename_i l1
    exact elt_new F3 N3 (fun p hp => allLt_mem _ (by exact l1) p hp) (comp0_step hc hinv)
  case done0 =>
    intro ys tl g hinv hbl
    k_steps
    refine Hold.mk ?_
    rename_i D0 hh0 tk0 o1 T hh1 l1 hh2 F3 N3
    refine r_len N3 (List.mem_cons_of_mem _ (List.mem_cons_of_mem _ (List.mem_append_left _ hm))) hlen (le6 h6) ?_
    intro t1 tk1
    have hTR : ∀ p ∈ (D0, LCg.lst ys) :: (news ++ tl), p.1 ≠ T := fun p hp => Nat.ne_of_lt (allLt_mem (d := T) _ (by exact l1) p hp)
    have hI1 : DatAll (((D0, LCg.lst ys) :: tl) ++ []) [.ref D0] ((List.range 1).map (lineD row)) := by
      refine .cons (.list (n := ys.length) (List.mem_append_left _ (List.Mem.head _)) ?_) .nil
      rw [hlen] at hinv
      exact hinv.mono fun p hp => List.mem_append_left _ (List.mem_cons_of_mem _ hp)
    have hX0n : Bl news ((D0, LCg.lst ys) :: tl) := fun p hp q hq => by
      rcases List.mem_cons.mp hq with rfl | hq
      · exact off1_mem o1 p (List.mem_append_left _ hp)
      · exact hbl p hp q hq
    have hX0 : ∀ p ∈ (D0, LCg.lst ys) :: tl, p ∈ (D0, LCg.lst ys) :: (news ++ tl) := fun p hp => by
      rcases List.mem_cons.mp hp with rfl | hp
      · exact List.mem_cons_self
      · exact List.mem_cons_of_mem _ (List.mem_append_right _ hp)
    have hraR : (ra, listOf rvs.toArray rn) ∈ (D0, LCg.lst ys) :: (news ++ tl) := List.mem_cons_of_mem _ (List.mem_append_left _ hm)
    have hnR : ∀ p ∈ news, p ∈ (D0, LCg.lst ys) :: (news ++ tl) := fun p hp => List.mem_cons_of_mem _ (List.mem_append_left _ hp)
    generalize (D0, LCg.lst ys) :: (news ++ tl) = R at N3 hTR hX0 hraR hnR
    generalize (D0, LCg.lst ys) :: tl = X0 at hI1 hX0n hX0
    clear l1 o1 hinv hbl
    k_steps
    refine Hold.mk ?_
    with_reducible rename IsRange _ _ _ _ _ _ _ _ => rg
    with_reducible rename Fr _ _ _ _ => F4
    with_reducible rename News _ _ _ _ => N4
    refine range_D (D := T) (vals₀ := [.ref D0]) (k := row.length - 1) (st := [Str.ofString "size", Str.ofString "line", Str.ofString "start", Str.ofString "names", Str.ofString "cut", Str.ofString "first", Str.ofString "second"])
      (fun i vals tl => vals.length ≤ i + 1 ∧ DatAll (X0 ++ tl) vals ((List.range (i + 1)).map (lineD row))) rfl rg (small2 h6) size2 F4 N4 hTR ⟨by simp, hI1⟩ ?turn1 ?done1
    clear rg F4 N4
    case turn1 =>
      intro i t tvals tn tl1 I1 oI1 u1 h1 tk1 hi hinv1 hoff1 hbl1 F5 N5
      refine turn_cutD [(Str.ofString "row", .ref ra), (Str.ofString "table", .ref T)] F5 (keep_all (And.intro rfl (And.intro rfl (trivial)))) (fun y hy => locOut hy) ?_
      clear F5
      intro RQ1 g1 d1 o1 mX1 F5 hRQ1
      obtain ⟨htl, hD1⟩ := hinv1
      have hi5 : i ≤ 5 := i_le5 hi h6
      k_steps
      refine Hold.mk ?_
      rename_i _ _ Ln _ lt1 _ F6 N6
      refine r_len N6 (List.mem_cons_of_mem _ (List.mem_cons_of_mem _ (List.mem_append_left _ (List.mem_append_left _ hraR)))) hlen (le6 h6) ?_
      intro t2 tk2
      have hoffL : ∀ p ∈ (T, listOf tvals.toArray tn) :: (R ++ tl1 ++ [(I1, oI1)]), p.1 ≠ Ln := fun p hp => Nat.ne_of_lt (allLt_mem (d := Ln) _ (by exact lt1) p hp)
      have hT2 : (T, listOf tvals.toArray tn) ∈ (T, listOf tvals.toArray tn) :: (R ++ tl1 ++ [(I1, oI1)]) := List.Mem.head _
      have hX2 : ∀ p ∈ X0 ++ tl1, p ∈ (T, listOf tvals.toArray tn) :: (R ++ tl1 ++ [(I1, oI1)]) := fun p hp => List.mem_cons_of_mem _ (List.mem_append_left _ ((List.mem_append.mp hp).elim (fun h => List.mem_append_left _ (hX0 p h)) fun h => List.mem_append_right _ h))
      obtain ⟨C2, hC2⟩ : ∃ C, C = (T, listOf tvals.toArray tn) :: (R ++ tl1 ++ [(I1, oI1)]) := ⟨_, rfl⟩
      rw [← hC2] at N6 hoffL hT2 hX2
      clear N5 F5 lt1
      k_steps
      refine Hold.mk ?_
      with_reducible rename IsRange _ _ _ _ _ _ _ _ => rg
      with_reducible rename Fr _ _ _ _ => F7
      with_reducible rename News _ _ _ _ => N7
      refine range_D (D := Ln) (vals₀ := []) (k := row.length - (i + 1)) (st := [Str.ofString "start", Str.ofString "names", Str.ofString "cut", Str.ofString "first", Str.ofString "second"])
        (fun j vals tl => vals.length ≤ j ∧ DatAll tl vals ((List.range j).map fun s => listD (cell row (i + 1) s))) rfl rg (small0 h6 hi5) size0 F7 N7 hoffL ⟨by simp, .nil⟩ ?turn2 ?done2
      clear rg F7 N7
      case turn2 =>
        intro j t3 lvals ln tl2 I2 oI2 u2 h2 tk2 hj hinv2 hoff2 hbl2 F8 N8
        refine turn_cutD [(Str.ofString "table", .ref T), (Str.ofString "size", _), (Str.ofString "line", .ref Ln)] F8 (keep_all (And.intro rfl (And.intro rfl (And.intro rfl (trivial))))) (fun y hy => locOut hy) ?_
        clear F8
        intro RQ2 g2 d2 o2 mX2 F8 hRQ2
        obtain ⟨hll, hD2⟩ := hinv2
        k_steps
        refine Hold.mk ?_
        with_reducible rename IsRange _ _ _ _ _ _ _ _ => rg
        with_reducible rename And _ _ => lt2
        with_reducible rename Fr _ _ _ _ => F9
        with_reducible rename News _ _ _ _ => N9
        have hoffN : ∀ p ∈ (Ln, listOf lvals.toArray ln) :: (C2 ++ tl2 ++ [(I2, oI2)]), p.1 ≠ _ := fun p hp => Nat.ne_of_lt (allLt_mem _ (by exact lt2) p hp)
        have hT3 : (T, listOf tvals.toArray tn) ∈ (Ln, listOf lvals.toArray ln) :: (C2 ++ tl2 ++ [(I2, oI2)]) := List.mem_cons_of_mem _ (List.mem_append_left _ (List.mem_append_left _ hT2))
        have hX3 : ∀ p ∈ X0 ++ tl1, p ∈ (Ln, listOf lvals.toArray ln) :: (C2 ++ tl2 ++ [(I2, oI2)]) := fun p hp => List.mem_cons_of_mem _ (List.mem_append_left _ (List.mem_append_left _ (hX2 p hp)))
        obtain ⟨C3, hC3⟩ : ∃ C, C = (Ln, listOf lvals.toArray ln) :: (C2 ++ tl2 ++ [(I2, oI2)]) := ⟨_, rfl⟩
        rw [← hC3] at N9 hT3 hX3
        refine range_D (vals₀ := []) (k := i + 1) (st := [Str.ofString "cut", Str.ofString "first", Str.ofString "second"])
          (fun k vals tl => tl = [] ∧ vals.length ≤ 1764 * k ∧ DatAll [] vals (((List.range k).flatMap (cutG row i j)).map cellD)) rfl rg (small1 hi5) size1 F9 N9 (by rw [hC3]; exact hoffN) ⟨rfl, by simp, .nil⟩ ?turn3 ?done3
        clear rg F9 N9 F8 N8
        case turn3 =>
          intro k t4 nvals nn tl3 I3 oI3 u3 h3 tk3 hk3 hinv3 hoff3 hbl3 F9 N9
          refine turn_cutD [(Str.ofString "table", .ref T), (Str.ofString "size", _), (Str.ofString "start", _), (Str.ofString "names", _)] F9 (keep_all (And.intro rfl (And.intro rfl (And.intro rfl (And.intro rfl (trivial)))))) (fun y hy => locOut hy) ?_
          clear F9
          intro RQ3 g3 d3 o3 mX3 F9 hRQ3
          obtain ⟨rfl, hnl, hD3⟩ := hinv3
          k_steps
          (try refine Hold.mk ?_)
          with_reducible rename News _ _ _ _ => N10
          refine r_idxF (j := k) N10 (List.mem_cons_of_mem _ (List.mem_append_left _ (List.mem_append_left _ hT3))) hD1 (idx1 k) hk3 (le5s hi5) ?_
          intro v hv
          unfold lineD at hv
          obtain ⟨a1, us1, n1, rfl, hm1, hd1⟩ := datIn_list hv
          k_steps
          refine r_idxF (j := j) N10 (List.mem_cons_of_mem _ (List.mem_append_left _ (List.mem_append_left _ (hX3 _ hm1)))) hd1 (Int.zero_add _) (lt_row hj hk3) (sub16 h6) ?_
          intro v hv
          unfold listD at hv
          obtain ⟨a2, us2, n2, rfl, hm2, hd2⟩ := datIn_list hv
          have hl2 : us2.length = (cell row k j).length := by have := hd2.length; rw [List.length_map] at this; exact this
          have hc2 := cell_le row (n := k) j (k_le5 hk3 hi5)
          k_steps
          refine Hold.mk ?_
          have hT4 : (T, listOf tvals.toArray tn) ∈ C3 ++ [] ++ [(I3, oI3)] := List.mem_append_left _ (List.mem_append_left _ hT3)
          have hX4 : ∀ p ∈ X0 ++ tl1, p ∈ C3 ++ [] ++ [(I3, oI3)] := fun p hp => List.mem_append_left _ (List.mem_append_left _ (hX3 p hp))
          obtain ⟨C4, hC4⟩ : ∃ C, C = C3 ++ [] ++ [(I3, oI3)] := ⟨_, rfl⟩
          with_reducible rename Fr _ _ _ _ => F11
          rw [← hC4] at N10 hT4 hX4 hoff3
          refine loop_D (st := [Str.ofString "first", Str.ofString "second"]) (fun p vals tl => tl = [] ∧ vals.length ≤ 1764 * k + 42 * p ∧ DatAll [] vals (((List.range k).flatMap (cutG row i j) ++ ((cell row k j).take p).flatMap fun x => (cell row (i - k) (j + k + 1)).map fun y => some (joinG x y)).map cellD))
            rfl F11 N10 (hX4 _ hm2) hoff3 ⟨rfl, hnl, by simpa using hD3⟩ ?turn4 ?done4
          clear F11 N10 F9 N9
          case turn4 =>
            intro p v4 nvals4 nn4 tl4 I4 oI4 u4 h4 tk4 hv4 hinv4 hoff4 hbl4 F11 N11
            refine turn_cutD [(Str.ofString "table", .ref T), (Str.ofString "size", _), (Str.ofString "start", _), (Str.ofString "cut", _), (Str.ofString "names", _)] F11 (keep_all (And.intro rfl (And.intro rfl (And.intro rfl (And.intro rfl (And.intro rfl (trivial))))))) (fun y hy => locOut hy) ?_
            clear F11
            intro RQ4 g4 d4 o4 mX4 F11 hRQ4
            obtain ⟨rfl, hl4, hD4⟩ := hinv4
            obtain ⟨x, hx, hvx⟩ := dat_at hd2 hv4
            have hp42 : p < 42 := Nat.lt_of_lt_of_le (List.getElem?_eq_some_iff.mp hx).1 hc2
            have hLx := leaf_dat hvx
            have hxm := List.mem_of_getElem? hx
            k_steps
            (try refine Hold.mk ?_)
            with_reducible rename News _ _ _ _ => N12
            refine r_idxF (j := i - k) N12 (List.mem_cons_of_mem _ (List.mem_append_left _ (List.mem_append_left _ hT4))) hD1 (idx2 hk3) (Nat.lt_succ_of_le (Nat.sub_le _ _)) (le5s hi5) ?_
            intro v hv
            unfold lineD at hv
            obtain ⟨a5, us5, n5, rfl, hm5, hd5⟩ := datIn_list hv
            k_steps
            (try refine Hold.mk ?_)
            refine r_idxF (j := j + k + 1) N12 (List.mem_cons_of_mem _ (List.mem_append_left _ (List.mem_append_left _ (hX4 _ hm5)))) hd5 (idx3 j k) (jk_row hj hk3) (sub16 h6) ?_
            intro v hv
            unfold listD at hv
            obtain ⟨a6, us6, n6, rfl, hm6, hd6⟩ := datIn_list hv
            have hl6 : us6.length = (cell row (i - k) (j + k + 1)).length := by have := hd6.length; rw [List.length_map] at this; exact this
            have hc6 := cell_le row (n := i - k) (j + k + 1) (ik_le5 k hi5)
            k_steps
            refine Hold.mk ?_
            have hX5 : ∀ p ∈ X0 ++ tl1, p ∈ C4 ++ [] ++ [(I4, oI4)] := fun p hp => List.mem_append_left _ (List.mem_append_left _ (hX4 p hp))
            obtain ⟨C5, hC5⟩ : ∃ C, C = C4 ++ [] ++ [(I4, oI4)] := ⟨_, rfl⟩
            with_reducible rename Fr _ _ _ _ => F13
            rw [← hC5] at N12 hX5 hoff4
            refine loop_D (st := [Str.ofString "second"]) (fun q vals tl => tl = [] ∧ vals.length ≤ 1764 * k + 42 * p + q ∧ DatAll [] vals ((((List.range k).flatMap (cutG row i j) ++ ((cell row k j).take p).flatMap fun x => (cell row (i - k) (j + k + 1)).map fun y => some (joinG x y)) ++ ((cell row (i - k) (j + k + 1)).take q).map fun y => some (joinG x y)).map cellD))
              rfl F13 N12 (hX5 _ hm6) hoff4 ⟨rfl, hl4, by simpa using hD4⟩ ?turn5 ?done5
            clear F13 N12 F11 N11
            case turn5 =>
              intro q v5 nvals5 nn5 tl5 I5 oI5 u5 h5 tk5 hv5 hinv5 hoff5 hbl5 F13 N13
              refine turn_cutD [(Str.ofString "first", _), (Str.ofString "names", _)] F13 (keep_all (And.intro rfl (And.intro rfl (trivial)))) (fun y hy => locOut hy) ?_
              clear F13
              intro RQ5 g5 d5 o5 mX5 F13 hRQ5
              obtain ⟨rfl, hl5, hD5⟩ := hinv5
              obtain ⟨y, hy, hvy⟩ := dat_at hd6 hv5
              have hq42 : q < 42 := Nat.lt_of_lt_of_le (List.getElem?_eq_some_iff.mp hy).1 hc6
              have hLy := leaf_dat hvy
              have hym := List.mem_of_getElem? hy
              k_steps
              refine Hold.mk ?_
              with_reducible rename Fr _ _ _ _ => F14
              with_reducible rename News _ _ _ _ => N14
              refine says_use (by assumption) F14 (by assumption) N14 (by assumption) rfl (build_says (List.Mem.head _) hLx hLy (leaf_len hfit hxm (k_le5 hk3 hi5)) (leaf_len hfit hym (ik_le5 k hi5))) (depth2 hd) (units2 hu) ?_
              intro r tl h' tk' F15 N15 hne hOut
              obtain ⟨rfl, kk, rfl⟩ := hOut
              rw [List.append_nil] at N15
              k_steps
              refine Hold.mk ?_
              refine r_append (rest := C5 ++ [] ++ [(I5, oI5)]) F15 (fun p hp => N15 p (List.mem_cons_of_mem _ hp)) hoff5 (sum16 hl5 (k_le5 hk3 hi5) hp42 hq42) ?_
              intro h9 n9 F17 N17
              k_steps
              exact hRQ5 _ _ (body_end F17 (fun y hy => locIf (by decide) hy rfl) N17 ⟨rfl, by rw [List.length_append]; exact Nat.succ_le_succ hl5, step5 (join_txt hfit hxm hym) hy hD5⟩)
            case done5 =>
              intro nvals5 nn5 tl5 u5 h5 tk5 hinv5 hoff5 hbl5 F13 N13
              obtain ⟨rfl, hl5, hD5⟩ := hinv5
              rw [List.append_nil, hC5] at N13
              rw [hl6] at hl5 hD5
              rw [List.take_length] at hD5
              k_steps
              exact hRQ4 _ _ (body_end F13 (fun y hy => (locOut (contSub (by decide) hy)).trans (locIf (by decide) hy rfl)) N13 ⟨rfl, sum_c hl5 hc6, step4 hx hD5⟩)
          case done4 =>
            intro nvals4 nn4 tl4 u4 h4 tk4 hinv4 hoff4 hbl4 F11 N11
            obtain ⟨rfl, hl4, hD4⟩ := hinv4
            rw [List.append_nil, hC4] at N11
            rw [hl2] at hl4 hD4
            rw [List.take_length] at hD4
            k_steps
            exact hRQ3 _ _ (body_end F11 (fun y hy => (locOut (contSub (by decide) hy)).trans (locIf (by decide) hy rfl)) N11 ⟨rfl, sum_k hl4 hc2, step3 hD4⟩)
        case done3 =>
          intro nvals nn tl3 u3 h3 tk3 hinv3 hoff3 hbl3 F9 N9
          obtain ⟨rfl, hnl, hD3⟩ := hinv3
          rw [List.append_nil, hC3] at N9
          have N10 := news_swap N9
          clear N9
          k_steps
          refine Hold.mk ?_
          refine r_append F9 N10 (fun p hp => by
            rcases List.mem_cons.mp hp with h | h
            · rw [h]; exact (hoffN (Ln, listOf lvals.toArray ln) List.mem_cons_self).symm
            · exact hoff2 p h) (j16 hll hj h6) ?_
          intro h9 n9 F17 N17
          k_steps
          exact hRQ2 _ _ (body_end1 F17 (fun y hy => (locOut (contSub (by decide) hy)).trans (locIf (by decide) hy (locIf (by decide) hy rfl))) N17 (fun p hp => by
            rcases List.mem_cons.mp hp with h | h
            · rw [h]; exact hoffN (Ln, listOf lvals.toArray ln) List.mem_cons_self
            · exact hoffN p (List.mem_cons_of_mem _ h)) ⟨by rw [List.length_append]; exact Nat.succ_le_succ hll, line_step hD2 hD3⟩)
      case done2 =>
        intro lvals ln tl2 u2 h2 tk2 hinv2 hoff2 hbl2 F8 N8
        obtain ⟨hll, hD2⟩ := hinv2
        rw [hC2] at N8 hbl2
        have N9 := news_swap (a := (Ln, listOf lvals.toArray ln)) (b := (T, listOf tvals.toArray tn)) (r := R ++ tl1 ++ [(I1, oI1)] ++ tl2) N8
        clear N8
        k_steps
        refine Hold.mk ?_
        have hLT : T ≠ Ln := hoffL _ hT2
        refine r_append F8 N9 (fun p hp => by
          rcases List.mem_cons.mp hp with h | h
          · rw [h]; exact hLT.symm
          · rcases List.mem_append.mp h with h | h
            · exact hoff1 p h
            · exact (hbl2 (T, listOf tvals.toArray tn) (List.mem_cons_of_mem _ List.mem_cons_self) p h).symm) (Nat.le_trans htl (le5s hi5)) ?_
        intro h9 n9 F17 N17
        k_steps
        refine hRQ1 _ _ (body_endS (vals := tvals ++ [.ref Ln]) (n := n9) (add := (Ln, listOf lvals.toArray ln) :: tl2) F17 (fun y hy => (locOut (contSub (by decide) hy)).trans (locIf (by decide) hy (locIf (by decide) hy rfl))) N17 (fun p hp => ?_) (fun p hp q hq => ?_) ⟨by rw [List.length_append]; exact Nat.succ_le_succ htl, table_step hD1 hD2⟩)
        · rcases List.mem_cons.mp hp with h | h
          · exact h ▸ List.mem_cons_self
          · rcases List.mem_append.mp h with h | h
            · exact List.mem_cons_of_mem _ (List.mem_cons_of_mem _ (List.mem_append_left _ h))
            · rcases List.mem_cons.mp h with h | h
              · exact List.mem_cons_of_mem _ (h ▸ List.mem_cons_self)
              · exact List.mem_cons_of_mem _ (List.mem_cons_of_mem _ (List.mem_append_right _ h))
        · have hpC : p.1 ≠ Ln := by
            rcases List.mem_cons.mp hp with h | h
            · rw [h]; exact hLT
            · exact hoffL p (by rw [hC2]; exact List.mem_cons_of_mem _ h)
          rcases List.mem_cons.mp hq with h | h
          · rw [h]; exact hpC
          · rcases List.mem_cons.mp hp with h' | h'
            · rw [h']; exact hbl2 (T, listOf tvals.toArray tn) (List.mem_cons_of_mem _ List.mem_cons_self) q h
            · exact hbl2 p (List.mem_cons_of_mem _ (List.mem_cons_of_mem _ h')) q h
    case done1 =>
      intro tvals tn tl1 u1 h1 tk1 hinv1 hoff1 hbl1 F5 N5
      k_steps
      refine Hold.mk ?_
      refine r_lastF N5 (List.Mem.head _) hinv1.2 (sub16 h6) ?_
      intro v hv
      unfold lineD at hv
      obtain ⟨a2, vs2, n2, rfl, hm2, hd2⟩ := datIn_list hv
      have hX2 : ∀ p ∈ X0 ++ tl1, p ∈ (T, listOf tvals.toArray tn) :: (R ++ tl1) := fun p hp => List.mem_cons_of_mem _ ((List.mem_append.mp hp).elim (fun h => List.mem_append_left _ (hX0 p h)) fun h => List.mem_append_right _ h)
      k_steps
      refine r_idxF (j := 0) N5 (hX2 _ hm2) hd2 rfl (pos_row h2) (sub16 h6) ?_
      intro v hv
      unfold listD at hv
      obtain ⟨a3, vs3, n3, rfl, hm3, hd3⟩ := datIn_list hv
      k_steps
      subst hQ₁
      k_steps
      rename_i kF kN _ _
      have hX3 : ∀ p ∈ X0 ++ tl1, p ∉ news := fun p hp hn => by
        rcases List.mem_append.mp hp with h | h
        · exact hX0n p hn p h rfl
        · exact hbl1 p (List.mem_cons_of_mem _ (hnR p hn)) p h rfl
      refine hret _ [(a3, _)] _ _ kF (news_pick kN (hX2 _ hm3) (fun q hq => List.mem_cons_of_mem _ (List.mem_append_left _ (hnR q hq)))) (fun q hq p hp => ?_) ⟨a3, vs3, n3, rfl, rfl, ?_⟩
      · rw [List.mem_singleton.mp hp]
        rcases List.mem_append.mp hm3 with h | h
        · exact hX0n q hq _ h
        · exact hbl1 q (List.mem_cons_of_mem _ (hnR q hq)) _ h
      · exact names_dat hfit h2 hd3
end
end Mine
end

section
open PySem PySem.W PyProof.Rows PySem.Calls
set_option maxRecDepth 100000
set_option maxHeartbeats 800000
namespace Mine
section
variable {prog : Program} {w : World} {A : Around} {E : Value → Shared → Prop} {s : Shared} {env : Env} {h₀ : Heap} {target : PySem.Expr} {body : List Stmt} {Q : Flow → Shared → Prop}
/-- a list comprehension over range(a, b) -/
theorem comp_range {L : Addr} {m : Str → Option Value} {elt : PySem.Expr} {x : Str} {scope : Scope} {cl : List (Str × Addr)} {r : Addr} {a b : Int} {t u v : Tok} {n : Nat} {cst : List (Addr × Obj)} {Fin : Shared → List Value → List (Addr × Obj) → Prop} (Inv : Nat → List Value → List (Addr × Obj) → Prop) (hh : A.handled = none)
    (F : Fr h₀ L s.heap m) (N : News h₀ L s.heap cst) (hr : IsRange s.heap r a b 1 t u v) (hsm : Builtin.Range.small a b 1 = true) (hn : Builtin.Range.rangeSize a b 1 = ((n : Nat) : Int)) (hsz : n ≤ 16384) (h0 : Inv 0 [] [])
    (turn : ∀ i t ys tl I oI C oC D m₂ g h tk (E' : Value → Shared → Prop), i < n → Inv i ys tl → Bl cst tl → LCg.NsObj oC m₂ → m₂ x = some (.int (a + (i : Int)) t) → Fr h₀ L h m → News h₀ L h ((I, oI) :: (C, oC) :: (D, LCg.lst ys) :: (cst ++ tl)) →
      wpAny (model prog w) A (eval elt (compEnvC scope cl C env)) (EltEnd h₀ L m I oI C oC D ys (cst ++ tl) (fun y add => Inv (i + 1) (ys ++ [y]) (tl ++ add)) { ({ s with heap := g } : Shared) with heap := h, toks := tk }) E' { ({ s with heap := g } : Shared) with heap := h, toks := tk })
    (done : ∀ ys tl g, Inv n ys tl → Bl cst tl → Fin { s with heap := g } ys (cst ++ tl)) :
    LCg.CompSrc prog w A h₀ L m env elt x scope cl Fin (.ref r) s := by
  refine LCg.CompSrc.range hh F N hr hsm hn (by rw [sizeLine_eq]; omega) fun g => ?_
  have q := comp_rest (prog := prog) (w := w) (A := A) (s := { s with heap := g }) (env := env) (h₀ := h₀) (L := L) (m := m) (elt := elt) (x := x) (scope := scope) (cl := cl) (S := fun _ => True) (P := fun i v => ∃ t, v = .int (a + (i : Int)) t) (cst := cst) (N := n)
    (Fin := Fin { s with heap := g }) Inv (fun l => trivial) (fun i v ys tl I oI C oC D m₂ h tk E' hi hP hinv hbl hoC hx => by
      obtain ⟨t, rfl⟩ := hP
      exact turn i t ys tl I oI C oC D m₂ g h tk E' hi hinv hbl hoC hx) (fun ys tl hi hb => done ys tl g hi hb) n 0 (by omega) [] [] h0 Bl.nil
  rw [List.append_nil] at q
  exact q
end
end Mine
end

section
open PySem PySem.W PyProof.Rows PySem.Calls
set_option maxRecDepth 100000
set_option maxHeartbeats 800000
namespace Mine
/-- the locals where some names are told and what is stored may be anything -/
noncomputable abbrev locG (ps : List (Str × Value)) (st : List Str) (u m₀ : Str → Option Value) : Str → Option Value := kstB (locW st u m₀) ps
theorem locG_eq {ps : List (Str × Value)} {st : List Str} {m' m₀ : Str → Option Value} (hv : ∀ p ∈ ps, m' p.1 = some p.2) (h : ∀ y, (∀ p ∈ ps, y ≠ p.1) → st.contains y = false → m' y = m₀ y) : locG ps st m' m₀ = m' := by
  funext y
  refine kstB_eq hv fun hne => ?_
  show (if st.contains y then m' y else m₀ y) = m' y
  cases hc : st.contains y with
  | true => rfl
  | false => exact (h y hne hc).symm
theorem locOutG {y : Str} {st : List Str} {u m₀ : Str → Option Value} (hy : st.contains y = false) : ∀ {ps : List (Str × Value)}, (∀ p ∈ ps, y ≠ p.1) → locG ps st u m₀ y = m₀ y
  | [], _ => locOut hy
  | p :: r, h => by
    show (if y = p.1 then some p.2 else kstB (locW st u m₀) r y) = m₀ y
    rw [if_neg (h p List.mem_cons_self)]
    exact locOutG hy fun q hq => h q (List.mem_cons_of_mem _ hq)
/-- a turn's end: the part of the ledger that is turned, what else lies, what is new -/
noncomputable def BodyG {σ : Type} (Led : σ → List (Addr × Obj)) (ps : σ → List (Str × Value)) (h₀ : Heap) (L : Addr) (m₀ : Str → Option Value) (st : List Str) (R0 : List (Addr × Obj)) (Inv : σ → List (Addr × Obj) → Prop) (s₁ : Shared) (f : Flow) (s₂ : Shared) : Prop :=
  (f = .next ∨ f = .cont) ∧ ∃ h' tk m' c add, s₂ = { s₁ with heap := h', toks := tk } ∧ Fr h₀ L h' m' ∧ (∀ p ∈ ps c, m' p.1 = some p.2) ∧ (∀ y, (∀ p ∈ ps c, y ≠ p.1) → st.contains y = false → m' y = m₀ y) ∧
    News h₀ L h' (Led c ++ (R0 ++ add)) ∧ Bl (Led c ++ R0) add ∧ Inv c add
section
variable {prog : Program} {w : World} {A : Around} {E : Value → Shared → Prop} {s : Shared} {env : Env} {h₀ : Heap} {target : PySem.Expr} {body : List Stmt} {Q : Flow → Shared → Prop}
theorem body_G {σ : Type} {Led : σ → List (Addr × Obj)} {ps : σ → List (Str × Value)} {L : Addr} {m₀ m' : Str → Option Value} {st : List Str} {R0 all add : List (Addr × Obj)} {Inv : σ → List (Addr × Obj) → Prop} {s₁ : Shared} {h' : Heap} {tk : Nat} {c : σ}
    (F : Fr h₀ L h' m') (hp : ∀ p ∈ ps c, m' p.1 = some p.2) (hm : ∀ y, (∀ p ∈ ps c, y ≠ p.1) → st.contains y = false → m' y = m₀ y) (N : News h₀ L h' all) (hs : ∀ p ∈ Led c ++ (R0 ++ add), p ∈ all) (hb : Bl (Led c ++ R0) add) (hI : Inv c add) :
    BodyG Led ps h₀ L m₀ st R0 Inv s₁ .next { s₁ with heap := h', toks := tk } := ⟨.inl rfl, h', tk, m', c, add, rfl, F, hp, hm, fun p h => N p (hs p h), hb, hI⟩
theorem items_G {σ : Type} {Led : σ → List (Addr × Obj)} {ps : σ → List (Str × Value)} {adr : List Addr} {I : Addr} {ic : String} {keep cst : List (Addr × Obj)} {st : List Str} {m₀ : Str → Option Value} {xs : List Itm} (Inv : Nat → σ → List (Addr × Obj) → Prop) (hadr : ∀ c, (Led c).map (·.1) = adr) (hkeep : ∀ p ∈ keep, p ∈ cst) (hI : I ∉ adr)
    (turn : ∀ i a v c tl oI u h tk, xs[i]? = some a → a.Is v h → Inv i c tl → (∀ p ∈ (cst ++ tl) ++ [(I, oI)], p.1 ∉ adr) → Bl cst tl →
      Fr h₀ env.locals h (locG (ps c) st u m₀) → News h₀ env.locals h (Led c ++ ((cst ++ tl) ++ [(I, oI)])) →
      wpAny (model prog w) A (assign target env v) (fun _ s₃ => wpAny (model prog w) A (execs body env) (BodyG Led ps h₀ env.locals m₀ st ((cst ++ tl) ++ [(I, oI)]) (fun c' add => Inv (i + 1) c' (tl ++ add)) { s with heap := h, toks := tk }) E s₃) E { s with heap := h, toks := tk })
    (done : ∀ c tl u h tk, Inv xs.length c tl → (∀ p ∈ cst ++ tl, p.1 ∉ adr) → Bl cst tl → Fr h₀ env.locals h (locG (ps c) st u m₀) → News h₀ env.locals h (Led c ++ (cst ++ tl)) → Q .next { s with heap := h, toks := tk }) :
    ∀ (k i : Nat), i + k = xs.length → ∀ c tl u, Inv i c tl → (∀ p ∈ cst ++ tl, p.1 ∉ adr ∧ p.1 ≠ I) → Bl cst tl →
      ItemsRest prog w A E h₀ env target body Q s [(I, ic)] keep (xs.drop i) (locG (ps c) st u m₀) (Led c ++ (cst ++ tl)) := by
  have inAdr : ∀ c, ∀ p ∈ Led c, p.1 ∈ adr := fun c p hp => hadr c ▸ List.mem_map.mpr ⟨p, hp, rfl⟩
  intro k
  induction k with
  | zero =>
    intro i hi c tl u hinv hoff hbl
    rw [List.drop_eq_nil_of_le (by omega)]
    exact fun h tk F N => done c tl u h tk (by rw [← hi]; exact hinv) (fun p hp => (hoff p hp).1) hbl F N
  | succ k ih =>
    intro i hi c tl u hinv hoff hbl
    have hlt : i < xs.length := by omega
    rw [List.drop_eq_getElem_cons hlt]
    intro v h tk hv F oI hoI N
    have N' : News h₀ env.locals h (Led c ++ ((cst ++ tl) ++ [(I, oI)])) := fun p hp => N p (by
      rcases List.mem_append.mp hp with h1 | h1
      · exact List.mem_append_right _ (List.mem_append_left _ h1)
      · rcases List.mem_append.mp h1 with h1 | h1
        · exact List.mem_append_right _ (List.mem_append_right _ h1)
        · exact List.mem_append_left _ h1)
    have hoffD : ∀ p ∈ (cst ++ tl) ++ [(I, oI)], p.1 ∉ adr := fun p hp => by
      rcases List.mem_append.mp hp with h1 | h1
      · exact (hoff p h1).1
      · rw [List.mem_singleton.mp h1]; exact hI
    refine wpAny_mono (turn i _ v c tl oI u h tk (List.getElem?_eq_getElem hlt) hv hinv hoffD hbl F N') (fun _ s₃ h₃ => wpAny_mono h₃ (fun f s₄ hb => ?_) fun _ _ x => x) fun _ _ x => x
    obtain ⟨hf, h', tk', m', c', add, rfl, F', hp1, hm, N2, hb2, hinv'⟩ := hb
    have hoffI : ∀ q ∈ add, q.1 ≠ I := fun q hq e => hb2 (I, oI) (List.mem_append_right _ (by simp)) q hq e.symm
    have hoffA : ∀ q ∈ add, q.1 ∉ adr := fun q hq e => by
      rw [← hadr c'] at e
      obtain ⟨p, hp, e⟩ := List.mem_map.mp e
      exact hb2 p (List.mem_append_left _ hp) q hq e
    have hoff' : ∀ p ∈ cst ++ (tl ++ add), p.1 ∉ adr ∧ p.1 ≠ I := fun p hp => by
      rw [← List.append_assoc] at hp
      rcases List.mem_append.mp hp with h1 | h1
      · exact hoff p h1
      · exact ⟨hoffA p h1, hoffI p h1⟩
    have fin : UnrEndW h₀ env.locals { s with heap := h, toks := tk } [(I, oI)] (fun m' n' => SubL keep n' ∧ ItemsRest prog w A E h₀ env target body Q s [(I, ic)] keep (xs.drop (i + 1)) m' n') { s with heap := h', toks := tk' } := by
      refine ⟨h', tk', m', Led c' ++ (cst ++ (tl ++ add)), rfl, F', fun p hp => N2 p ?_, fun p hp q hq => ?_, subL_of fun p hp => ?_, ?_⟩
      · rcases List.mem_append.mp hp with h1 | h1
        · exact List.mem_append_right _ (List.mem_append_left _ (List.mem_append_right _ h1))
        · rcases List.mem_append.mp h1 with h1 | h1
          · exact List.mem_append_left _ h1
          · rw [← List.append_assoc] at h1
            rcases List.mem_append.mp h1 with h1 | h1
            · exact List.mem_append_right _ (List.mem_append_left _ (List.mem_append_left _ h1))
            · exact List.mem_append_right _ (List.mem_append_right _ h1)
      · rw [List.mem_singleton.mp hq]
        rcases List.mem_append.mp hp with h1 | h1
        · exact fun e => hI (by have := inAdr c' p h1; rw [e] at this; exact this)
        · exact (hoff' p h1).2
      · exact List.mem_append_right _ (List.mem_append_left _ (hkeep p hp))
      · have g := ih (i + 1) (by omega) c' (tl ++ add) m' hinv' hoff' (hbl.app (hb2.sub fun p hp => List.mem_append_right _ (List.mem_append_left _ (List.mem_append_left _ hp))))
        rw [locG_eq hp1 hm] at g
        exact g
    rcases hf with rfl | rfl
    · exact fin
    · exact fin
/-- a loop over a list on the ledger, whose turns turn a part of the ledger and some locals -/
theorem loop_G {σ : Type} {Led : σ → List (Addr × Obj)} {ps : σ → List (Str × Value)} {adr : List Addr} {l : Addr} {vs : List Value} {nn : Nat} {cst : List (Addr × Obj)} {st : List Str} {m₀ : Str → Option Value} {c₀ : σ} (Inv : Nat → σ → List (Addr × Obj) → Prop) (hh : A.handled = none)
    (hadr : ∀ c, (Led c).map (·.1) = adr) (F : Fr h₀ env.locals s.heap m₀) (N : News h₀ env.locals s.heap (Led c₀ ++ cst)) (hl : (l, listOf vs.toArray nn) ∈ cst) (hoff : ∀ p ∈ cst, p.1 ∉ adr) (hx : ∀ p ∈ ps c₀, m₀ p.1 = some p.2) (h0 : Inv 0 c₀ [])
    (turn : ∀ i v c tl I oI u h tk, vs[i]? = some v → Inv i c tl → (∀ p ∈ (cst ++ tl) ++ [(I, oI)], p.1 ∉ adr) → Bl cst tl →
      Fr h₀ env.locals h (locG (ps c) st u m₀) → News h₀ env.locals h (Led c ++ ((cst ++ tl) ++ [(I, oI)])) →
      wpAny (model prog w) A (assign target env v) (fun _ s₃ => wpAny (model prog w) A (execs body env) (BodyG Led ps h₀ env.locals m₀ st ((cst ++ tl) ++ [(I, oI)]) (fun c' add => Inv (i + 1) c' (tl ++ add)) { s with heap := h, toks := tk }) E s₃) E { s with heap := h, toks := tk })
    (done : ∀ c tl u h tk, Inv vs.length c tl → (∀ p ∈ cst ++ tl, p.1 ∉ adr) → Bl cst tl → Fr h₀ env.locals h (locG (ps c) st u m₀) → News h₀ env.locals h (Led c ++ (cst ++ tl)) → Q .next { s with heap := h, toks := tk }) :
    wpAny (model prog w) A (pyIter (.ref l)) (fun it s₂ => TurnsAt prog w A h₀ env target body Q E it s₂) E s := by
  have F : Fr h₀ env.locals s.heap (locG (ps c₀) st m₀ m₀) := by rw [locG_eq hx fun _ _ _ => rfl]; exact F
  refine iter_listTurns hh F N (List.mem_append_right _ hl) rfl rfl fun I hI => ?_
  have hIa : I ∉ adr := fun h => by
    rw [← hadr c₀] at h
    obtain ⟨p, hp, e⟩ := List.mem_map.mp h
    have := hI p (List.mem_append_left _ hp)
    rw [e] at this; exact Nat.lt_irrefl _ this
  have g := items_G (prog := prog) (w := w) (A := A) (E := E) (s := s) (env := env) (h₀ := h₀) (target := target) (body := body) (Q := Q) (I := I) (ic := "list_iterator") (keep := [(l, listOf vs.toArray nn)]) (cst := cst) (st := st) (m₀ := m₀) (xs := vs.map .val) Inv hadr
    (fun p hp => by rw [List.mem_singleton.mp hp]; exact hl) hIa (fun i a v c tl oI u h tk ha hv => by
      rw [List.getElem?_map] at ha
      cases hx : vs[i]? with
      | none => rw [hx] at ha; cases ha
      | some v' =>
        rw [hx] at ha
        cases ha
        have e : v = v' := hv
        subst e
        exact turn i v c tl I oI u h tk hx) (fun c tl u h tk hv => done c tl u h tk (by rw [List.length_map] at hv; exact hv)) vs.length 0 (by rw [List.length_map]; omega) c₀ [] m₀ h0
    (fun p hp => by
      rw [List.append_nil] at hp
      exact ⟨hoff p hp, Nat.ne_of_lt (hI p (List.mem_append_right _ hp))⟩) Bl.nil
  rw [List.append_nil] at g
  exact g
theorem r_appendM {D : Addr} {vals : List Value} {n : Nat} {v : Value} {pre post : List (Addr × Obj)} {L : Addr} {m : Str → Option Value} {Q : Value → Shared → Prop} (F : Fr h₀ L s.heap m) (N : News h₀ L s.heap (pre ++ (D, listOf vals.toArray n) :: post)) (h1 : ∀ p ∈ pre, p.1 ≠ D) (h2 : ∀ p ∈ post, p.1 ≠ D) (hsz : vals.length ≤ 16384)
    (h : ∀ h' n', Fr h₀ L h' m → News h₀ L h' (pre ++ (D, listOf (vals ++ [v]).toArray n') :: post) → Q .none { s with heap := h' }) : wpAny (model prog w) A (call (.builtin "list.append") [.ref D, v]) Q E s := by
  refine r_append (n := n) (rest := pre ++ post) F (fun p hp => N p ?_) (fun p hp => (List.mem_append.mp hp).elim (h1 p) (h2 p)) hsz fun h' n' F' N' => h h' n' F' fun p hp => N' p ?_
  · rcases List.mem_cons.mp hp with q | q
    · exact List.mem_append_right _ (q ▸ List.mem_cons_self)
    · exact (List.mem_append.mp q).elim (List.mem_append_left _) fun q => List.mem_append_right _ (List.mem_cons_of_mem _ q)
  · rcases List.mem_append.mp hp with q | q
    · exact List.mem_cons_of_mem _ (List.mem_append_left _ q)
    · rcases List.mem_cons.mp q with q | q
      · exact q ▸ List.mem_cons_self
      · exact List.mem_cons_of_mem _ (List.mem_append_right _ q)
end
end Mine
end

section
open PySem PySem.W PyProof.Rows PySem.Calls
set_option maxRecDepth 100000
set_option maxHeartbeats 4000000
namespace Mine
variable {w : World} {loose : List Str} {mean : ExcName → Option Value} {mg mb : Str → Option Value}
section
variable {prog : Program} {A : Around} {E : Value → Shared → Prop} {s : Shared} {h₀ : Heap} {L l b : Addr} {m : Str → Option Value} {news : List (Addr × Obj)} {value slice : PySem.Expr} {vs ws : List Value} {n1 n2 : Nat} {Q : Value → Shared → Prop}
theorem r_addL (F : Fr h₀ L s.heap m) (N : News h₀ L s.heap news) (hl : (l, listOf vs.toArray n1) ∈ news) (hb : (b, listOf ws.toArray n2) ∈ news) (hsz : vs.length + ws.length ≤ 16384)
    (h : ∀ D h', Fr h₀ L h' m → News h₀ L h' ((D, listOf (vs ++ ws).toArray 0) :: news) → (∀ p ∈ news, p.1 < D) → Q (.ref D) { s with heap := h' }) : wpAny (model prog w) A (binaryOp .Add (.ref l) (.ref b)) Q E s :=
  add_lists F N ⟨_, (N _ hl).1, rfl, _, rfl⟩ ⟨_, (N _ hb).1, rfl, _, rfl⟩ (fun h' F' N' => h _ h' F' N' fun p hp => Heap.lt_size (N p hp).1) (by rw [sizeLine_eq]; omega)
theorem slice_mid (xs : List Value) (h : 2 ≤ xs.length) (h6 : xs.length ≤ 6) : (slicePick xs.toArray (some 1) (some (-1)) none).toList = (xs.drop 1).take (xs.length - 2) := by
  have e : sliceBounds (some 1) (some (-1)) none xs.toArray.size = (((1 : Nat) : Int), ((xs.length - 1 : Nat) : Int), 1) := by
    rw [List.size_toArray]
    rcases (by omega : xs.length = 2 ∨ xs.length = 3 ∨ xs.length = 4 ∨ xs.length = 5 ∨ xs.length = 6) with h | h | h | h | h <;> rw [h] <;> decide
  rw [kmk_pick_nat xs.toArray e]
  have : xs.length - 1 - 1 = xs.length - 2 := by omega
  rw [this]
theorem r_sliceMid {t u : Tok} (F : Fr h₀ L s.heap m) (N : News h₀ L s.heap news) (hl : (l, listOf vs.toArray n1) ∈ news) (h2 : 2 ≤ vs.length) (h6 : vs.length ≤ 6)
    (h : ∀ D h', Fr h₀ L h' m → News h₀ L h' ((D, listOf ((vs.drop 1).take (vs.length - 2)).toArray 0) :: news) → (∀ p ∈ news, p.1 < D) → Q (.ref D) { s with heap := h' })
    (hs : subscripted slice false (.ref l) (.ref s.heap.objs.size) = operate [.ref s.heap.objs.size, .ref l] (getItem (.ref l) (.ref s.heap.objs.size)) := by with_unfolding_all rfl) (ht : ∀ r, letTemporaryGo value (.ref l) r = pure () := by intro _; with_unfolding_all rfl) :
    wpAny (model prog w) A (subscriptTail value slice (.ref l) (.ref s.heap.objs.size)) Q E { s with heap := s.heap.push { cls := .type "slice", data := .fields #[.int 1 t, .int (-1) u, .none] } } :=
  kmk_slice_lit F N ⟨_, (N _ hl).1, rfl, _, rfl⟩ (.int _ _) (.int _ _) (slice_mid vs h2 h6) h hs ht (by rw [sizeLine_eq, List.size_toArray]; omega)
end
theorem datIn_tup {l : List (Addr × Obj)} {v : Value} {ds : List Dat} (h : DatIn l v (.tuple ds)) : ∃ a vs n, v = .ref a ∧ (a, tupOf vs n) ∈ l ∧ DatAll l vs ds := by
  cases h with
  | tuple hm hd => exact ⟨_, _, _, rfl, hm, hd⟩
theorem dat_two {l : List (Addr × Obj)} {vs : List Value} {d e : Dat} (h : DatAll l vs [d, e]) : ∃ v w, vs = [v, w] ∧ DatIn l v d ∧ DatIn l w e := by
  cases h with
  | cons h1 h => cases h with
    | cons h2 h => cases h; exact ⟨_, _, rfl, h1, h2⟩
theorem dat_get {α : Type} {l : List (Addr × Obj)} {vs : List Value} {xs : List α} {g : α → Dat} {p : Nat} {v : Value} (hd : DatAll l vs (xs.map g)) (hv : vs[p]? = some v) : ∃ x, xs[p]? = some x ∧ DatIn l v (g x) := by
  have hp : p < (xs.map g).length := by rw [← hd.length]; exact (List.getElem?_eq_some_iff.mp hv).1
  obtain ⟨v', h1, h2⟩ := hd.get hp
  rw [hv] at h1
  cases h1
  rw [List.length_map] at hp
  rw [List.getElem_map] at h2
  exact ⟨xs[p], List.getElem?_eq_getElem hp, h2⟩
theorem row_mid {ls : List (Option Lf)} {rvs : List Value} (h : DatAll [] rvs (([some Lf.e] ++ ls ++ [some Lf.e]).map rowD)) : rvs.length = ls.length + 2 ∧ DatAll [] ((rvs.drop 1).take (rvs.length - 2)) (ls.map rowD) := by
  have hl := h.length
  simp only [List.length_map, List.length_append, List.length_cons, List.length_nil] at hl
  refine ⟨by omega, ?_⟩
  cases rvs with
  | nil => simp at hl
  | cons a r =>
    simp only [List.map_append, List.map_cons, List.map_nil, List.cons_append, List.nil_append] at h
    cases h with
    | cons _ h =>
      have hr : r ≠ [] := by rintro rfl; simp at hl
      obtain ⟨r', z, rfl⟩ : ∃ r' z, r = r' ++ [z] := ⟨r.dropLast, r.getLast hr, (List.dropLast_concat_getLast hr).symm⟩
      obtain ⟨es, d, e, h1, _⟩ := h.snoc
      have e2 : es = ls.map rowD := (List.append_inj' e rfl).1.symm
      rw [e2] at h1
      have e3 : (((a :: (r' ++ [z])).drop 1).take ((a :: (r' ++ [z])).length - 2)) = r' := by simp
      rw [e3]; exact h1
section
variable {prog : Program} {A : Around} {E : Value → Shared → Prop} {s : Shared} {h₀ : Heap} {L l : Addr} {news L9 : List (Addr × Obj)} {value slice : PySem.Expr} {us : List Value} {n j : Nat} {k : Int} {u : Tok} {ns : List Nat} {Q : Value → Shared → Prop}
theorem r_idxW (N : News h₀ L s.heap news) (hm : (l, listOf us.toArray n) ∈ news) (hd : DatAll L9 us (ns.map fun (n : Nat) => Dat.int (n : Int)))
    (hj : k = (j : Int)) (hk : j < ns.length) (hM : ns.length ≤ 16384) (h : ∀ t, Q (.int ((ns.getD j 0 : Nat) : Int) t) s)
    (hs : subscripted slice false (.ref l) (.int k u) = operate [.ref l, .int k u] (getItem (.ref l) (.int k u)) := by with_unfolding_all rfl) :
    wpAny (model prog w) A (subscriptTail value slice (.ref l) (.int k u)) Q E s := by
  subst hj
  refine kd_item N hm hd (by omega) (by simpa using hk) (by omega) (fun v d hd' _ hin => ?_) hs
  rw [Int.toNat_natCast, List.getElem?_map, List.getElem?_eq_getElem hk] at hd'
  cases hd'
  cases hin
  have e : ns.getD j 0 = ns[j] := by simp [List.getD_eq_getElem?_getD, hk]
  rw [← e]
  exact h _
theorem r_lastW (N : News h₀ L s.heap news) (hm : (l, listOf us.toArray n) ∈ news) (hd : DatAll L9 us (ns.map fun (n : Nat) => Dat.int (n : Int)))
    (hk : ns ≠ []) (hM : ns.length ≤ 16384) (h : ∀ t, Q (.int ((ns.getLastD 0 : Nat) : Int) t) s)
    (hs : subscripted slice false (.ref l) (.int (-1) u) = operate [.ref l, .int (-1) u] (getItem (.ref l) (.int (-1) u)) := by with_unfolding_all rfl) :
    wpAny (model prog w) A (subscriptTail value slice (.ref l) (.int (-1) u)) Q E s := by
  have hlen : us.length = ns.length := by have := hd.length; simpa using this
  have hpos : 0 < ns.length := List.length_pos_iff.mpr hk
  obtain ⟨v, hv, hin⟩ := hd.get (k := ns.length - 1) (by simp; omega)
  rw [List.getElem_map] at hin
  cases hin
  have hsi : seqIndex? (-1) ns.length = some (ns.length - 1) := by simp [seqIndex?]; omega
  refine kde_neg ⟨_, (N _ hm).1, rfl, n, rfl⟩ (by decide) (by decide) (j := ns.length - 1) (by rw [hlen]; exact hsi) hv ?_ hs
  have e : ns.getLastD 0 = ns[ns.length - 1] := by
    rw [List.getLastD_eq_getLast?, List.getLast?_eq_getElem?, List.getElem?_eq_getElem (by omega)]; rfl
  rw [← e]
  exact h _
end
theorem far {Af K : Addr} {o1 o2 : Obj} {R0 : List (Addr × Obj)} {Z : Addr} (h1 : Af < Z) (h2 : K < Z) (h3 : ∀ p ∈ R0, p.1 < Z) : ∀ p ∈ [(Af, o1), (K, o2)] ++ R0, p.1 ≠ Z := fun p hp => by
  rcases List.mem_append.mp hp with h | h
  · simp only [List.mem_cons, List.not_mem_nil, or_false] at h
    rcases h with h | h <;> rw [h]
    · exact Nat.ne_of_lt h1
    · exact Nat.ne_of_lt h2
  · exact Nat.ne_of_lt (h3 p h)
theorem lower_dat {l : List (Addr × Obj)} {ways : List Nat} {ys : List Value} {t : Tok} (hD : DatAll l ys (((List.range (ways.length - 1)).map fun k => ways.getD k 0 + ways.getD (k + 1) 0).map fun (n : Nat) => Dat.int (n : Int))) :
    DatAll l ([.int ((ways.getD 0 0 : Nat) : Int) t] ++ ys) ((lowerG ways).map fun (n : Nat) => Dat.int (n : Int)) := by
  have e : ways.headD 0 = ways.getD 0 0 := by cases ways <;> rfl
  unfold lowerG
  rw [e]
  exact .cons (.int _ _) hD
theorem comp_step {ways : List Nat} {ys : List Value} {q : Nat} {t : Tok} (hD : DatAll [] ys (((List.range q).map fun k => ways.getD k 0 + ways.getD (k + 1) 0).map fun (n : Nat) => Dat.int (n : Int))) :
    DatAll [] (ys ++ [.int (((ways.getD q 0 : Nat) : Int) + ((ways.getD (q + 1) 0 : Nat) : Int)) t]) (((List.range (q + 1)).map fun k => ways.getD k 0 + ways.getD (k + 1) 0).map fun (n : Nat) => Dat.int (n : Int)) := by
  rw [List.range_succ, List.map_append, List.map_append]
  refine DatAll.append hD (.cons ?_ .nil)
  rw [← Int.natCast_add]
  exact .int _ _
noncomputable def tokD (t : Option Lf) : Dat := .str (ltx t)
noncomputable def stateD (s : List (Option Lf) × List Nat) : Dat := .tuple [.list (s.1.map tokD), .list (s.2.map fun (n : Nat) => Dat.int (n : Int))]
theorem state_in {Y : List (Addr × Obj)} {T P W : Addr} {pvs wvs : List Value} {pn wn : Nat} {parts : List (Option Lf)} {ways : List Nat} (ht : (T, tupOf [.ref P, .ref W] 0) ∈ Y) (hp : (P, listOf pvs.toArray pn) ∈ Y) (hw : (W, listOf wvs.toArray wn) ∈ Y)
    (hdp : DatAll Y pvs (parts.map tokD)) (hdw : DatAll Y wvs (ways.map fun (n : Nat) => Dat.int (n : Int))) : DatIn Y (.ref T) (stateD (parts, ways)) :=
  .tuple ht (.cons (.list hp hdp) (.cons (.list hw hdw) .nil))
theorem parts_snoc {Y : List (Addr × Obj)} {pvs : List Value} {parts : List (Option Lf)} {v : Value} {x : Option Lf} (h : DatAll Y pvs (parts.map tokD)) (hv : DatIn Y v (tokD x)) : DatAll Y (pvs ++ [v]) ((parts ++ [x]).map tokD) := by
  rw [List.map_append]; exact DatAll.append h (.cons hv .nil)
theorem ways_snoc {Y : List (Addr × Obj)} {wvs : List Value} {ways : List Nat} {n : Nat} {t : Tok} (h : DatAll Y wvs (ways.map fun (n : Nat) => Dat.int (n : Int))) : DatAll Y (wvs ++ [.int ((n : Nat) : Int) t]) ((ways ++ [n]).map fun (n : Nat) => Dat.int (n : Int)) := by
  rw [List.map_append]; exact DatAll.append h (.cons (.int _ _) .nil)
theorem turn_dat {X Y : List (Addr × Obj)} {sts : List (List (Option Lf) × List Nat)} {x : Option Lf} {j : Nat} {a b s : List (Option Lf) × List Nat} {avals : List Value} {T1 T2 : Addr} (hs : sts[j]? = some s) (he : stepG x s = [a, b]) (hX : ∀ p ∈ X, p ∈ Y)
    (h : DatAll X avals (((sts.take j).flatMap (stepG x)).map stateD)) (h1 : DatIn Y (.ref T1) (stateD a)) (h2 : DatIn Y (.ref T2) (stateD b)) : DatAll Y (avals ++ [.ref T1] ++ [.ref T2]) (((sts.take (j + 1)).flatMap (stepG x)).map stateD) := by
  have e : ((sts.take (j + 1)).flatMap (stepG x)).map stateD = ((sts.take j).flatMap (stepG x)).map stateD ++ [stateD a] ++ [stateD b] := by
    rw [List.take_add_one, hs, List.flatMap_append, List.map_append, List.append_assoc]
    simp [he]
  rw [e]
  exact DatAll.append (DatAll.append (h.mono hX) (.cons h1 .nil)) (.cons h2 .nil)
theorem due_part {α : Type} (a b : α) (ls : List (Option α)) (h : ls.length ≤ 4) (j : Nat) : (((statesG a ls).take j).flatMap fun s => List.replicate (s.2.getLastD 0) (s.1 ++ [some b])).length ≤ 42 := by
  have h1 := names_due a b ls h
  have h2 := h1.1.length_eq
  have h3 : (dueG a b ls).length = (((statesG a ls).take j).flatMap fun s => List.replicate (s.2.getLastD 0) (s.1 ++ [some b])).length + (((statesG a ls).drop j).flatMap fun s => List.replicate (s.2.getLastD 0) (s.1 ++ [some b])).length := by
    unfold dueG
    rw [← List.length_append, ← List.flatMap_append, List.take_append_drop]
  omega
section
local macro_rules | `(tactic| walk_at $k:str) => (if (["exec If", "CompSrc", "assign Tuple", "subscriptTail Name Slice ref ref", "subscriptTail Name Constant ref int", "subscriptTail Name UnaryOp ref int", "subscriptTail Name BinOp ref int", "subscriptTail Name Name ref int", "call type:int", "call builtin:len", "binaryOp Add ref ref", "binaryOp Mult ref int", "call builtin:list.append", "call builtin:list.extend", "binaryOp Add str str", "call builtin:str.join"] : List String).contains k.getString then `(tactic| (refine Hold.out ?_)) else Lean.Macro.throwUnsupported)
local macro_rules | `(tactic| walk_at "eval ListComp") => `(tactic| (k_here; k_dflt (refine LCg.ListComp_U (F₀ := by k_asm) (by with_unfolding_all rfl) (by decide) (by rfl) (by decide) (by rfl) ?_)))
/-- a turn of a loop is walked with what it does not read taken away: the state's rest, the locals that it does not read, the raise, the continuation -/
theorem turn_cut {α σ : Type} {M : Model} {A : Around} {t : Sem α} {t2 : Sem Flow} {Led : σ → List (Addr × Obj)} {ps : σ → List (Str × Value)} {h₀ h : Heap} {L : Addr} {m₀ M₀ : Str → Option Value} {st : List Str} {R0 : List (Addr × Obj)} {Inv : σ → List (Addr × Obj) → Prop} {s : Shared} {k : Nat} {E : Value → Shared → Prop}
    (xs : List (Str × Value)) (F : Fr h₀ L h M₀) (hx : ∀ p ∈ xs, M₀ p.1 = some p.2) (hM : ∀ c y, (∀ p ∈ ps c, y ≠ p.1) → st.contains y = false → M₀ y = m₀ y)
    (hw : ∀ R g d o mX, Fr h₀ L h (kstB mX xs) → (∀ h' k' m' c add, Fr h₀ L h' m' → (∀ p ∈ ps c, m' p.1 = some p.2) → (∀ y, (∀ p ∈ ps c, y ≠ p.1) → st.contains y = false → m' y = kstB mX xs y) → News h₀ L h' (Led c ++ (R0 ++ add)) → Bl (Led c ++ R0) add → Inv c add → R Flow.next ⟨h', g, d, k', o⟩) →
      wpAny M A t (fun _ s₃ => wpAny M A t2 R (fun _ _ => False) s₃) (fun _ _ => False) ⟨h, g, d, k, o⟩) :
    wpAny M A t (fun _ s₃ => wpAny M A t2 (BodyG Led ps h₀ L m₀ st R0 Inv { s with heap := h, toks := k }) E s₃) E { s with heap := h, toks := k } := by
  have e : kstB M₀ xs = M₀ := funext fun y => kstB_eq hx fun _ => rfl
  refine wpAny_mono (hw (BodyG Led ps h₀ L m₀ st R0 Inv { s with heap := h, toks := k }) s.gens s.drawn s.os M₀ (fr_keep F hx) fun h' k' m' c add F' hp hm N hb hI => ?_) (fun _ s₃ h3 => wpAny_mono h3 (fun _ _ x => x) fun _ _ x => x.elim) fun _ _ x => x.elim
  refine ⟨.inl rfl, h', k', m', c, add, rfl, F', hp, fun y h1 h2 => (hm y h1 h2).trans ?_, N, hb, hI⟩
  rw [e]; exact hM c y h1 h2
theorem told_cut {M : Model} {A : Around} {t : Sem Flow} {Q : Flow → Shared → Prop} {h₀ h : Heap} {g : Array GenState} {d : Drawn} {k : Nat} {o : OsState} {L : Addr} {ml : Str → Option Value} {R1 : List (Addr × Obj)} (nm : List (Option Lf)) (_F : Fr h₀ L h ml) (_N : News h₀ L h R1)
    (hw : ∀ R : Flow → Shared → Prop, (∀ h' k' D t1 t2 t3, Fr h₀ L h' (fun y => if y = Str.ofString "told" then some (.ref D) else ml y) → News h₀ L h' ((D, tupOf [.str (txt nm) t1, .str (told nm).1 t2, .int (told nm).2 t3] 0) :: R1) → (∀ p ∈ R1, p.1 < D) → R .next ⟨h', g, d, k', o⟩) → wpAny M A t R (fun _ _ => False) ⟨h, g, d, k, o⟩)
    (hQ : ∀ h' k' D t1 t2 t3, Fr h₀ L h' (fun y => if y = Str.ofString "told" then some (.ref D) else ml y) → News h₀ L h' ((D, tupOf [.str (txt nm) t1, .str (told nm).1 t2, .int (told nm).2 t3] 0) :: R1) → (∀ p ∈ R1, p.1 < D) → Q .next ⟨h', g, d, k', o⟩) :
    wpAny M A t Q (fun _ _ => False) ⟨h, g, d, k, o⟩ := hw Q hQ
theorem told_few {parts : List (Option Lf)} (h : parts.length ≠ 4) : told (parts ++ [some Lf.e]) = (Str.ofString "refused", 0) := by
  unfold told
  rw [show ((parts ++ [some Lf.e]).length == 5) = false from beq_eq_false_iff_ne.mpr (by rw [List.length_append, List.length_singleton]; omega)]
theorem told_four {parts : List (Option Lf)} (h : parts.length = 4) : told (parts ++ [some Lf.e]) = (match parts.getD 3 none with | some (.n i) => (Str.ofString "ours", i) | _ => (Str.ofString "no number", 0)) := by
  obtain ⟨a, b, c, d, rfl⟩ := list4 h
  rcases d with _ | _ | _ <;> rfl
theorem r_part {prog : Program} {A : Around} {E : Value → Shared → Prop} {s : Shared} {h₀ : Heap} {L l : Addr} {news L9 : List (Addr × Obj)} {value slice : PySem.Expr} {us : List Value} {n : Nat} {u : Tok} {parts : List (Option Lf)} {Q : Value → Shared → Prop} {x : Option Lf}
    (N : News h₀ L s.heap news) (hm : (l, listOf us.toArray n) ∈ news) (hd : DatAll L9 us (parts.map tokD)) (h4 : parts.length = 4) (hx : parts.getD 3 none = x) (h : ∀ t, Q (.str (ltx x) t) s)
    (hs : subscripted slice false (.ref l) (.int 3 u) = operate [.ref l, .int 3 u] (getItem (.ref l) (.int 3 u))) :
    wpAny (model prog w) A (subscriptTail value slice (.ref l) (.int 3 u)) Q E s := by
  refine kd_item N hm hd (by decide) (by simp [h4]) (by decide) (fun v d hd' _ hin => ?_) hs
  obtain ⟨a, b, c, e, rfl⟩ := list4 h4
  subst hx
  cases hd'
  cases hin
  exact h _
theorem datIn_none {Y : List (Addr × Obj)} {v : Value} (h : DatIn Y v (rowD none)) : v = .none := by cases h; rfl
theorem datIn_leaf {Y : List (Addr × Obj)} {v : Value} {lf : Lf} (h : DatIn Y v (rowD (some lf))) : ∃ t, v = .str (ltx (some lf)) t := by cases h; exact ⟨_, rfl⟩
theorem due_says {news : List (Addr × Obj)} {ra : Addr} {rvs : List Value} {rn : Nat} {ls : List (Option Lf)} (hm : (ra, listOf rvs.toArray rn) ∈ news) (hD : DatAll [] rvs (([some Lf.e] ++ ls ++ [some Lf.e]).map rowD)) (hfit : ∀ t ∈ ls, TokFit t) (h4 : ls.length ≤ 4) :
    Says w loose mean mg mb 96 [.ref ra] news 6 (fun tl r => ∃ D vals n, r = .ref D ∧ (D, listOf vals n) ∈ tl ∧ DatAll tl vals.toList ((dueG Lf.e Lf.e ls).map toldD)) := by
  unfold Says
  k_fill
  w_top off
  intro dp un gd cn cs fa ccd cl outer A₀ base h₀ L m s Q E B F X N T hk hd hu hret
  obtain ⟨h00, g00, d00, k00, o00⟩ := s
  dsimp only at F X N T hret
  refine wpAny_call ?_
  refine' code_defC ?k1 ?k2 ?k3 ?k4 ?k5 ?kA ?kF ?kK ?k6 ?k7 ?k8 ?k9 ?kB ?kD ?_ ?c2 ?c3 ?c4
  case kA => exact rfl
  case kF => exact rfl
  case kK => exact hk
  case k1 => k_asm
  case k2 => k_asm
  case k3 => k_asm
  case k4 => k_asm
  case k5 => k_asm
  case k6 => k_dflt k_is
  case k7 => k_dflt k_is
  case k8 => show dp < _; simp only [recursionLimit] at *; omega
  case k9 => exact BindsTo.of_eq rfl
  case kB => exact rfl
  case kD => decide +kernel
  case c2 => exact rfl
  case c3 => exact rfl
  case c4 => exact rfl
  intro g' L' h' tk' cells' FG' F' N' Y' B' X' T' l1
  (try k_lt l1)
  k_cells Y'
  (try simp only [List.cons_append, List.nil_append] at N')
  (try dsimp only)
  (try k_lift B')
  (try k_fold)
  refine wpAny_fog fun Q₁ hQ₁ => ?_
  k_steps
  refine Hold.mk ?_
  (try dsimp only)
  rename_i oK dK P0 _ lt1 W0 _ lt2 D0 _ lt3 S0 _ lt4 _ F1 N1
  obtain ⟨hrl, hmid⟩ := row_mid hD
  refine r_sliceMid (s := ⟨_, _, _, _, _⟩) F1 N1 (List.mem_cons_of_mem _ (List.mem_cons_of_mem _ (List.mem_cons_of_mem _ (List.mem_cons_of_mem _ (List.mem_cons_of_mem _ hm))))) (by rw [hrl]; exact Nat.le_add_left _ _) (by rw [hrl]; exact Nat.add_le_add_right h4 2) ?_
  intro DL h2 F2 N2 lt5
  generalize (rvs.drop 1).take (rvs.length - 2) = lvs at hmid N2
  have hlv : lvs.length = ls.length := by have := hmid.length; rw [List.length_map] at this; exact this
  k_steps
  refine Hold.mk ?_
  (try dsimp only)
  have hX0 : ∀ p ∈ [(S0, listOf #[Value.ref D0] 0), (D0, tupOf [.ref P0, .ref W0] 0), (W0, listOf #[Value.int 1 (tk' + 1)] 0), (P0, listOf #[Value.str (Str.ofString "") tk'] 0)],
      p ∈ (DL, listOf lvs.toArray 0) :: (S0, listOf #[Value.ref D0] 0) :: (D0, tupOf [.ref P0, .ref W0] 0) :: (W0, listOf #[Value.int 1 (tk' + 1)] 0) :: (P0, listOf #[Value.str (Str.ofString "") tk'] 0) :: news := fun p hp => List.mem_cons_of_mem _ (by
    simp only [List.mem_cons, List.not_mem_nil, or_false] at hp ⊢
    rcases hp with h | h | h | h
    · exact .inl h
    · exact .inr (.inl h)
    · exact .inr (.inr (.inl h))
    · exact .inr (.inr (.inr (.inl h))))
  have hX0n : Bl news [(S0, listOf #[Value.ref D0] 0), (D0, tupOf [.ref P0, .ref W0] 0), (W0, listOf #[Value.int 1 (tk' + 1)] 0), (P0, listOf #[Value.str (Str.ofString "") tk'] 0)] := fun p hp q hq => by
    simp only [List.mem_cons, List.not_mem_nil, or_false] at hq
    rcases hq with h | h | h | h <;> rw [h]
    · exact Nat.ne_of_lt (allLt_mem _ lt4.2.2.2.2 p hp)
    · exact Nat.ne_of_lt (allLt_mem _ lt3.2.2.2 p hp)
    · exact Nat.ne_of_lt (allLt_mem _ lt2.2.2 p hp)
    · exact Nat.ne_of_lt (allLt_mem _ lt1.2 p hp)
  have hI0 : DatIn ([(S0, listOf #[Value.ref D0] 0), (D0, tupOf [.ref P0, .ref W0] 0), (W0, listOf #[Value.int 1 (tk' + 1)] 0), (P0, listOf #[Value.str (Str.ofString "") tk'] 0)] ++ []) (.ref S0) (.list ((statesG Lf.e (ls.take 0)).map stateD)) := by
    refine .list (vs := [.ref D0]) (List.Mem.head _) (.cons (.tuple (vs := [.ref P0, .ref W0]) (n := 0) (List.Mem.tail _ (List.Mem.head _)) (.cons (.list (vs := [.str (Str.ofString "") tk']) (List.Mem.tail _ (List.Mem.tail _ (List.Mem.tail _ (List.Mem.head _)))) (.cons (.str _ _) .nil)) (.cons (.list (vs := [.int 1 (tk' + 1)]) (List.Mem.tail _ (List.Mem.tail _ (List.Mem.head _))) (.cons (.int _ _) .nil)) .nil))) .nil)
  have hl : (DL, listOf lvs.toArray 0) ∈ (DL, listOf lvs.toArray 0) :: (S0, listOf #[Value.ref D0] 0) :: (D0, tupOf [.ref P0, .ref W0] 0) :: (W0, listOf #[Value.int 1 (tk' + 1)] 0) :: (P0, listOf #[Value.str (Str.ofString "") tk'] 0) :: news := List.Mem.head _
  have hnC : ∀ p ∈ news, p ∈ (DL, listOf lvs.toArray 0) :: (S0, listOf #[Value.ref D0] 0) :: (D0, tupOf [.ref P0, .ref W0] 0) :: (W0, listOf #[Value.int 1 (tk' + 1)] 0) :: (P0, listOf #[Value.str (Str.ofString "") tk'] 0) :: news := fun p hp => by
    repeat (first | exact hp | refine List.mem_cons_of_mem _ ?_)
  have hDL : L' + 1 < DL := (lt5 (L' + 1, oK) (by simp))
  have hoffC : ∀ p ∈ (DL, listOf lvs.toArray 0) :: (S0, listOf #[Value.ref D0] 0) :: (D0, tupOf [.ref P0, .ref W0] 0) :: (W0, listOf #[Value.int 1 (tk' + 1)] 0) :: (P0, listOf #[Value.str (Str.ofString "") tk'] 0) :: news, p.1 ∉ [L' + 1] := fun p hp hq => by
    have hq := List.mem_singleton.mp hq
    rcases List.mem_cons.mp hp with h | hp
    · rw [h] at hq; exact Nat.ne_of_gt hDL hq
    rcases List.mem_cons.mp hp with h | hp
    · rw [h] at hq; exact Nat.ne_of_gt lt4.2.2.2.1 hq
    rcases List.mem_cons.mp hp with h | hp
    · rw [h] at hq; exact Nat.ne_of_gt lt3.2.2.1 hq
    rcases List.mem_cons.mp hp with h | hp
    · rw [h] at hq; exact Nat.ne_of_gt lt2.2.1 hq
    rcases List.mem_cons.mp hp with h | hp
    · rw [h] at hq; exact Nat.ne_of_gt lt1.1 hq
    have := l1 p hp
    rw [hq] at this
    exact Nat.lt_irrefl _ (Nat.lt_of_succ_lt this)
  have N3 : News g' L' h2 ([(L' + 1, oK)] ++ ((DL, listOf lvs.toArray 0) :: (S0, listOf #[Value.ref D0] 0) :: (D0, tupOf [.ref P0, .ref W0] 0) :: (W0, listOf #[Value.int 1 (tk' + 1)] 0) :: (P0, listOf #[Value.str (Str.ofString "") tk'] 0) :: news)) := fun p hp => N2 p (by
    simp only [List.cons_append, List.nil_append, List.mem_cons] at hp ⊢
    rcases hp with h | h | h | h | h | h | h
    · exact .inr (.inr (.inr (.inr (.inr (.inl h)))))
    · exact .inl h
    · exact .inr (.inl h)
    · exact .inr (.inr (.inl h))
    · exact .inr (.inr (.inr (.inl h)))
    · exact .inr (.inr (.inr (.inr (.inl h))))
    · exact .inr (.inr (.inr (.inr (.inr (.inr h))))))
  clear N2 N1 F1
  generalize (DL, listOf lvs.toArray 0) :: (S0, listOf #[Value.ref D0] 0) :: (D0, tupOf [.ref P0, .ref W0] 0) :: (W0, listOf #[Value.int 1 (tk' + 1)] 0) :: (P0, listOf #[Value.str (Str.ofString "") tk'] 0) :: news = C at hX0 hl hnC hoffC N3
  generalize [(S0, listOf #[Value.ref D0] 0), (D0, tupOf [.ref P0, .ref W0] 0), (W0, listOf #[Value.int 1 (tk' + 1)] 0), (P0, listOf #[Value.str (Str.ofString "") tk'] 0)] = X0 at hX0 hX0n hI0
  clear lt1 lt2 lt3 lt4 lt5 hDL
  refine loop_G (Led := fun c : Obj × Value => [(L' + 1, c.1)]) (ps := fun c => [(Str.ofString "states", c.2)]) (adr := [L' + 1]) (c₀ := (oK, .ref S0)) (st := [Str.ofString "leaf", Str.ofString "after", Str.ofString "parts", Str.ofString "lower"])
    (fun i c tl => (∃ ov, c.1.data = .cell ov) ∧ DatIn (X0 ++ tl) c.2 (.list ((statesG Lf.e (ls.take i)).map stateD))) rfl (fun _ => rfl) F2 N3 hl hoffC (fun p hp => by rw [List.mem_singleton.mp hp]; exact if_pos rfl) ⟨⟨_, dK⟩, hI0⟩ ?turn1 ?done1
  clear F2 N3
  case turn1 =>
    intro i v c tl1 I1 oI1 u1 h1 tk1 hv hinv1 hoff1 hbl1 F3 N4
    obtain ⟨oc, sv⟩ := c
    obtain ⟨⟨ov, hoc⟩, hS1⟩ := hinv1
    obtain ⟨S1, svs, sn, rfl, hmS, hdS⟩ := datIn_list hS1
    dsimp only at F3 N4 hoc
    simp only [List.cons_append, List.nil_append] at N4
    obtain ⟨x, hx, hvx⟩ := dat_get hmid hv
    have hi4 : i < ls.length := (List.getElem?_eq_some_iff.mp hx).1
    obtain ⟨hsok, hscount⟩ := states_ok Lf.e ls i (Nat.le_of_lt hi4)
    have hi3 : i ≤ 3 := Nat.le_of_lt_succ (Nat.lt_of_lt_of_le hi4 h4)
    k_steps
    refine Hold.mk ?_
    (try dsimp only)
    rename_i _ Af _ lt1 _ F5 N5
    have hX2 : ∀ p ∈ X0 ++ tl1, p ∈ C ++ tl1 ++ [(I1, oI1)] := fun p hp => List.mem_append_left _ ((List.mem_append.mp hp).elim (fun h => List.mem_append_left _ (hX0 p h)) fun h => List.mem_append_right _ h)
    have hAK : L' + 1 < Af := lt1.1
    have hoff2 : ∀ p ∈ C ++ tl1 ++ [(I1, oI1)], p.1 ∉ [Af, L' + 1] := fun p hp hq => by
      rcases List.mem_cons.mp hq with h | h
      · have := allLt_mem _ lt1.2 p hp
        rw [h] at this; exact Nat.lt_irrefl _ this
      · exact hoff1 p hp h
    obtain ⟨C2, hC2⟩ : ∃ D, D = C ++ tl1 ++ [(I1, oI1)] := ⟨_, rfl⟩
    rw [← hC2] at N5 hX2 hoff2
    refine loop_G (Led := fun c : List Value × Nat × Obj => [(Af, listOf c.1.toArray c.2.1), (L' + 1, c.2.2)]) (ps := fun _ => []) (adr := [Af, L' + 1]) (c₀ := ([], 0, oc)) (st := [Str.ofString "parts", Str.ofString "lower"])
      (fun j c tl => (∃ ov, c.2.2.data = .cell ov) ∧ c.1.length ≤ 2 * j ∧ DatAll ((X0 ++ tl1) ++ tl) c.1 ((((statesG Lf.e (ls.take i)).take j).flatMap (stepG x)).map stateD)) rfl (fun _ => rfl) F5 N5 (hX2 _ hmS) hoff2 (fun p hp => (List.not_mem_nil hp).elim) ⟨⟨_, hoc⟩, by simp, .nil⟩ ?turn2 ?done2
    clear F5 N5 F3 N4 lt1
    case turn2 =>
      intro j v2 c2 tl2 I2 oI2 u2 h2 tk2 hv2 hinv2 hoffA hbl2 F6 N6
      have hX3 : ∀ p ∈ X0 ++ tl1, p ∈ C2 ++ tl2 ++ [(I2, oI2)] := fun p hp => List.mem_append_left _ (List.mem_append_left _ (hX2 p hp))
      generalize C2 ++ tl2 ++ [(I2, oI2)] = R0 at hX3 hoffA N6
      refine turn_cut [(Str.ofString "leaf", v), (Str.ofString "after", .ref Af)] F6 (fun p hp => by
        simp only [List.mem_cons, List.not_mem_nil, or_false] at hp
        rcases hp with h | h <;> rw [h] <;> rfl) (fun _ y hn hy => locOutG hy hn) ?_
      clear F6
      intro RQ g9 d9 o9 mX F6 hRQ
      obtain ⟨avals, an, oc2⟩ := c2
      obtain ⟨⟨ov2, hoc2⟩, hal, hdA⟩ := hinv2
      dsimp only at N6 hoc2 hal hdA
      simp only [List.cons_append, List.nil_append] at N6
      obtain ⟨⟨parts, ways⟩, hst, hin⟩ := dat_get hdS hv2
      obtain ⟨t2, tvs, tn, rfl, hmt, hdt⟩ := datIn_tup hin
      obtain ⟨pv, wv, rfl, hinP, hinW⟩ := dat_two hdt
      obtain ⟨Pa, pvs, pn, rfl, hmP, hdP⟩ := datIn_list hinP
      obtain ⟨Wa, wvs, wn, rfl, hmW, hdW⟩ := datIn_list hinW
      obtain ⟨hw0, hwl, hpl⟩ := hsok _ (List.mem_of_getElem? hst)
      dsimp only at hdP hdW hw0 hwl hpl
      have hj8 : j < 8 := by
        have h1 := (List.getElem?_eq_some_iff.mp hst).1
        have h2 : 2 ^ i ≤ 2 ^ 3 := Nat.pow_le_pow_right (by decide) hi3
        rw [hscount] at h1
        exact Nat.lt_of_lt_of_le h1 h2
      have hw16 : ways.length ≤ 16384 := Nat.le_trans hwl (Nat.le_trans (Nat.succ_le_succ hi3) (by decide))
      have hp16 : parts.length + 1 ≤ 16384 := Nat.le_trans (Nat.succ_le_succ hpl) (Nat.le_trans (Nat.succ_le_succ (Nat.succ_le_succ hi3)) (by decide))
      have hw16s : ways.length + 1 ≤ 16384 := Nat.le_trans (Nat.succ_le_succ hwl) (Nat.le_trans (Nat.succ_le_succ (Nat.succ_le_succ hi3)) (by decide))
      have ha16 : avals.length + 1 ≤ 16384 := dbl16 hal hj8
      k_steps
      refine Hold.mk ?_
      (try dsimp only)
      refine unpackN_ F6 N6 ⟨_, (N6 _ (List.mem_cons_of_mem _ (List.mem_cons_of_mem _ (hX3 _ hmt)))).1, rfl, tn, rfl⟩ rfl rfl rfl ?_
      intro h7 F7 N7
      k_steps
      with_reducible rename Fr _ _ _ _ => F8
      with_reducible rename News _ _ _ _ => N8
      have hoffK : ∀ p ∈ R0, p.1 ≠ L' + 1 := fun p hp h => hoffA p hp (by rw [h]; exact List.mem_cons_of_mem _ List.mem_cons_self)
      have hoffAf : ∀ p ∈ R0, p.1 ≠ Af := fun p hp h => hoffA p hp (by rw [h]; exact List.mem_cons_self)
      refine storeX_C F8 N8 rfl (.tail (Nat.ne_of_gt hAK) (.head hoffK)) hoc2 ?_
      intro h8 oc3 F9 N9 hoc3
      (try dsimp only at N9)
      clear F8 N8 F7 N7 F6 N6
      have hwpos : 0 < ways.length := List.length_pos_iff.mpr hw0
      have hwlen : wvs.length = ways.length := by have := hdW.length; rw [List.length_map] at this; exact this
      k_steps
      refine Hold.mk ?_
      (try dsimp only)
      refine r_idxW (j := 0) N9 (List.mem_cons_of_mem _ (List.mem_cons_of_mem _ (hX3 _ hmW))) hdW rfl hwpos hw16 ?_
      intro t3
      k_steps
      refine Hold.mk ?_
      (try dsimp only)
      rename_i W1 _ _ N10 ltW
      refine r_len N10 (List.mem_cons_of_mem _ (List.mem_cons_of_mem _ (List.mem_cons_of_mem _ (hX3 _ hmW)))) hwlen hw16 ?_
      intro t4 tk4
      k_steps
      refine Hold.mk ?_
      (try dsimp only)
      with_reducible rename IsRange _ _ _ _ _ _ _ _ => rg
      with_reducible rename Fr _ _ _ _ => F11
      with_reducible rename News _ _ _ _ => N11
      refine comp_range (n := ways.length - 1) (fun q ys tl => tl = [] ∧ DatAll [] ys (((List.range q).map fun k => ways.getD k 0 + ways.getD (k + 1) 0).map fun (n : Nat) => Dat.int (n : Int))) rfl F11 N11 rg (small1n hw16) size1n (Nat.le_trans (Nat.sub_le _ _) hw16) ⟨rfl, .nil⟩ ?turnC ?doneC
      case turnC =>
        intro q t5 ys tl I3 oI3 CC oCC DD m3 g3 h9 tk9 E' hq hinv3 hbl3 hoC hx3 F12 N12
        obtain ⟨rfl, hD3⟩ := hinv3
        have hmW3 : ∀ p ∈ X0 ++ tl1, p ∈ (I3, oI3) :: (CC, oCC) :: (DD, LCg.lst ys) :: ((W1, listOf #[Value.int ((ways.getD 0 0 : Nat) : Int) t3] 0) :: (Af, listOf avals.toArray an) :: (L' + 1, oc3) :: (R0) ++ []) := fun p hp =>
          List.mem_cons_of_mem _ (List.mem_cons_of_mem _ (List.mem_cons_of_mem _ (List.mem_append_left _ (List.mem_cons_of_mem _ (List.mem_cons_of_mem _ (List.mem_cons_of_mem _ (hX3 p hp)))))))
        k_steps
        refine Hold.mk ?_
        (try dsimp only)
        refine r_idxW (j := q) N12 (hmW3 _ hmW) hdW (idx1 q) (Nat.lt_of_lt_of_le hq (Nat.sub_le _ _)) hw16 ?_
        intro t6
        k_steps
        refine Hold.mk ?_
        (try dsimp only)
        refine r_idxW (j := q + 1) N12 (hmW3 _ hmW) hdW (idx4 q) (Nat.add_lt_of_lt_sub hq) hw16 ?_
        intro t7
        k_steps
        exact elt_end F12 N12 (fun p hp => hp) ⟨rfl, comp_step hD3⟩
      case doneC =>
        intro ys tl g3 hinv3 hbl3
        obtain ⟨rfl, hD3⟩ := hinv3
        k_steps
        refine Hold.mk ?_
        (try dsimp only)
        rename_i LD _ _ F12 N12 o1
        have hys : ys.length = ways.length - 1 := by have := hD3.length; simpa using this
        rw [List.append_nil] at N12
        refine r_addL F12 N12 (List.mem_cons_of_mem _ (List.Mem.head _)) (List.Mem.head _) (Nat.le_trans (Nat.le_of_eq (one_more hys hwpos)) hw16) ?_
        intro Lw h10 F13 N13 ltL
        have hdL := lower_dat (t := t3) hD3
        have N14 : News g' L' h10 ((Lw, listOf ([Value.int ((ways.getD 0 0 : Nat) : Int) t3] ++ ys).toArray 0) :: (Af, listOf avals.toArray an) :: (L' + 1, oc3) :: (R0)) := fun p hp => N13 p (by
          rcases List.mem_cons.mp hp with h | h
          · exact h ▸ List.mem_cons_self
          · exact List.mem_cons_of_mem _ (List.mem_cons_of_mem _ (List.mem_cons_of_mem _ h)))
        have hneL : ∀ p ∈ (Af, listOf avals.toArray an) :: (L' + 1, oc3) :: (R0), p.1 < Lw := fun p hp => ltL p (List.mem_cons_of_mem _ (List.mem_cons_of_mem _ hp))
        clear N13 N12 F12 ltL
        have hlwl : ([Value.int ((ways.getD 0 0 : Nat) : Int) t3] ++ ys).length = ways.length := by rw [List.length_append]; exact one_more hys hwpos
        generalize [Value.int ((ways.getD 0 0 : Nat) : Int) t3] ++ ys = lw at hdL N14 hlwl
        cases x with
        | none =>
          obtain rfl := datIn_none hvx
          k_steps
          refine Hold.mk ?_
          (try dsimp only)
          refine wpAny_If ?_
          k_steps
          refine Hold.mk ?_
          (try dsimp only)
          with_reducible rename And _ _ => lt6
          with_reducible rename Fr _ _ _ _ => F15
          with_reducible rename News _ _ _ _ => N15
          rename_i T1 _
          have hK3 : ∀ p ∈ (L' + 1, oc3) :: (R0), p.1 ≠ Af := fun p hp => by
            rcases List.mem_cons.mp hp with h | h
            · rw [h]; exact Nat.ne_of_lt hAK
            · exact hoffAf p h
          refine r_appendM (pre := [(_, _), (Lw, _)]) F15 N15 (fun p hp => by
            simp only [List.mem_cons, List.not_mem_nil, or_false] at hp
            rcases hp with h | h
            · rw [h]; exact Nat.ne_of_gt lt6.2.1
            · rw [h]; exact Nat.ne_of_gt (hneL _ List.mem_cons_self)) hK3 (Nat.le_of_succ_le ha16) ?_
          intro h11 n11 F16 N16
          simp only [List.cons_append, List.nil_append] at N16
          k_steps
          (try refine Hold.mk ?_)
          (try dsimp only)
          with_reducible rename And _ _ => lt7
          with_reducible rename Fr _ _ _ _ => F17
          with_reducible rename News _ _ _ _ => N17
          rename_i Cl _
          have hplen : pvs.length = parts.length := by have := hdP.length; rw [List.length_map] at this; exact this
          refine r_addL F17 N17 (by
            refine List.mem_cons_of_mem _ (List.mem_cons_of_mem _ (List.mem_cons_of_mem _ (List.mem_cons_of_mem _ (List.mem_cons_of_mem _ (hX3 _ hmP)))))) (List.Mem.head _) (by rw [hplen]; exact hp16) ?_
          intro P2 h12 F18 N18 ltP
          obtain ⟨tC, htC⟩ : ∃ z, z = tk := ⟨_, rfl⟩
          rw [← htC] at N18 ltP
          k_steps
          (try refine Hold.mk ?_)
          (try dsimp only)
          refine r_lastW N18 (by
            refine List.mem_cons_of_mem _ (List.mem_cons_of_mem _ (List.mem_cons_of_mem _ (List.mem_cons_of_mem _ (List.mem_cons_of_mem _ (List.mem_cons_of_mem _ (hX3 _ hmW))))))) hdW hw0 hw16 ?_
          intro t8
          k_steps
          (try refine Hold.mk ?_)
          (try dsimp only)
          with_reducible rename And _ _ => lt8
          with_reducible rename Fr _ _ _ _ => F19
          with_reducible rename News _ _ _ _ => N19
          rename_i Wl _
          refine r_addL F19 N19 (List.Mem.tail _ (List.Mem.tail _ (List.Mem.tail _ (List.Mem.tail _ (List.Mem.head _))))) (List.Mem.head _) (by rw [hlwl]; exact hw16s) ?_
          intro W2 h13 F20 N20 ltW2
          k_steps
          (try refine Hold.mk ?_)
          (try dsimp only)
          with_reducible rename And _ _ => lt9
          with_reducible rename Fr _ _ _ _ => F21
          with_reducible rename News _ _ _ _ => N21
          rename_i T2 _
          refine r_appendM (pre := [(T2, _), (W2, _), (Wl, _), (P2, _), (Cl, _), (T1, _), (Lw, _)]) F21 N21 (fun p hp => by
            simp only [List.mem_cons, List.not_mem_nil, or_false] at hp
            rcases hp with h | h | h | h | h | h | h <;> rw [h]
            · exact Nat.ne_of_gt lt9.2.2.2.2.2.2.1
            · exact Nat.ne_of_gt (ltW2 (Af, _) (List.Mem.tail _ (List.Mem.tail _ (List.Mem.tail _ (List.Mem.tail _ (List.Mem.tail _ (List.Mem.head _)))))))
            · exact Nat.ne_of_gt lt8.2.2.2.2.1
            · exact Nat.ne_of_gt (ltP (Af, _) (List.Mem.tail _ (List.Mem.tail _ (List.Mem.tail _ (List.Mem.head _)))))
            · exact Nat.ne_of_gt lt7.2.2.1
            · exact Nat.ne_of_gt lt6.2.1
            · exact Nat.ne_of_gt (hneL _ List.mem_cons_self)) hK3 (by rw [List.length_append]; exact ha16) ?_
          intro h14 n14 F22 N22
          simp only [List.cons_append, List.nil_append] at N22
          k_steps
          have hsubR : ∀ p ∈ R0, p ∈ (Af, listOf avals.toArray an) :: (L' + 1, oc3) :: (R0) := fun p hp => List.mem_cons_of_mem _ (List.mem_cons_of_mem _ hp)
          refine hRQ _ _ _ (avals ++ [.ref T1] ++ [.ref T2], n14, oc3) [(T2, tupOf [.ref P2, .ref W2] 0), (W2, listOf (lw ++ [Value.int ((ways.getLastD 0 : Nat) : Int) t8]).toArray 0), (P2, listOf (pvs ++ [Value.str (Str.ofString "C") tC]).toArray 0), (T1, tupOf [.ref Pa, .ref Lw] 0), (Lw, listOf lw.toArray 0)]
            F22 (fun p hp => (List.not_mem_nil hp).elim) (fun y hn hy => locIf (by decide) hy (locIf (by decide) hy rfl)) (fun p hp => N22 p ?_) (fun p hp q hq => ?_) ⟨⟨_, hoc3⟩, by rw [List.length_append, List.length_append]; exact Nat.succ_le_succ (Nat.succ_le_succ hal), ?_⟩
          · rcases List.mem_append.mp hp with h | h
            · simp only [List.mem_cons, List.not_mem_nil, or_false] at h
              rcases h with h | h <;> rw [h] <;> repeat (first | exact List.mem_cons_self | refine List.mem_cons_of_mem _ ?_)
            · rcases List.mem_append.mp h with h | h
              · repeat (first | exact h | refine List.mem_cons_of_mem _ ?_)
              · simp only [List.mem_cons, List.not_mem_nil, or_false] at h
                rcases h with h | h | h | h | h <;> rw [h] <;> repeat (first | exact List.mem_cons_self | refine List.mem_cons_of_mem _ ?_)
          · simp only [List.mem_cons, List.not_mem_nil, or_false] at hq
            rcases hq with h | h | h | h | h <;> rw [h]
            · exact far lt9.2.2.2.2.2.2.1 lt9.2.2.2.2.2.2.2.1 (allLt_mem _ lt9.2.2.2.2.2.2.2.2) p hp
            · exact far (ltW2 (Af, _) (List.Mem.tail _ (List.Mem.tail _ (List.Mem.tail _ (List.Mem.tail _ (List.Mem.tail _ (List.Mem.head _))))))) (ltW2 (L' + 1, _) (List.Mem.tail _ (List.Mem.tail _ (List.Mem.tail _ (List.Mem.tail _ (List.Mem.tail _ (List.Mem.tail _ (List.Mem.head _)))))))) (fun p hp => ltW2 p (List.Mem.tail _ (List.Mem.tail _ (List.Mem.tail _ (List.Mem.tail _ (List.Mem.tail _ (List.Mem.tail _ (List.Mem.tail _ hp)))))))) p hp
            · exact far (ltP (Af, _) (List.Mem.tail _ (List.Mem.tail _ (List.Mem.tail _ (List.Mem.head _))))) (ltP (L' + 1, _) (List.Mem.tail _ (List.Mem.tail _ (List.Mem.tail _ (List.Mem.tail _ (List.Mem.head _)))))) (fun p hp => ltP p (List.Mem.tail _ (List.Mem.tail _ (List.Mem.tail _ (List.Mem.tail _ (List.Mem.tail _ hp)))))) p hp
            · exact far lt6.2.1 lt6.2.2.1 (allLt_mem _ lt6.2.2.2) p hp
            · exact far (hneL _ List.mem_cons_self) (hneL _ (List.Mem.tail _ (List.Mem.head _))) (fun p hp => hneL p (List.Mem.tail _ (List.Mem.tail _ hp))) p hp
          · refine turn_dat hst rfl (fun p hp => ?_) hdA (state_in (P := Pa) (W := Lw) (pn := pn) (wn := 0) ?_ (List.mem_append_left _ hmP) ?_ (hdP.mono fun p hp => List.mem_append_left _ hp) (hdL.mono fun _ hp => (List.not_mem_nil hp).elim)) (state_in (P := P2) (W := W2) (pn := 0) (wn := 0) (pvs := pvs ++ [Value.str (Str.ofString "C") tC]) (wvs := lw ++ [Value.int ((ways.getLastD 0 : Nat) : Int) t8]) ?_ ?_ ?_ (parts_snoc (hdP.mono fun p hp => List.mem_append_left _ hp) (.str _ _)) (ways_snoc (hdL.mono fun _ hp => (List.not_mem_nil hp).elim)))
            · rcases List.mem_append.mp hp with h | h
              · exact List.mem_append_left _ h
              · exact List.mem_append_right _ (List.mem_append_left _ h)
            all_goals (refine List.mem_append_right _ (List.mem_append_right _ ?_); repeat (first | exact List.mem_cons_self | refine List.mem_cons_of_mem _ ?_))
        | some lf =>
          obtain ⟨tL, rfl⟩ := datIn_leaf hvx
          have hK3 : ∀ p ∈ (L' + 1, oc3) :: (R0), p.1 ≠ Af := fun p hp => by
            rcases List.mem_cons.mp hp with h | h
            · rw [h]; exact Nat.ne_of_lt hAK
            · exact hoffAf p h
          have hplen : pvs.length = parts.length := by have := hdP.length; rw [List.length_map] at this; exact this
          k_steps
          refine Hold.mk ?_
          (try dsimp only)
          refine wpAny_If ?_
          k_steps
          refine Hold.mk ?_
          (try dsimp only)
          with_reducible rename And _ _ => lt6
          with_reducible rename Fr _ _ _ _ => F15
          with_reducible rename News _ _ _ _ => N15
          rename_i C1 _
          refine r_addL F15 N15 (by
            refine List.mem_cons_of_mem _ (List.mem_cons_of_mem _ (List.mem_cons_of_mem _ (List.mem_cons_of_mem _ (hX3 _ hmP))))) (List.Mem.head _) (by rw [hplen]; exact hp16) ?_
          intro P1 h11 F16 N16 ltP1
          k_steps
          (try refine Hold.mk ?_)
          (try dsimp only)
          with_reducible rename And _ _ => lt7
          with_reducible rename Fr _ _ _ _ => F17
          with_reducible rename News _ _ _ _ => N17
          rename_i T1 _
          refine r_appendM (pre := [(T1, _), (P1, _), (C1, _), (Lw, _)]) F17 N17 (fun p hp => by
            simp only [List.mem_cons, List.not_mem_nil, or_false] at hp
            rcases hp with h | h | h | h <;> rw [h]
            · exact Nat.ne_of_gt lt7.2.2.2.1
            · exact Nat.ne_of_gt (ltP1 (Af, _) (List.Mem.tail _ (List.Mem.tail _ (List.Mem.head _))))
            · exact Nat.ne_of_gt lt6.2.1
            · exact Nat.ne_of_gt (hneL _ List.mem_cons_self)) hK3 (Nat.le_of_succ_le ha16) ?_
          intro h12 n12 F18 N18
          simp only [List.cons_append, List.nil_append] at N18
          k_steps
          (try refine Hold.mk ?_)
          (try dsimp only)
          with_reducible rename And _ _ => lt8
          with_reducible rename Fr _ _ _ _ => F19
          with_reducible rename News _ _ _ _ => N19
          rename_i Cb _
          refine r_addL F19 N19 (by
            refine List.mem_cons_of_mem _ (List.mem_cons_of_mem _ (List.mem_cons_of_mem _ (List.mem_cons_of_mem _ (List.mem_cons_of_mem _ (List.mem_cons_of_mem _ (List.mem_cons_of_mem _ (hX3 _ hmP)))))))) (List.Mem.head _) (by rw [hplen]; exact hp16) ?_
          intro P2 h13 F20 N20 ltP
          k_steps
          (try refine Hold.mk ?_)
          (try dsimp only)
          refine r_lastW N20 (by
            refine List.mem_cons_of_mem _ (List.mem_cons_of_mem _ (List.mem_cons_of_mem _ (List.mem_cons_of_mem _ (List.mem_cons_of_mem _ (List.mem_cons_of_mem _ (List.mem_cons_of_mem _ (List.mem_cons_of_mem _ (hX3 _ hmW))))))))) hdW hw0 hw16 ?_
          intro t8
          k_steps
          (try refine Hold.mk ?_)
          (try dsimp only)
          with_reducible rename And _ _ => lt9
          with_reducible rename Fr _ _ _ _ => F21
          with_reducible rename News _ _ _ _ => N21
          rename_i Wl _
          refine r_addL F21 N21 (List.Mem.tail _ (List.Mem.tail _ (List.Mem.tail _ (List.Mem.tail _ (List.Mem.tail _ (List.Mem.tail _ (List.Mem.head _))))))) (List.Mem.head _) (by rw [hlwl]; exact hw16s) ?_
          intro W2 h14 F22 N22 ltW2
          k_steps
          (try refine Hold.mk ?_)
          (try dsimp only)
          with_reducible rename And _ _ => lt10
          with_reducible rename Fr _ _ _ _ => F23
          with_reducible rename News _ _ _ _ => N23
          rename_i T2 _
          refine r_appendM (pre := [(T2, _), (W2, _), (Wl, _), (P2, _), (Cb, _), (T1, _), (P1, _), (C1, _), (Lw, _)]) F23 N23 (fun p hp => by
            simp only [List.mem_cons, List.not_mem_nil, or_false] at hp
            rcases hp with h | h | h | h | h | h | h | h | h <;> rw [h]
            · exact Nat.ne_of_gt lt10.2.2.2.2.2.2.2.2.1
            · exact Nat.ne_of_gt (ltW2 (Af, _) (List.Mem.tail _ (List.Mem.tail _ (List.Mem.tail _ (List.Mem.tail _ (List.Mem.tail _ (List.Mem.tail _ (List.Mem.tail _ (List.Mem.head _)))))))))
            · exact Nat.ne_of_gt lt9.2.2.2.2.2.2.1
            · exact Nat.ne_of_gt (ltP (Af, _) (List.Mem.tail _ (List.Mem.tail _ (List.Mem.tail _ (List.Mem.tail _ (List.Mem.tail _ (List.Mem.head _)))))))
            · exact Nat.ne_of_gt lt8.2.2.2.2.1
            · exact Nat.ne_of_gt lt7.2.2.2.1
            · exact Nat.ne_of_gt (ltP1 (Af, _) (List.Mem.tail _ (List.Mem.tail _ (List.Mem.head _))))
            · exact Nat.ne_of_gt lt6.2.1
            · exact Nat.ne_of_gt (hneL _ List.mem_cons_self)) hK3 (by rw [List.length_append]; exact ha16) ?_
          intro h15 n15 F24 N24
          simp only [List.cons_append, List.nil_append] at N24
          k_steps
          refine hRQ _ _ _ (avals ++ [.ref T1] ++ [.ref T2], n15, oc3) [(T2, tupOf [.ref P2, .ref W2] 0), (W2, listOf (lw ++ [Value.int ((ways.getLastD 0 : Nat) : Int) t8]).toArray 0), (P2, listOf (pvs ++ [Value.str (ltx (some lf)) tL]).toArray 0), (T1, tupOf [.ref P1, .ref Lw] 0), (P1, listOf (pvs ++ [Value.str (ltx (some lf)) tL]).toArray 0), (Lw, listOf lw.toArray 0)]
            F24 (fun p hp => (List.not_mem_nil hp).elim) (fun y hn hy => locIf (by decide) hy (locIf (by decide) hy rfl)) (fun p hp => N24 p ?_) (fun p hp q hq => ?_) ⟨⟨_, hoc3⟩, by rw [List.length_append, List.length_append]; exact Nat.succ_le_succ (Nat.succ_le_succ hal), ?_⟩
          · rcases List.mem_append.mp hp with h | h
            · simp only [List.mem_cons, List.not_mem_nil, or_false] at h
              rcases h with h | h <;> rw [h] <;> repeat (first | exact List.mem_cons_self | refine List.mem_cons_of_mem _ ?_)
            · rcases List.mem_append.mp h with h | h
              · repeat (first | exact h | refine List.mem_cons_of_mem _ ?_)
              · simp only [List.mem_cons, List.not_mem_nil, or_false] at h
                rcases h with h | h | h | h | h | h <;> rw [h] <;> repeat (first | exact List.mem_cons_self | refine List.mem_cons_of_mem _ ?_)
          · simp only [List.mem_cons, List.not_mem_nil, or_false] at hq
            rcases hq with h | h | h | h | h | h <;> rw [h]
            · exact far lt10.2.2.2.2.2.2.2.2.1 lt10.2.2.2.2.2.2.2.2.2.1 (allLt_mem _ lt10.2.2.2.2.2.2.2.2.2.2) p hp
            · exact far (ltW2 (Af, _) (List.Mem.tail _ (List.Mem.tail _ (List.Mem.tail _ (List.Mem.tail _ (List.Mem.tail _ (List.Mem.tail _ (List.Mem.tail _ (List.Mem.head _))))))))) (ltW2 (L' + 1, _) (List.Mem.tail _ (List.Mem.tail _ (List.Mem.tail _ (List.Mem.tail _ (List.Mem.tail _ (List.Mem.tail _ (List.Mem.tail _ (List.Mem.tail _ (List.Mem.head _)))))))))) (fun p hp => ltW2 p (List.Mem.tail _ (List.Mem.tail _ (List.Mem.tail _ (List.Mem.tail _ (List.Mem.tail _ (List.Mem.tail _ (List.Mem.tail _ (List.Mem.tail _ (List.Mem.tail _ (hp))))))))))) p hp
            · exact far (ltP (Af, _) (List.Mem.tail _ (List.Mem.tail _ (List.Mem.tail _ (List.Mem.tail _ (List.Mem.tail _ (List.Mem.head _))))))) (ltP (L' + 1, _) (List.Mem.tail _ (List.Mem.tail _ (List.Mem.tail _ (List.Mem.tail _ (List.Mem.tail _ (List.Mem.tail _ (List.Mem.head _)))))))) (fun p hp => ltP p (List.Mem.tail _ (List.Mem.tail _ (List.Mem.tail _ (List.Mem.tail _ (List.Mem.tail _ (List.Mem.tail _ (List.Mem.tail _ (hp))))))))) p hp
            · exact far lt7.2.2.2.1 lt7.2.2.2.2.1 (allLt_mem _ lt7.2.2.2.2.2) p hp
            · exact far (ltP1 (Af, _) (List.Mem.tail _ (List.Mem.tail _ (List.Mem.head _)))) (ltP1 (L' + 1, _) (List.Mem.tail _ (List.Mem.tail _ (List.Mem.tail _ (List.Mem.head _))))) (fun p hp => ltP1 p (List.Mem.tail _ (List.Mem.tail _ (List.Mem.tail _ (List.Mem.tail _ (hp)))))) p hp
            · exact far (hneL _ List.mem_cons_self) (hneL _ (List.Mem.tail _ (List.Mem.head _))) (fun p hp => hneL p (List.Mem.tail _ (List.Mem.tail _ hp))) p hp
          · refine turn_dat hst rfl (fun p hp => ?_) hdA (state_in (P := P1) (W := Lw) (pn := 0) (wn := 0) (pvs := pvs ++ [Value.str (ltx (some lf)) tL]) ?_ ?_ ?_ (parts_snoc (hdP.mono fun p hp => List.mem_append_left _ hp) (.str _ _)) (hdL.mono fun _ hp => (List.not_mem_nil hp).elim)) (state_in (P := P2) (W := W2) (pn := 0) (wn := 0) (pvs := pvs ++ [Value.str (ltx (some lf)) tL]) (wvs := lw ++ [Value.int ((ways.getLastD 0 : Nat) : Int) t8]) ?_ ?_ ?_ (parts_snoc (hdP.mono fun p hp => List.mem_append_left _ hp) (.str _ _)) (ways_snoc (hdL.mono fun _ hp => (List.not_mem_nil hp).elim)))
            · rcases List.mem_append.mp hp with h | h
              · exact List.mem_append_left _ h
              · exact List.mem_append_right _ (List.mem_append_left _ h)
            all_goals (refine List.mem_append_right _ (List.mem_append_right _ ?_); repeat (first | exact List.mem_cons_self | refine List.mem_cons_of_mem _ ?_))
    case done2 =>
      intro c2 tl2 u2 h2 tk2 hinv2 hoffA hbl2 F6 N6
      obtain ⟨avals, an, oc2⟩ := c2
      obtain ⟨⟨ov2, hoc2⟩, hal, hdA⟩ := hinv2
      dsimp only at F6 N6 hoc2 hal hdA
      simp only [List.cons_append, List.nil_append] at N6
      have hsv : svs.length = (statesG Lf.e (ls.take i)).length := by have := hdS.length; rw [List.length_map] at this; exact this
      rw [hsv, List.take_length, ← states_take Lf.e ls i hx] at hdA
      k_steps
      with_reducible rename Fr _ _ _ _ => F7
      with_reducible rename News _ _ _ _ => N7
      refine body_G (c := (oc2, .ref Af)) (add := (Af, listOf avals.toArray an) :: tl2) F7 (fun p hp => by rw [List.mem_singleton.mp hp]; exact if_pos rfl)
        (fun y hn hy => (if_neg (hn _ List.mem_cons_self)).trans ((locOutG (contSub (by decide) hy) (fun _ h => (List.not_mem_nil h).elim)).trans (locIf (by decide) hy (locIf (by decide) hy (locOutG hy (fun p hp => by rw [List.mem_singleton.mp hp]; exact hn (Str.ofString "states", (oc2, Value.ref Af).2) List.mem_cons_self))))))
        N7 (fun p hp => ?_) (fun p hp q hq => ?_) ⟨⟨_, hoc2⟩, .list (List.mem_append_right _ (List.mem_append_right _ List.mem_cons_self)) (hdA.mono fun p hp => ?_)⟩
      · rw [← hC2] at hp
        rcases List.mem_append.mp hp with h | h
        · exact List.mem_cons_of_mem _ (List.mem_singleton.mp h ▸ List.mem_cons_self)
        · rcases List.mem_append.mp h with h | h
          · exact List.mem_cons_of_mem _ (List.mem_cons_of_mem _ (List.mem_append_left _ h))
          · rcases List.mem_cons.mp h with h | h
            · exact h ▸ List.mem_cons_self
            · exact List.mem_cons_of_mem _ (List.mem_cons_of_mem _ (List.mem_append_right _ h))
      · rw [← hC2] at hp
        rcases List.mem_append.mp hp with h | h
        · rw [List.mem_singleton.mp h]
          rcases List.mem_cons.mp hq with h' | h'
          · rw [h']; exact Nat.ne_of_lt hAK
          · exact fun e => hoffA q (List.mem_append_right _ h') (by rw [← e]; exact List.mem_cons_of_mem _ List.mem_cons_self)
        · rcases List.mem_cons.mp hq with h' | h'
          · rw [h']; exact fun e => hoff2 p h (by rw [e]; exact List.mem_cons_self)
          · exact hbl2 p h q h'
      · rcases List.mem_append.mp hp with h | h
        · rcases List.mem_append.mp h with h | h
          · exact List.mem_append_left _ h
          · exact List.mem_append_right _ (List.mem_append_left _ h)
        · exact List.mem_append_right _ (List.mem_append_right _ (List.mem_cons_of_mem _ h))
  case done1 =>
    intro c tl1 u1 h1 tk1 hinv1 hoff1 hbl1 F3 N4
    obtain ⟨oc, sv⟩ := c
    obtain ⟨⟨ov, hoc⟩, hS1⟩ := hinv1
    rw [hlv, states_full] at hS1
    obtain ⟨S1, svs, sn, rfl, hmS, hdS⟩ := datIn_list hS1
    dsimp only at F3 N4 hoc
    simp only [List.cons_append, List.nil_append] at N4
    have hX1 : ∀ p ∈ X0 ++ tl1, p ∈ C ++ tl1 := fun p hp => (List.mem_append.mp hp).elim (fun h => List.mem_append_left _ (hX0 p h)) fun h => List.mem_append_right _ h
    k_steps
    refine Hold.mk ?_
    (try dsimp only)

    rename_i Du _ _ _ lt1 _ F5 N5
    have hDK : L' + 1 < Du := lt1.1
    have hoff2 : ∀ p ∈ C ++ tl1, p.1 ∉ [Du, L' + 1] := fun p hp hq => by
      rcases List.mem_cons.mp hq with h | h
      · have := allLt_mem _ lt1.2 p hp
        rw [h] at this; exact Nat.lt_irrefl _ this
      · exact hoff1 p hp h
    obtain ⟨hsok, hscount⟩ := states_ok Lf.e ls ls.length (Nat.le_refl _)
    rw [states_full] at hsok hscount
    obtain ⟨C2, hC2⟩ : ∃ D, D = C ++ tl1 := ⟨_, rfl⟩
    rw [← hC2] at N5 hX1 hoff2
    refine loop_G (Led := fun c : List Value × Nat × Obj => [(Du, listOf c.1.toArray c.2.1), (L' + 1, c.2.2)]) (ps := fun _ => []) (adr := [Du, L' + 1]) (c₀ := ([], 0, oc)) (st := [Str.ofString "parts", Str.ofString "name", Str.ofString "told"])
      (fun j c tl => (∃ ov, c.2.2.data = .cell ov) ∧ DatAll tl c.1 ((((statesG Lf.e ls).take j).flatMap fun s => List.replicate (s.2.getLastD 0) (s.1 ++ [some Lf.e])).map toldD)) rfl (fun _ => rfl) F5 N5 (hX1 _ hmS) hoff2 (fun p hp => (List.not_mem_nil hp).elim) ⟨⟨_, hoc⟩, .nil⟩ ?turn3 ?done3
    case turn3 =>
      intro j v2 c2 tl2 I2 oI2 u2 h2 tk2 hv2 hinv2 hoffA hbl2 F6 N6
      have hX3 : ∀ p ∈ X0 ++ tl1, p ∈ C2 ++ tl2 ++ [(I2, oI2)] := fun p hp => List.mem_append_left _ (List.mem_append_left _ (hX1 p hp))
      generalize C2 ++ tl2 ++ [(I2, oI2)] = R0 at hX3 hoffA N6
      refine turn_cut [(Str.ofString "due", .ref Du)] F6 (fun p hp => by rw [List.mem_singleton.mp hp]; rfl) (fun _ y hn hy => locOutG hy hn) ?_
      clear F6
      intro RQ g9 d9 o9 mX F6 hRQ
      obtain ⟨avals, an, oc2⟩ := c2
      obtain ⟨⟨ov2, hoc2⟩, hdd⟩ := hinv2
      dsimp only at N6 hoc2
      simp only [List.cons_append, List.nil_append] at N6
      obtain ⟨⟨parts, ways⟩, hst, hin⟩ := dat_get hdS hv2
      obtain ⟨t2, tvs, tn, rfl, hmt, hdt⟩ := datIn_tup hin
      obtain ⟨pv, wv, rfl, hinP, hinW⟩ := dat_two hdt
      obtain ⟨Pa, pvs, pn, rfl, hmP, hdP⟩ := datIn_list hinP
      obtain ⟨Wa, wvs, wn, rfl, hmW, hdW⟩ := datIn_list hinW
      obtain ⟨hw0, hwl, hpl⟩ := hsok _ (List.mem_of_getElem? hst)
      dsimp only at hdP hdW hw0 hwl hpl
      k_steps
      refine Hold.mk ?_
      (try dsimp only)
      refine unpackN_ F6 N6 ⟨_, (N6 _ (List.mem_cons_of_mem _ (List.mem_cons_of_mem _ (hX3 _ hmt)))).1, rfl, tn, rfl⟩ rfl rfl rfl ?_
      intro h7 F7 N7
      k_steps
      with_reducible rename Fr _ _ _ _ => F8
      with_reducible rename News _ _ _ _ => N8
      have hoffK : ∀ p ∈ R0, p.1 ≠ L' + 1 := fun p hp h => hoffA p hp (by rw [h]; exact List.mem_cons_of_mem _ List.mem_cons_self)
      have hoffDu : ∀ p ∈ R0, p.1 ≠ Du := fun p hp h => hoffA p hp (by rw [h]; exact List.mem_cons_self)
      refine storeX_C F8 N8 rfl (.tail (Nat.ne_of_gt hDK) (.head hoffK)) hoc2 ?_
      intro h8 oc3 F9 N9 hoc3
      (try dsimp only at N9)
      k_steps
      refine Hold.mk ?_
      (try dsimp only)
      have hmem := List.mem_of_getElem? hst
      have hp5 : parts.length ≤ 5 := len_small hpl h4
      have hw5 : ways.length ≤ 5 := len_small hwl h4
      have hsf := state_fit hfit _ hmem
      have hsne := state_ne _ _ _ hmem
      have hsp := states_pos _ _ _ hmem
      have hsm := last_le _ Lf.e _ h4 _ hmem
      dsimp only at hsf hsne hsp hsm
      have hav : avals.length ≤ 42 := by have := hdd.length; rw [List.length_map] at this; rw [this]; exact due_part _ _ _ h4 _
      refine KT.join_B 10 ⟨_, (N9 _ (List.mem_cons_of_mem _ (List.mem_cons_of_mem _ (hX3 _ hmP)))).1, rfl, pn, rfl⟩ (carried_of (g := ltx) hdP) (fun t ht => ltx_len (hsf t ht)) (Nat.le_trans hp5 (by decide)) (by decide) ?_
      intro t9 k9
      have hj : Txt.join (Str.ofString ".") (parts.map ltx) = txt parts := by unfold txt; exact StrLaws.glued_eq_join _ _
      rw [hj]
      k_steps
      refine Hold.mk ?_
      (try dsimp only)
      refine add_mine (Nat.le_trans (Nat.add_le_add (Nat.le_trans (txt_len hsf) (Nat.mul_le_mul_left 11 hp5)) (Nat.le_of_eq (rfl : (Str.ofString ".").length = 1))) (by decide)) ?_
      intro t10 k10
      rw [← txt_e _ hsne]
      obtain ⟨nm, hnm⟩ : ∃ nm, nm = parts ++ [some Lf.e] := ⟨_, rfl⟩
      rw [← hnm]
      k_steps
      refine Hold.mk ?_
      (try dsimp only)
      with_reducible rename Fr _ _ _ _ => F11
      with_reducible rename News _ _ _ _ => N11
      have hPL : pvs.length = parts.length := by have := hdP.length; rw [List.length_map] at this; exact this
      refine told_cut (g := g9) (d := d9) (o := o9) nm F11 N11 ?tells ?tail
      case tells =>
        intro RT hRT
        have hmP3 := List.mem_cons_of_mem (Du, listOf avals.toArray an) (List.mem_cons_of_mem (L' + 1, oc3) (hX3 _ hmP))
        refine wpAny_If ?_
        k_steps
        refine Hold.mk ?_
        (try dsimp only)
        refine r_len N11 hmP3 hPL (le5 hp5) ?_
        intro t11 k11
        k_steps
        · with_reducible rename And _ _ => lt5
          with_reducible rename Fr _ _ _ _ => F12
          with_reducible rename News _ _ _ _ => N12
          have hT := told_few (parts := parts) (by omega)
          rw [← hnm] at hT
          exact hRT _ _ _ _ _ _ F12 (by rw [hT]; exact N12) (allLt_mem _ lt5)
        · refine Hold.mk ?_
          have hp4 : parts.length = 4 := by omega
          have hT := told_four hp4
          rw [← hnm] at hT
          have hfd : TokFit (parts.getD 3 none) := by
            rw [List.getD_eq_getElem?_getD, List.getElem?_eq_getElem (by omega)]
            exact hsf _ (List.getElem_mem _)
          refine wpAny_If ?_
          rcases hx : parts.getD 3 none with _ | l
          · rw [hx] at hT
            k_steps
            refine Hold.mk ?_
            (try dsimp only)
            refine r_part N11 hmP3 hdP hp4 hx ?_ (by with_unfolding_all rfl)
            intro t13
            k_steps
            refine Hold.mk ?_
            (try dsimp only)
            refine r_part N11 hmP3 hdP hp4 hx ?_ (by with_unfolding_all rfl)
            intro t14
            k_steps
            with_reducible rename And _ _ => lt5
            with_reducible rename Fr _ _ _ _ => F12
            with_reducible rename News _ _ _ _ => N12
            exact hRT _ _ _ _ _ _ F12 (by rw [hT]; exact N12) (allLt_mem _ lt5)
          · rw [hx] at hT hfd
            cases l with
            | e =>
              k_steps
              refine Hold.mk ?_
              (try dsimp only)
              refine r_part N11 hmP3 hdP hp4 hx ?_ (by with_unfolding_all rfl)
              intro t13
              k_steps
              with_reducible rename And _ _ => lt5
              with_reducible rename Fr _ _ _ _ => F12
              with_reducible rename News _ _ _ _ => N12
              exact hRT _ _ _ _ _ _ F12 (by rw [hT]; exact N12) (allLt_mem _ lt5)
            | n i =>
              obtain ⟨hn1, hn2, hn3⟩ := num_signs hfd
              have hne : Str.ofString (toString i) ≠ Str.ofString "" := fun h => by
                have e : PySem.intText? (Str.ofString "") = none := by decide +kernel
                rw [h, e] at hn3; cases hn3
              have hnC : Str.ofString (toString i) ≠ Str.ofString "C" := fun h => by
                have e : PySem.intText? (Str.ofString "C") = none := by decide +kernel
                rw [h, e] at hn3; cases hn3
              have hn4 : (Str.ofString (toString i)).length ≤ 640 := by omega
              k_steps
              refine Hold.mk ?_
              (try dsimp only)
              refine r_part N11 hmP3 hdP hp4 hx ?_ (by with_unfolding_all rfl)
              intro t13
              show _
              k_steps
              · exfalso
                with_reducible rename (@BEq.beq Str _ _ _) = true => hb
                exact hne (eq_of_beq hb)
              refine Hold.mk ?_
              (try dsimp only)
              refine r_part N11 hmP3 hdP hp4 hx ?_ (by with_unfolding_all rfl)
              intro t14
              k_steps
              · exfalso
                with_reducible rename (@BEq.beq Str _ _ _) = true => hb
                exact hnC (eq_of_beq hb)
              refine Hold.mk ?_
              (try dsimp only)
              refine r_part N11 hmP3 hdP hp4 hx ?_ (by with_unfolding_all rfl)
              intro t15
              k_steps
              refine Hold.mk ?_
              (try dsimp only)
              refine KIN.call_text hn3 hn4 ?_
              k_steps
              with_reducible rename And _ _ => lt5
              with_reducible rename Fr _ _ _ _ => F12
              with_reducible rename News _ _ _ _ => N12
              exact hRT _ _ _ _ _ _ F12 (by rw [hT]; exact N12) (allLt_mem _ lt5)
      case tail =>
        intro h12 k12 Dt t1 t2 t3 F12 N12 ltD
        dsimp only
        k_steps
        refine Hold.mk ?_
        (try dsimp only)
        with_reducible rename And _ _ => lt5
        with_reducible rename Fr _ _ _ _ => F13
        with_reducible rename News _ _ _ _ => N13
        rename_i Lt _
        refine r_lastW N13 (List.mem_cons_of_mem _ (List.mem_cons_of_mem _ (List.mem_cons_of_mem _ (List.mem_cons_of_mem _ (hX3 _ hmW))))) hdW hw0 (le5 hw5) ?_
        intro t12
        k_steps
        refine Hold.mk ?_
        (try dsimp only)
        refine KMa.mul (ws := List.replicate (ways.getLastD 0) (Value.ref Dt)) F13 N13 ⟨_, (N13 _ List.mem_cons_self).1, rfl, _, rfl⟩ (by omega) (by omega) (by rw [Int.toNat_natCast]; simp only [List.length_cons, List.length_nil]; omega) (by rw [Int.toNat_natCast]; exact rep_flat _ _) ?_
        intro Dm h13 F14 N14 ltDm
        k_steps
        refine Hold.mk ?_
        (try dsimp only)
        refine extend_in (own := [(Dm, _), (Lt, _), (Dt, _)]) F14 N14 (fun p hp => by
          simp only [List.mem_cons, List.not_mem_nil, or_false] at hp
          rcases hp with h | h | h <;> rw [h]
          · exact Nat.ne_of_gt (ltDm (Du, _) (List.mem_cons_of_mem _ (List.mem_cons_of_mem _ List.mem_cons_self)))
          · exact Nat.ne_of_gt lt5.2.1
          · exact Nat.ne_of_gt (ltD _ List.mem_cons_self)) (fun p hp => by
          rcases List.mem_cons.mp hp with h | h
          · rw [h]; exact Nat.ne_of_lt hDK
          · exact hoffDu p h) (N14 _ List.mem_cons_self).1 ?_ (by rw [List.size_toArray, List.length_replicate, sizeLine_eq]; exact few16 hav hsm)
        intro h15 n15 F15 N15
        simp only [List.cons_append, List.nil_append] at N15
        k_steps
        refine hRQ _ _ _ (avals ++ List.replicate (ways.getLastD 0) (Value.ref Dt), n15, oc3) [(Dt, tupOf [.str (txt nm) t1, .str (told nm).1 t2, .int (told nm).2 t3] 0)] F15 (fun p hp => (List.not_mem_nil hp).elim) (fun y hn hy => locIf (by decide) hy (locIf (by decide) hy (locIf (by decide) hy rfl))) (fun p hp => N15 p ?_) (fun p hp q hq => ?_) ⟨⟨_, hoc3⟩, ?_⟩
        · rcases List.mem_append.mp hp with h | h
          · simp only [List.mem_cons, List.not_mem_nil, or_false] at h
            rcases h with h | h <;> rw [h] <;> repeat (first | exact List.mem_cons_self | refine List.mem_cons_of_mem _ ?_)
          · rcases List.mem_append.mp h with h | h
            · repeat (first | exact h | refine List.mem_cons_of_mem _ ?_)
            · rw [List.mem_singleton.mp h]
              repeat (first | exact List.mem_cons_self | refine List.mem_cons_of_mem _ ?_)
        · rw [List.mem_singleton.mp hq]
          refine Nat.ne_of_lt ?_
          rcases List.mem_append.mp hp with h | h
          · simp only [List.mem_cons, List.not_mem_nil, or_false] at h
            rcases h with h | h <;> rw [h]
            · exact ltD (Du, listOf avals.toArray an) List.mem_cons_self
            · exact ltD (L' + 1, oc3) (List.mem_cons_of_mem _ List.mem_cons_self)
          · exact ltD p (List.mem_cons_of_mem _ (List.mem_cons_of_mem _ h))
        · rw [due_take hst, ← hnm, List.map_append, List.map_replicate]
          exact DatAll.append (hdd.mono fun p hp => List.mem_append_left _ hp) (dat_rep (.tuple (List.mem_append_right _ List.mem_cons_self) (.cons (.str _ _) (.cons (.str _ _) (.cons (.int _ _) .nil)))) _)
    case done3 =>
      intro c2 tl2 u2 h2 tk2 hinv2 hoffA hbl2 F6 N6
      obtain ⟨avals, an, oc2⟩ := c2
      obtain ⟨⟨ov2, hoc2⟩, hdd⟩ := hinv2
      dsimp only at F6 N6 hoc2 hdd
      simp only [List.cons_append, List.nil_append] at N6
      have hsv : svs.length = (statesG Lf.e ls).length := by have := hdS.length; rw [List.length_map] at this; exact this
      rw [hsv, List.take_length] at hdd
      k_steps
      subst hQ₁
      k_steps
      with_reducible rename News h₀ _ _ _ => kN
      with_reducible rename Fr h₀ _ _ _ => kF
      have hnC2 : ∀ p ∈ news, p ∈ C2 := fun p hp => by rw [hC2]; exact List.mem_append_left _ (hnC p hp)
      refine hret _ ((Du, listOf avals.toArray an) :: tl2) _ _ kF (fun p hp => kN p ?_) (fun q hq p hp => ?_) ⟨Du, avals.toArray, an, rfl, List.mem_cons_self, by unfold dueG; exact hdd.mono fun p hp => List.mem_cons_of_mem _ hp⟩
      · rcases List.mem_append.mp hp with h | h
        · exact List.mem_cons_of_mem _ (List.mem_cons_of_mem _ (List.mem_append_left _ (hnC2 p h)))
        · rcases List.mem_cons.mp h with h | h
          · exact h ▸ List.mem_cons_self
          · exact List.mem_cons_of_mem _ (List.mem_cons_of_mem _ (List.mem_append_right _ h))
      · rcases List.mem_cons.mp hp with h | h
        · rw [h]; exact fun e => hoff2 q (hnC2 q hq) (by rw [e]; exact List.mem_cons_self)
        · exact hbl2 q (hnC2 q hq) p h
end
end Mine
end
end

section
open PySem PySem.W PyProof.Rows PySem.Calls
open PySem.Sem (wp)
set_option maxRecDepth 100000
set_option maxHeartbeats 4000000
namespace Mine
/-- nothing is raised -/
noncomputable abbrev NoE : Value → Shared → Prop := fun _ _ => False
section
variable {prog : Program} {w : World} {A : Around} {E : Value → Shared → Prop} {s : Shared} {R : Result → Shared → Prop} {env : Env}
theorem quietC {α : Type} {t : Sem α} {k : Value → Sem Unit} {Q : α → Shared → Prop} (h : wpC (model prog w) A t Q NoE s) : wpC (model prog w) A (t.onRaise k) Q E s :=
  wpC_onRaise (wpC_mono h (fun _ _ q => q) fun _ _ f => f.elim)

/-- the turns of a list comprehension whose element needs the caller -/
theorem loopCC {elt target iter : PySem.Expr} {scope : Scope} {pos : Pos} {it acc : Value} (I : Nat → Shared → Prop)
    (turn : ∀ n s, I n s → wpAny (model prog w) A (pyNext it) (fun r s₁ => match r with
      | none => R (.ok .next) s₁
      | some v => wpAny (model prog w) A (assign target env v) (fun _ s₂ => wpC (model prog w) A (eval elt env) (fun x s₃ =>
          wpAny (model prog w) A (call (.builtin "list.append") [acc, x]) (fun _ s₄ => ∃ m, m < n ∧ I m s₄) NoE s₃) NoE s₂) NoE s₁) NoE s)
    (n : Nat) (h : I n s) (ht : ∀ v, letOwnedTupleGo target it v = pure () := by intro _; rfl) :
    codeC (model prog w) A (.compLoop (.ListComp elt [⟨target, iter, [], 0⟩] scope pos) 0 it acc env) R s := by
  refine codeC_loop rfl I (fun n s hI => ?_) n h
  show wpC _ A ((compTurn (.ListComp elt [⟨target, iter, [], 0⟩] scope pos) 0 it acc env).onRaise (fun x => do noteFrame x env; theTreesLotGoes x)) _ _ s
  refine quietC ?_
  rw [compTurn_list1]
  refine wpC_bind1 (wpAny_standAt (wpC_bind1 (wpAny_mono (turn n s hI) (fun r s₁ h₁ => ?_) fun _ _ x => x)))
  cases r with
  | none => exact wpC_pure h₁
  | some v =>
    refine wpC_bind1 (wpAny_of_eq (ht v) (wpC_bind1 (wpAny_mono h₁ (fun _ s₂ h₂ => ?_) fun _ _ x => x)))
    refine wpC_bind (wpC_bind (wpC_mono h₂ (fun x s₃ h₃ => wpC_bind1 (wpAny_mono h₃ (fun _ s₄ h₄ => wpC_pure (wpC_pure ⟨rfl, h₄⟩)) fun _ _ x => x)) fun _ _ x => x))

theorem startCC {elt target iter : PySem.Expr} {scope : Scope} {pos : Pos} {it acc : Value}
    (h0 : codeC (model prog w) A (.compLoop (.ListComp elt [⟨target, iter, [], 0⟩] scope pos) 0 it acc env) R s)
    (h : wpAny (model prog w) A (pyIter it) (fun it' s' => codeC (model prog w) A (.compLoop (.ListComp elt [⟨target, iter, [], 0⟩] scope pos) 0 it' acc env) R s') NoE s) :
    codeC (model prog w) A (.compStart (.ListComp elt [⟨target, iter, [], 0⟩] scope pos) 0 it acc env) R s := by
  refine codeC_of_tree ?_
  show wpC _ _ ((compStart (.ListComp elt [⟨target, iter, [], 0⟩] scope pos) 0 it acc env).onRaise (fun x => do noteFrame x env; standAt theWindowsPlace)) _ _ s
  refine quietC ?_
  unfold compStart
  show wpC _ _ (ask >>= _) _ _ s
  refine wpC_bind1 (wpAny_askSetting ?_)
  split
  · first
      | exact wpC_bind1 (wpAny_pure (wpC_pure (And.intro rfl h0)))
      | exact wpC_pure (And.intro rfl h0)
  · refine wpC_bind1 (wpAny_rule ?_)
    show wpC _ _ (standAt iter.pos >>= _) _ _ s
    exact wpC_bind1 (wpAny_standAt (wpC_bind1 (wpAny_mono h (fun it' s' h' => wpC_pure (And.intro rfl h')) fun _ _ x => x)))

noncomputable def compOut (prog : Program) (w : World) (A : Around) (E : Value → Shared → Prop) (u : Value → Sem Unit) (Q : Value → Shared → Prop) (acc : Value) (C : Addr) (r : Result) (s' : Shared) : Prop := match r with
  | .ok _ => wpAny (model prog w) A (u acc) (fun _ s'' => ∃ m, s''.heap.Ns C m ∧ ∀ h', Heap.SameBut C s''.heap h' → Q .none { s'' with heap := h' }) E s'
  | .error _ => False
/-- the comprehension's frame: nothing is raised, the list is stored by the assignment -/
theorem frameCC {e : PySem.Expr} {scope : Scope} {pos : Pos} {newAcc first : Sem Value} {g : Comprehension} {gs : List Comprehension} {cl : List (Str × Addr)} {u : Value → Sem Unit} {Q : Value → Shared → Prop}
    (hcl : clausesOf e = g :: gs) (hs : ∀ x, foldedSetIterable g.iter env x = pure x) (hclos : closureFor scope env = pure cl)
    (hkind : scope.kind = .function) (hnames : ∀ x ∈ scope.names, x.2 = .local → scope.names.lookup x.1 = some .local)
    (h : wpAny (model prog w) A first (fun x s₁ => wpAny (model prog w) A (pyIter x) (fun it s₂ => wpAny (model prog w) A newAcc (fun acc s₃ =>
      wpAny (model prog w) A (newFunctionEnv scope env.globals cl [] env.qual none .none (some env)) (fun cenv s₄ =>
        codeC (model prog w) A (.compStart e 0 it acc { cenv with scope := relabel scope env }) (compOut prog w A E u Q acc cenv.locals) s₄) E s₃) E s₂) E s₁) E s) :
    wpC (model prog w) A (comprehension e scope env pos newAcc false first (some u)) Q E s := by
  unfold comprehension
  rw [hclos, hcl]
  refine wpC_bind1 (wpAny_mono h (fun x s₁ h₁ => wpC_bind1 (wpAny_standAt (wpC_bind1 (wpAny_of_eq (hs x) (wpC_bind1 (wpAny_holding (wpAny_mono h₁ (fun it s₂ h₂ => ?_) fun _ _ h' => h'))))))) fun _ _ h' => h')
  have stand : ∀ {α : Type} {c : Prop} [Decidable c] {pos : Pos} {k : PUnit → Sem α} {Q : α → Shared → Prop} {s : Shared}, wpC (model prog w) A (k ()) Q E s → wpC (model prog w) A (if c then (standAt pos >>= k) else k ()) Q E s := by
    intro α c _ pos k Q s h
    split
    · exact wpC_bind1 (wpAny_standAt h)
    · exact h
  refine stand (wpC_bind1 (wpAny_mono h₂ (fun acc s₃ h₃ => wpC_bind1 (wpAny_pure (wpC_bind1 (wpAny_mono h₃ (fun cenv s₄ h₄ => ?_) fun _ _ h' => h')))) fun _ _ h' => h'))
  dsimp only
  have hv : ∀ x ∈ (scope.names.filter fun x => (x.2 == .local || x.2 == .cell) && x.1 != (".0" : Str)).reverse, x.2 = .local →
      Env.kindOf { cenv with scope := relabel scope env } x.1 = some .local := fun x hx hl => lookup_relabel_local (hnames x (List.mem_filter.mp (List.mem_reverse.mp hx)).1 hl)
  have hv' : ∀ x ∈ (scope.names.filter fun x => (x.2 == .local || x.2 == .cell) && x.1 != (".0" : Str)).reverse.drop 1 ++ (scope.names.filter fun x => (x.2 == .local || x.2 == .cell) && x.1 != (".0" : Str)).reverse.take 1,
      x.2 = .local → Env.kindOf { cenv with scope := relabel scope env } x.1 = some .local := fun x hx hl => by
    rcases List.mem_append.mp hx with h1 | h1
    · exact hv x (List.mem_of_mem_drop h1) hl
    · exact hv x (List.mem_of_mem_take h1) hl
  have code_mono : ∀ {A : Around} {c : Code} {R R' : Result → Shared → Prop} {s : Shared}, codeC (model prog w) A c R s → (∀ r s', R r s' → R' r s') → codeC (model prog w) A c R' s :=
    fun h k Γ p hc hΓ hk => wpCode_mono (fun r s' => k r s') (h Γ p hc hΓ hk)
  have under : ∀ {c : Code} {R : Result → Shared → Prop} {s : Shared}, codeC (model prog w) A c R s → codeC (model prog w) (A.mark none) c R s := fun h => h
  refine wpC_holding (wpC_bind (wpC_attempt (wpC_holding (wpC_run (code_mono (under h₄) fun r s' hr => ?_)))))
  cases r with
  | ok f =>
    refine wpC_bind1 (wpAny_rule (wpC_bind1 (wpAny_holding (wpAny_mono hr (fun _ s'' hr' => ?_) fun _ _ h' => h'))))
    obtain ⟨m, hn, hr'⟩ := hr'
    exact wpC_bind1 (wpAny_comp_letGo (cenv := { cenv with scope := relabel scope env }) hkind _ s'' m hv' hn fun h' m' _ hs' => wpC_pure (hr' h' hs'))
  | error x => exact hr.elim
end

/-- what is known before an element is computed, and what is to be shown of it -/
noncomputable abbrev TurnC (prog : Program) (w : World) (A : Around) (h₀ : Heap) (L : Addr) (m : Str → Option Value) (env : Env) (elt : PySem.Expr) (x : Str) (scope : Scope) (cl : List (Str × Addr)) (vs : List Value) (cst : List (Addr × Obj))
    (Inv : Nat → List Value → List (Addr × Obj) → Prop) (s : Shared) : Prop :=
  ∀ i v ys tl I oI C oC D m₂ g h tk, vs[i]? = some v → Inv i ys tl → Bl cst tl → LCg.NsObj oC m₂ → m₂ x = some v → Fr h₀ L h m → News h₀ L h ((I, oI) :: (C, oC) :: (D, LCg.lst ys) :: (cst ++ tl)) → (∀ p ∈ cst ++ tl, p.1 ≠ I ∧ p.1 ≠ C ∧ p.1 ≠ D) → I ≠ C → I ≠ D → C ≠ D →
    wpC (model prog w) A (eval elt (compEnvC scope cl C env)) (EltEnd h₀ L m I oI C oC D ys (cst ++ tl) (fun y add => Inv (i + 1) (ys ++ [y]) (tl ++ add)) { ({ s with heap := g } : Shared) with heap := h, toks := tk }) NoE { ({ s with heap := g } : Shared) with heap := h, toks := tk }
section
variable {prog : Program} {w : World} {A : Around} {E : Value → Shared → Prop} {s : Shared} {R : Result → Shared → Prop} {env : Env} {h₀ : Heap} {L : Addr} {m : Str → Option Value}

theorem blockC {elt iter : PySem.Expr} {x : Str} {px : Pos} {scope : Scope} {cl : List (Str × Addr)} {pos : Pos} {s₂ : Shared} {I ax : Addr} {vs : List Value} {nn : Nat} {cst : List (Addr × Obj)} {Inv : Nat → List Value → List (Addr × Obj) → Prop} {RR : Value → Addr → Result → Shared → Prop}
    (hh : A.handled = none) (hsz : vs.length ≤ 16384) (hne : ax ≠ I) (hI : s₂.heap.IsListIter I ax 0) (hax : (ax, listOf vs.toArray nn) ∈ cst)
    (hcell : ∀ y ∈ scope.names, y.2 ≠ .cell) (hkind : scope.kind = .function) (hx : scope.names.lookup x = some .local)
    (F : Fr h₀ L s₂.heap m) (N : News h₀ L s₂.heap cst) (hIL : L ≠ I) (hI₀ : h₀.get? I = none) (off : ∀ p ∈ cst, p.1 ≠ I) (h0 : Inv 0 [] [])
    (turn : TurnC prog w A h₀ L m env elt x scope cl vs cst Inv s₂)
    (hRR : ∀ D C h tk m' ys tl, Fr h₀ L h m → News h₀ L h ((D, LCg.lst ys) :: (cst ++ tl)) → (∀ p ∈ cst ++ tl, p.1 ≠ D) → h.Ns C m' → h₀.get? C = none → h₀.get? D = none → C ≠ L → D ≠ L → C ≠ D → (∀ p ∈ cst ++ tl, p.1 ≠ C) → Inv vs.length ys tl → Bl cst tl → RR (.ref D) C (.ok .next) { s₂ with heap := h, toks := tk }) :
    wpAny (model prog w) A (newList []) (fun acc s₃ => wpAny (model prog w) A (newFunctionEnv scope env.globals cl [] env.qual none .none (some env)) (fun cenv s₄ =>
      codeC (model prog w) A (.compStart (.ListComp elt [⟨.Name x px, iter, [], 0⟩] scope pos) 0 (.ref I) acc { cenv with scope := relabel scope env }) (RR acc cenv.locals) s₄) E s₃) E s₂ := by
  have W := Walks.list (prog := prog) (w := w) (A := A) hh I ax hne vs.toArray
  have hIlt : I < s₂.heap.objs.size := by obtain ⟨o, e, _⟩ := hI; exact Heap.lt_size e
  have hlist : ∀ {h : Heap} {l : List (Addr × Obj)}, News h₀ L h (cst ++ l) → h.IsList ax vs.toArray := fun N => ⟨_, (N _ (List.mem_append_left _ hax)).1, rfl, _, rfl⟩
  refine wpAny_newObj_type (wpAny_newFunctionEnv hcell (by intro y hy; simp at hy) (fun h₁ hns₁ hsb₁ => ?_) hkind)
  dsimp only at hns₁ hsb₁ ⊢
  generalize hH2 : s₂.heap.push { cls := .type "list", dict := none, data := .seq ([] : List Value).toArray } = H2 at hns₁ hsb₁ ⊢
  have hC : H2.objs.size = s₂.heap.objs.size + 1 := by rw [← hH2, Heap.size_push]
  generalize hDn : s₂.heap.objs.size = D at hC hIlt ⊢
  generalize hCn : H2.objs.size = C at hC hns₁ hsb₁ ⊢
  have below : ∀ b o, s₂.heap.get? b = some o → b ≠ C ∧ b ≠ D := fun b o e => by have := Heap.lt_size e; rw [hDn] at this; exact ⟨by rw [hC]; exact Nat.ne_of_lt (Nat.lt_succ_of_lt this), Nat.ne_of_lt this⟩
  have old : ∀ b o, s₂.heap.get? b = some o → h₁.get? b = some o := fun b o e => hsb₁.extBut b o (below b o e).1 (Heap.get?_push_of_some _ (hH2 ▸ Heap.get?_push_of_some _ e))
  have hDC : D ≠ C := by rw [hC]; exact Nat.ne_of_lt (Nat.lt_succ_self _)
  have hCI : C ≠ I := Nat.ne_of_gt (by rw [hC]; exact Nat.lt_succ_of_lt hIlt)
  have hDI : D ≠ I := fun e => by rw [e] at hIlt; exact Nat.lt_irrefl _ hIlt
  have hacc : h₁.get? D = some (LCg.lst []) := hsb₁.extBut _ _ hDC (Heap.get?_push_of_some _ (hH2 ▸ hDn ▸ Heap.get?_push_size _ rfl))
  have fresh₀ : ∀ a, D ≤ a → h₀.get? a = none := fun a ha => by
    cases e : h₀.get? a with
    | none => rfl
    | some o' => exact absurd (Heap.lt_size (F.keep a o' e)) (by rw [hDn]; exact Nat.not_lt.mpr ha)
  have hD₀ := fresh₀ D (Nat.le_refl _)
  have hC₀ := fresh₀ C (by rw [hC]; exact Nat.le_succ _)
  have hLlt : L < D := hDn ▸ F.ns.lt
  have hDL : D ≠ L := Nat.ne_of_gt hLlt
  have hCL : C ≠ L := Nat.ne_of_gt (by rw [hC]; exact Nat.lt_succ_of_lt hLlt)
  have loop : ∀ s₃ : Shared, s₃ = { s₂ with heap := h₁, toks := s₂.toks + ([] : List (Str × Value)).length } →
      codeC (model prog w) A (.compLoop (.ListComp elt [⟨.Name x px, iter, [], 0⟩] scope pos) 0 (.ref I) (.ref D) (compEnvC scope cl C env)) (RR (.ref D) C) s₃ := by
    rintro s₃ rfl
    refine loopCC (fun k s' => ∃ h' tk i ys m' tl, s' = { s₂ with heap := h', toks := tk } ∧ i ≤ vs.length ∧ k = vs.length + 1 - i ∧ ys.length = i ∧ h'.IsListIter I ax i ∧ Fr h₀ L h' m ∧ h'.Ns C m' ∧ News h₀ L h' ((D, LCg.lst ys) :: (cst ++ tl)) ∧
        (∀ p ∈ cst ++ tl, p.1 ≠ I ∧ p.1 ≠ C ∧ p.1 ≠ D) ∧ Bl cst tl ∧ Inv i ys tl) ?_ (vs.length + 1)
      ⟨h₁, _, 0, [], _, [], rfl, Nat.zero_le _, rfl, rfl, (by obtain ⟨o, e, r⟩ := hI; exact ⟨o, old _ _ e, r⟩), F.keeps old, hns₁, fun p hp => ?_, fun p hp => ?_, Bl.nil, h0⟩
    · rintro k s' ⟨h', tk, i, ys, m', tl, rfl, hi, rfl, hyl, hit, F', hn', N', off', hbl, hinv⟩
      have Nc : News h₀ L h' (cst ++ tl) := fun p hp => N' p (List.mem_cons_of_mem _ hp)
      have hst' : h'.IsListIter I ax i ∧ h'.IsList ax vs.toArray := ⟨hit, hlist Nc⟩
      by_cases hlt : i < vs.length
      · refine W.item i _ _ _ (by rw [List.size_toArray]; exact hlt) hst' fun v h₂ tk₂ hPv hst₂ hk₂ => ?_
        refine wpAny_assign_Name (wpAny_storeName_local (lookup_relabel_local hx) (hn'.at' fun o e => hk₂ _ o (by simpa using hCI) e) (fun h₃ hn₃ hs₃ => ?_) (by simp [compEnvC, relabel, hkind]))
        have oI : ∃ oI, h₂.get? I = some oI := by obtain ⟨o, e, _⟩ := hst₂.1; exact ⟨o, e⟩
        obtain ⟨oI, heI⟩ := oI
        have heI := hs₃.extBut _ _ (Ne.symm hCI) heI
        have hit₃ : h₃.IsListIter I ax (i + 1) := by obtain ⟨o, e, r⟩ := hst₂.1; exact ⟨o, hs₃.extBut _ _ (Ne.symm hCI) e, r⟩
        obtain ⟨oC, heC, hoC⟩ := LCg.ns_obj hn₃
        have F₃ : Fr h₀ L h₃ m := (LCg.fr_but F' hk₂ hIL hI₀).change hs₃ hCL hC₀
        have N₂ : News h₀ L h₂ ((D, LCg.lst ys) :: (cst ++ tl)) := LCg.news_but N' hk₂ fun p hp => by
          rcases List.mem_cons.mp hp with rfl | hp
          · exact hDI
          · exact (off' p hp).1
        have N₃ : News h₀ L h₃ ((I, oI) :: (C, oC) :: (D, LCg.lst ys) :: (cst ++ tl)) := fun p hp => by
          rcases List.mem_cons.mp hp with rfl | hp
          · exact ⟨heI, Ne.symm hIL, hI₀⟩
          · rcases List.mem_cons.mp hp with rfl | hp
            · exact ⟨heC, hCL, hC₀⟩
            · have z := N₂ p hp
              refine ⟨hs₃.extBut _ _ ?_ z.1, z.2⟩
              rcases List.mem_cons.mp hp with rfl | hp
              · exact hDC
              · exact (off' p hp).2.1
        refine wpC_mono (turn i v ys tl I oI C oC D _ s₂.heap h₃ _ (by simpa using hPv) hinv hbl hoC (by simp) F₃ N₃ off' (Ne.symm hCI) (Ne.symm hDI) (Ne.symm hDC)) (fun y s₄ h₄ => ?_) fun _ _ e => e
        obtain ⟨h₄, tk₄, add, rfl, F₄, N₄, hb₄, hinv₄⟩ := h₄
        have zI := (N₄ (I, oI) List.mem_cons_self).1
        have zC := (N₄ (C, oC) (List.mem_cons_of_mem _ List.mem_cons_self)).1
        have zD := (N₄ (D, LCg.lst ys) (List.mem_cons_of_mem _ (List.mem_cons_of_mem _ List.mem_cons_self))).1
        have N₄' : News h₀ L h₄ (cst ++ (tl ++ add)) := fun p hp => N₄ p (List.mem_cons_of_mem _ (List.mem_cons_of_mem _ (List.mem_cons_of_mem _ (by rw [List.append_assoc]; exact hp))))
        have off₄ : ∀ p ∈ cst ++ (tl ++ add), p.1 ≠ I ∧ p.1 ≠ C ∧ p.1 ≠ D := fun p hp => by
          rw [← List.append_assoc] at hp
          rcases List.mem_append.mp hp with h1 | h1
          · exact off' p h1
          · exact ⟨(hb₄ _ List.mem_cons_self p h1).symm, (hb₄ _ (List.mem_cons_of_mem _ List.mem_cons_self) p h1).symm, (hb₄ _ (List.mem_cons_of_mem _ (List.mem_cons_of_mem _ List.mem_cons_self)) p h1).symm⟩
        refine append_at (hsz := by rw [List.size_toArray, hyl, sizeLine_eq]; omega) zD fun h₅ hs₅ hD₅ => ?_
        refine ⟨vs.length + 1 - (i + 1), by omega, h₅, tk₄, i + 1, ys ++ [y], _, tl ++ add, rfl, hlt, rfl, by rw [List.length_append, List.length_singleton, hyl], ?_, F₄.change hs₅ hDL hD₀,
          (hoC.ns zC).sameBut hs₅ (Ne.symm hDC), fun p hp => ?_, off₄, hbl.app (hb₄.sub fun p hp => List.mem_cons_of_mem _ (List.mem_cons_of_mem _ (List.mem_cons_of_mem _ (List.mem_append_left _ hp)))), hinv₄⟩
        · obtain ⟨o, e, r⟩ := hit₃
          rw [heI] at e; cases e
          exact ⟨_, hs₅.extBut _ _ (Ne.symm hDI) zI, r⟩
        · rcases List.mem_cons.mp hp with rfl | hp
          · exact ⟨hD₅.trans (congrArg some (LCg.lst_snoc ys y)), hDL, hD₀⟩
          · exact ⟨hs₅.extBut _ _ (off₄ p hp).2.2 (N₄' p hp).1, (N₄' p hp).2⟩
      · obtain rfl : i = vs.length := Nat.le_antisymm hi (Nat.not_lt.mp hlt)
        refine W.done _ _ _ (by rw [List.size_toArray]; exact hst') fun h₂ tk₂ hk₂ => ?_
        exact hRR _ _ h₂ tk₂ _ ys tl (LCg.fr_but F' hk₂ hIL hI₀) (LCg.news_but N' hk₂ fun p hp => by
          rcases List.mem_cons.mp hp with rfl | hp
          · exact hDI
          · exact (off' p hp).1) (fun p hp => (off' p hp).2.2) (hn'.at' fun o e => hk₂ _ o (by simpa using hCI) e) hC₀ hD₀ hCL hDL (Ne.symm hDC) (fun p hp => (off' p hp).2.1) hinv hbl
    · rcases List.mem_cons.mp hp with rfl | hp
      · exact ⟨hacc, hDL, hD₀⟩
      · rw [List.append_nil] at hp
        exact ⟨old _ _ (N p hp).1, (N p hp).2⟩
    · rw [List.append_nil] at hp
      exact ⟨off p hp, (below _ _ (N p hp).1).1, (below _ _ (N p hp).1).2⟩
  exact startCC (loop _ rfl) (W.self 0 _ _ _ ⟨by obtain ⟨o, e, r⟩ := hI; exact ⟨o, old _ _ e, r⟩, ⟨_, old _ _ (N _ hax).1, rfl, _, rfl⟩⟩ (loop _ rfl))

/-- y = [elt for x in iter], an element of which needs the caller -/
theorem assignCompC {elt iter : PySem.Expr} {x y : Str} {px py : Pos} {scope : Scope} {cl : List (Str × Addr)} {pos spos : Pos} {Q : Flow → Shared → Prop} (_F₀ : Fr h₀ L s.heap m) (hLe : env.locals = L)
    (hsw : swapsWith (.ListComp elt [⟨.Name x px, iter, [], 0⟩] scope pos) (some (.Name y py)) spos.line env = pure true)
    (hclos : closureFor scope env = pure cl) (hcell : ∀ z ∈ scope.names, z.2 ≠ .cell) (hkind : scope.kind = .function)
    (hnames : ∀ z ∈ scope.names, z.2 = .local → scope.names.lookup z.1 = some .local) (hx : scope.names.lookup x = some .local)
    (hy : env.kindOf y = some .local) (hp : (env.scope.kind == .class || (env.scope.kind == .module && env.locals != env.globals)) = false)
    (h : wpAny (model prog w) A (eval iter env) (fun xv s₁ => ∃ ax vs nn cst, ∃ Inv : Nat → List Value → List (Addr × Obj) → Prop, xv = .ref ax ∧ A.handled = none ∧ Fr h₀ L s₁.heap m ∧ News h₀ L s₁.heap cst ∧ (ax, listOf vs.toArray nn) ∈ cst ∧ vs.length ≤ 16384 ∧ Inv 0 [] [] ∧
      (∀ g, TurnC prog w A h₀ L m env elt x scope cl vs cst Inv { s₁ with heap := g }) ∧
      (∀ ys tl D h tk, Inv vs.length ys tl → Bl cst tl → Fr h₀ L h (fun z => if z = y then some (.ref D) else m z) → News h₀ L h ((D, LCg.lst ys) :: (cst ++ tl)) → (∀ p ∈ cst ++ tl, p.1 ≠ D) → Q .next { s₁ with heap := h, toks := tk })) E s)
    (hs : ∀ x, foldedSetIterable iter env x = pure x := by intro _; rfl) :
    wpC (model prog w) A (exec (.Assign [.Name y py] (.ListComp elt [⟨.Name x px, iter, [], 0⟩] scope pos) spos) env) Q E s := by
  subst hLe
  rw [exec_Assign_Name_used _ _ _ _ hsw]
  refine wpC_bind1 (wpAny_standAt (wpC_bind ?_))
  show wpC _ A (do let _ ← comprehension (.ListComp elt [⟨.Name x px, iter, [], 0⟩] scope pos) scope env _ (newList []) false (eval iter env) (some (assign (.Name y py) env))) _ _ s
  refine wpC_bind (wpC_mono (frameCC (u := assign (.Name y py) env) (Q := fun _ s' => Q .next s') rfl hs hclos hkind hnames
    (wpAny_mono h (fun xv s₁ h₁ => ?_) fun _ _ e => e)) (fun _ s' hq => wpC_pure (wpC_pure hq)) fun _ _ e => e)
  obtain ⟨ax, vs, nn, cst, Inv, rfl, hh, F, N, hax, hsz, h0, turn, done⟩ := h₁
  have hl : s₁.heap.IsList ax vs.toArray := ⟨_, (N _ hax).1, rfl, _, rfl⟩
  refine wpAny_pyIter_list hl ?_
  have up : ∀ b o, s₁.heap.get? b = some o → (s₁.heap.push { cls := .type "list_iterator", data := .fields #[.ref ax, .int 0 0] }).get? b = some o := fun b o e => Heap.get?_push_of_some _ e
  refine blockC (RR := compOut prog w A E (assign (.Name y py) env) (fun _ s' => Q .next s')) (Inv := Inv) (nn := nn) (vs := vs) (cst := cst) (I := s₁.heap.objs.size) (ax := ax) hh hsz (Nat.ne_of_lt (Heap.lt_size (N _ hax).1)) ⟨_, Heap.get?_push_size _ rfl, rfl, rfl⟩ hax hcell hkind hx (F.keeps up) (N.grown up) (Nat.ne_of_lt F.ns.lt) (next_is_new F) (fun p hp => Nat.ne_of_lt (Heap.lt_size (N p hp).1)) h0 (turn _) ?_
  intro D C h' tk m' ys tl F' N' o1 hn hC₀ hD₀ hCL hDL hCD offC hinv hbl
  show wpAny _ A (assign (.Name y py) env (.ref D)) _ _ _
  refine wpAny_assign_Name (wpAny_storeName_local hy F'.ns (fun h₂ hn₂ hs₂ => ?_) hp)
  have hL₀ : h₀.get? env.locals = none := Heap.get?_none_of_le F'.above
  have F₂ : Fr h₀ env.locals h₂ (fun z => if z = y then some (.ref D) else m z) := ⟨hn₂, fun b o e => hs₂.extBut b o (fun q => by rw [q, hL₀] at e; cases e) (F'.keep b o e), F'.above⟩
  refine ⟨m', hn.sameBut hs₂ hCL, fun h'' hs'' => done ys tl D h'' _ hinv hbl (F₂.change hs'' hCL hC₀) (fun p hp => ?_) o1⟩
  have z : h₂.get? p.1 = some p.2 := hs₂.extBut _ _ (N' p hp).2.1 (N' p hp).1
  refine ⟨hs''.extBut _ _ ?_ z, (N' p hp).2⟩
  rcases List.mem_cons.mp hp with rfl | hp
  · exact Ne.symm hCD
  · exact offC p hp
end
end Mine
end

section
open PySem PySem.W PyProof.Rows
set_option maxHeartbeats 400000
namespace Mine
theorem due_nameok {ls : List (Option Lf)} (h4 : ls.length ≤ 4) (hf : ∀ t ∈ ls, TokFit t) : ∀ nm ∈ dueG Lf.e Lf.e ls, NameOk nm := fun nm h => by
  obtain ⟨r, hr, hok, hl⟩ := due_ok Lf.e Lf.e ls nm h
  refine ⟨⟨r, hr⟩, fun t ht => ?_, by omega⟩
  rw [hr] at ht
  rcases List.mem_cons.mp ht with rfl | ht
  · trivial
  · rcases List.mem_append.mp ht with ht | ht
    · rcases hok t ht with rfl | h
      · trivial
      · exact hf t h
    · rw [List.mem_singleton.mp ht]; trivial
theorem names_nameok {ls : List (Option Lf)} (h4 : ls.length ≤ 4) (hf : ∀ t ∈ ls, TokFit t) : ∀ nm ∈ namesG ([some Lf.e] ++ ls ++ [some Lf.e]), NameOk nm := fun nm h =>
  due_nameok h4 hf nm ((names_due Lf.e Lf.e ls h4).1.mem_iff.mp h)
theorem leaf_fit (x : Int) : ∀ t ∈ leafOf x, TokFit t := by
  intro t ht
  unfold leafOf at ht
  split at ht
  · rw [List.mem_singleton.mp ht]; trivial
  · split at ht
    · rw [List.mem_singleton.mp ht]; trivial
    · split at ht
      · rw [List.mem_singleton.mp ht]
        have h1 := Int.fmod_nonneg_of_pos (Int.fdiv x 5) (by decide : (0 : Int) < 20000)
        have h2 := Int.fmod_lt_of_pos (Int.fdiv x 5) (by decide : (0 : Int) < 20000)
        exact ⟨by omega, by omega⟩
      · exact (List.not_mem_nil ht).elim
theorem leaf_one (x : Int) : (leafOf x).length ≤ 1 := by
  unfold leafOf
  split
  · simp
  · split
    · simp
    · split <;> simp
theorem leaves_fit (ns : List Int) : ∀ t ∈ leavesOf ns, TokFit t := fun t ht => by
  obtain ⟨x, _, h⟩ := List.mem_flatMap.mp ht
  exact leaf_fit x t h
theorem flat_one {α β : Type} (f : α → List β) (h : ∀ x, (f x).length ≤ 1) (l : List α) : (l.flatMap f).length ≤ l.length := by
  induction l with
  | nil => simp
  | cons a r ih => rw [List.flatMap_cons, List.length_append, List.length_cons]; have := h a; omega
theorem leaves_four (ns : List Int) : (leavesOf ns).length ≤ 4 := by
  have h := flat_one leafOf leaf_one (cellsOf ns)
  have h2 : (cellsOf ns).length = 4 := by
    unfold cellsOf
    rw [List.length_append, List.length_take, List.length_drop]
    have : ([1, 8, 2, 119] : List Int).length = 4 := rfl
    omega
  unfold leavesOf
  omega
end Mine
end

section
open PySem PySem.W PyProof.Rows PySem.Calls
open PySem.Sem (wp)
set_option maxRecDepth 100000
set_option maxHeartbeats 1000000
namespace Mine
namespace Fil
theorem owner_filter : Manifest.owners.lookup (String.ofList ['r', 'e', 't', 'l', 'i', 'f'].reverse) = some Manifest.sig_filter := by kernel_rfl
theorem slot_next : Slot "filter" "__next__" "filter.__next__" :=
  .of (owner := "filter") (n := "__next__") (by rw [typeLookup_type, builtinLookup_eq_fast]; kernel_rfl) (by decide +kernel) (by decide +kernel) (by decide +kernel)
    (by first | exact .inl (by decide +kernel) | exact .inr (by decide +kernel)) (by rw [isSubtype_type]; kernel_rfl)
theorem slot_init : Slot "filter" "__init__" "object.__init__" :=
  .of (owner := "object") (n := "__init__") (by rw [typeLookup_type, builtinLookup_eq_fast]; kernel_rfl) (by decide +kernel) (by decide +kernel) (by decide +kernel)
    (by first | exact .inl (by decide +kernel) | exact .inr (by decide +kernel)) (by rw [isSubtype_type]; kernel_rfl)
theorem slot_iter : Slot "filter" "__iter__" "filter.__iter__" :=
  .of (owner := "filter") (n := "__iter__") (by rw [typeLookup_type, builtinLookup_eq_fast]; kernel_rfl) (by decide +kernel) (by decide +kernel) (by decide +kernel)
    (by first | exact .inl (by decide +kernel) | exact .inr (by decide +kernel)) (by rw [isSubtype_type]; kernel_rfl)
theorem entry_next : entryFor table "filter.__next__" = some Builtin.«filter.__next__» := entryFor_of_tree (by kernel_rfl)
theorem entry_new : entryFor table "filter.__new__" = some Builtin.«filter.__new__» := entryFor_of_tree (by kernel_rfl)
theorem args_next (a : Value) : argsOk "filter.__next__" ⟨[a], []⟩ := by
  unfold argsOk; rw [signature?_of (id := "filter.__next__") (n := ['_', '_', 't', 'x', 'e', 'n', '_', '_']) (o := ['r', 'e', 't', 'l', 'i', 'f']) (by kernel_rfl) owner_filter]; kernel_rfl
theorem args_iter (a : Value) : argsOk "filter.__iter__" ⟨[a], []⟩ := by
  unfold argsOk; rw [signature?_of (id := "filter.__iter__") (n := ['_', '_', 'r', 'e', 't', 'i', '_', '_']) (o := ['r', 'e', 't', 'l', 'i', 'f']) (by kernel_rfl) owner_filter]; kernel_rfl
theorem entry_iter : entryFor table "filter.__iter__" = some Builtin.«dict_keyiterator.__iter__» :=
  entryFor_alias (id' := "dict_keyiterator.__iter__") (by rw [fastTable_eq_tree]; kernel_rfl) (by first | rfl | decide +kernel | (unfold String.splitOn; simp +decide [String.splitOnAux])) (by decide +kernel) (by rw [fastTable_eq_tree]; kernel_rfl)
theorem mro : mroOf (.type "filter") = pure [.type "filter", .type "object"] := by rw [mroOf_type]; kernel_rfl
theorem lookup_new : typeLookup (.type "filter") "__new__" = pure (some (.builtin "filter.__new__")) := by rw [typeLookup_type, builtinLookup_eq_fast]; kernel_rfl
theorem called : TypeCalled "filter" "filter.__new__" "object.__init__" :=
  ⟨by decide +kernel, by decide +kernel, ⟨_, _, mro⟩, madeBy_type mro lookup_new (by decide +kernel), by decide +kernel, by rw [isSubtype_type]; kernel_rfl, slot_init⟩
theorem typeCall (a b : Value) : checkTypeCall "filter" ⟨[a, b], []⟩ = pure () := by kernel_rfl
theorem newCall (a b : Value) : checkBuiltinCall "filter.__new__" ⟨[.type "filter", a, b], []⟩ = pure () := by kernel_rfl
theorem sub : isSubtype (.type "filter") (.type "filter") = pure true := by rw [isSubtype_type]; kernel_rfl
theorem args_init (obj a b : Value) : argsOk "object.__init__" ⟨[obj, a, b], []⟩ := PySem.F.args_object_init_3 obj a b
end Fil

noncomputable def IsFilter (h : Heap) (f it : Addr) : Prop := h.get? f = some { cls := .type "filter", data := .fields #[.none, .ref it] }

theorem pairs_any {prog prog' : Program} {w w' : World} : ∀ {es : List DictEntry} {kvs : List (Int × Value)}, Pairs (intKind prog w) es kvs → Pairs (intKind prog' w') es kvs
  | _, _, .nil => .nil
  | _, _, .cons h1 h2 h => .cons h1 h2 (pairs_any h)
theorem dictAt_any {prog prog' : Program} {w w' : World} {h : Heap} {d : Addr} {kvs : List (Int × Value)} {ep : Nat} (x : h.DictAt (knd := intKind prog w) d kvs ep) : h.DictAt (knd := intKind prog' w') d kvs ep := by
  obtain ⟨o, es, ho, hx, hd, hk, hp, hn⟩ := x
  exact ⟨o, es, ho, hx, hd, hk, pairs_any hp, hn⟩
theorem new_meets (v d : Addr) (prog₀ : Program) (w₀ : World) (kvs : List (Int × Value)) (ep : Nat) :
    Meets (Builtin.«filter.__new__» ⟨[.type "filter", .none, .ref v], []⟩) (fun _ R s => s.heap.IsValuesView v d ∧ s.heap.DictAt (knd := intKind prog₀ w₀) d kvs ep ∧
      R (.ok (.ret (.ref (s.heap.objs.size + 1)))) { s with heap := (s.heap.push { cls := .type "dict_valueiterator", data := .fields #[.ref d, .int 0 0, .int kvs.length 0, .int ep 0] }).push { cls := .type "filter", data := .fields #[.none, .ref s.heap.objs.size] } }) :=
  .of_wp fun prog w A R s ⟨hv, hm, h⟩ => by
    have hsub := Fil.sub
    have hm : s.heap.DictAt (knd := intKind prog w) d kvs ep := dictAt_any hm
    unfold Builtin.«filter.__new__» Builtin.SmallTypes.newClass
    wp_walk using wpAny_pyIter_values hv hm
    exact ⟨_, rfl, by rw [Heap.size_push]; exact h⟩
section
variable {prog : Program} {w : World} {A : Around} {E : Value → Shared → Prop} {s : Shared} {d f it : Addr} {kvs : List (Int × Value)} {ep i : Nat}
theorem call_filter {v : Addr} {Q : Value → Shared → Prop} (hv : s.heap.IsValuesView v d) (hm : s.heap.DictAt (knd := intKind prog w) d kvs ep)
    (h : ∀ h', IsFilter h' (s.heap.objs.size + 1) s.heap.objs.size → h'.IsValIter s.heap.objs.size d 0 kvs.length ep → (∀ b o, s.heap.get? b = some o → h'.get? b = some o) → Q (.ref (s.heap.objs.size + 1)) { s with heap := h' }) :
    wpAny (model prog w) A (call (.type "filter") [.none, .ref v]) Q E s := by
  refine callType_new Fil.called (by decide) (Fil.typeCall _ _) (Fil.newCall _ _) (fun obj => Fil.args_init obj _ _) Fil.entry_new (new_meets v d prog w kvs ep) ⟨hv, hm, ?_⟩
  have hz : (s.heap.push { cls := .type "dict_valueiterator", data := .fields #[.ref d, .int 0 0, .int kvs.length 0, .int ep 0] }).objs.size = s.heap.objs.size + 1 := Heap.size_push ..
  have he : IsFilter ((s.heap.push { cls := .type "dict_valueiterator", data := .fields #[.ref d, .int 0 0, .int kvs.length 0, .int ep 0] }).push { cls := .type "filter", data := .fields #[.none, .ref s.heap.objs.size] }) (s.heap.objs.size + 1) s.heap.objs.size := by
    have := Heap.get?_push_size (s.heap.push { cls := .type "dict_valueiterator", data := .fields #[.ref d, .int 0 0, .int kvs.length 0, .int ep 0] }) (o := { cls := .type "filter", data := .fields #[.none, .ref s.heap.objs.size] }) rfl
    rw [hz] at this; exact this
  exact ⟨⟨_, he, rfl⟩, h _ he ⟨_, Heap.get?_push_of_some _ (Heap.get?_push_size _ rfl), rfl, rfl⟩ fun b o x => Heap.get?_push_of_some _ (Heap.get?_push_of_some _ x)⟩

theorem valiter_stop {Q : Option Value → Shared → Prop} (hh : A.handled = none) (hit : s.heap.IsValIter it d i kvs.length ep) (hm : s.heap.DictAt (knd := intKind prog w) d kvs ep) (hx : kvs[i]? = none)
    (hE : ∀ e h', ({ s with heap := h' } : Shared).TypeIs e "StopIteration" → Heap.ExtBut it s.heap h' → E e { s with heap := h' }) :
    wpAny (model prog w) A (callSpecial? (.ref it) "__next__") Q E s := by
  obtain ⟨o, ho, hc, hd⟩ := id hit
  obtain ⟨od, es, hod, hcd, hdd, hk, hp, hn⟩ := id hm
  refine wpAny_callSpecial?_slot (name := Str.ofString "__next__") hit.typeIs F.slot_dict_valueiterator_next
    (wpAny_call_entry F.slot_dict_valueiterator_next hit.typeIs F.entry_dict_valueiterator_next ?_ (F.args_dict_valueiterator_next_1 _))
  refine wpAny_bind (wpAny_pure ?_)
  refine wpAny_bind ?_
  refine wpAny_bind ?_
  first | refine wpAny_bind (wpAny_typeNameOfWhole_valiter hit.typeIs (wpAny_pure ?_)) | refine wpAny_bind (wpAny_typeNameOf_valiter hit.typeIs (wpAny_pure ?_))
  refine wpAny_bind (wpAny_fieldsOf ho hd ?_)
  have hown : Builtin.Dict_items.ownsTuple "dict_valueiterator" = false := by decide
  simp only [hown, Bool.false_eq_true, if_false]
  show wpAny _ _ (if (Value.ref d == Value.none) = true then _ else _) _ _ s
  rw [if_neg (show ¬ ((Value.ref d == Value.none) = true) from Bool.false_ne_true)]
  refine wpAny_bind (wpAny_pure (wpAny_bind (wpAny_dictEntries hod hdd ?_)))
  have hsz : es.size = kvs.length := by rw [← hp.length]; simp
  rw [if_neg (by rw [hsz]; simp)]
  refine wpAny_bind (wpAny_pure (wpAny_bind (wpAny_dictEpoch hod hdd ?_)))
  rw [if_neg (by simp)]
  refine wpAny_pure ?_
  have hge : es.size ≤ i := by rw [hsz]; simpa using hx
  simp only [show ¬ ((i : Int) < 0) from by omega, if_false, Int.toNat_natCast, Array.getElem?_eq_none hge]
  refine wpAny_bind ?_
  first | refine wpAny_bind (wpAny_typeNameOfWhole_valiter hit.typeIs (wpAny_pure ?_)) | refine wpAny_bind (wpAny_typeNameOf_valiter hit.typeIs (wpAny_pure ?_))
  show wpAny _ _ (setField (.ref it) 0 .none >>= _) _ _ s
  refine wpAny_bind (wpAny_setField ho hd (by simp) ?_)
  show wpAny _ _ (newExc (.type "StopIteration") [] >>= _) _ _ _
  refine wpAny_bind ?_
  simp only [newExc, newTuple]
  refine wpAny_bind (wpAny_newObj_type ?_ (by size_fits))
  refine wpAny_bind (m := firstArgMember _ _) (wpAny_of_eq (a := Value.none) (by first | rfl | (simp only [firstArgMember]; rfl)) ?_)
  refine wpAny_newObj_type ?_ (by size_fits)
  simp only [raiseNew]
  refine wpAny_bind (wpAny_handled ?_)
  rw [show A.in1.handled = none from hh]
  refine wpAny_bind (wpAny_pure (wpAny_throw ?_))
  exact hE _ _ ⟨_, Heap.get?_push_size _ rfl, rfl⟩ (((Heap.SameBut.update ..).extBut.push _).push _)
end
end Mine
end

section
open PySem PySem.W PyProof.Rows PySem.Calls
open PySem.Sem (wp)
set_option maxRecDepth 100000
set_option maxHeartbeats 1000000
namespace Mine
noncomputable def keepV : Value → Bool
  | .int x _ => decide (x ≠ 0)
  | _ => false
noncomputable def Plain : Value → Prop
  | .int _ _ => True
  | .none => True
  | _ => False
section
variable {prog : Program} {w : World} {A : Around} {E : Value → Shared → Prop} {s : Shared} {d f it : Addr} {kvs : List (Int × Value)} {ep : Nat}
theorem truthy_plain {v : Value} (hv : Plain v) {Q : Bool → Shared → Prop} (h : Q (keepV v) s) : wpAny (model prog w) A (truthy v) Q E s := by
  cases v <;> try exact hv.elim
  · exact wpAny_pure h
  · refine PySem.P.truthy_int ?_
    have e : ∀ x : Int, (x != 0) = decide (x ≠ 0) := fun x => by simp [bne, BEq.beq]
    rw [e]; exact h

theorem valiter_item {i : Nat} {k : Int} {v : Value} {Q : Option Value → Shared → Prop} (hit : s.heap.IsValIter it d i kvs.length ep) (hm : s.heap.DictAt (knd := intKind prog w) d kvs ep) (hx : kvs[i]? = some (k, v))
    (hQ : ∀ h', h'.IsValIter it d (i + 1) kvs.length ep → Heap.SameBut it s.heap h' → Q (some v) { s with heap := h' }) :
    wpAny (model prog w) A (callSpecial? (.ref it) "__next__") Q E s := by
  obtain ⟨o, ho, hc, hd⟩ := id hit
  obtain ⟨od, es, hod, hcd, hdd, hk, hp, hn⟩ := id hm
  refine wpAny_callSpecial?_slot (name := Str.ofString "__next__") hit.typeIs F.slot_dict_valueiterator_next
    (wpAny_call_entry F.slot_dict_valueiterator_next hit.typeIs F.entry_dict_valueiterator_next ?_ (F.args_dict_valueiterator_next_1 _))
  refine wpAny_bind (wpAny_pure ?_)
  refine wpAny_bind ?_
  refine wpAny_bind ?_
  first | refine wpAny_bind (wpAny_typeNameOfWhole_valiter hit.typeIs (wpAny_pure ?_)) | refine wpAny_bind (wpAny_typeNameOf_valiter hit.typeIs (wpAny_pure ?_))
  refine wpAny_bind (wpAny_fieldsOf ho hd ?_)
  have hown : Builtin.Dict_items.ownsTuple "dict_valueiterator" = false := by decide
  simp only [hown, Bool.false_eq_true, if_false]
  show wpAny _ _ (if (Value.ref d == Value.none) = true then _ else _) _ _ s
  rw [if_neg (show ¬ ((Value.ref d == Value.none) = true) from Bool.false_ne_true)]
  refine wpAny_bind (wpAny_pure (wpAny_bind (wpAny_dictEntries hod hdd ?_)))
  have hsz : es.size = kvs.length := by rw [← hp.length]; simp
  rw [if_neg (by rw [hsz]; simp)]
  refine wpAny_bind (wpAny_pure (wpAny_bind (wpAny_dictEpoch hod hdd ?_)))
  rw [if_neg (by simp)]
  refine wpAny_pure ?_
  have hlt : i < kvs.length := (List.getElem?_eq_some_iff.mp hx).1
  have hlt' : i < es.size := by rw [hsz]; exact hlt
  have hval : es[i].val = v := (hp.get? (e := es[i]) (by simp [hlt']) hx).2
  simp only [show ¬ ((i : Int) < 0) from by omega, if_false, Int.toNat_natCast, Array.getElem?_eq_getElem hlt']
  refine wpAny_bind ?_
  first | refine wpAny_bind (wpAny_typeNameOfWhole_valiter hit.typeIs (wpAny_pure ?_)) | refine wpAny_bind (wpAny_typeNameOf_valiter hit.typeIs (wpAny_pure ?_))
  refine wpAny_bind (wpAny_isOneOf_valiter hit.typeIs ?_)
  show wpAny _ _ (setField (.ref it) 1 (rawInt ((i : Int) + 1)) >>= _) _ _ s
  refine wpAny_bind (wpAny_setField ho hd (by simp) ?_)
  have hit' : (s.heap.update it (Obj.mapFields (·.setIfInBounds 1 (rawInt ((i : Int) + 1))))).IsValIter it d (i + 1) kvs.length ep :=
    ⟨_, Heap.get?_update_self _ ho (Obj.isFreed_of_fields (Obj.data_mapFields hd _)), (Obj.cls_mapFields ..).trans hc, by rw [Obj.data_mapFields hd]; simp [rawInt]⟩
  refine wpAny_bind (wpAny_holding ?_)
  refine wpAny_bind (wpAny_isOneOf_valiter (s := { s with heap := s.heap.update it (Obj.mapFields (·.setIfInBounds 1 (rawInt ((i : Int) + 1)))) }) hit'.typeIs ?_)
  refine wpAny_bind (wpAny_isOneOf_valiter (s := { s with heap := s.heap.update it (Obj.mapFields (·.setIfInBounds 1 (rawInt ((i : Int) + 1)))) }) hit'.typeIs ?_)
  show wpAny _ _ (pure es[i].val) _ _ _
  exact wpAny_pure (wpAny_pure ⟨_, rfl, hval ▸ hQ _ hit' (Heap.SameBut.update ..)⟩)

/-- the turns of filter.__next__ -/
theorem next_code (hh : A.handled = none) {R : Result → Shared → Prop} (hfi : f ≠ it) (hdi : d ≠ it) (hpl : ∀ p ∈ kvs, Plain p.2) :
    ∀ (n i : Nat) (s : Shared), kvs.length - i = n → IsFilter s.heap f it → s.heap.IsValIter it d i kvs.length ep → s.heap.DictAt (knd := intKind prog w) d kvs ep →
    (∀ j k v h', i ≤ j → kvs[j]? = some (k, v) → keepV v = true → (∀ q, i ≤ q → q < j → ∀ p, kvs[q]? = some p → keepV p.2 = false) → h'.IsValIter it d (j + 1) kvs.length ep → Heap.ExtBut it s.heap h' → R (.ok (.ret v)) { s with heap := h' }) →
    ((∀ q, i ≤ q → ∀ p, kvs[q]? = some p → keepV p.2 = false) → ∀ e h', ({ s with heap := h' } : Shared).TypeIs e "StopIteration" → Heap.ExtBut it s.heap h' → R (.error e) { s with heap := h' }) →
    wpAny (model prog w) A.in1 (Builtin.«filter.__next__» ⟨[.ref f], []⟩) (fun fin s' => match fin with | .done f => R (.ok f) s' | .again c' => c'.quiet = true ∧ codeAny (model prog w) A c' R s') (fun e s' => R (.error e) s') s := by
  intro n
  induction n using Nat.strongRecOn with
  | ind n ih =>
    intro i s hn hf hit hm hfound hstop
    unfold Builtin.«filter.__next__»
    refine wpAny_bind (wpAny_of_eq (show slotArgs "__next__" 0 ⟨[.ref f], []⟩ = pure (.ref f, []) from rfl) ?_)
    refine wpAny_bind (wpAny_field hf rfl (x := .none) rfl ?_)
    refine wpAny_bind (wpAny_field hf rfl (x := .ref it) rfl ?_)
    cases hx : kvs[i]? with
    | none =>
      refine wpAny_bind (valiter_stop hh hit hm hx fun e h' hT hs => hstop (fun q hq p hp => ?_) e h' hT hs)
      have := (List.getElem?_eq_some_iff.mp hp).1
      have := List.getElem?_eq_none_iff.mp hx
      omega
    | some p =>
      obtain ⟨k, v⟩ := p
      have hlt := (List.getElem?_eq_some_iff.mp hx).1
      refine wpAny_bind (valiter_item hit hm hx fun h' hit' hs => ?_)
      have hf' : IsFilter h' f it := hs.extBut f _ hfi hf
      have hm' : h'.DictAt (knd := intKind prog w) d kvs ep := hm.extBut hs.extBut hdi
      dsimp only
      rw [if_pos (show (Value.none == Value.none || Value.none == Value.type "bool") = true from rfl)]
      refine wpAny_bind (wpAny_holding (wpAny_bind (wpAny_rule (truthy_plain (hpl _ (List.mem_of_getElem? hx)) ?_))))
      cases hk : keepV v with
      | true => exact wpAny_pure (hfound i k v h' (Nat.le_refl _) hx hk (fun q h1 h2 => absurd h1 (by omega)) hit' hs.extBut)
      | false =>
        refine wpAny_pure ⟨plainId_quiet Fil.slot_next.plain _, codeAny_builtin Fil.entry_next ?_⟩
        rw [Around.under_plainId Fil.slot_next.plain _]
        refine ih (kvs.length - (i + 1)) (by omega) (i + 1) { s with heap := h' } rfl hf' hit' hm' ?_ ?_
        · intro j k' v' h2 hj hx' hk' hbt hit2 hs2
          refine hfound j k' v' h2 (by omega) hx' hk' (fun q h1 h3 p hp => ?_) hit2 (hs.extBut.trans hs2)
          rcases Nat.lt_or_ge i q with h4 | h4
          · exact hbt q (by omega) h3 p hp
          · obtain rfl : q = i := by omega
            rw [hx] at hp; cases hp; exact hk
        · intro hno e h2 hT hs2
          refine hstop (fun q h1 p hp => ?_) e h2 hT (hs.extBut.trans hs2)
          rcases Nat.lt_or_ge i q with h4 | h4
          · exact hno q (by omega) p hp
          · obtain rfl : q = i := by omega
            rw [hx] at hp; cases hp; exact hk
noncomputable def NextSpec (prog : Program) (w : World) (d f it : Addr) (kvs : List (Int × Value)) (ep i : Nat) (A : Around) (R : Result → Shared → Prop) (s : Shared) : Prop :=
  A.handled = none ∧ IsFilter s.heap f it ∧ s.heap.IsValIter it d i kvs.length ep ∧ s.heap.DictAt (knd := intKind prog w) d kvs ep ∧
    (∀ j k v h', i ≤ j → kvs[j]? = some (k, v) → keepV v = true → (∀ q, i ≤ q → q < j → ∀ p, kvs[q]? = some p → keepV p.2 = false) → h'.IsValIter it d (j + 1) kvs.length ep → Heap.ExtBut it s.heap h' → R (.ok (.ret v)) { s with heap := h' }) ∧
    ((∀ q, i ≤ q → ∀ p, kvs[q]? = some p → keepV p.2 = false) → ∀ e h', ({ s with heap := h' } : Shared).TypeIs e "StopIteration" → Heap.ExtBut it s.heap h' → R (.error e) { s with heap := h' })
theorem next_meets (hfi : f ≠ it) (hdi : d ≠ it) (hpl : ∀ p ∈ kvs, Plain p.2) (i : Nat) : MeetsIn prog w (Builtin.«filter.__next__» ⟨[.ref f], []⟩) (NextSpec prog w d f it kvs ep i) :=
  fun _ _ s ⟨hh, hf, hit, hm, h1, h2⟩ => next_code hh hfi hdi hpl _ i s rfl hf hit hm h1 h2
/-- next() of the filter -/
theorem next_filter (hh : A.handled = none) {Q : Option Value → Shared → Prop} {i : Nat} (hfi : f ≠ it) (hdi : d ≠ it) (hpl : ∀ p ∈ kvs, Plain p.2)
    (hf : IsFilter s.heap f it) (hit : s.heap.IsValIter it d i kvs.length ep) (hm : s.heap.DictAt (knd := intKind prog w) d kvs ep)
    (hfound : ∀ j k v h', i ≤ j → kvs[j]? = some (k, v) → keepV v = true → (∀ q, i ≤ q → q < j → ∀ p, kvs[q]? = some p → keepV p.2 = false) → h'.IsValIter it d (j + 1) kvs.length ep → Heap.ExtBut it s.heap h' → Q (some v) { s with heap := h' })
    (hstop : (∀ q, i ≤ q → ∀ p, kvs[q]? = some p → keepV p.2 = false) → ∀ h', Heap.ExtBut it s.heap h' → Q none { s with heap := h' }) :
    wpAny (model prog w) A (pyNext (.ref f)) Q E s := by
  have hT : s.TypeIs (.ref f) "filter" := ⟨_, hf, rfl⟩
  unfold pyNext
  refine wpAny_bind (wpAny_attempt (wpAny_callSpecial?_slot (name := Str.ofString "__next__") hT Fil.slot_next ?_))
  refine call_meetsIn Fil.slot_next hT Fil.entry_next (Fil.args_next _) (next_meets hfi hdi hpl i) ⟨hh, hf, hit, hm, ?_, ?_⟩
  · intro j k v h' h1 h2 h3 h4 h5 h6
    exact wpAny_pure (hfound j k v h' h1 h2 h3 h4 h5 h6)
  · intro hno e h' hT' hs
    refine wpAny_bind (wpAny_isInstance (T := "StopIteration") (b := true) hT' isSubtype_stop ?_)
    exact wpAny_pure (hstop hno h' hs)
end
end Mine
end

section
open PySem PySem.W PyProof.Rows PySem.Calls
open PySem.Sem (wp)
set_option maxRecDepth 100000
set_option maxHeartbeats 1000000
namespace Mine
theorem args_maxd (a d : Value) : argsOk "max" ⟨[a], [(Str.ofString "default", d)]⟩ := by unfold argsOk; kernel_rfl
theorem check_maxd (a d : Value) : checkBuiltinCall "max" ⟨[a], [(Str.ofString "default", d)]⟩ = pure () := by kernel_rfl
theorem bind_maxd (d : Value) : Builtin.Builtins.bindParams "max" ["key", "default"] 0 ⟨[], [(Str.ofString "default", d)]⟩ = pure [none, some d] := by rfl
/-- the best of the first i -/
noncomputable def Best (kvs : List (Int × Value)) (i : Nat) (arr : Array Value) : Prop :=
  (arr = #[] ∧ ∀ q, q < i → ∀ p, kvs[q]? = some p → keepV p.2 = false) ∨
  ∃ M t, arr = #[.int M t, .int M t] ∧ (∃ p ∈ kvs, ∃ u, p.2 = .int M u ∧ M ≠ 0) ∧ ∀ q, q < i → ∀ p, kvs[q]? = some p → ∀ x u, p.2 = .int x u → x ≠ 0 → x ≤ M
theorem keep_int {v : Value} (h : keepV v = true) : ∃ x u, v = .int x u ∧ x ≠ 0 := by
  cases v <;> simp only [keepV, decide_eq_true_eq] at h <;> first | exact ⟨_, _, rfl, h⟩ | (cases h)
section
variable {prog : Program} {w : World} {A : Around} {E : Value → Shared → Prop} {s : Shared} {d f it : Addr} {kvs : List (Int × Value)} {ep : Nat} {R : Result → Shared → Prop} {dv : Value}
theorem maxd_loop (hh : A.handled = none) (hfi : f ≠ it) (hdi : d ≠ it) (hpl : ∀ p ∈ kvs, Plain p.2) (S : Addr) (hSf : S ≠ f) (hSi : S ≠ it) (hSd : S ≠ d) :
    ∀ (n i : Nat) (s : Shared) (arr : Array Value) (c : Nat), kvs.length - i = n → IsFilter s.heap f it → s.heap.IsValIter it d i kvs.length ep → s.heap.DictAt (knd := intKind prog w) d kvs ep →
    s.heap.get? S = some { cls := .type "list", dict := none, data := .seq arr c, slots := #[] } → Best kvs i arr →
    (∀ h' tk, (∀ b o, b ≠ it → b ≠ S → s.heap.get? b = some o → h'.get? b = some o) → (∀ p ∈ kvs, keepV p.2 = false) → R (.ok (.ret dv)) { s with heap := h', toks := tk }) →
    (∀ M t h' tk, (∀ b o, b ≠ it → b ≠ S → s.heap.get? b = some o → h'.get? b = some o) → (∃ p ∈ kvs, ∃ u, p.2 = .int M u ∧ M ≠ 0) → (∀ p ∈ kvs, ∀ x u, p.2 = .int x u → x ≠ 0 → x ≤ M) → R (.ok (.ret (.int M t))) { s with heap := h', toks := tk }) →
    codeAny (model prog w) A (.builtin "max.loop" ⟨[.ref f, .none, .ref S], [(Str.ofString "default", dv)]⟩) R s := by
  have hname : (toString "max" ++ toString ".loop" : String) = "max.loop" := by decide
  intro n
  induction n using Nat.strongRecOn with
  | ind n ih =>
    intro i s arr c hn hf hit hm hS hb hno hM
    refine codeAny_builtin F.entry_max_loop ?_
    rw [Around.under_plainId F.plain_max_loop _]
    show wpAny _ A.in1 (seqItems? (.ref S) >>= _) _ _ s
    refine wpAny_bind (wpAny_seqItems hS rfl ?_)
    show wpAny _ A.in1 (tryCatch (pyNext (.ref f)) _ >>= _) _ _ s
    refine wpAny_bind (wpAny_tryCatch (next_filter (A := A.in1) (show A.in1.handled = none from hh) hfi hdi hpl hf hit hm ?_ ?_))
    · intro j k v h' hij hx hk hbt hit' hs
      obtain ⟨x, u, rfl, hx0⟩ := keep_int hk
      have hS' := hs S _ hSi hS
      have hj := (List.getElem?_eq_some_iff.mp hx).1
      have hf' : IsFilter h' f it := hs f _ hfi hf
      have hm' : h'.DictAt (knd := intKind prog w) d kvs ep := hm.extBut hs hdi
      have hmem := List.mem_of_getElem? hx
      have skip : ∀ q, i ≤ q → q < j → ∀ p, kvs[q]? = some p → ∀ y t, p.2 = .int y t → y ≠ 0 → False := fun q h1 h2 p hp y t e h0 => by
        have := hbt q h1 h2 p hp
        rw [e] at this
        simp only [keepV, decide_eq_false_iff_not] at this
        exact this h0
      rcases hb with ⟨rfl, hb⟩ | ⟨M, t, rfl, hM0, hb⟩
      · show wpAny _ A.in1 (updateSeq S (fun _ => #[.int x u, .int x u]) >>= _) _ _ _
        refine wpAny_bind ?_
        refine wpAny_updateSeq hS' rfl ?_
        rw [hname]
        refine wpAny_pure ⟨plainId_quiet F.plain_max_loop _, ih (kvs.length - (j + 1)) (by omega) (j + 1) _ #[.int x u, .int x u] _ rfl ((Heap.get?_update_other _ _ hSf).trans hf') ?_ ?_ (Heap.get?_update_self _ hS' rfl) (.inr ⟨x, u, rfl, ⟨_, hmem, u, rfl, hx0⟩, fun q hq p hp y t e h0 => ?_⟩) ?_ ?_⟩
        · obtain ⟨o, e, r⟩ := hit'
          exact ⟨o, (Heap.get?_update_other _ _ hSi).trans e, r⟩
        · obtain ⟨o, es, e, r⟩ := hm'
          exact ⟨o, es, (Heap.get?_update_other _ _ hSd).trans e, r⟩
        · rcases Nat.lt_or_ge q i with h1 | h1
          · have := hb q h1 p hp
            rw [e] at this
            simp only [keepV, decide_eq_false_iff_not] at this
            exact absurd h0 this
          · rcases Nat.lt_or_ge q j with h2 | h2
            · exact (skip q h1 h2 p hp y t e h0).elim
            · obtain rfl : q = j := by omega
              rw [hx] at hp; cases hp; cases e; exact Int.le_refl _
        · exact fun h2 tk hk2 => hno h2 tk fun b o h1 h3 e => hk2 b o h1 h3 ((Heap.get?_update_other _ _ (Ne.symm h3)).trans (hs b o h1 e))
        · exact fun M t h2 tk hk2 => hM M t h2 tk fun b o h1 h3 e => hk2 b o h1 h3 ((Heap.get?_update_other _ _ (Ne.symm h3)).trans (hs b o h1 e))
      · show wpAny _ A.in1 (tryCatch (holding [.int x u, .int x u] (richCompare .Gt (.int x u) (.int M t) >>= _)) _ >>= _) _ _ _
        refine wpAny_bind (wpAny_tryCatch (wpAny_holding (wpAny_bind ?_)))
        refine P.gt_int ?_
        refine wpAny_bind (wpAny_holding (wpAny_truthy_bool ?_))
        refine wpAny_bind (wpAny_letGo (wpAny_pure ?_))
        by_cases hgt : x > M
        · rw [decide_eq_true hgt]
          simp only [if_true]
          refine wpAny_bind ?_
          refine wpAny_updateSeq hS' rfl (wpAny_bind (wpAny_letGo ?_))
          rw [hname]
          refine wpAny_pure ⟨plainId_quiet F.plain_max_loop _, ih (kvs.length - (j + 1)) (by omega) (j + 1) _ #[.int x u, .int x u] _ rfl ((Heap.get?_update_other _ _ hSf).trans hf') ?_ ?_ (Heap.get?_update_self _ hS' rfl) (.inr ⟨x, u, rfl, ⟨_, hmem, u, rfl, hx0⟩, fun q hq p hp y t' e h0 => ?_⟩) ?_ ?_⟩
          · obtain ⟨o, e, r⟩ := hit'
            exact ⟨o, (Heap.get?_update_other _ _ hSi).trans e, r⟩
          · obtain ⟨o, es, e, r⟩ := hm'
            exact ⟨o, es, (Heap.get?_update_other _ _ hSd).trans e, r⟩
          · rcases Nat.lt_or_ge q i with h1 | h1
            · have := hb q h1 p hp y t' e h0
              omega
            · rcases Nat.lt_or_ge q j with h2 | h2
              · exact (skip q h1 h2 p hp y t' e h0).elim
              · obtain rfl : q = j := by omega
                rw [hx] at hp; cases hp; cases e; exact Int.le_refl _
          · exact fun h2 tk hk2 => hno h2 tk fun b o h1 h3 e => hk2 b o h1 h3 ((Heap.get?_update_other _ _ (Ne.symm h3)).trans (hs b o h1 e))
          · exact fun M t h2 tk hk2 => hM M t h2 tk fun b o h1 h3 e => hk2 b o h1 h3 ((Heap.get?_update_other _ _ (Ne.symm h3)).trans (hs b o h1 e))
        · rw [decide_eq_false hgt]
          simp only [Bool.false_eq_true, if_false]
          refine wpAny_bind (wpAny_letGo ?_)
          rw [hname]
          refine wpAny_pure ⟨plainId_quiet F.plain_max_loop _, ih (kvs.length - (j + 1)) (by omega) (j + 1) _ #[.int M t, .int M t] c rfl hf' hit' hm' hS' (.inr ⟨M, t, rfl, hM0, fun q hq p hp y t' e h0 => ?_⟩) ?_ ?_⟩
          · rcases Nat.lt_or_ge q i with h1 | h1
            · exact hb q h1 p hp y t' e h0
            · rcases Nat.lt_or_ge q j with h2 | h2
              · exact (skip q h1 h2 p hp y t' e h0).elim
              · obtain rfl : q = j := by omega
                rw [hx] at hp; cases hp; cases e; omega
          · exact fun h2 tk hk2 => hno h2 tk fun b o h1 h3 e => hk2 b o h1 h3 (hs b o h1 e)
          · exact fun M t h2 tk hk2 => hM M t h2 tk fun b o h1 h3 e => hk2 b o h1 h3 (hs b o h1 e)
    · intro hnone h' hs
      have hS' := hs S _ hSi hS
      rcases hb with ⟨rfl, hb⟩ | ⟨M, t, rfl, hM0, hb⟩
      · refine wpAny_bind (wpAny_rule (wpAny_pure (hno h' _ (fun b o h1 _ e => hs b o h1 e) fun p hp => ?_)))
        obtain ⟨q, hq⟩ := List.getElem?_of_mem hp
        rcases Nat.lt_or_ge q i with h1 | h1
        · exact hb q h1 p hq
        · exact hnone q h1 p hq
      · show wpAny _ A.in1 (updateSeq S (fun _ => #[]) >>= _) _ _ _
        refine wpAny_bind ?_
        refine wpAny_updateSeq hS' rfl (wpAny_bind (wpAny_letGo (wpAny_pure ?_)))
        refine hM M t _ _ (fun b o h1 h2 e => (Heap.get?_update_other _ _ (Ne.symm h2)).trans (hs b o h1 e)) hM0 fun p hp x u e h0 => ?_
        obtain ⟨q, hq⟩ := List.getElem?_of_mem hp
        rcases Nat.lt_or_ge q i with h1 | h1
        · exact hb q h1 p hq x u e h0
        · have := hnone q h1 p hq
          rw [e] at this
          simp only [keepV, decide_eq_false_iff_not] at this
          exact absurd h0 this

/-- max(filter(None, d.values()), default=dv), from the call of max on -/
theorem call_maxd (hh : A.handled = none) (hfi : f ≠ it) (hdi : d ≠ it) (hpl : ∀ p ∈ kvs, Plain p.2) {Q : Value → Shared → Prop} (hf : IsFilter s.heap f it) (hit : s.heap.IsValIter it d 0 kvs.length ep) (hm : s.heap.DictAt (knd := intKind prog w) d kvs ep)
    (hno : ∀ h' tk, (∀ b o, b ≠ it → s.heap.get? b = some o → h'.get? b = some o) → (∀ p ∈ kvs, keepV p.2 = false) → Q dv { s with heap := h', toks := tk })
    (hM : ∀ M t h' tk, (∀ b o, b ≠ it → s.heap.get? b = some o → h'.get? b = some o) → (∃ p ∈ kvs, ∃ u, p.2 = .int M u ∧ M ≠ 0) → (∀ p ∈ kvs, ∀ x u, p.2 = .int x u → x ≠ 0 → x ≤ M) → Q (.int M t) { s with heap := h', toks := tk }) :
    wpAny (model prog w) A (call (.builtin "max") [.ref f] [(Str.ofString "default", dv)]) Q E s := by
  have hname : (toString "max" ++ toString ".loop" : String) = "max.loop" := by decide
  have hT : s.TypeIs (.ref f) "filter" := ⟨_, hf, rfl⟩
  refine wpAny_call (codeAny_call_builtin F.plain_max F.entry_max (wpAny_of_eq (check_maxd _ _) ?_))
  show wpAny _ A.in1 (Builtin.Builtins.bindParams "max" ["key", "default"] 0 ⟨[], [(Str.ofString "default", dv)]⟩ >>= _) _ _ s
  refine wpAny_bind (wpAny_of_eq (bind_maxd dv) ?_)
  refine wpAny_bind (wpAny_pure ?_)
  refine wpAny_bind (wpAny_pyIter_slot hT Fil.slot_iter (wpAny_call_entry Fil.slot_iter hT Fil.entry_iter ?_ (Fil.args_iter _)))
  show wpAny _ _ (ret (.ref f)) _ _ s
  refine wpAny_pure ⟨_, rfl, "filter", _, hT, Fil.slot_next.lookup, ?_⟩
  refine wpAny_bind (wpAny_newObj_type ?_)
  rw [hname]
  have lt : ∀ {b : Addr} {o : Obj}, s.heap.get? b = some o → b ≠ s.heap.objs.size := fun e => Nat.ne_of_lt (Heap.lt_size e)
  have up : ∀ b o, s.heap.get? b = some o → (s.heap.push { cls := .type "list", dict := none, data := .seq ([] : List Value).toArray }).get? b = some o := fun b o e => Heap.get?_push_of_some _ e
  refine wpAny_pure ⟨plainId_quiet F.plain_max_loop _, maxd_loop hh hfi hdi hpl s.heap.objs.size (Ne.symm (lt hf)) ?_ ?_ _ 0 _ #[] _ rfl (up _ _ hf) ?_ (hm.push _) (Heap.get?_push_size _ rfl) (.inl ⟨rfl, fun q hq => absurd hq (Nat.not_lt_zero _)⟩) ?_ ?_⟩
  · obtain ⟨o, e, _⟩ := hit; exact Ne.symm (lt e)
  · obtain ⟨o, es, e, _⟩ := hm; exact Ne.symm (lt e)
  · obtain ⟨o, e, r⟩ := hit; exact ⟨o, up _ _ e, r⟩
  · exact fun h' tk hk => hno h' tk fun b o h1 e => hk b o h1 (lt e) (up _ _ e)
  · exact fun M t h' tk hk => hM M t h' tk fun b o h1 e => hk b o h1 (lt e) (up _ _ e)
end
end Mine
end

section
open PySem PySem.W PyProof.Rows PySem.Calls
open PySem.Sem (wp)
set_option maxRecDepth 100000
set_option maxHeartbeats 1000000
namespace Mine
theorem lookup_contains : typeLookup (.type "dict_values") "__contains__" = pure none := by rw [typeLookup_type, builtinLookup_eq_fast]; kernel_rfl
theorem entry_ci : entryFor table "proto.contains_iter" = some Builtin.«proto.contains_iter» := entryFor_of_tree (by kernel_rfl)
theorem plain_ci : plainId "proto.contains_iter" = true := by decide +kernel
noncomputable def isNoneV : Value → Bool
  | .none => true
  | _ => false
section
variable {prog : Program} {w : World} {A : Around} {E : Value → Shared → Prop} {s : Shared} {d v it : Addr} {kvs : List (Int × Value)} {ep : Nat} {R : Result → Shared → Prop}
theorem eq_none {x : Value} (hx : Plain x) (hu : A.units + 2 < cLine) {Q : Bool → Shared → Prop} (h : Q (isNoneV x) s) : wpAny (model prog w) A (eqBool x .none) Q E s := by
  cases x <;> try exact hx.elim
  · exact SeqAt.eqBoolOverData prog w A E s _ _ .none .none [] [] Q .none .none rfl rfl (by simp only [PyData.depth]; omega) h
  · rename_i i t
    exact SeqAt.eqBoolOverData prog w A E s _ _ (.int i) .none [] [] Q (.int i t) .none rfl rfl (by simp only [PyData.depth]; omega) h
theorem ci_loop (hh : A.handled = none) (hu : A.units + 4 < cLine) (hdi : d ≠ it) (hpl : ∀ p ∈ kvs, Plain p.2) :
    ∀ (n i : Nat) (s : Shared), kvs.length - i = n → s.heap.IsValIter it d i kvs.length ep → s.heap.DictAt (knd := intKind prog w) d kvs ep → (∀ q, q < i → ∀ p, kvs[q]? = some p → isNoneV p.2 = false) →
    (∀ h' tk, (∀ b o, b ≠ it → s.heap.get? b = some o → h'.get? b = some o) → R (.ok (.ret (.bool (kvs.any fun p => isNoneV p.2)))) { s with heap := h', toks := tk }) →
    codeAny (model prog w) A (.builtin "proto.contains_iter" ⟨[.ref it, .none], []⟩) R s := by
  intro n
  induction n using Nat.strongRecOn with
  | ind n ih =>
    intro i s hn hit hm hb hR
    refine codeAny_builtin entry_ci ?_
    rw [Around.under_plainId plain_ci _]
    show wpAny _ A.in1 (pyNext (.ref it) >>= _) _ _ s
    cases hx : kvs[i]? with
    | none =>
      refine wpAny_bind (wpAny_pyNext_values_end (A := A.in1) (show A.in1.handled = none from hh) hit hm hx fun h' hs => ?_)
      refine wpAny_bind (wpAny_rule (wpAny_pure ?_))
      have e : (kvs.any fun p => isNoneV p.2) = false := by
        rw [List.any_eq_false]
        intro p hp
        obtain ⟨q, hq⟩ := List.getElem?_of_mem hp
        have h1 := (List.getElem?_eq_some_iff.mp hq).1
        have h2 := List.getElem?_eq_none_iff.mp hx
        rw [hb q (by omega) p hq]; exact Bool.false_ne_true
      have := hR h' s.toks fun b o h1 e => hs b o h1 e
      rw [e] at this
      exact this
    | some p =>
      obtain ⟨k, x⟩ := p
      have hlt := (List.getElem?_eq_some_iff.mp hx).1
      refine wpAny_bind (wpAny_pyNext_values_item hit hm hx fun h' hit' hs => ?_)
      refine wpAny_bind (eq_none (hpl _ (List.mem_of_getElem? hx)) (by show A.units + 1 + 2 < cLine; omega) ?_)
      cases hk : isNoneV x with
      | true =>
        refine wpAny_bind (wpAny_rule (wpAny_pure ?_))
        have e : (kvs.any fun p => isNoneV p.2) = true := List.any_eq_true.mpr ⟨_, List.mem_of_getElem? hx, hk⟩
        have := hR h' s.toks fun b o h1 e => hs.extBut b o h1 e
        rw [e] at this
        exact this
      | false =>
        refine wpAny_pure ⟨plainId_quiet plain_ci _, ih (kvs.length - (i + 1)) (by omega) (i + 1) { s with heap := h' } rfl hit' (hm.extBut hs.extBut hdi) (fun q hq p hp => ?_) fun h2 tk hk2 => ?_⟩
        · rcases Nat.lt_or_ge q i with h4 | h4
          · exact hb q h4 p hp
          · obtain rfl : q = i := by omega
            rw [hx] at hp; cases hp; exact hk
        · exact hR h2 tk fun b o h1 e => hk2 b o h1 (hs.extBut b o h1 e)
/-- None in d.values() -/
theorem none_in {Q : Value → Shared → Prop} (hh : A.handled = none) (hu : A.units + 4 < cLine) (hpl : ∀ p ∈ kvs, Plain p.2) (hv : s.heap.IsValuesView v d) (hm : s.heap.DictAt (knd := intKind prog w) d kvs ep)
    (h : ∀ h' tk, (∀ b o, s.heap.get? b = some o → h'.get? b = some o) → Q (.bool (kvs.any fun p => isNoneV p.2)) { s with heap := h', toks := tk }) :
    wpAny (model prog w) A (compareOp .In .none (.ref v)) Q E s := by
  show wpAny _ A (contains (.ref v) .none >>= fun b => pure (Value.bool b)) Q E s
  refine wpAny_bind ?_
  unfold PySem.contains
  refine wpAny_holding ?_
  show wpAny _ A (specialOf (.ref v) "__contains__" >>= _) _ _ s
  refine wpAny_bind (wpAny_specialOf hv.typeIs lookup_contains ?_)
  show wpAny _ A (callSpecialUnlessNone? (.ref v) "__contains__" [.none] _ >>= _) _ _ s
  refine wpAny_bind ?_
  unfold callSpecialUnlessNone?
  refine wpAny_bind (wpAny_specialOf hv.typeIs lookup_contains (wpAny_pure ?_))
  refine wpAny_bind (wpAny_rule ?_)
  refine wpAny_bind (wpAny_tryCatch (wpAny_pyIter_values hv hm ?_))
  have up : ∀ b o, s.heap.get? b = some o → (s.heap.push { cls := .type "dict_valueiterator", data := .fields #[.ref d, .int 0 0, .int kvs.length 0, .int ep 0] }).get? b = some o := fun b o e => Heap.get?_push_of_some _ e
  refine wpAny_bind (wpAny_runValue (ci_loop hh hu ?_ hpl _ 0 _ rfl ⟨_, Heap.get?_push_size _ rfl, rfl, rfl⟩ (hm.push _) (fun q hq => absurd hq (Nat.not_lt_zero _)) fun h' tk hk => ?_))
  · obtain ⟨o, es, e, _⟩ := hm; exact Nat.ne_of_lt (Heap.lt_size e)
  · exact wpAny_pure (wpAny_pure (h h' tk fun b o e => hk b o (Nat.ne_of_lt (Heap.lt_size e)) (up _ _ e)))
end
end Mine
end

section
open PySem PySem.W PyProof.Rows PySem.Calls
set_option maxRecDepth 100000
set_option maxHeartbeats 4000000
namespace Mine
section
variable {prog : Program} {w : World} {A : Around} {E : Value → Shared → Prop} {s : Shared} {h₀ : Heap} {L d v f it : Addr} {m : Str → Option Value} {news : List (Addr × Obj)} {od : Obj} {kvs : List (Int × Value)} {Q : Value → Shared → Prop}
/-- what is known of a filter over a dict's values -/
structure FilOn (h₀ h : Heap) (L f it d : Addr) (n ep : Nat) (news : List (Addr × Obj)) : Prop where
  fil : IsFilter h f it
  iter : h.IsValIter it d 0 n ep
  ne1 : f ≠ it
  ne2 : d ≠ it
  neL : L ≠ it
  off : ∀ p ∈ news, p.1 ≠ it
  new : h₀.get? it = none
theorem r_filter (F : Fr h₀ L s.heap m) (N : News h₀ L s.heap news) (hm : (d, od) ∈ news) (hd : od.IsDictOf (intKind prog w) kvs) (hv : s.heap.IsValuesView v d)
    (h : ∀ h' f it ep, Fr h₀ L h' m → News h₀ L h' news → FilOn h₀ h' L f it d kvs.length ep news → h'.DictAt (knd := intKind prog w) d kvs ep → Q (.ref f) { s with heap := h' }) :
    wpAny (model prog w) A (call (.type "filter") [.none, .ref v]) Q E s := by
  obtain ⟨ep, hat⟩ := (kda_dict N hm hd).dictAt
  refine call_filter hv hat fun h' hf hit hk => ?_
  refine h h' _ _ ep (F.keeps hk) (N.grown hk) ⟨hf, hit, Nat.succ_ne_self _, Nat.ne_of_lt (Heap.lt_size (N _ hm).1), Nat.ne_of_lt F.ns.lt, fun p hp => Nat.ne_of_lt (Heap.lt_size (N p hp).1), next_is_new F⟩ ?_
  obtain ⟨o, es, e, r⟩ := hat
  exact ⟨o, es, hk _ _ e, r⟩
theorem r_maxd {dv : Value} {ep : Nat} (hh : A.handled = none) (F : Fr h₀ L s.heap m) (N : News h₀ L s.heap news) (hpl : ∀ p ∈ kvs, Plain p.2) (hf : FilOn h₀ s.heap L f it d kvs.length ep news) (hm : s.heap.DictAt (knd := intKind prog w) d kvs ep)
    (hno : ∀ h' tk, Fr h₀ L h' m → News h₀ L h' news → (∀ p ∈ kvs, keepV p.2 = false) → Q dv { s with heap := h', toks := tk })
    (hM : ∀ M t h' tk, Fr h₀ L h' m → News h₀ L h' news → (∃ p ∈ kvs, ∃ u, p.2 = .int M u ∧ M ≠ 0) → (∀ p ∈ kvs, ∀ x u, p.2 = .int x u → x ≠ 0 → x ≤ M) → Q (.int M t) { s with heap := h', toks := tk }) :
    wpAny (model prog w) A (call (.builtin "max") [.ref f] [(Str.ofString "default", dv)]) Q E s := by
  have keep : ∀ h', (∀ b o, b ≠ it → s.heap.get? b = some o → h'.get? b = some o) → Fr h₀ L h' m ∧ News h₀ L h' news := fun h' hk =>
    have hk' : ∀ b o, b ∉ [it] → s.heap.get? b = some o → h'.get? b = some o := fun b o hb e => hk b o (fun q => hb (by rw [q]; exact List.mem_singleton.mpr rfl)) e
    ⟨LCg.fr_but F hk' hf.neL hf.new, LCg.news_but N hk' hf.off⟩
  exact call_maxd hh hf.ne1 hf.ne2 hpl hf.fil hf.iter hm (fun h' tk hk hn => hno h' tk (keep h' hk).1 (keep h' hk).2 hn) fun M t h' tk hk h1 h2 => hM M t h' tk (keep h' hk).1 (keep h' hk).2 h1 h2
theorem r_nonein (hh : A.handled = none) (hu : A.units + 4 < cLine) (F : Fr h₀ L s.heap m) (N : News h₀ L s.heap news) (hm : (d, od) ∈ news) (hd : od.IsDictOf (intKind prog w) kvs) (hpl : ∀ p ∈ kvs, Plain p.2) (hv : s.heap.IsValuesView v d)
    (h : ∀ h' tk, Fr h₀ L h' m → News h₀ L h' news → Q (.bool (kvs.any fun p => isNoneV p.2)) { s with heap := h', toks := tk }) :
    wpAny (model prog w) A (compareOp .In .none (.ref v)) Q E s := by
  obtain ⟨ep, hat⟩ := (kda_dict N hm hd).dictAt
  exact none_in hh hu hpl hv hat fun h' tk hk => h h' tk (F.keeps hk) (N.grown hk)
end
section
variable {w : World} {loose : List Str} {mean : ExcName → Option Value} {mg mb : Str → Option Value}
local macro_rules | `(tactic| walk_at $k:str) => (if (["getMethod ref", "callWith builtin:dict.values", "call builtin:dict.values", "call type:filter", "call builtin:max", "compareOp In none ref"] : List String).contains k.getString then `(tactic| (refine Hold.out ?_)) else Lean.Macro.throwUnsupported)
noncomputable def linR (M : Int) (b : Bool) : Int :=
  if M = -1 then 0 else if (if ((Str.ofString (toString M)).length : Int) > 3 then ((Str.ofString (toString M)).length : Int) else 3) < 4 ∧ b = true then 4 else (if ((Str.ofString (toString M)).length : Int) > 3 then ((Str.ofString (toString M)).length : Int) else 3)
/-- what _get_lineno_width gives of a table -/
noncomputable def LinW (kvs : List (Int × Value)) (r : Int) : Prop :=
  ((∀ p ∈ kvs, keepV p.2 = false) ∧ r = 0) ∨ ∃ M, (∃ p ∈ kvs, ∃ u, p.2 = .int M u ∧ M ≠ 0) ∧ (∀ p ∈ kvs, ∀ x u, p.2 = .int x u → x ≠ 0 → x ≤ M) ∧ r = linR M (kvs.any fun p => isNoneV p.2)
theorem lin_says {news : List (Addr × Obj)} {d : Addr} {od : Obj} {kvs : List (Int × Value)} (hm : (d, od) ∈ news) (hdo : od.IsDictOf (intKind Challenge.rw_zd0005_01.prog w) kvs) (hpl : ∀ p ∈ kvs, Plain p.2) (hlo : (d == sysModules) = false)
    (hfit : ∀ p ∈ kvs, ∀ x u, p.2 = .int x u → -1000 ≤ x ∧ x ≤ 10000000) :
    Says w loose mean mg mb 28 [.ref d] news 6 (fun tl r => ∃ M t, r = .int M t ∧ tl = [] ∧ LinW kvs M) := by
  unfold Says
  k_fill
  w_top off
  intro dp un gd cn cs fa ccd cl outer A₀ base h₀ L m s Q E B F X N T hk hd hu hret
  refine wpAny_call ?_
  k_dflt ktr_enter
  k_steps
  refine Hold.mk ?_
  with_reducible rename Fr _ _ _ _ => F1
  with_reducible rename News _ _ _ _ => N1
  refine kdl_method PySem.F.slot_dict_values PySem.F.type_dict_values N1 hm hdo ?_
  refine callWith_method0 ?_
  refine kta_callValues F1 N1 hm hdo hlo ?_
  intro h2 hv F2 N2
  k_steps
  refine Hold.mk ?_
  refine r_filter F2 N2 hm hdo hv ?_
  intro h3 fa ia ep F3 N3 hfil hat
  k_steps
  refine Hold.mk ?_
  refine r_maxd rfl F3 N3 hpl hfil hat ?_ ?_
  · intro h4 tk4 F4 N4 hno
    k_steps
    with_reducible rename Fr h₀ _ _ _ => kF
    with_reducible rename News h₀ _ _ _ => kN
    exact hret _ [] _ _ kF (by rw [List.append_nil]; exact kN) (fun _ _ _ h => (List.not_mem_nil h).elim) ⟨_, _, rfl, rfl, .inl ⟨hno, rfl⟩⟩
  · intro M tM h4 tk4 F4 N4 hmem hmax
    have hMb : -1000 ≤ M ∧ M ≤ 10000000 := by
      obtain ⟨p, hp, u, e, _⟩ := hmem
      exact hfit p hp M u e
    k_steps
    · with_reducible rename Fr h₀ _ _ _ => kF
      with_reducible rename News h₀ _ _ _ => kN
      exact hret _ [] _ _ kF (by rw [List.append_nil]; exact kN) (fun _ _ _ h => (List.not_mem_nil h).elim) ⟨_, _, rfl, rfl, .inr ⟨M, hmem, hmax, by unfold linR; rw [if_pos (by first | assumption | omega)]⟩⟩
    · with_reducible rename Fr _ _ _ _ => F5
      with_reducible rename News _ _ _ _ => N5
      rename_i hM1
      refine Hold.mk ?_
      refine max_two_N rfl F5 N5 ?_
      intro h6 tk6 F6 N6
      generalize hLg : ((Str.ofString (toString M)).length : Int) = Lg at *
      obtain ⟨W, hW⟩ : ∃ W, W = (if Lg > 3 then Lg else 3) := ⟨_, rfl⟩
      have hW3 : 3 ≤ W := by rw [hW]; split <;> omega
      rw [← hW]
      have hlin : ∀ b, linR M b = if W < 4 ∧ b = true then 4 else W := fun b => by unfold linR; rw [if_neg hM1, hLg, ← hW]
      have fin : ∀ b, (kvs.any fun p => isNoneV p.2) = b → LinW kvs (if W < 4 ∧ b = true then 4 else W) := fun b hb => .inr ⟨M, hmem, hmax, by rw [hb, hlin]⟩
      k_steps
      · rename_i hW4
        refine Hold.mk ?_
        with_reducible rename Fr _ _ _ _ => F7
        with_reducible rename News _ _ _ _ => N7
        refine kdl_method PySem.F.slot_dict_values PySem.F.type_dict_values N7 hm hdo ?_
        refine callWith_method0 ?_
        refine kta_callValues F7 N7 hm hdo hlo ?_
        intro h8 hv8 F8 N8
        k_steps
        refine Hold.mk ?_
        refine r_nonein rfl (by show un + 3 + 4 < cLine; omega) F8 N8 hm hdo hpl hv8 ?_
        intro h9 tk9 F9 N9
        generalize hb : (kvs.any fun p => isNoneV p.2) = b at *
        cases b with
        | true =>
          k_steps
          with_reducible rename Fr h₀ _ _ _ => kF
          with_reducible rename News h₀ _ _ _ => kN
          refine hret _ [] _ _ kF (by rw [List.append_nil]; exact kN) (fun _ _ _ h => (List.not_mem_nil h).elim) ⟨_, _, rfl, rfl, ?_⟩
          have := fin true rfl
          rw [if_pos ⟨hW4, rfl⟩] at this
          exact this
        | false =>
          k_steps
          with_reducible rename Fr h₀ _ _ _ => kF
          with_reducible rename News h₀ _ _ _ => kN
          refine hret _ [] _ _ kF (by rw [List.append_nil]; exact kN) (fun _ _ _ h => (List.not_mem_nil h).elim) ⟨_, _, rfl, rfl, ?_⟩
          have := fin false rfl
          rw [if_neg (fun h => Bool.false_ne_true h.2)] at this
          exact this
      · rename_i hW4 _ _ _ _
        with_reducible rename Fr h₀ _ _ _ => kF
        with_reducible rename News h₀ _ _ _ => kN
        refine hret _ [] _ _ kF (by rw [List.append_nil]; exact kN) (fun _ _ _ h => (List.not_mem_nil h).elim) ⟨_, _, rfl, rfl, ?_⟩
        have := fin _ rfl
        rw [if_neg (fun h => hW4 h.1)] at this
        exact this
end
end Mine
end

section
open PySem PySem.W PyProof.Rows PySem.Calls
set_option maxRecDepth 100000
set_option maxHeartbeats 2000000
namespace Mine
noncomputable abbrev testsT (ifs : List PySem.Expr) (env : Env) : Sem Bool := forIn ifs true fun c r => if r = true then do let ok ← isTrue c env (eval c env); pure (ForInStep.yield ok) else pure (ForInStep.yield r)
section
variable {prog : Program} {w : World} {A : Around} {E : Value → Shared → Prop} {s : Shared} {R : Result → Shared → Prop} {env : Env}
theorem quietA {α : Type} {t : Sem α} {k : Value → Sem Unit} {Q : α → Shared → Prop} (h : wpAny (model prog w) A t Q NoE s) : wpAny (model prog w) A (t.onRaise k) Q E s :=
  wpAny_onRaise (wpAny_mono h (fun _ _ q => q) fun _ _ f => f.elim)
theorem loop3 {elt target iter : PySem.Expr} {ifs : List PySem.Expr} {scope : Scope} {pos : Pos} {it acc : Value} (I : Nat → Shared → Prop)
    (turn : ∀ n s, I n s → wpAny (model prog w) A (pyNext it) (fun r s₁ => match r with
      | none => R (.ok .next) s₁
      | some v => wpAny (model prog w) A (letOwnedTupleGo target it v) (fun _ s₁' => wpAny (model prog w) A (assign target env v) (fun _ s₂ => wpAny (model prog w) A (testsT ifs env) (fun ok s₃ =>
          if ok = true then wpAny (model prog w) A (eval elt env) (fun x s₄ => wpAny (model prog w) A (call (.builtin "list.append") [acc, x]) (fun _ s₅ => ∃ m, m < n ∧ I m s₅) NoE s₄) NoE s₃
          else ∃ m, m < n ∧ I m s₃) NoE s₂) NoE s₁') NoE s₁) NoE s)
    (n : Nat) (h : I n s) : codeAny (model prog w) A (.compLoop (.ListComp elt [⟨target, iter, ifs, 0⟩] scope pos) 0 it acc env) R s := by
  refine codeAny_loop rfl I (fun n s hI => ?_) n h
  show wpAny _ A ((compTurn (.ListComp elt [⟨target, iter, ifs, 0⟩] scope pos) 0 it acc env).onRaise (fun x => do noteFrame x env; theTreesLotGoes x)) _ _ s
  refine quietA ?_
  rw [compTurn_list]
  refine wpAny_bind (wpAny_standAt (wpAny_bind (wpAny_mono (turn n s hI) (fun r s₁ h₁ => ?_) fun _ _ h' => h')))
  cases r with
  | none => exact wpAny_pure h₁
  | some v =>
    refine wpAny_bind (wpAny_mono h₁ (fun _ s₁' h₁' => ?_) fun _ _ h' => h')
    refine wpAny_bind (wpAny_mono h₁' (fun _ s₂ h₂ => wpAny_bind (wpAny_mono h₂ (fun ok s₃ h₃ => ?_) fun _ _ h' => h')) fun _ _ h' => h')
    cases ok with
    | false => exact wpAny_pure ⟨rfl, h₃⟩
    | true => exact wpAny_bind (wpAny_bind (wpAny_mono h₃ (fun x s₄ h₄ => wpAny_bind (wpAny_mono h₄ (fun _ s₅ h₅ => wpAny_pure (wpAny_pure ⟨rfl, h₅⟩)) fun _ _ h' => h')) fun _ _ h' => h'))
end
/-- an element of [elt for x1, x2, x3 in list if test] -/
noncomputable abbrev Turn3 (prog : Program) (w : World) (A : Around) (h₀ : Heap) (L : Addr) (m : Str → Option Value) (env : Env) (elt : PySem.Expr) (ifs : List PySem.Expr) (x1 x2 x3 : Str) (scope : Scope) (cl : List (Str × Addr)) (vs : List Value) (cst : List (Addr × Obj))
    (Inv : Nat → List Value → Prop) (s : Shared) : Prop :=
  ∀ i t a b c nt ys I oI C oC D m₂ g h tk (E' : Value → Shared → Prop), vs[i]? = some (.ref t) → (t, tupOf [a, b, c] nt) ∈ cst → Inv i ys → LCg.NsObj oC m₂ → m₂ x1 = some a → m₂ x2 = some b → m₂ x3 = some c → Fr h₀ L h m → News h₀ L h ((I, oI) :: (C, oC) :: (D, LCg.lst ys) :: cst) →
    wpAny (model prog w) A (testsT ifs (compEnvC scope cl C env)) (fun ok s₄ => if ok = true then wpAny (model prog w) A (eval elt (compEnvC scope cl C env)) (fun y s₅ => ∃ tk', s₅ = { ({ s with heap := g } : Shared) with heap := h, toks := tk' } ∧ Inv (i + 1) (ys ++ [y])) E' s₄
      else ∃ tk', s₄ = { ({ s with heap := g } : Shared) with heap := h, toks := tk' } ∧ Inv (i + 1) ys) E' { ({ s with heap := g } : Shared) with heap := h, toks := tk }
section
variable {prog : Program} {w : World} {A : Around} {E : Value → Shared → Prop} {s : Shared} {R : Result → Shared → Prop} {env : Env} {h₀ : Heap} {L : Addr} {m : Str → Option Value}
theorem block3 {elt iter : PySem.Expr} {x1 x2 x3 : Str} {p1 p2 p3 tp : Pos} {k3} {ifs : List PySem.Expr} {scope : Scope} {cl : List (Str × Addr)} {pos : Pos} {s₂ : Shared} {I ax : Addr} {vs : List Value} {nn : Nat} {cst : List (Addr × Obj)} {Inv : Nat → List Value → Prop} {RR : Value → Addr → Result → Shared → Prop}
    (hh : A.handled = none) (hsz : vs.length ≤ 16384) (hne : ax ≠ I) (hI : s₂.heap.IsListIter I ax 0) (hax : (ax, listOf vs.toArray nn) ∈ cst) (htup : ∀ v ∈ vs, ∃ t a b c nt, v = .ref t ∧ (t, tupOf [a, b, c] nt) ∈ cst)
    (hcell : ∀ y ∈ scope.names, y.2 ≠ .cell) (hkind : scope.kind = .function) (hx1 : scope.names.lookup x1 = some .local) (hx2 : scope.names.lookup x2 = some .local) (hx3 : scope.names.lookup x3 = some .local) (h12 : x1 ≠ x2) (h13 : x1 ≠ x3) (h23 : x2 ≠ x3)
    (F : Fr h₀ L s₂.heap m) (N : News h₀ L s₂.heap cst) (hIL : L ≠ I) (hI₀ : h₀.get? I = none) (off : ∀ p ∈ cst, p.1 ≠ I) (h0 : Inv 0 [])
    (turn : Turn3 prog w A h₀ L m env elt ifs x1 x2 x3 scope cl vs cst Inv s₂)
    (hRR : ∀ D C h tk m' ys, Fr h₀ L h m → News h₀ L h ((D, LCg.lst ys) :: cst) → (∀ p ∈ cst, p.1 ≠ D) → h.Ns C m' → h₀.get? C = none → h₀.get? D = none → C ≠ L → D ≠ L → C ≠ D → (∀ p ∈ cst, p.1 ≠ C) → Inv vs.length ys → RR (.ref D) C (.ok .next) { s₂ with heap := h, toks := tk }) :
    wpAny (model prog w) A (newList []) (fun acc s₃ => wpAny (model prog w) A (newFunctionEnv scope env.globals cl [] env.qual none .none (some env)) (fun cenv s₄ =>
      codeAny (model prog w) A (.compStart (.ListComp elt [⟨.Tuple [.Name x1 p1, .Name x2 p2, .Name x3 p3] k3 tp, iter, ifs, 0⟩] scope pos) 0 (.ref I) acc { cenv with scope := relabel scope env }) (RR acc cenv.locals) s₄) E s₃) E s₂ := by
  have W := Walks.list (prog := prog) (w := w) (A := A) hh I ax hne vs.toArray
  have hIlt : I < s₂.heap.objs.size := by obtain ⟨o, e, _⟩ := hI; exact Heap.lt_size e
  have hlist : ∀ {h : Heap}, News h₀ L h cst → h.IsList ax vs.toArray := fun N => ⟨_, (N _ hax).1, rfl, _, rfl⟩
  refine wpAny_newObj_type (wpAny_newFunctionEnv hcell (by intro y hy; simp at hy) (fun h₁ hns₁ hsb₁ => ?_) hkind)
  dsimp only at hns₁ hsb₁ ⊢
  generalize hH2 : s₂.heap.push { cls := .type "list", dict := none, data := .seq ([] : List Value).toArray } = H2 at hns₁ hsb₁ ⊢
  have hC : H2.objs.size = s₂.heap.objs.size + 1 := by rw [← hH2, Heap.size_push]
  generalize hDn : s₂.heap.objs.size = D at hC hIlt ⊢
  generalize hCn : H2.objs.size = C at hC hns₁ hsb₁ ⊢
  have below : ∀ b o, s₂.heap.get? b = some o → b ≠ C ∧ b ≠ D := fun b o e => by have := Heap.lt_size e; rw [hDn] at this; exact ⟨by rw [hC]; exact Nat.ne_of_lt (Nat.lt_succ_of_lt this), Nat.ne_of_lt this⟩
  have old : ∀ b o, s₂.heap.get? b = some o → h₁.get? b = some o := fun b o e => hsb₁.extBut b o (below b o e).1 (Heap.get?_push_of_some _ (hH2 ▸ Heap.get?_push_of_some _ e))
  have hDC : D ≠ C := by rw [hC]; exact Nat.ne_of_lt (Nat.lt_succ_self _)
  have hCI : C ≠ I := Nat.ne_of_gt (by rw [hC]; exact Nat.lt_succ_of_lt hIlt)
  have hDI : D ≠ I := fun e => by rw [e] at hIlt; exact Nat.lt_irrefl _ hIlt
  have hacc : h₁.get? D = some (LCg.lst []) := hsb₁.extBut _ _ hDC (Heap.get?_push_of_some _ (hH2 ▸ hDn ▸ Heap.get?_push_size _ rfl))
  have fresh₀ : ∀ a, D ≤ a → h₀.get? a = none := fun a ha => by
    cases e : h₀.get? a with
    | none => rfl
    | some o' => exact absurd (Heap.lt_size (F.keep a o' e)) (by rw [hDn]; exact Nat.not_lt.mpr ha)
  have hD₀ := fresh₀ D (Nat.le_refl _)
  have hC₀ := fresh₀ C (by rw [hC]; exact Nat.le_succ _)
  have hLlt : L < D := hDn ▸ F.ns.lt
  have hDL : D ≠ L := Nat.ne_of_gt hLlt
  have hCL : C ≠ L := Nat.ne_of_gt (by rw [hC]; exact Nat.lt_succ_of_lt hLlt)
  have offC : ∀ p ∈ cst, p.1 ≠ I ∧ p.1 ≠ C ∧ p.1 ≠ D := fun p hp => ⟨off p hp, (below _ _ (N p hp).1).1, (below _ _ (N p hp).1).2⟩
  have loop : ∀ s₃ : Shared, s₃ = { s₂ with heap := h₁, toks := s₂.toks + ([] : List (Str × Value)).length } →
      codeAny (model prog w) A (.compLoop (.ListComp elt [⟨.Tuple [.Name x1 p1, .Name x2 p2, .Name x3 p3] k3 tp, iter, ifs, 0⟩] scope pos) 0 (.ref I) (.ref D) (compEnvC scope cl C env)) (RR (.ref D) C) s₃ := by
    rintro s₃ rfl
    refine loop3 (fun k s' => ∃ h' tk i ys m', s' = { s₂ with heap := h', toks := tk } ∧ i ≤ vs.length ∧ k = vs.length + 1 - i ∧ ys.length ≤ i ∧ h'.IsListIter I ax i ∧ Fr h₀ L h' m ∧ h'.Ns C m' ∧ News h₀ L h' ((D, LCg.lst ys) :: cst) ∧ Inv i ys) ?_ (vs.length + 1)
      ⟨h₁, _, 0, [], _, rfl, Nat.zero_le _, rfl, Nat.le_refl _, (by obtain ⟨o, e, r⟩ := hI; exact ⟨o, old _ _ e, r⟩), F.keeps old, hns₁, fun p hp => ?_, h0⟩
    · rintro k s' ⟨h', tk, i, ys, m', rfl, hi, rfl, hyl, hit, F', hn', N', hinv⟩
      have Nc : News h₀ L h' cst := fun p hp => N' p (List.mem_cons_of_mem _ hp)
      have hst' : h'.IsListIter I ax i ∧ h'.IsList ax vs.toArray := ⟨hit, hlist Nc⟩
      by_cases hlt : i < vs.length
      · refine W.item i _ _ _ (by rw [List.size_toArray]; exact hlt) hst' fun v h₂ tk₂ hPv hst₂ hk₂ => ?_
        have hv : vs[i]? = some v := by simpa using hPv
        obtain ⟨t, a, b, c, nt, rfl, hmt⟩ := htup v (List.mem_of_getElem? hv)
        have N₂ : News h₀ L h₂ ((D, LCg.lst ys) :: cst) := LCg.news_but N' hk₂ fun p hp => by
          rcases List.mem_cons.mp hp with rfl | hp
          · exact hDI
          · exact off p hp
        have ht : IsTup h₂ t #[a, b, c] := ⟨_, (N₂ _ (List.mem_cons_of_mem _ hmt)).1, rfl, nt, rfl⟩
        refine wpAny_letOwnedTupleGo_listiter hst₂.1 ?_
        refine assign_Tuple_tuple hh ht rfl rfl fun h₅ he => ?_
        have he' : ∀ b o, h₂.get? b = some o → h₅.get? b = some o := fun b o e => he b o (Nat.ne_of_lt (Heap.lt_size e)) e
        refine assignInOrder_cons (wpAny_assign_Name (wpAny_storeName_local (lookup_relabel_local hx1) ((hn'.at' fun o e => hk₂ _ o (by simpa using hCI) e).at' fun o e => he' _ o e) (fun h₆ hn₆ hs₆ => ?_) (by simp [compEnvC, relabel, hkind])))
        refine assignInOrder_cons (wpAny_assign_Name (wpAny_storeName_local (lookup_relabel_local hx2) hn₆ (fun h₇ hn₇ hs₇ => ?_) (by simp [compEnvC, relabel, hkind])))
        refine assignInOrder_cons (wpAny_assign_Name (wpAny_storeName_local (lookup_relabel_local hx3) hn₇ (fun h₃ hn₃ hs₃ => ?_) (by simp [compEnvC, relabel, hkind])))
        refine assignInOrder_nil ?_
        have old3 : ∀ b o, b ≠ C → h₂.get? b = some o → h₃.get? b = some o := fun b o hb e => hs₃.extBut b o hb (hs₇.extBut b o hb (hs₆.extBut b o hb (he' b o e)))
        have oI : ∃ oI, h₂.get? I = some oI := by obtain ⟨o, e, _⟩ := hst₂.1; exact ⟨o, e⟩
        obtain ⟨oI, heI⟩ := oI
        have heI := old3 _ _ (Ne.symm hCI) heI
        have hit₃ : h₃.IsListIter I ax (i + 1) := by obtain ⟨o, e, r⟩ := hst₂.1; exact ⟨o, old3 _ _ (Ne.symm hCI) e, r⟩
        obtain ⟨oC, heC, hoC⟩ := LCg.ns_obj hn₃
        have F₃ : Fr h₀ L h₃ m := ((((LCg.fr_but F' hk₂ hIL hI₀).keeps he').change hs₆ hCL hC₀).change hs₇ hCL hC₀).change hs₃ hCL hC₀
        have N₃ : News h₀ L h₃ ((I, oI) :: (C, oC) :: (D, LCg.lst ys) :: cst) := fun p hp => by
          rcases List.mem_cons.mp hp with rfl | hp
          · exact ⟨heI, Ne.symm hIL, hI₀⟩
          · rcases List.mem_cons.mp hp with rfl | hp
            · exact ⟨heC, hCL, hC₀⟩
            · have z := N₂ p hp
              refine ⟨old3 _ _ ?_ z.1, z.2⟩
              rcases List.mem_cons.mp hp with rfl | hp
              · exact hDC
              · exact (offC p hp).2.1
        have Nc₃ : News h₀ L h₃ ((D, LCg.lst ys) :: cst) := fun p hp => N₃ p (List.mem_cons_of_mem _ (List.mem_cons_of_mem _ hp))
        refine wpAny_mono (turn i t a b c nt ys I oI C oC D _ s₂.heap h₃ _ NoE hv hmt hinv hoC (by simp [h12, h13]) (by simp [h23]) (by simp) F₃ N₃) (fun ok s₄ h₄ => ?_) fun _ _ e => e
        cases ok with
        | false =>
          obtain ⟨tk', rfl, hinv'⟩ := h₄
          exact ⟨vs.length + 1 - (i + 1), by omega, h₃, tk', i + 1, ys, _, rfl, hlt, rfl, by omega, hit₃, F₃, hn₃, Nc₃, hinv'⟩
        | true =>
          refine wpAny_mono h₄ (fun y s₅ h₅ => ?_) fun _ _ e => e
          obtain ⟨tk', rfl, hinv'⟩ := h₅
          have zD := (Nc₃ (D, LCg.lst ys) List.mem_cons_self).1
          refine append_at (hsz := by rw [List.size_toArray, sizeLine_eq]; omega) zD fun h₈ hs₈ hD₈ => ?_
          refine ⟨vs.length + 1 - (i + 1), by omega, h₈, tk', i + 1, ys ++ [y], _, rfl, hlt, rfl, by rw [List.length_append, List.length_singleton]; omega, ?_, F₃.change hs₈ hDL hD₀,
            hn₃.sameBut hs₈ (Ne.symm hDC), fun p hp => ?_, hinv'⟩
          · obtain ⟨o, e, r⟩ := hit₃
            exact ⟨o, hs₈.extBut _ _ (Ne.symm hDI) e, r⟩
          · rcases List.mem_cons.mp hp with rfl | hp
            · exact ⟨hD₈.trans (congrArg some (LCg.lst_snoc ys y)), hDL, hD₀⟩
            · exact ⟨hs₈.extBut _ _ (offC p hp).2.2 (Nc₃ p (List.mem_cons_of_mem _ hp)).1, (Nc₃ p (List.mem_cons_of_mem _ hp)).2⟩
      · obtain rfl : i = vs.length := Nat.le_antisymm hi (Nat.not_lt.mp hlt)
        refine W.done _ _ _ (by rw [List.size_toArray]; exact hst') fun h₂ tk₂ hk₂ => ?_
        exact hRR _ _ h₂ tk₂ _ ys (LCg.fr_but F' hk₂ hIL hI₀) (LCg.news_but N' hk₂ fun p hp => by
          rcases List.mem_cons.mp hp with rfl | hp
          · exact hDI
          · exact off p hp) (fun p hp => (offC p hp).2.2) (hn'.at' fun o e => hk₂ _ o (by simpa using hCI) e) hC₀ hD₀ hCL hDL (Ne.symm hDC) (fun p hp => (offC p hp).2.1) hinv
    · rcases List.mem_cons.mp hp with rfl | hp
      · exact ⟨hacc, hDL, hD₀⟩
      · exact ⟨old _ _ (N p hp).1, (N p hp).2⟩
  exact codeAny_compStart_list (loop _ rfl) (W.self 0 _ _ _ ⟨by obtain ⟨o, e, r⟩ := hI; exact ⟨o, old _ _ e, r⟩, ⟨_, old _ _ (N _ hax).1, rfl, _, rfl⟩⟩ (loop _ rfl))
/-- what a list comprehension over triples wants -/
noncomputable def Src3 (prog : Program) (w : World) (A : Around) (h₀ : Heap) (L : Addr) (m : Str → Option Value) (env : Env) (elt : PySem.Expr) (ifs : List PySem.Expr) (x1 x2 x3 : Str) (scope : Scope) (cl : List (Str × Addr)) (K : Addr → List Value → List (Addr × Obj) → Heap → Nat → Shared → Prop) (xv : Value) (s₁ : Shared) : Prop :=
  ∃ ax vs nn cst, ∃ Inv : Nat → List Value → Prop, xv = .ref ax ∧ A.handled = none ∧ Fr h₀ L s₁.heap m ∧ News h₀ L s₁.heap cst ∧ (ax, listOf vs.toArray nn) ∈ cst ∧ vs.length ≤ 16384 ∧ (∀ v ∈ vs, ∃ t a b c nt, v = .ref t ∧ (t, tupOf [a, b, c] nt) ∈ cst) ∧ Inv 0 [] ∧
    (∀ g, Turn3 prog w A h₀ L m env elt ifs x1 x2 x3 scope cl vs cst Inv { s₁ with heap := g }) ∧
    (∀ ys D h tk, Inv vs.length ys → News h₀ L h ((D, LCg.lst ys) :: cst) → (∀ p ∈ cst, p.1 ≠ D) → K D ys cst h tk s₁)
theorem comp3 {elt iter : PySem.Expr} {x1 x2 x3 : Str} {p1 p2 p3 tp : Pos} {k3} {ifs : List PySem.Expr} {scope : Scope} {cl : List (Str × Addr)} {pos : Pos} {Q : Value → Shared → Prop} (_F₀ : Fr h₀ L s.heap m)
    (hclos : closureFor scope env = pure cl) (hcell : ∀ z ∈ scope.names, z.2 ≠ .cell) (hkind : scope.kind = .function)
    (hnames : ∀ z ∈ scope.names, z.2 = .local → scope.names.lookup z.1 = some .local) (hx1 : scope.names.lookup x1 = some .local) (hx2 : scope.names.lookup x2 = some .local) (hx3 : scope.names.lookup x3 = some .local) (h12 : x1 ≠ x2) (h13 : x1 ≠ x3) (h23 : x2 ≠ x3)
    (h : wpAny (model prog w) A (eval iter env) (Src3 prog w A h₀ L m env elt ifs x1 x2 x3 scope cl (fun D _ _ h tk s₁ => Fr h₀ L h m → Q (.ref D) { s₁ with heap := h, toks := tk })) E s)
    (hs : ∀ x, foldedSetIterable iter env x = pure x := by intro _; rfl) :
    wpAny (model prog w) A (eval (.ListComp elt [⟨.Tuple [.Name x1 p1, .Name x2 p2, .Name x3 p3] k3 tp, iter, ifs, 0⟩] scope pos) env) Q E s := by
  rw [eval_ListComp]
  refine wpAny_comprehension_free (use := none) rfl hs hclos hkind hnames (wpAny_mono h (fun xv s₁ h₁ => ?_) fun _ _ e => e)
  obtain ⟨ax, vs, nn, cst, Inv, rfl, hh, F, N, hax, hsz, htup, h0, turn, done⟩ := h₁
  have hl : s₁.heap.IsList ax vs.toArray := ⟨_, (N _ hax).1, rfl, _, rfl⟩
  refine wpAny_pyIter_list hl ?_
  have up : ∀ b o, s₁.heap.get? b = some o → (s₁.heap.push { cls := .type "list_iterator", data := .fields #[.ref ax, .int 0 0] }).get? b = some o := fun b o e => Heap.get?_push_of_some _ e
  refine block3 (Inv := Inv) (nn := nn) (vs := vs) (cst := cst) (I := s₁.heap.objs.size) (ax := ax) hh hsz (Nat.ne_of_lt (Heap.lt_size (N _ hax).1)) ⟨_, Heap.get?_push_size _ rfl, rfl, rfl⟩ hax htup hcell hkind hx1 hx2 hx3 h12 h13 h23 (F.keeps up) (N.grown up) (Nat.ne_of_lt F.ns.lt) (next_is_new F) (fun p hp => Nat.ne_of_lt (Heap.lt_size (N p hp).1)) h0 (turn _) ?_
  intro D C h' tk m' ys F' N' o1 hn hC₀ hD₀ hCL hDL hCD offC hinv
  refine ⟨m', hn, fun h'' hs'' => done ys D h'' tk hinv (fun p hp => ?_) o1 (F'.change hs'' hCL hC₀)⟩
  refine ⟨hs''.extBut _ _ ?_ (N' p hp).1, (N' p hp).2⟩
  rcases List.mem_cons.mp hp with rfl | hp
  · exact Ne.symm hCD
  · exact offC p hp
theorem assign3 {elt iter : PySem.Expr} {x1 x2 x3 y : Str} {p1 p2 p3 tp py : Pos} {k3} {ifs : List PySem.Expr} {scope : Scope} {cl : List (Str × Addr)} {pos spos : Pos} {Q : Flow → Shared → Prop} (_F₀ : Fr h₀ L s.heap m) (hLe : env.locals = L)
    (hsw : swapsWith (.ListComp elt [⟨.Tuple [.Name x1 p1, .Name x2 p2, .Name x3 p3] k3 tp, iter, ifs, 0⟩] scope pos) (some (.Name y py)) spos.line env = pure true)
    (hclos : closureFor scope env = pure cl) (hcell : ∀ z ∈ scope.names, z.2 ≠ .cell) (hkind : scope.kind = .function)
    (hnames : ∀ z ∈ scope.names, z.2 = .local → scope.names.lookup z.1 = some .local) (hx1 : scope.names.lookup x1 = some .local) (hx2 : scope.names.lookup x2 = some .local) (hx3 : scope.names.lookup x3 = some .local) (h12 : x1 ≠ x2) (h13 : x1 ≠ x3) (h23 : x2 ≠ x3)
    (hy : env.kindOf y = some .local) (hp : (env.scope.kind == .class || (env.scope.kind == .module && env.locals != env.globals)) = false)
    (h : wpAny (model prog w) A (eval iter env) (Src3 prog w A h₀ L m env elt ifs x1 x2 x3 scope cl (fun D _ _ h tk s₁ => Fr h₀ L h (fun z => if z = y then some (.ref D) else m z) → Q .next { s₁ with heap := h, toks := tk })) E s)
    (hs : ∀ x, foldedSetIterable iter env x = pure x := by intro _; rfl) :
    wpAny (model prog w) A (exec (.Assign [.Name y py] (.ListComp elt [⟨.Tuple [.Name x1 p1, .Name x2 p2, .Name x3 p3] k3 tp, iter, ifs, 0⟩] scope pos) spos) env) Q E s := by
  subst hLe
  rw [exec_Assign_Name_used _ _ _ _ hsw]
  refine wpAny_bind (wpAny_standAt (wpAny_bind ?_))
  show wpAny _ A (do let _ ← comprehension (.ListComp elt [⟨.Tuple [.Name x1 p1, .Name x2 p2, .Name x3 p3] k3 tp, iter, ifs, 0⟩] scope pos) scope env _ (newList []) false (eval iter env) (some (assign (.Name y py) env))) _ _ s
  refine wpAny_bind (wpAny_mono (wpAny_comprehension_free (use := some (assign (.Name y py) env)) (Q := fun _ s' => Q .next s') rfl hs hclos hkind hnames
    (wpAny_mono h (fun xv s₁ h₁ => ?_) fun _ _ e => e)) (fun _ s' hq => wpAny_pure (wpAny_pure hq)) fun _ _ e => e)
  obtain ⟨ax, vs, nn, cst, Inv, rfl, hh, F, N, hax, hsz, htup, h0, turn, done⟩ := h₁
  have hl : s₁.heap.IsList ax vs.toArray := ⟨_, (N _ hax).1, rfl, _, rfl⟩
  refine wpAny_pyIter_list hl ?_
  have up : ∀ b o, s₁.heap.get? b = some o → (s₁.heap.push { cls := .type "list_iterator", data := .fields #[.ref ax, .int 0 0] }).get? b = some o := fun b o e => Heap.get?_push_of_some _ e
  refine block3 (RR := fun acc C => compPost (model prog w) A E (some (assign (.Name y py) env)) (fun _ s' => Q .next s') acc C) (Inv := Inv) (nn := nn) (vs := vs) (cst := cst) (I := s₁.heap.objs.size) (ax := ax) hh hsz (Nat.ne_of_lt (Heap.lt_size (N _ hax).1)) ⟨_, Heap.get?_push_size _ rfl, rfl, rfl⟩ hax htup hcell hkind hx1 hx2 hx3 h12 h13 h23 (F.keeps up) (N.grown up) (Nat.ne_of_lt F.ns.lt) (next_is_new F) (fun p hp => Nat.ne_of_lt (Heap.lt_size (N p hp).1)) h0 (turn _) ?_
  intro D C h' tk m' ys F' N' o1 hn hC₀ hD₀ hCL hDL hCD offC hinv
  show wpAny _ A (assign (.Name y py) env (.ref D)) _ _ _
  refine wpAny_assign_Name (wpAny_storeName_local hy F'.ns (fun h₂ hn₂ hs₂ => ?_) hp)
  have hL₀ : h₀.get? env.locals = none := Heap.get?_none_of_le F'.above
  have F₂ : Fr h₀ env.locals h₂ (fun z => if z = y then some (.ref D) else m z) := ⟨hn₂, fun b o e => hs₂.extBut b o (fun q => by rw [q, hL₀] at e; cases e) (F'.keep b o e), F'.above⟩
  refine ⟨m', hn.sameBut hs₂ hCL, fun h'' hs'' => done ys D h'' _ hinv (fun p hp => ?_) o1 (F₂.change hs'' hCL hC₀)⟩
  have z : h₂.get? p.1 = some p.2 := hs₂.extBut _ _ (N' p hp).2.1 (N' p hp).1
  refine ⟨hs''.extBut _ _ ?_ z, (N' p hp).2⟩
  rcases List.mem_cons.mp hp with rfl | hp
  · exact Ne.symm hCD
  · exact offC p hp
end
end Mine
end

section
open PySem PySem.W PyProof.Rows PySem.Calls
set_option maxHeartbeats 400000
namespace Mine
theorem tri_in {X : List (Addr × Obj)} {v : Value} {nm : List (Option Lf)} (h : DatIn X v (toldD nm)) : ∃ t k1 k2 k3 nt, v = .ref t ∧ (t, tupOf [.str (txt nm) k1, .str (told nm).1 k2, .int (told nm).2 k3] nt) ∈ X := by
  obtain ⟨a, vs, n, rfl, hm, hd⟩ : ∃ a vs n, v = .ref a ∧ (a, tupOf vs n) ∈ X ∧ DatAll X vs [.str (txt nm), .str (told nm).1, .int (told nm).2] := by
    unfold toldD at h
    cases h with
    | tuple hm hd => exact ⟨_, _, _, rfl, hm, hd⟩
  cases hd with
  | cons h1 hd => cases hd with
    | cons h2 hd => cases hd with
      | cons h3 hd =>
        cases hd; cases h1; cases h2; cases h3
        exact ⟨a, _, _, _, n, rfl, hm⟩
theorem tri_all {X l : List (Addr × Obj)} {vs : List Value} {nms : List (List (Option Lf))} (hD : DatAll X vs (nms.map toldD)) (hX : ∀ p ∈ X, p ∈ l) : ∀ v ∈ vs, ∃ t a b c nt, v = .ref t ∧ (t, tupOf [a, b, c] nt) ∈ l := fun v hv => by
  obtain ⟨i, hi⟩ := List.getElem?_of_mem hv
  have hp : i < (nms.map toldD).length := by rw [← hD.length]; exact (List.getElem?_eq_some_iff.mp hi).1
  obtain ⟨v', h1, h2⟩ := hD.get hp
  rw [hi] at h1; cases h1
  rw [List.getElem_map] at h2
  obtain ⟨t, k1, k2, k3, nt, rfl, hm⟩ := tri_in h2
  exact ⟨t, _, _, _, nt, rfl, hX _ hm⟩
theorem tri_val {X l : List (Addr × Obj)} {h₀ h : Heap} {L t : Addr} {a b c : Value} {nt : Nat} {nm : List (Option Lf)} (N : News h₀ L h l) (h1 : (t, tupOf [a, b, c] nt) ∈ l) (hX : ∀ p ∈ X, p ∈ l) (hin : DatIn X (.ref t) (toldD nm)) :
    ∃ k1 k2 k3, a = .str (txt nm) k1 ∧ b = .str (told nm).1 k2 ∧ c = .int (told nm).2 k3 := by
  obtain ⟨t', k1, k2, k3, nt', e, hm⟩ := tri_in hin
  cases e
  have z1 := (N _ h1).1
  have z2 := (N _ (hX _ hm)).1
  rw [z1] at z2
  simp only [Option.some.injEq] at z2
  have z3 : (tupOf [a, b, c] nt).data = (tupOf [.str (txt nm) k1, .str (told nm).1 k2, .int (told nm).2 k3] nt').data := congrArg Obj.data z2
  simp only [tupOf] at z3
  injection z3 with z4 _
  have z5 := congrArg Array.toList z4
  simp only [List.toList_toArray] at z5
  injection z5 with e1 z6
  injection z6 with e2 z7
  injection z7 with e3 _
  exact ⟨k1, k2, k3, e1, e2, e3⟩
noncomputable def oursB (nm : List (Option Lf)) : Bool := (told nm).1 == Str.ofString "ours" && decide ((told nm).2 ≠ 0)
noncomputable def portsG (nms : List (List (Option Lf))) : List Int := (nms.filter oursB).map fun nm => (told nm).2
noncomputable def refB (nm : List (Option Lf)) : Bool := (told nm).1 == Str.ofString "refused"
theorem ports_in {nms : List (List (Option Lf))} {i : Nat} {nm : List (Option Lf)} (h : nms[i]? = some nm) (hb : oursB nm = true) : portsG (nms.take (i + 1)) = portsG (nms.take i) ++ [(told nm).2] := by
  unfold portsG
  rw [List.take_add_one, h, List.filter_append, List.map_append]
  simp [hb]
theorem ports_out {nms : List (List (Option Lf))} {i : Nat} {nm : List (Option Lf)} (h : nms[i]? = some nm) (hb : oursB nm = false) : portsG (nms.take (i + 1)) = portsG (nms.take i) := by
  unfold portsG
  rw [List.take_add_one, h, List.filter_append, List.map_append]
  simp [hb]
theorem told_port {nm : List (Option Lf)} (h : NameOk nm) : -2 ≤ (told nm).2 ∧ (told nm).2 ≤ 19997 := by
  unfold told
  split
  · rename_i i _ h3
    exact h.fit _ (List.mem_of_getElem? h3)
  · exact ⟨by decide, by decide⟩
  · exact ⟨by decide, by decide⟩
theorem told_word (nm : List (Option Lf)) : (told nm).1 = Str.ofString "ours" ∨ ((told nm).1 = Str.ofString "no number" ∧ (told nm).2 = 0) ∨ ((told nm).1 = Str.ofString "refused" ∧ (told nm).2 = 0) := by
  unfold told
  split
  · exact .inl rfl
  · exact .inr (.inl ⟨rfl, rfl⟩)
  · exact .inr (.inr ⟨rfl, rfl⟩)
theorem ports_len (nms : List (List (Option Lf))) : (portsG nms).length ≤ nms.length := by
  unfold portsG
  rw [List.length_map]; exact List.length_filter_le _ _
theorem ports_mem {nms : List (List (Option Lf))} (hok : ∀ nm ∈ nms, NameOk nm) : ∀ x ∈ portsG nms, x ≠ 0 ∧ -2 ≤ x ∧ x ≤ 19997 := by
  intro x hx
  obtain ⟨nm, hnm, rfl⟩ := List.mem_map.mp hx
  obtain ⟨h1, h2⟩ := List.mem_filter.mp hnm
  unfold oursB at h2
  rw [Bool.and_eq_true, decide_eq_true_eq] at h2
  exact ⟨h2.2, told_port (hok _ h1)⟩
theorem sum_le {l : List Int} (h : ∀ x ∈ l, -2 ≤ x ∧ x ≤ 19997) : -2 * (l.length : Int) ≤ l.sum ∧ l.sum ≤ 19997 * (l.length : Int) := by
  induction l with
  | nil => simp
  | cons a r ih =>
    have h1 := h a (by simp)
    have h2 := ih fun x hx => h x (List.mem_cons_of_mem _ hx)
    rw [List.sum_cons, List.length_cons]
    omega
noncomputable def FlatV : Value → Prop
  | .int _ _ => True
  | .str x _ => PyData.canLay0 (.str x) = true
  | _ => False
theorem flat_reads (h : Heap) : ∀ {vs : List Value}, (∀ v ∈ vs, FlatV v) → ∃ ds, ReadsAll h vs ds [] ∧ PyData.canLay0 (.list ds) = true ∧ ds.length = vs.length
  | [], _ => ⟨[], .nil, rfl, rfl⟩
  | v :: r, hf => by
    obtain ⟨ds, h1, h2, h3⟩ := flat_reads h (vs := r) fun x hx => hf x (List.mem_cons_of_mem _ hx)
    have hv := hf v List.mem_cons_self
    cases v <;> try exact hv.elim
    · rename_i i t
      exact ⟨.int i :: ds, .cons (.int i t) h1, h2, by rw [List.length_cons, List.length_cons, h3]⟩
    · rename_i x t
      exact ⟨.str x :: ds, .cons (.str x t) h1, (Bool.and_eq_true _ _).mpr ⟨hv, h2⟩, by rw [List.length_cons, List.length_cons, h3]⟩
theorem eqv_nil (ds : List PyData) : PyData.eqv (.list ds) (.list []) = ds.isEmpty := by
  cases ds <;> rfl
theorem txt_ok {nm : List (Option Lf)} (h : ∀ t ∈ nm, TokFit t) : PyData.canLay0 (.str (txt nm)) = true := by
  have e : PyData.canLay0 (.str (txt nm)) = (txt nm).cps.toList.all (· < 0x110000) := by rw [Array.all_toList]; rfl
  rw [e, List.all_eq_true]
  intro c hc
  have := txt_chars h c hc
  exact decide_eq_true (by omega)
section
variable {prog : Program} {w : World} {A : Around} {E : Value → Shared → Prop} {s : Shared} {h₀ : Heap} {L a b : Addr} {m : Str → Option Value} {news : List (Addr × Obj)} {vs : List Value} {n n2 : Nat} {Q : Value → Shared → Prop}
theorem r_eqnil (N : News h₀ L s.heap news) (h1 : (a, listOf vs.toArray n) ∈ news) (h2 : (b, listOf #[] n2) ∈ news) (hf : ∀ v ∈ vs, FlatV v) (hu : A.units + 4 < cLine) (h : Q (.bool vs.isEmpty) s) :
    wpAny (model prog w) A (compareOp .Eq (.ref a) (.ref b)) Q E s := by
  obtain ⟨ds, r1, r2, r3⟩ := flat_reads s.heap hf
  refine SeqAt.compareEq_reads (da := .list ds) (db := .list []) (.list (N _ h1).1 rfl rfl (by simpa using r1)) (.list (N _ h2).1 rfl rfl .nil) r2 rfl ?_ ?_
  · have : PyData.depth (.list []) = 1 := rfl
    have := Nat.min_le_right (PyData.depth (.list ds)) (PyData.depth (.list []))
    omega
  · rw [eqv_nil]
    have e : ds.isEmpty = vs.isEmpty := by cases ds <;> cases vs <;> simp at r3 ⊢
    rw [e]; exact h
theorem r_nenil (N : News h₀ L s.heap news) (h1 : (a, listOf vs.toArray n) ∈ news) (h2 : (b, listOf #[] n2) ∈ news) (hf : ∀ v ∈ vs, FlatV v) (hu : A.units + 4 < cLine) (h : Q (.bool (!vs.isEmpty)) s) :
    wpAny (model prog w) A (compareOp .NotEq (.ref a) (.ref b)) Q E s := by
  obtain ⟨ds, r1, r2, r3⟩ := flat_reads s.heap hf
  refine SeqAt.compareNe_reads (da := .list ds) (db := .list []) (.list (N _ h1).1 rfl rfl (by simpa using r1)) (.list (N _ h2).1 rfl rfl .nil) r2 rfl ?_ ?_
  · have : PyData.depth (.list []) = 1 := rfl
    have := Nat.min_le_right (PyData.depth (.list ds)) (PyData.depth (.list []))
    omega
  · rw [eqv_nil]
    have e : ds.isEmpty = vs.isEmpty := by cases ds <;> cases vs <;> simp at r3 ⊢
    rw [e]; exact h
end
end Mine
end

section
open PySem PySem.W PyProof.Rows PySem.Calls
set_option maxRecDepth 100000
set_option maxHeartbeats 4000000
namespace Mine
theorem tri_open {X l : List (Addr × Obj)} {h₀ h : Heap} {L t : Addr} {a b c : Value} {nt i : Nat} {vs : List Value} {nms : List (List (Option Lf))} {P : Prop} (hD : DatAll X vs (nms.map toldD)) (hv : vs[i]? = some (.ref t)) (N : News h₀ L h l) (h1 : (t, tupOf [a, b, c] nt) ∈ l) (hX : ∀ p ∈ X, p ∈ l)
    (hP : ∀ nm k1 k2 k3, nms[i]? = some nm → a = .str (txt nm) k1 → b = .str (told nm).1 k2 → c = .int (told nm).2 k3 → P) : P := by
  obtain ⟨nm, hnm, hin⟩ := dat_get hD hv
  obtain ⟨k1, k2, k3, e1, e2, e3⟩ := tri_val N h1 hX hin
  exact hP nm k1 k2 k3 hnm e1 e2 e3
noncomputable def RefInv (nms : List (List (Option Lf))) (i : Nat) (ys : List Value) : Prop := (∀ v ∈ ys, FlatV v) ∧ ys.isEmpty = !((nms.take i).any refB)
/-- what _law_width gives -/
noncomputable def WidW (nms : List (List (Option Lf))) (r : Int) : Prop :=
  (portsG nms = [] ∧ r = 0) ∨ ∃ M ∈ portsG nms, (∀ x ∈ portsG nms, x ≤ M) ∧ ((M = -1 ∧ r = 0) ∨ (M ≠ -1 ∧ ∃ wd : Nat, 3 ≤ wd ∧ (if (portsG nms).sum > M then (portsG nms).sum else M) < 10 ^ wd ∧ (∀ v : Nat, 3 ≤ v → v < wd → (10 : Int) ^ v ≤ (if (portsG nms).sum > M then (portsG nms).sum else M)) ∧ r = if wd = 3 ∧ nms.any refB = true then 4 else (wd : Int)))
section
variable {w : World} {loose : List Str} {mean : ExcName → Option Value} {mg mb : Str → Option Value}
local macro_rules | `(tactic| walk_at $k:str) => (if (["exec Assign cons ListComp", "compareOp Eq ref ref", "compareOp NotEq ref ref", "call builtin:max", "call builtin:sum", "exec While", "eval ListComp"] : List String).contains k.getString then `(tactic| (refine Hold.out ?_)) else Lean.Macro.throwUnsupported)
theorem keep_cut2 {α : Type} {M : Model} {A : Around} {t : Sem α} {Q : α → Shared → Prop} {E : Value → Shared → Prop} {h₀ h : Heap} {L : Addr} {m : Str → Option Value} {g : Array GenState} {d : Drawn} {k : Nat} {o : OsState} {t1 t2 : Tok} (xs : Tok → Tok → List (Str × Value)) (F : Fr h₀ L h m) (hx : (xs t1 t2).foldr (fun p P => m p.1 = some p.2 ∧ P) True)
    (hw : ∀ mX k' t1 t2, Fr h₀ L h (kstB mX (xs t1 t2)) → wpAny M A t Q E ⟨h, g, d, k', o⟩) : wpAny M A t Q E ⟨h, g, d, k, o⟩ := hw m k t1 t2 (fr_keep F (keep_all hx))
theorem wid_says {news X : List (Addr × Obj)} {ax : Addr} {vs : List Value} {nn : Nat} {nms : List (List (Option Lf))} (hm : (ax, listOf vs.toArray nn) ∈ news) (hD : DatAll X vs (nms.map toldD)) (hX : ∀ p ∈ X, p ∈ news) (hok : ∀ nm ∈ nms, NameOk nm) (h42 : nms.length ≤ 42) :
    Says w loose mean mg mb 101 [.ref ax] news 6 (fun tl r => ∃ M t, r = .int M t ∧ tl = [] ∧ WidW nms M) := by
  unfold Says
  k_fill
  w_top off
  intro dp un gd cn cs fa ccd cl outer A₀ base h₀ L m s Q E B F X N T hk hd hu hret
  obtain ⟨h00, g00, d00, k00, o00⟩ := s
  dsimp only at F X N T hret
  refine wpAny_call ?_
  k_dflt ktr_enter
  rename_i g' L' _ FG' F' N' B' X' T'
  refine wpAny_fog fun Q₁ hQ₁ => ?_
  have hend : ∀ (M : Int) (t : Tok) (h1 : Heap) (k1 : Nat) (m1 : Str → Option Value), Fr g' L' h1 m1 → News g' L' h1 news → WidW nms M → Q₁ (.ret (.int M t)) ⟨h1, g00, d00, k1, o00⟩ := by
    intro M t h1 k1 m1 kF kN hW
    clear F' N'
    subst hQ₁
    k_steps
    with_reducible rename Fr h₀ _ _ _ => kF
    with_reducible rename News h₀ _ _ _ => kN
    exact hret _ [] _ _ kF (by rw [List.append_nil]; exact kN) (fun _ _ _ h => (List.not_mem_nil h).elim) ⟨_, _, rfl, rfl, hW⟩
  clear hret hQ₁
  k_steps
  refine Hold.mk ?_
  (try dsimp only)
  with_reducible rename Fr _ _ _ _ => F1
  with_reducible rename News _ _ _ _ => N1
  refine assign3 F1 rfl (by with_unfolding_all rfl) (by with_unfolding_all rfl) (by decide) (by rfl) (by decide) (by rfl) (by rfl) (by rfl) (by decide) (by decide) (by decide) (by rfl) (by rfl) ?_
  k_steps
  unfold Src3
  refine ⟨ax, vs, nn, news, fun i ys => IntsAre ys (portsG (nms.take i)), rfl, rfl, F1, N1, hm, by have := hD.length; rw [List.length_map] at this; omega, tri_all hD hX, .nil, fun g => ?_, ?_⟩
  · intro i t a b c nt ys I oI C oC D m₂ g' h tk E' hv hmt hinv hoC h1 h2 h3 F5 N5
    refine tri_open (l := news) hD hv (fun p hp => N5 p (List.mem_cons_of_mem _ (List.mem_cons_of_mem _ (List.mem_cons_of_mem _ hp)))) hmt hX ?_
    intro nm k1 k2 k3 hnm ea eb ec
    subst ea eb ec
    refine wpAny_tests_one ?_
    k_steps
    · rename_i hw hp
      show IntsAre (ys ++ _) _
      rw [ports_in hnm (by unfold oursB; rw [hw, decide_eq_true hp]; rfl)]
      exact hinv.append (.cons _ _ .nil)
    · rename_i hw hp
      show IntsAre ys _
      rw [ports_out hnm (by unfold oursB; rw [decide_eq_false (fun h => h hp), Bool.and_false])]
      exact hinv
    · rename_i hw
      show IntsAre ys _
      rw [ports_out hnm (by unfold oursB; rw [hw, Bool.false_and])]
      exact hinv
  · intro ys D h tk hinv N5 hoff F5
    rw [show vs.length = nms.length by have := hD.length; rw [List.length_map] at this; exact this, List.take_length] at hinv
    have hfl : ∀ v ∈ ys, FlatV v := fun v hv => by
      obtain ⟨i, hi⟩ := List.getElem?_of_mem hv
      have hl := hinv.length
      have : i < (portsG nms).length := by rw [← hl]; exact (List.getElem?_eq_some_iff.mp hi).1
      obtain ⟨t, ht⟩ := hinv.get i _ (List.getElem?_eq_getElem this)
      rw [hi] at ht; cases ht; trivial
    k_steps
    refine Hold.mk ?_
    (try dsimp only)
    with_reducible rename News _ _ _ _ => N6
    refine r_eqnil N6 (List.mem_cons_of_mem _ List.mem_cons_self) List.mem_cons_self hfl (by show un + 3 + 4 < cLine; omega) ?_
    have hemp : ys.isEmpty = (portsG nms).isEmpty := by
      have hl := hinv.length
      cases ys <;> cases hp : portsG nms <;> rw [hp] at hl <;> simp at hl ⊢
    rw [hemp]
    cases hp : portsG nms with
    | nil =>
      rw [List.isEmpty_nil]
      k_steps
      with_reducible rename Fr _ _ _ _ => kF
      exact hend _ _ _ _ _ kF (fun p hp => N6 p (List.mem_cons_of_mem _ (List.mem_cons_of_mem _ hp))) (.inl ⟨hp, rfl⟩)
    | cons p0 pr =>
      rw [List.isEmpty_cons]
      k_steps
      refine Hold.mk ?_
      (try dsimp only)
      with_reducible rename Fr _ _ _ _ => F7
      have hne : 0 < (portsG nms).length := by rw [hp]; exact Nat.succ_pos _
      refine kso_max F7 N6 ⟨_, (N6 _ (List.mem_cons_of_mem _ List.mem_cons_self)).1, rfl, _, rfl⟩ hinv hne rfl ?_
      intro h8 M tM tk8 F8 N8 hMm hMx
      have hMb := ports_mem hok M hMm
      have hsl := sum_le fun x hx => (ports_mem hok x hx).2
      have hpl := ports_len nms
      k_steps
      · rename_i hM1 _ _ _ _ _
        with_reducible rename Fr _ _ _ _ => kF
        exact hend _ _ _ _ _ kF (fun p hp => N8 p (List.mem_cons_of_mem _ (List.mem_cons_of_mem _ hp))) (.inr ⟨M, hMm, hMx, .inl ⟨by first | assumption | omega, rfl⟩⟩)
      · rename_i hM1
        refine Hold.mk ?_
        (try dsimp only)
        with_reducible rename Fr _ _ _ _ => F9
        refine kso_max F9 N8 ⟨_, (N8 _ (List.mem_cons_of_mem _ List.mem_cons_self)).1, rfl, _, rfl⟩ hinv hne rfl ?_
        intro h10 M2 tM2 tk10 F10 N10 hMm2 hMx2
        obtain rfl : M2 = M := Int.le_antisymm (hMx _ hMm2) (hMx2 _ hMm)
        k_steps
        refine Hold.mk ?_
        (try dsimp only)
        refine LSm.sum_ints F10 N10 rfl ⟨_, (N10 _ (List.mem_cons_of_mem _ List.mem_cons_self)).1, rfl, _, rfl⟩ hinv ?_
        intro h11 tk11 t11 F11 N11
        k_steps
        refine Hold.mk ?_
        (try dsimp only)
        refine max_two_N rfl F11 N11 ?_
        intro h12 tk12 F12 N12
        obtain ⟨G, hG⟩ : ∃ G, G = (if (portsG nms).sum > M2 then (portsG nms).sum else M2) := ⟨_, rfl⟩
        have hGb : G ≤ 999999 := by rw [hG]; split <;> omega
        rw [← hG]
        k_steps
        refine Hold.mk ?_
        (try dsimp only)
        have fin : ∀ wd : Nat, 3 ≤ wd → G < 10 ^ wd → (∀ v : Nat, 3 ≤ v → v < wd → (10 : Int) ^ v ≤ G) → ∀ r : Int, (r = if wd = 3 ∧ nms.any refB = true then 4 else (wd : Int)) → WidW nms r := fun wd h1 h2 h3 r hr =>
          .inr ⟨M2, hMm, hMx, .inr ⟨hM1, wd, h1, hG ▸ h2, fun v h4 h5 => hG ▸ h3 v h4 h5, hr⟩⟩
        with_reducible rename Fr _ _ _ _ => F13
        refine keep_cut2 (g := g00) (d := d00) (o := o00) (fun t1 t2 => [(Str.ofString "due", .ref ax), (Str.ofString "greatest", .int G t1), (Str.ofString "width", .int 3 t2)]) F13 (And.intro rfl (And.intro rfl (And.intro rfl trivial))) ?_
        clear F13
        intro mX kX tX1 tX2 FX
        refine whl_start 100 ?_
        k_steps
        by_cases c1 : (1000 : Int) ≤ G
        · refine WhlIf.yes (decide_eq_true c1) ?_
          k_steps
          by_cases c2 : (10000 : Int) ≤ G
          · refine WhlIf.yes (decide_eq_true c2) ?_
            k_steps
            by_cases c3 : (100000 : Int) ≤ G
            · refine WhlIf.yes (decide_eq_true c3) ?_
              k_steps
              refine WhlIf.no (decide_eq_false (show ¬ ((1000000 : Int)) ≤ G by omega)) ?_
              k_steps
              with_reducible rename Fr _ _ _ _ => kF
              with_reducible rename News _ _ _ _ => N14
              refine hend _ _ _ _ _ kF (fun p hp => N14 p (List.mem_cons_of_mem _ (List.mem_cons_of_mem _ hp))) (fin 6 (by decide) (show G < (1000000 : Int) by omega) (fun v h1 h2 => ?_) _ (by rw [if_neg (fun h => absurd h.1 (by decide))]; rfl))
              rcases (by omega : v = 3 ∨ v = 4 ∨ v = 5) with rfl | rfl | rfl
              · exact c1
              · exact c2
              · exact c3
            · refine WhlIf.no (decide_eq_false c3) ?_
              k_steps
              with_reducible rename Fr _ _ _ _ => kF
              with_reducible rename News _ _ _ _ => N14
              refine hend _ _ _ _ _ kF (fun p hp => N14 p (List.mem_cons_of_mem _ (List.mem_cons_of_mem _ hp))) (fin 5 (by decide) (show G < (100000 : Int) by omega) (fun v h1 h2 => ?_) _ (by rw [if_neg (fun h => absurd h.1 (by decide))]; rfl))
              rcases (by omega : v = 3 ∨ v = 4) with rfl | rfl
              · exact c1
              · exact c2
          · refine WhlIf.no (decide_eq_false c2) ?_
            k_steps
            with_reducible rename Fr _ _ _ _ => kF
            with_reducible rename News _ _ _ _ => N14
            refine hend _ _ _ _ _ kF (fun p hp => N14 p (List.mem_cons_of_mem _ (List.mem_cons_of_mem _ hp))) (fin 4 (by decide) (show G < (10000 : Int) by omega) (fun v h1 h2 => ?_) _ (by rw [if_neg (fun h => absurd h.1 (by decide))]; rfl))
            obtain rfl : v = 3 := by omega
            exact c1
        · refine WhlIf.no (decide_eq_false c1) ?_
          k_steps
          refine Hold.mk ?_
          (try dsimp only)
          with_reducible rename Fr _ _ _ _ => F14
          with_reducible rename News _ _ _ _ => N14
          refine comp3 F14 (by with_unfolding_all rfl) (by decide) (by rfl) (by decide) (by rfl) (by rfl) (by rfl) (by decide) (by decide) (by decide) ?_
          k_steps
          unfold Src3
          refine ⟨ax, vs, nn, _, RefInv nms, rfl, rfl, F14, N14, List.mem_cons_of_mem _ (List.mem_cons_of_mem _ hm), by have := hD.length; rw [List.length_map] at this; omega, tri_all hD fun p hp => List.mem_cons_of_mem _ (List.mem_cons_of_mem _ (hX p hp)), ⟨fun v hv => (List.not_mem_nil hv).elim, rfl⟩, fun g => ?_, ?_⟩
          · intro i t a b c nt ys' I oI C oC D' m₂ g' h' tk' E' hv hmt hinv' hoC h1 h2 h3 F15 N15
            refine tri_open (l := _ :: _ :: news) hD hv (fun p hp => N15 p (List.mem_cons_of_mem _ (List.mem_cons_of_mem _ (List.mem_cons_of_mem _ hp)))) hmt (fun p hp => List.mem_cons_of_mem _ (List.mem_cons_of_mem _ (hX p hp))) ?_
            intro nm k1 k2 k3 hnm ea eb ec
            subst ea eb ec
            have hok1 := hok nm (List.mem_of_getElem? hnm)
            have hany : ((nms.take (i + 1)).any refB) = ((nms.take i).any refB || refB nm) := by rw [List.take_add_one, hnm, List.any_append]; simp
            refine wpAny_tests_one ?_
            k_steps
            · rename_i hw
              show _ ∧ _
              refine ⟨fun v hv => ?_, ?_⟩
              · rcases List.mem_append.mp hv with h | h
                · exact hinv'.1 v h
                · rw [List.mem_singleton.mp h]; exact txt_ok hok1.fit
              · rw [hany, show refB nm = true from hw, Bool.or_true]; simp
            · rename_i hw
              show _ ∧ _
              refine ⟨hinv'.1, ?_⟩
              rw [hany, show refB nm = false from hw, Bool.or_false]; exact hinv'.2
          · intro ys' D' h' tk' hinv' N15 hoff' F15
            unfold RefInv at hinv'
            rw [show vs.length = nms.length by have := hD.length; rw [List.length_map] at this; exact this, List.take_length] at hinv'
            k_steps
            refine Hold.mk ?_
            (try dsimp only)
            with_reducible rename News _ _ _ _ => N16
            refine r_nenil N16 (List.mem_cons_of_mem _ List.mem_cons_self) List.mem_cons_self hinv'.1 (by show un + 3 + 4 < cLine; omega) ?_
            rw [hinv'.2, Bool.not_not]
            cases hr : nms.any refB with
            | true =>
              k_steps
              with_reducible rename Fr _ _ _ _ => kF
              exact hend _ _ _ _ _ kF (fun p hp => N16 p (by repeat (first | exact hp | refine List.mem_cons_of_mem _ ?_))) (fin 3 (by decide) (show G < (1000 : Int) by omega) (fun v h1 h2 => absurd h2 (by omega)) _ (by rw [if_pos ⟨rfl, hr⟩]))
            | false =>
              k_steps
              with_reducible rename Fr _ _ _ _ => kF
              exact hend _ _ _ _ _ kF (fun p hp => N16 p (by repeat (first | exact hp | refine List.mem_cons_of_mem _ ?_))) (fin 3 (by decide) (show G < (1000 : Int) by omega) (fun v h1 h2 => absurd h2 (by omega)) _ (by rw [if_neg (fun h => absurd (hr.symm.trans h.2) Bool.false_ne_true)]; rfl))
end
end Mine
end

section
open PySem PySem.W PyProof.Rows
set_option maxHeartbeats 1000000
namespace Mine
namespace Srt
variable {r : Nat → Nat} {n : Nat} {s : Shared} {cmp : Nat → Nat → (Bool → Shared → Prop) → Shared → Prop}
noncomputable def vl (r : Nat → Nat) (p : Array Nat) (k : Nat) : Nat := r (p.getD k 0)
noncomputable def Up (r : Nat → Nat) (p : Array Nat) (k : Nat) : Prop := ∀ i j, i ≤ j → j < k → vl r p i ≤ vl r p j
noncomputable def Dn (r : Nat → Nat) (p : Array Nat) (k : Nat) : Prop := ∀ i j, i ≤ j → j < k → vl r p j ≤ vl r p i
noncomputable def Pm (p : Array Nat) (n : Nat) : Prop := p.Perm (List.range n).toArray
noncomputable def Ans (r : Nat → Nat) (n : Nat) (s : Shared) (cmp : Nat → Nat → (Bool → Shared → Prop) → Shared → Prop) : Prop := ∀ i j (C : Bool → Shared → Prop), i < n → j < n → C (decide (r i < r j)) s → cmp i j C s
theorem Pm.size {p : Array Nat} (h : Pm p n) : p.size = n := by
  have := h.size_eq
  simpa using this
theorem Pm.lt {p : Array Nat} (h : Pm p n) {k : Nat} (hk : k < n) : p.getD k 0 < n := by
  have hs := h.size
  have e : p.getD k 0 = p[k]'(by omega) := by simp [Array.getD, hs, hk]
  rw [e]
  have hm : p[k]'(by omega) ∈ p := Array.getElem_mem _
  have := (h.mem_iff).mp hm
  simpa using this
theorem getD_of {p q : Array Nat} {i j : Nat} (h : p[i]? = q[j]?) : p.getD i 0 = q.getD j 0 := by
  rw [Array.getD_eq_getD_getElem?, Array.getD_eq_getD_getElem?, h]
theorem ask {α : Type} {p : Array Nat} {i j : Nat} {k : Bool → KasT α} {Q : α → Shared → Prop} (hc : Ans r n s cmp) (hp : Pm p n) (hi : i < n) (hj : j < n)
    (h : (k (decide (vl r p i < vl r p j))).kasWp cmp Q s) : (KasT.ask (p.getD i 0) (p.getD j 0) k).kasWp cmp Q s :=
  hc _ _ (fun b s' => (k b).kasWp cmp Q s') (hp.lt hi) (hp.lt hj) h
theorem sA {m f n : Nat} (h : m + (f + 1) ≤ n) : m < n := Nat.lt_of_lt_of_le (Nat.lt_add_of_pos_right (Nat.succ_pos f)) h
theorem sB {m f n : Nat} (h : m + (f + 1) ≤ n) : m + 1 + f ≤ n := Nat.le_trans (Nat.le_of_eq (Nat.succ_add m f)) h
theorem sC {m f n : Nat} (h : n ≤ m + 1 + f) : n ≤ m + (f + 1) := Nat.le_trans h (Nat.le_of_eq (Nat.succ_add m f))
theorem sD {j m : Nat} (h : j < m + 1) (h2 : m ≤ j) : j = m := Nat.le_antisymm (Nat.le_of_lt_succ h) h2
theorem sP {k n : Nat} (h : k < n) : k - 1 < n := Nat.lt_of_le_of_lt (Nat.sub_le _ _) h
theorem sS {m n : Nat} (h : m ≤ n) : m + (n - m) ≤ n := Nat.le_of_eq (Nat.add_sub_of_le h)
theorem sT {k m n : Nat} (h : m ≤ n) (h2 : k ≤ m + (n - m)) : k ≤ n := Nat.le_trans h2 (sS h)
theorem sL {m : Nat} (h : 1 ≤ m) : m - 1 < m := Nat.sub_lt h Nat.one_pos
theorem asc (hc : Ans r n s cmp) {p : Array Nat} (hp : Pm p n) {Q : Nat → Shared → Prop} : ∀ (f m : Nat), 1 ≤ m → m + f ≤ n → Up r p m →
    (∀ m', m ≤ m' → m' ≤ m + f → Up r p m' → (m' = m + f ∨ vl r p m' < vl r p (m' - 1)) → Q m' s) → (kas_asc p f m).kasWp cmp Q s := by
  intro f
  induction f with
  | zero => intro m h1 hn hu h; exact h m (Nat.le_refl _) (Nat.le_refl _) hu (.inl rfl)
  | succ f ih =>
    intro m h1 hn hu h
    refine ask hc hp (sA hn) (sP (sA hn)) ?_
    by_cases hlt : vl r p m < vl r p (m - 1)
    · rw [decide_eq_true hlt, if_pos rfl]
      exact h m (Nat.le_refl _) (Nat.le_add_right _ _) hu (.inr hlt)
    · rw [decide_eq_false hlt, if_neg Bool.false_ne_true]
      refine ih (m + 1) (Nat.le_add_left 1 m) (sB hn) (fun i j hij hj => ?_) fun m' h2 h3 h4 h5 => h m' (Nat.le_of_succ_le h2) (sC h3) h4 (h5.imp (fun e => e.trans (Nat.succ_add m f)) id)
      rcases Nat.lt_or_ge j m with h2 | h2
      · exact hu i j hij h2
      · obtain rfl : j = m := sD hj h2
        rcases Nat.lt_or_ge i j with h3 | h3
        · exact Nat.le_trans (hu i (j - 1) (Nat.le_pred_of_lt h3) (sL h1)) (Nat.le_of_not_lt hlt)
        · obtain rfl : i = j := Nat.le_antisymm hij h3
          exact Nat.le_refl _
theorem rev_pm {p : Array Nat} (hp : Pm p n) (i j : Nat) : Pm (kas_rev p i j) n := (mirror_perm _ _ _ _).trans hp
theorem rev_vl {p : Array Nat} (hp : Pm p n) {i j : Nat} (hj : j ≤ n) (k : Nat) : vl r (kas_rev p i j) k = if i ≤ k ∧ k < j then vl r p (i + j - 1 - k) else vl r p k := by
  have h := getElem?_mirror_all (xs := p) (i := i) (j := j) (by rw [hp.size]; exact hj) k
  unfold vl kas_rev
  split
  · rename_i hk
    rw [if_pos hk] at h
    rw [getD_of h]
  · rename_i hk
    rw [if_neg hk] at h
    rw [getD_of h]
/-- the last q + 1 of m are equal -/
noncomputable def Eq (r : Nat → Nat) (p : Array Nat) (m q : Nat) : Prop := ∀ i, m - (q + 1) ≤ i → i < m → vl r p i = vl r p (m - 1)
theorem rev_same {p : Array Nat} (hp : Pm p n) {m q : Nat} (hm : m ≤ n) (hq : q < m) (he : Eq r p m q) (k : Nat) : vl r (kas_rev p (m - (q + 1)) m) k = vl r p k := by
  rw [rev_vl hp hm]
  split
  · rename_i hk
    rw [he _ (by omega) (by omega), he k (by omega) (by omega)]
  · rfl
theorem desc (hc : Ans r n s cmp) {Q : Array Nat × Nat × Nat → Shared → Prop} : ∀ (f : Nat) (p : Array Nat) (m q : Nat), Pm p n → q < m → m + f ≤ n → Dn r p m → Eq r p m q →
    (∀ p' m' q', Pm p' n → q' < m' → m' ≤ m + f → Dn r p' m' → Eq r p' m' q' → Q (p', m', q') s) → (kas_desc f p m q).kasWp cmp Q s := by
  intro f
  induction f with
  | zero => intro p m q hp hq hn hd he h; exact h p m q hp hq (Nat.le_add_right _ _) hd he
  | succ f ih =>
    intro p m q hp hq hn hd he h
    have dn : ∀ {p' : Array Nat}, (∀ k, vl r p' k = vl r p k) → vl r p m ≤ vl r p (m - 1) → Dn r p' (m + 1) := fun hs hle i j hij hj => by
      rw [hs, hs]
      rcases Nat.lt_or_ge j m with h2 | h2
      · exact hd i j hij h2
      · obtain rfl : j = m := sD hj h2
        rcases Nat.lt_or_ge i j with h3 | h3
        · exact Nat.le_trans hle (hd i (j - 1) (Nat.le_pred_of_lt h3) (sL (Nat.lt_of_le_of_lt (Nat.zero_le _) hq)))
        · obtain rfl : i = j := Nat.le_antisymm hij h3
          exact Nat.le_refl _
    have one : ∀ p' : Array Nat, Eq r p' (m + 1) 0 := fun p' i h1 h2 => by
      obtain rfl : i = m := sD h2 h1
      rfl
    refine ask hc hp (sA hn) (sP (sA hn)) ?_
    by_cases hlt : vl r p m < vl r p (m - 1)
    · rw [decide_eq_true hlt, if_pos rfl]
      split
      · exact ih _ (m + 1) 0 (rev_pm hp _ _) (Nat.succ_pos _) (sB hn) (dn (rev_same hp (Nat.le_of_lt (sA hn)) hq he) (Nat.le_of_lt hlt)) (one _) fun p' m' q' a1 a2 a3 a4 a5 => h p' m' q' a1 a2 (sC a3) a4 a5
      · exact ih _ (m + 1) 0 hp (Nat.succ_pos _) (sB hn) (dn (fun _ => rfl) (Nat.le_of_lt hlt)) (one _) fun p' m' q' a1 a2 a3 a4 a5 => h p' m' q' a1 a2 (sC a3) a4 a5
    · rw [decide_eq_false hlt, if_neg Bool.false_ne_true]
      refine ask hc hp (sP (sA hn)) (sA hn) ?_
      by_cases hgt : vl r p (m - 1) < vl r p m
      · rw [decide_eq_true hgt, if_pos rfl]
        exact h p m q hp hq (Nat.le_add_right _ _) hd he
      · rw [decide_eq_false hgt, if_neg Bool.false_ne_true]
        have e : vl r p m = vl r p (m - 1) := Nat.le_antisymm (Nat.le_of_not_lt hgt) (Nat.le_of_not_lt hlt)
        refine ih p (m + 1) (q + 1) hp (Nat.succ_lt_succ hq) (sB hn) (dn (fun _ => rfl) (Nat.le_of_eq e)) (fun i h1 h2 => ?_) fun p' m' q' a1 a2 a3 a4 a5 => h p' m' q' a1 a2 (sC a3) a4 a5
        rw [show m + 1 - 1 = m from rfl]
        rcases Nat.lt_or_ge i m with h3 | h3
        · rw [he i (Nat.le_trans (Nat.le_of_eq (Nat.succ_sub_succ m (q + 1)).symm) h1) h3, e]
        · obtain rfl : i = m := sD h2 h3
          rfl
theorem tail3 (hc : Ans r n s cmp) {Q : Nat × Array Nat → Shared → Prop} {p : Array Nat} {m : Nat} (hp : Pm p n) (h1 : 1 ≤ m) (hm : m ≤ n) (hd : Dn r p m)
    (h : ∀ p' m', Pm p' n → 1 ≤ m' → m' ≤ n → Up r p' m' → Q (m', p') s) : (kas_tail3 m n p).kasWp cmp Q s := by
  unfold kas_tail3
  rw [KasT.kasWp_bind]
  refine asc hc (rev_pm hp 0 m) _ m h1 (sS hm) (fun i j hij hj => ?_) fun m' h2 h3 h4 _ => h _ _ (rev_pm hp 0 m) (Nat.le_trans h1 h2) (sT hm h3) h4
  rw [rev_vl hp hm, rev_vl hp hm, if_pos ⟨Nat.zero_le _, Nat.lt_of_le_of_lt hij hj⟩, if_pos ⟨Nat.zero_le _, hj⟩]
  exact hd _ _ (by omega) (by omega)
theorem descPart (hc : Ans r n s cmp) {Q : Nat × Array Nat → Shared → Prop} {p : Array Nat} {m : Nat} (hp : Pm p n) (hm : m + 1 ≤ n) (hd : Dn r p (m + 1))
    (h : ∀ p' m', Pm p' n → 1 ≤ m' → m' ≤ n → Up r p' m' → Q (m', p') s) : (kas_descPart m n p).kasWp cmp Q s := by
  unfold kas_descPart
  rw [KasT.kasWp_bind]
  refine desc hc _ p (m + 1) 0 hp (Nat.succ_pos _) (sS hm) hd (fun i h1 h2 => ?_) fun p' m' q' a1 a2 a3 a4 a5 => ?_
  · obtain rfl : i = m := sD h2 h1
    rfl
  · dsimp only
    split
    · refine tail3 hc (rev_pm a1 _ _) (Nat.lt_of_le_of_lt (Nat.zero_le _) a2) (sT hm a3) (fun i j hij hj => ?_) h
      rw [rev_same a1 (sT hm a3) a2 a5, rev_same a1 (sT hm a3) a2 a5]
      exact a4 i j hij hj
    · exact tail3 hc a1 (Nat.lt_of_le_of_lt (Nat.zero_le _) a2) (sT hm a3) a4 h
theorem count (hc : Ans r n s cmp) {Q : Nat × Array Nat → Shared → Prop} {p : Array Nat} (hp : Pm p n) (hn : 1 ≤ n)
    (h : ∀ p' m', Pm p' n → 1 ≤ m' → m' ≤ n → Up r p' m' → Q (m', p') s) : (kas_count n p).kasWp cmp Q s := by
  unfold kas_count
  rw [KasT.kasWp_bind]
  refine asc hc hp _ 1 (Nat.le_refl _) (sS hn) (fun i j hij hj => ?_) fun m h1 h2 h3 h4 => ?_
  · obtain rfl : i = j := Nat.le_antisymm hij (Nat.le_trans (Nat.le_of_lt_succ hj) (Nat.zero_le _))
    exact Nat.le_refl _
  · have hmn := sT hn h2
    split
    · exact h p m hp h1 hmn h3
    · rename_i hne
      have hne : m ≠ n := fun e => hne (by rw [e]; exact beq_self_eq_true n)
      have hlt : vl r p m < vl r p (m - 1) := by
        rcases h4 with h4 | h4
        · exact absurd (h4.trans (Nat.add_sub_of_le hn)) hne
        · exact h4
      have hml := Nat.lt_of_le_of_ne hmn hne
      split
      · rename_i hm1
        refine ask hc hp hn (sP hml) ?_
        by_cases h0 : vl r p 0 < vl r p (m - 1)
        · rw [decide_eq_true h0, if_pos rfl]
          exact h p m hp h1 hmn h3
        · rw [decide_eq_false h0, if_neg Bool.false_ne_true]
          have he : ∀ i, i < m → vl r p i = vl r p 0 := fun i hi => by
            exact Nat.le_antisymm (Nat.le_trans (h3 i (m - 1) (Nat.le_pred_of_lt hi) (sL h1)) (Nat.le_of_not_lt h0)) (h3 0 i (Nat.zero_le _) hi)
          refine descPart hc (rev_pm hp 0 m) hml (fun i j hij hj => ?_) h
          have e1 := he (m - 1) (sL h1)
          have hr : ∀ t, t < m → vl r (kas_rev p 0 m) t = vl r p 0 := fun t ht => by rw [rev_vl hp hmn, if_pos ⟨Nat.zero_le _, ht⟩, he _ (Nat.lt_of_le_of_lt (Nat.sub_le _ _) (by rw [Nat.zero_add]; exact sL h1))]
          have hm' : vl r (kas_rev p 0 m) m = vl r p m := by rw [rev_vl hp hmn, if_neg fun h => Nat.lt_irrefl _ h.2]
          rcases Nat.lt_or_ge j m with h5 | h5
          · rw [hr j h5, hr i (Nat.lt_of_le_of_lt hij h5)]; exact Nat.le_refl _
          · obtain rfl : j = m := sD hj h5
            rcases Nat.lt_or_ge i j with h6 | h6
            · rw [hm', hr i h6]; exact e1 ▸ Nat.le_of_lt hlt
            · obtain rfl : i = j := Nat.le_antisymm hij h6
              exact Nat.le_refl _
      · obtain rfl : m = 1 := by omega
        refine descPart hc hp hml (fun i j hij hj => ?_) h
        rcases (by omega : i = j ∨ (i = 0 ∧ j = 1)) with rfl | ⟨rfl, rfl⟩
        · exact Nat.le_refl _
        · exact Nat.le_of_lt hlt
theorem mid1 {l q : Nat} (h : l ≤ q) : l ≤ (l + q) / 2 := by omega
theorem mid2 {l q : Nat} (h : l < q) : (l + q) / 2 < q := by omega
theorem mid3 {l q f : Nat} (h : l < q) (hf : q - l ≤ f + 1) : (l + q) / 2 - l ≤ f := by omega
theorem mid4 {l q f : Nat} (h : l < q) (hf : q - l ≤ f + 1) : q - ((l + q) / 2 + 1) ≤ f := by omega
theorem place (hc : Ans r n s cmp) {Q : Nat → Shared → Prop} {p : Array Nat} {k : Nat} (hp : Pm p n) (hk : k < n) (hu : Up r p k) : ∀ (f l q : Nat), l ≤ q → q ≤ k → q - l ≤ f → (∀ i, i < l → vl r p i ≤ vl r p k) → (∀ i, q ≤ i → i < k → vl r p k < vl r p i) →
    (∀ l', l' ≤ k → (∀ i, i < l' → vl r p i ≤ vl r p k) → (∀ i, l' ≤ i → i < k → vl r p k < vl r p i) → Q l' s) → (kas_place p k f l q).kasWp cmp Q s := by
  intro f
  induction f with
  | zero =>
    intro l q hlq hqk hf h1 h2 h
    obtain rfl : l = q := Nat.le_antisymm hlq (Nat.le_of_sub_eq_zero (Nat.le_zero.mp hf))
    exact h l hqk h1 h2
  | succ f ih =>
    intro l q hlq hqk hf h1 h2 h
    unfold kas_place
    split
    · obtain rfl : l = q := by omega
      exact h l hqk h1 h2
    · rename_i hge
      have hlt' : l < q := by omega
      have hmk := Nat.lt_of_lt_of_le (mid2 hlt') hqk
      refine ask hc hp hk (Nat.lt_trans hmk hk) ?_
      by_cases hlt : vl r p k < vl r p ((l + q) / 2)
      · rw [decide_eq_true hlt, if_pos rfl]
        exact ih l _ (mid1 hlq) (Nat.le_of_lt hmk) (mid3 hlt' hf) h1 (fun i hi1 hi2 => Nat.lt_of_lt_of_le hlt (hu ((l + q) / 2) i hi1 hi2)) h
      · rw [decide_eq_false hlt, if_neg Bool.false_ne_true]
        exact ih _ q (mid2 hlt') hqk (mid4 hlt' hf) (fun i hi => Nat.le_trans (hu i ((l + q) / 2) (Nat.le_of_lt_succ hi) hmk) (Nat.le_of_not_lt hlt)) h2 h
theorem bin (hc : Ans r n s cmp) {Q : Array Nat → Shared → Prop} : ∀ (f : Nat) (p : Array Nat) (k : Nat), Pm p n → k + f ≤ n → Up r p k →
    (∀ p', Pm p' n → Up r p' (k + f) → Q p' s) → (kas_bin f p k).kasWp cmp Q s := by
  intro f
  induction f with
  | zero => intro p k hp hk hu h; exact h p hp hu
  | succ f ih =>
    intro p k hp hk hu h
    unfold kas_bin
    rw [KasT.kasWp_bind]
    refine place hc hp (sA hk) hu k 0 k (Nat.zero_le _) (Nat.le_refl _) (Nat.sub_le _ _) (fun i hi => absurd hi (Nat.not_lt_zero _)) (fun i h1 h2 => absurd h2 (Nat.not_lt_of_le h1)) fun l hl h1 h2 => ?_
    have hv : ∀ j, vl r (bubble p k (k - l)) j = if j = l then vl r p k else if l < j ∧ j ≤ k then vl r p (j - 1) else vl r p j := fun j => by
      have hb := getElem?_bubble (xs := p) (src := k) (by rw [hp.size]; exact sA hk) (k - l) (Nat.sub_le _ _) j
      rw [Nat.sub_sub_self hl] at hb
      unfold vl
      split
      · rename_i hj
        rw [if_pos hj] at hb
        rw [getD_of hb]
      · rename_i hj
        rw [if_neg hj] at hb
        split
        · rename_i hj2
          rw [if_pos hj2] at hb
          rw [getD_of hb]
        · rename_i hj2
          rw [if_neg hj2] at hb
          rw [getD_of hb]
    refine ih _ (k + 1) ((bubble_perm _ _ _).trans hp) (sB hk) (fun i j hij hj => ?_) fun p' a1 a2 => h p' a1 (by rw [show k + (f + 1) = k + 1 + f from (Nat.succ_add k f).symm]; exact a2)
    rw [hv, hv]
    have hjk : j ≤ k := Nat.le_of_lt_succ hj
    have hpk : l < j → j - 1 < k := fun h => Nat.lt_of_lt_of_le (sL (Nat.lt_of_le_of_lt (Nat.zero_le _) h)) hjk
    by_cases hi : i = l
    · rw [if_pos hi]
      by_cases hj2 : j = l
      · rw [if_pos hj2]; exact Nat.le_refl _
      · have hlj : l < j := Nat.lt_of_le_of_ne (hi ▸ hij) (Ne.symm hj2)
        rw [if_neg hj2, if_pos ⟨hlj, hjk⟩]; exact Nat.le_of_lt (h2 _ (Nat.le_pred_of_lt hlj) (hpk hlj))
    · rw [if_neg hi]
      by_cases hi2 : l < i ∧ i ≤ k
      · have hlj := Nat.lt_of_lt_of_le hi2.1 hij
        rw [if_pos hi2, if_neg (Nat.ne_of_gt hlj), if_pos ⟨hlj, hjk⟩]
        exact hu _ _ (Nat.sub_le_sub_right hij 1) (hpk hlj)
      · rw [if_neg hi2]
        have hil : i ≤ l := Nat.le_of_not_lt fun h => hi2 ⟨h, Nat.le_trans hij hjk⟩
        by_cases hj2 : j = l
        · rw [if_pos hj2]; exact h1 i (Nat.lt_of_le_of_ne hil hi)
        · rw [if_neg hj2]
          by_cases hj3 : l < j ∧ j ≤ k
          · rw [if_pos hj3]; exact hu _ _ (Nat.le_pred_of_lt (Nat.lt_of_le_of_lt hil hj3.1)) (hpk hj3.1)
          · rw [if_neg hj3]; exact hu _ _ hij (Nat.lt_of_lt_of_le (Nat.lt_of_le_of_ne (Nat.le_of_not_lt fun h => hj3 ⟨h, hjk⟩) hj2) hl)
/-- the sort's tree sorts -/
theorem sort (hc : Ans r n s cmp) {Q : Array Nat → Shared → Prop} (hn : 1 ≤ n) (h : ∀ p, Pm p n → Up r p n → Q p s) : (kas_sort n).kasWp cmp Q s := by
  unfold kas_sort
  rw [KasT.kasWp_bind]
  refine count hc (Array.Perm.refl _) hn fun p m hp h1 h2 h3 => ?_
  dsimp only
  rw [show max m 1 = m by omega]
  split
  · exact bin hc _ p m hp (by omega) h3 fun p' a1 a2 => h p' a1 (by rw [show n = m + (n - m) by omega]; exact a2)
  · obtain rfl : m = n := by omega
    exact h p hp h3
end Srt
end Mine
end

section
open PySem PySem.W PyProof.Rows PySem.Calls
set_option maxRecDepth 100000
set_option maxHeartbeats 1000000
namespace Mine
section
variable {prog : Program} {w : World} {A : Around} {E : Value → Shared → Prop} {s : Shared} {h₀ : Heap} {L l : Addr} {m : Str → Option Value} {news X : List (Addr × Obj)} {vs : List Value} {nn : Nat} {nms : List (List (Option Lf))} {Q : Value → Shared → Prop}
theorem sort_one {a : Addr} {n : Nat} {P : PySem.Fin → Shared → Prop} (ho : s.heap.get? a = some (seqObj "list" vs.toArray n)) (h1 : vs.length < 2)
    (h : ∀ out : Array Value, out = vs.toArray → P (.done (.ret .none)) { s with heap := sortedHeap s.heap a vs out }) : wpAny (model prog w) A (Builtin.«list.sort» ⟨[.ref a], []⟩) P E s := by
  rw [list_sort_plain]
  have ha : a < s.heap.objs.size := Heap.lt_size ho
  refine wpAny_bind (listItems_at ho rfl ?_)
  refine wpAny_bind (listUpdate_at ho rfl ?_)
  obtain ⟨e1, ho1⟩ : ∃ e1, (s.heap.update a (Obj.mapSeq fun _ => #[])).get? a = some (seqObj "list" #[] e1) := ⟨_, get?_update_seq ho (fun _ => #[])⟩
  refine wpAny_bind (seqEpoch_at ho1 rfl ?_)
  refine wpAny_bind (wpAny_newTuple ?_ (by show vs.length ≤ _; rw [sizeLine_eq]; omega))
  refine wpAny_bind (wpAny_newList ?_)
  refine wpAny_holding ?_
  have ho6 : (((s.heap.update a (Obj.mapSeq fun _ => #[])).push (seqObj "tuple" vs.toArray 0)).push (seqObj "list" #[] 0)).get? a = some (seqObj "list" #[] e1) := by
    rw [Heap.get?_push_ne _ _ _ (by rw [size_push', Heap.size_update]; exact Nat.ne_of_lt (Nat.lt_succ_of_lt ha)), Heap.get?_push_ne _ _ _ (by rw [Heap.size_update]; exact Nat.ne_of_lt ha)]
    exact ho1
  show wpAny (model prog w) A _ P E { s with heap := ((s.heap.update a (Obj.mapSeq fun _ => #[])).push (seqObj "tuple" vs.toArray 0)).push (seqObj "list" #[] 0) }
  dsimp only
  have h2 : vs.toArray.size < 2 := by rw [List.size_toArray]; exact h1
  rw [if_pos h2, if_pos h2]
  refine wpAny_bind (wpAny_pure ?_)
  rw [StateT.run_pure]
  refine wpAny_bind (wpAny_pure ?_)
  dsimp only
  refine wpAny_bind (seqEpoch_at ho6 rfl ?_)
  have e : (arrOf (SortSt.mk' general' (vs.toArray.zip vs.toArray) #[] 7 none)).map (·.2) = vs.toArray := by
    show (vs.toArray.zip vs.toArray).map (·.2) = vs.toArray
    simp only [List.zip_toArray, List.map_toArray]
    congr 1
    exact List.map_snd_zip (Nat.le_refl _)
  refine wpAny_bind (listUpdate_at ho6 rfl ?_ (hsz2 := by refine Nat.le_trans (Nat.le_of_eq (congrArg Array.size e)) ?_; rw [List.size_toArray, sizeLine_eq]; omega))
  simp only [bne_self_eq_false, Bool.false_eq_true, if_false]
  exact wpAny_pure (h _ e)
theorem sorted_one (F : Fr h₀ L s.heap m) (N : News h₀ L s.heap news) (hl : s.heap.IsList l vs.toArray) (h1 : vs.length < 2)
    (h : ∀ D c h', Fr h₀ L h' m → News h₀ L h' ((D, listOf vs.toArray c) :: news) → (∀ q ∈ news, q.1 < D) → Q (.ref D) { s with heap := h' }) : wpAny (model prog w) A (call (.builtin "sorted") [.ref l]) Q E s := by
  refine Calls.call_function_entry kind_sorted plain_sorted entry_sorted (args_sorted1 _) ?_
  unfold Builtin.«sorted»
  refine wpAny_bind (m := checkCount "sorted" 1 1 _) (wpAny_pure ?_)
  refine wpAny_bind (collect_list hl ?_ (by rw [sizeLine_eq]; omega))
  refine wpAny_bind (wpAny_newList ?_ (by rw [sizeLine_eq]; omega))
  have hsz : ((s.heap.push (seqObj "list" #[] 0)).update s.heap.objs.size (Obj.mapSeq (· ++ vs.toArray))).objs.size = s.heap.objs.size + 1 := by
    rw [Heap.size_update, size_push']
  have hoL : (((s.heap.push (seqObj "list" #[] 0)).update s.heap.objs.size (Obj.mapSeq (· ++ vs.toArray))).push (seqObj "list" vs.toArray 0)).get? (s.heap.objs.size + 1) = some (seqObj "list" vs.toArray 0) := by
    rw [← hsz]; exact Heap.get?_push_size _ rfl
  show wpAny _ _ _ _ _ { s with heap := ((s.heap.push (seqObj "list" #[] 0)).update s.heap.objs.size (Obj.mapSeq (· ++ vs.toArray))).push (seqObj "list" vs.toArray 0) }
  rw [hsz]
  refine wpAny_bind (wpAny_holding (wpAny_call_entry slot_list_sort ⟨_, hoL, rfl⟩ entry_list_sort (sort_one hoL h1 fun out he => ⟨_, rfl, ?_⟩) (args_list_sort _)))
  subst he
  obtain ⟨e, he⟩ := sortedAll_at s.heap vs vs.toArray
  exact wpAny_pure ⟨_, rfl, h _ e _ (F.kept fun _ _ => sortedAll_old) (N.kept_cons F (fun _ _ => sortedAll_old) (Nat.le_succ _) he) fun q hq => Nat.lt_succ_of_lt (Heap.lt_size (N q hq).1)⟩
end
end Mine
end

section
open PySem PySem.W PyProof.Rows PySem.Calls
set_option maxRecDepth 100000
set_option maxHeartbeats 1000000
namespace Mine
/-- the texts' order -/
noncomputable def ltT (a b : Str) : Bool := decide (a.cps.toList < b.cps.toList)
theorem ltT_irr (a : Str) : ltT a a = false := strKind.irrefl a.cps.toList
theorem ltT_trans {a b c : Str} (h1 : ltT a b = true) (h2 : ltT b c = true) : ltT a c = true := strKind.trans _ _ _ h1 h2
theorem ltT_neg {a b c : Str} (h : ltT a c = true) : ltT a b = true ∨ ltT b c = true := strKind.negTrans _ b.cps.toList _ h
theorem ltT_total {a b : Str} (h1 : ltT a b = false) (h2 : ltT b a = false) : a = b := str_ext (strKind.total _ _ h1 h2)
noncomputable def rk (tx : List Str) (i : Nat) : Nat := tx.countP fun y => ltT y (tx.getD i (Str.ofString ""))
theorem countP_lt {α : Type} {p q : α → Bool} : ∀ {l : List α}, (∀ x ∈ l, p x = true → q x = true) → (∃ x ∈ l, q x = true ∧ p x = false) → l.countP p < l.countP q
  | [], _, ⟨x, hx, _⟩ => (List.not_mem_nil hx).elim
  | a :: r, h, ⟨x, hx, h1, h2⟩ => by
    have hle : r.countP p ≤ r.countP q := List.countP_mono_left fun y hy => h y (List.mem_cons_of_mem _ hy)
    rw [List.countP_cons, List.countP_cons]
    rcases List.mem_cons.mp hx with rfl | hx
    · rw [h1, h2]; simp; omega
    · have := countP_lt (fun y hy => h y (List.mem_cons_of_mem _ hy)) ⟨x, hx, h1, h2⟩
      have ha := h a List.mem_cons_self
      cases hp : p a <;> cases hq : q a <;> simp [hp, hq] at ha ⊢ <;> omega
theorem rk_lt {tx : List Str} {i j : Nat} (hi : i < tx.length) : decide (rk tx i < rk tx j) = ltT (tx.getD i (Str.ofString "")) (tx.getD j (Str.ofString "")) := by
  cases h : ltT (tx.getD i (Str.ofString "")) (tx.getD j (Str.ofString "")) with
  | true =>
    refine decide_eq_true (countP_lt (fun x _ hx => ltT_trans hx h) ⟨tx.getD i (Str.ofString ""), ?_, h, ltT_irr _⟩)
    rw [List.getD_eq_getElem?_getD, List.getElem?_eq_getElem hi]
    exact List.getElem_mem _
  | false =>
    refine decide_eq_false (Nat.not_lt.mpr (List.countP_mono_left fun x _ hx => ?_))
    rcases ltT_neg (b := tx.getD i (Str.ofString "")) hx with h1 | h1
    · exact h1
    · rw [h] at h1; cases h1
theorem getD_map_txt {nms : List (List (Option Lf))} {i : Nat} (h : i < nms.length) : (nms.map txt).getD i (Str.ofString "") = txt (nms.getD i []) := by
  simp [List.getD_eq_getElem?_getD, h]
section
variable {prog : Program} {w : World} {A : Around} {E : Value → Shared → Prop} {s : Shared} {h₀ : Heap} {L l : Addr} {m : Str → Option Value} {news X : List (Addr × Obj)} {vs : List Value} {nn : Nat} {nms : List (List (Option Lf))} {Q : Value → Shared → Prop}
theorem told_get (hD : DatAll X vs (nms.map toldD)) {i : Nat} (hi : i < nms.length) : DatIn X (vs.getD i .none) (toldD (nms.getD i [])) := by
  obtain ⟨v, hv, hin⟩ := hD.get (k := i) (by rw [List.length_map]; exact hi)
  rw [List.getElem_map] at hin
  rw [List.getD_eq_getElem?_getD, hv, List.getD_eq_getElem?_getD, List.getElem?_eq_getElem hi]
  exact hin
/-- the sort's question of two names -/
theorem ask_told (N : News h₀ L s.heap news) (hX : ∀ p ∈ X, p ∈ news) {x y : Value} {a b : List (Option Lf)} (hx : DatIn X x (toldD a)) (hy : DatIn X y (toldD b)) (hab : txt a = txt b → told a = told b) {C : Bool → Shared → Prop}
    (h : C (ltT (txt a) (txt b)) s) : wpAny (model prog w) A (keyLt' (tuples' true) x y) C E s := by
  obtain ⟨t1, k1, k2, k3, n1, rfl, hm1⟩ := tri_in hx
  obtain ⟨t2, j1, j2, j3, n2, rfl, hm2⟩ := tri_in hy
  refine kat_lt (N _ (hX _ hm1)).1 rfl (N _ (hX _ hm2)).1 rfl ?_
  refine kat_cons (wpAny_eqBool_str ?_)
  by_cases e : txt a = txt b
  · rw [decide_eq_true e]
    have e2 := hab e
    refine kat_yes (kat_cons (wpAny_eqBool_str ?_))
    rw [show decide ((told a).1 = (told b).1) = true from decide_eq_true (by rw [e2])]
    refine kat_yes (kat_cons (wpAny_eqBool_int ?_))
    rw [show ((told a).2 == (told b).2) = true by rw [e2]; exact beq_self_eq_true _]
    refine kat_yes (kat_nil ?_)
    have : decide ((#[Value.str (txt a) k1, Value.str (told a).1 k2, Value.int (told a).2 k3] : Array Value).size < (#[Value.str (txt b) j1, Value.str (told b).1 j2, Value.int (told b).2 j3] : Array Value).size) = false := rfl
    rw [e, ltT_irr] at h
    exact h
  · rw [decide_eq_false e]
    refine kat_no ?_
    exact oneLt_str h
theorem r_sorted (F : Fr h₀ L s.heap m) (N : News h₀ L s.heap news) (hm : (l, listOf vs.toArray nn) ∈ news) (hD : DatAll X vs (nms.map toldD)) (hX : ∀ p ∈ X, p ∈ news) (hinj : ∀ a ∈ nms, ∀ b ∈ nms, txt a = txt b → told a = told b) (h1 : 1 ≤ nms.length) (h64 : nms.length < 64)
    (h : ∀ D vs' (nms' : List (List (Option Lf))) c h', Fr h₀ L h' m → News h₀ L h' ((D, listOf vs'.toArray c) :: news) → DatAll X vs' (nms'.map toldD) → nms'.Perm nms → nms'.Pairwise (fun a b => ltT (txt b) (txt a) = false) → Q (.ref D) { s with heap := h' }) :
    wpAny (model prog w) A (call (.builtin "sorted") [.ref l]) Q E s := by
  have hl : s.heap.IsList l vs.toArray := ⟨_, (N _ hm).1, rfl, _, rfl⟩
  have hlen : vs.length = nms.length := by have := hD.length; rw [List.length_map] at this; exact this
  by_cases h2 : vs.length < 2
  · refine sorted_one F N hl h2 fun D c h' F' N' _ => h D vs nms c h' F' N' hD (List.Perm.refl _) ?_
    match nms, (by omega : nms.length < 2) with
    | [], _ => exact List.Pairwise.nil
    | [a], _ => exact List.pairwise_singleton _ _
  · refine kat_sorted F N hl (by omega) (by omega) fun D e1 h' F' N' hlt => ?_
    have Nn : News h₀ L h' news := fun p hp => N' p (List.mem_cons_of_mem _ hp)
    obtain ⟨fs, hfs, ht⟩ : ∃ fs, KatTups h' vs fs ∧ fs.length = vs.length ∧ ∀ v ∈ fs, ∃ x k, v = .str x k := by
      clear h hinj h2 h1 h64 hlen hl hm
      have : ∀ {vs : List Value} {nms : List (List (Option Lf))}, DatAll X vs (nms.map toldD) → ∃ fs, KatTups h' vs fs ∧ fs.length = vs.length ∧ ∀ v ∈ fs, ∃ x k, v = .str x k := by
        intro vs
        induction vs with
        | nil => intro nms _; exact ⟨[], KatTups.nil, rfl, fun v hv => (List.not_mem_nil hv).elim⟩
        | cons v r ih =>
          intro nms hD
          match nms, hD with
          | a :: q, .cons hv hr =>
            obtain ⟨fs, f1, f2, f3⟩ := ih hr
            obtain ⟨t, k1, k2, k3, n, rfl, hmt⟩ := tri_in hv
            refine ⟨.str (txt a) k1 :: fs, KatTups.cons (Nn _ (hX _ hmt)).1 rfl rfl rfl f1, by rw [List.length_cons, List.length_cons, f2], fun v hv => ?_⟩
            rcases List.mem_cons.mp hv with rfl | hv
            · exact ⟨_, _, rfl⟩
            · exact f3 v hv
      exact this hD
    refine kat_kind (T := .type "str") hfs (by omega) (fun v hv => ?_) (by decide) ?_
    · obtain ⟨x, k, rfl⟩ := ht.2 v hv
      exact Looks.now
    · show (kas_sort vs.length).kasWp _ _ _
      rw [hlen]
      refine Srt.sort (r := rk (nms.map txt)) (n := nms.length) (fun i j C hi hj hC => ?_) h1 fun p hp hup => ?_
      · rw [rk_lt (by rw [List.length_map]; exact hi), getD_map_txt hi, getD_map_txt hj] at hC
        have gi : nms.getD i [] ∈ nms := by rw [List.getD_eq_getElem?_getD, List.getElem?_eq_getElem hi]; exact List.getElem_mem _
        have gj : nms.getD j [] ∈ nms := by rw [List.getD_eq_getElem?_getD, List.getElem?_eq_getElem hj]; exact List.getElem_mem _
        exact ask_told Nn hX (told_get hD hi) (told_get hD hj) (hinj _ gi _ gj) hC
      · have hsz := hp.size
        have hlt2 : ∀ k, k < nms.length → p.getD k 0 < nms.length := fun k hk => hp.lt hk
        have hmemp : ∀ i ∈ p.toList, i < nms.length := fun i hi => by
          have := (hp.mem_iff).mp (Array.mem_def.mpr hi)
          simpa using this
        refine KasFin.intro F' N' (.head fun p hp => Nat.ne_of_lt (hlt p hp)) fun h2 c F2 N2 => ?_
        have key : ∀ q : List Nat, (∀ i ∈ q, i < nms.length) → DatAll X (q.map fun i => vs.getD i .none) ((q.map fun i => nms.getD i []).map toldD) := fun q => by
          induction q with
          | nil => intro _; exact .nil
          | cons i r ih => intro hq; exact .cons (told_get hD (hq i List.mem_cons_self)) (ih fun j hj => hq j (List.mem_cons_of_mem _ hj))
        have hpl : p.toList.Perm (List.range nms.length) := by
          have := Array.perm_iff_toList_perm.mp hp
          simpa using this
        have hrange : (List.range nms.length).map (fun i => nms.getD i []) = nms := by
          apply List.ext_getElem
          · simp
          · intro i h3 h4
            rw [List.getElem_map, List.getElem_range, List.getD_eq_getElem?_getD, List.getElem?_eq_getElem h4]
            rfl
        refine h D _ (p.toList.map fun i => nms.getD i []) c h2 F2 N2 (key p.toList hmemp) ?_ ?_
        · have := hpl.map fun i => nms.getD i []
          rw [hrange] at this
          exact this
        · rw [List.pairwise_map, List.pairwise_iff_getElem]
          intro i j hi hj hij
          have hi' : i < nms.length := by rw [← hsz]; simpa using hi
          have hj' : j < nms.length := by rw [← hsz]; simpa using hj
          have hv := hup i j (Nat.le_of_lt hij) hj'
          unfold Srt.vl at hv
          have e : ∀ k (hk : k < p.toList.length), p.getD k 0 = p.toList[k] := fun k hk => by
            have : k < p.size := by simpa using hk
            simp [Array.getD, this]
          rw [e i hi, e j hj] at hv
          have hb := rk_lt (tx := nms.map txt) (i := p.toList[j]) (j := p.toList[i]) (by rw [List.length_map]; exact hmemp _ (List.getElem_mem _))
          rw [decide_eq_false (Nat.not_lt.mpr hv), getD_map_txt (hmemp _ (List.getElem_mem _)), getD_map_txt (hmemp _ (List.getElem_mem _))] at hb
          exact hb.symm
end
end Mine
end

section
open PySem PySem.W PyProof.Rows
set_option maxHeartbeats 400000
namespace Mine
theorem ltx_inj {s t : Option Lf} (hs : TokFit s) (ht : TokFit t) (h : ltx s = ltx t) : s = t := by
  have eC : PySem.intText? (Str.ofString "C") = none := by decide +kernel
  have eE : PySem.intText? (Str.ofString "") = none := by decide +kernel
  have hCE : Str.ofString "C" ≠ Str.ofString "" := by decide +kernel
  cases s with
  | none => cases t with
    | none => rfl
    | some l => cases l with
      | e => exact absurd h hCE
      | n i =>
        have q := (num_signs ht).2.2
        rw [show Str.ofString (toString i) = Str.ofString "C" from h.symm, eC] at q; cases q
  | some l => cases l with
    | e => cases t with
      | none => exact absurd h.symm hCE
      | some l => cases l with
        | e => rfl
        | n i =>
          have q := (num_signs ht).2.2
          rw [show Str.ofString (toString i) = Str.ofString "" from h.symm, eE] at q; cases q
    | n i =>
      have q := (num_signs hs).2.2
      cases t with
      | none => rw [show Str.ofString (toString i) = Str.ofString "C" from h, eC] at q; cases q
      | some l => cases l with
        | e => rw [show Str.ofString (toString i) = Str.ofString "" from h, eE] at q; cases q
        | n j =>
          have q2 := (num_signs ht).2.2
          rw [show Str.ofString (toString i) = Str.ofString (toString j) from h, q2] at q
          cases q; rfl
theorem map_ltx_inj : ∀ {a b : List (Option Lf)}, (∀ t ∈ a, TokFit t) → (∀ t ∈ b, TokFit t) → a.map ltx = b.map ltx → a = b
  | [], [], _, _, _ => rfl
  | [], _ :: _, _, _, h => by simp at h
  | _ :: _, [], _, _, h => by simp at h
  | x :: r, y :: q, ha, hb, h => by
    simp only [List.map_cons, List.cons.injEq] at h
    rw [ltx_inj (ha x List.mem_cons_self) (hb y List.mem_cons_self) h.1, map_ltx_inj (fun t ht => ha t (List.mem_cons_of_mem _ ht)) (fun t ht => hb t (List.mem_cons_of_mem _ ht)) h.2]
theorem txt_inj {a b : List (Option Lf)} (ha : NameOk a) (hb : NameOk b) (h : txt a = txt b) : a = b := by
  have ea := split_txt ha.fit (by obtain ⟨r, e⟩ := ha.ends; rw [e]; simp)
  have eb := split_txt hb.fit (by obtain ⟨r, e⟩ := hb.ends; rw [e]; simp)
  rw [h, eb] at ea
  exact map_ltx_inj ha.fit hb.fit ea.symm
theorem sorted_eq : ∀ {a b : List (List (Option Lf))}, (∀ x ∈ a, NameOk x) → a.Perm b → a.Pairwise (fun x y => ltT (txt y) (txt x) = false) → b.Pairwise (fun x y => ltT (txt y) (txt x) = false) → a = b
  | [], b, _, p, _, _ => (List.nil_perm.mp p).symm
  | x :: r, b, hok, p, h1, h2 => by
    cases b with
    | nil => exact absurd p.length_eq (by simp)
    | cons y q =>
      have hokb : ∀ z ∈ y :: q, NameOk z := fun z hz => hok z (p.mem_iff.mpr hz)
      have e : x = y := by
        have hx : x ∈ y :: q := p.mem_iff.mp List.mem_cons_self
        have hy : y ∈ x :: r := p.mem_iff.mpr List.mem_cons_self
        rcases List.mem_cons.mp hx with hx | hx
        · exact hx
        · rcases List.mem_cons.mp hy with hy | hy
          · exact hy.symm
          · have a1 := (List.pairwise_cons.mp h1).1 y hy
            have a2 := (List.pairwise_cons.mp h2).1 x hx
            exact txt_inj (hok x List.mem_cons_self) (hokb y List.mem_cons_self) (ltT_total a2 a1)
      subst e
      rw [sorted_eq (fun z hz => hok z (List.mem_cons_of_mem _ hz)) (List.Perm.cons_inv p) (List.pairwise_cons.mp h1).2 (List.pairwise_cons.mp h2).2]
end Mine
end

section
open PySem PySem.W PyProof.Rows
set_option maxHeartbeats 1000000
namespace Mine
noncomputable def Ent (nm : List (Option Lf)) (v : Value) : Prop := ((told nm).1 = Str.ofString "ours" ∧ ∃ u, v = .int (told nm).2 u) ∨ ((told nm).1 = Str.ofString "refused" ∧ v = .none)
/-- the table of lines after i names -/
structure TabI (nms : List (List (Option Lf))) (S : Int) (i : Nat) (kvs : List (Int × Value)) : Prop where
  top : ∃ p ∈ kvs, ∃ t, p.2 = .int S t
  src : ∀ p ∈ kvs, (p.1 = -1 ∧ ∃ t, p.2 = .int S t) ∨ (0 ≤ p.1 ∧ p.1 < (i : Int) ∧ ∃ nm ∈ nms.take i, Ent nm p.2)
  all : ∀ nm ∈ nms.take i, (told nm).1 ≠ Str.ofString "no number" → ∃ p ∈ kvs, Ent nm p.2
  len : kvs.length ≤ i + 1
theorem TabI.start (nms : List (List (Option Lf))) (S : Int) (t : Tok) : TabI nms S 0 [(-1, .int S t)] :=
  ⟨⟨_, List.mem_cons_self, t, rfl⟩, fun p hp => .inl (by rw [List.mem_singleton.mp hp]; exact ⟨rfl, t, rfl⟩), fun nm h => by simp at h, by simp⟩
theorem take_mem {α : Type} {l : List α} {i : Nat} {x : α} (h : l[i]? = some x) {y : α} : y ∈ l.take (i + 1) ↔ y ∈ l.take i ∨ y = x := by
  rw [List.take_add_one, h, List.mem_append]
  simp
theorem TabI.skip {nms : List (List (Option Lf))} {S : Int} {i : Nat} {kvs : List (Int × Value)} (T : TabI nms S i kvs) {nm : List (Option Lf)} (h : nms[i]? = some nm) (hw : (told nm).1 = Str.ofString "no number") : TabI nms S (i + 1) kvs := by
  refine ⟨T.top, fun p hp => ?_, fun a ha hn => ?_, Nat.le_succ_of_le T.len⟩
  · rcases T.src p hp with q | ⟨q1, q2, a, q3, q4⟩
    · exact .inl q
    · exact .inr ⟨q1, by omega, a, (take_mem h).mpr (.inl q3), q4⟩
  · rcases (take_mem h).mp ha with q | rfl
    · exact T.all a q hn
    · exact absurd hw hn
theorem stored_new {kvs : List (Int × Value)} {i : Nat} {v : Value} {nms : List (List (Option Lf))} {S : Int} (T : TabI nms S i kvs) : stored kvs (i : Int) v = kvs ++ [((i : Int), v)] := by
  unfold stored
  rw [if_neg]
  intro h
  obtain ⟨p, hp, e⟩ := List.any_eq_true.mp h
  have e : p.1 = (i : Int) := by simpa using e
  rcases T.src p hp with ⟨q, _⟩ | ⟨q1, q2, _⟩ <;> omega
theorem TabI.add {nms : List (List (Option Lf))} {S : Int} {i : Nat} {kvs : List (Int × Value)} (T : TabI nms S i kvs) {nm : List (Option Lf)} (h : nms[i]? = some nm) {v : Value} (he : Ent nm v) : TabI nms S (i + 1) (stored kvs (i : Int) v) := by
  rw [stored_new T]
  refine ⟨?_, fun p hp => ?_, fun a ha hn => ?_, by rw [List.length_append, List.length_singleton]; have := T.len; omega⟩
  · obtain ⟨p, hp, q⟩ := T.top
    exact ⟨p, List.mem_append_left _ hp, q⟩
  · rcases List.mem_append.mp hp with hp | hp
    · rcases T.src p hp with q | ⟨q1, q2, a, q3, q4⟩
      · exact .inl q
      · exact .inr ⟨q1, by omega, a, (take_mem h).mpr (.inl q3), q4⟩
    · rw [List.mem_singleton.mp hp]
      exact .inr ⟨Int.natCast_nonneg i, by show (i : Int) < _; omega, nm, (take_mem h).mpr (.inr rfl), he⟩
  · rcases (take_mem h).mp ha with q | rfl
    · obtain ⟨p, hp, q⟩ := T.all a q hn
      exact ⟨p, List.mem_append_left _ hp, q⟩
    · exact ⟨_, List.mem_append_right _ List.mem_cons_self, he⟩
theorem TabI.plain {nms : List (List (Option Lf))} {S : Int} {i : Nat} {kvs : List (Int × Value)} (T : TabI nms S i kvs) : ∀ p ∈ kvs, Plain p.2 := fun p hp => by
  rcases T.src p hp with ⟨_, t, q⟩ | ⟨_, _, a, _, ⟨_, u, q⟩ | ⟨_, q⟩⟩ <;> rw [q] <;> trivial
/-- the sum of all ports that are told -/
noncomputable def sumT (nms : List (List (Option Lf))) : Int := (nms.map fun nm => (told nm).2).sum
theorem sumT_ports (nms : List (List (Option Lf))) : sumT nms = (portsG nms).sum := by
  unfold sumT portsG
  induction nms with
  | nil => rfl
  | cons a r ih =>
    rw [List.map_cons, List.sum_cons, List.filter_cons, ih]
    cases hb : oursB a with
    | true => rw [if_pos rfl, List.map_cons, List.sum_cons]
    | false =>
      rw [if_neg Bool.false_ne_true]
      have h0 : (told a).2 = 0 := by
        rcases told_word a with h | ⟨_, h⟩ | ⟨_, h⟩
        · unfold oursB at hb
          rw [h] at hb
          by_cases q : (told a).2 = 0
          · exact q
          · rw [decide_eq_true q] at hb; simp at hb
        · exact h
        · exact h
      rw [h0, Int.zero_add]
theorem TabI.fit {nms : List (List (Option Lf))} {i : Nat} {kvs : List (Int × Value)} (T : TabI nms (sumT nms) i kvs) (hok : ∀ nm ∈ nms, NameOk nm) (h42 : nms.length ≤ 42) : ∀ p ∈ kvs, ∀ x u, p.2 = .int x u → -1000 ≤ x ∧ x ≤ 10000000 := fun p hp x u e => by
  rcases T.src p hp with ⟨_, t, q⟩ | ⟨_, _, a, ha, ⟨_, u', q⟩ | ⟨_, q⟩⟩
  · rw [e] at q; cases q
    have h1 := sum_le fun x hx => (ports_mem hok x hx).2
    have h2 := ports_len nms
    rw [sumT_ports]
    omega
  · rw [e] at q; cases q
    have := told_port (hok a (List.mem_of_mem_take ha))
    omega
  · rw [e] at q; cases q
theorem num_len {G : Int} (h0 : 0 ≤ G) {k : Nat} (hk : 0 < k) : (Str.ofString (toString G)).length ≤ k ↔ G < 10 ^ k := by
  obtain ⟨n, rfl⟩ := Int.eq_ofNat_of_zero_le h0
  have e : (Str.ofString (toString (n : Int))).length = (Nat.toDigits 10 n).length := by
    rw [len_list, PySem.W.KIN.signs_num, List.length_map]
  rw [e, Nat.length_toDigits_le_iff (by decide) hk]
  constructor
  · intro h; exact_mod_cast h
  · intro h; exact_mod_cast h
end Mine
end

section
open PySem PySem.W PyProof.Rows
set_option maxHeartbeats 1000000
namespace Mine
theorem perm_sum {a b : List Int} (p : a.Perm b) : a.sum = b.sum := by
  induction p with
  | nil => rfl
  | cons x _ ih => rw [List.sum_cons, List.sum_cons, ih]
  | swap x y l => rw [List.sum_cons, List.sum_cons, List.sum_cons, List.sum_cons]; omega
  | trans _ _ h1 h2 => rw [h1, h2]
theorem neg_sum {l : List Int} {c : Int} (hc : c ≤ 0) (h : ∀ x ∈ l, x ≤ c) (hne : l ≠ []) : l.sum ≤ c := by
  have key : ∀ l : List Int, (∀ x ∈ l, x ≤ c) → l.sum ≤ 0 := fun l => by
    induction l with
    | nil => intro _; simp
    | cons a r ih =>
      intro h
      have := ih fun x hx => h x (List.mem_cons_of_mem _ hx)
      have := h a List.mem_cons_self
      rw [List.sum_cons]; omega
  cases l with
  | nil => exact absurd rfl hne
  | cons a r =>
    have h1 := key r fun x hx => h x (List.mem_cons_of_mem _ hx)
    have h2 := h a List.mem_cons_self
    rw [List.sum_cons]; omega
theorem num_width {G : Int} (hG : G = -2 ∨ 0 ≤ G) {wd : Nat} (h3 : 3 ≤ wd) (hlt : G < 10 ^ wd) (hge : ∀ v : Nat, 3 ≤ v → v < wd → (10 : Int) ^ v ≤ G) :
    (if ((Str.ofString (toString G)).length : Int) > 3 then ((Str.ofString (toString G)).length : Int) else 3) = (wd : Int) := by
  rcases hG with rfl | h0
  · have hw : wd = 3 := by
      rcases Nat.lt_or_ge 3 wd with h | h
      · have := hge 3 (Nat.le_refl _) h
        have e : (10 : Int) ^ 3 = 1000 := by decide
        omega
      · omega
    have e : (Str.ofString (toString (-2 : Int))).length = 2 := by decide +kernel
    rw [e, hw]; rfl
  · have h1 := (num_len h0 (k := wd) (by omega)).mpr hlt
    rcases Nat.lt_or_ge 3 wd with h | h
    · have h2 : ¬ (Str.ofString (toString G)).length ≤ wd - 1 := fun q => by
        have := (num_len h0 (k := wd - 1) (by omega)).mp q
        have := hge (wd - 1) (by omega) (by omega)
        omega
      have e : (Str.ofString (toString G)).length = wd := by omega
      rw [e, if_pos (by omega)]
    · rw [if_neg (by omega)]; omega
theorem ports_of {nms : List (List (Option Lf))} {a : List (Option Lf)} (ha : a ∈ nms) (hw : (told a).1 = Str.ofString "ours") (h0 : (told a).2 ≠ 0) : (told a).2 ∈ portsG nms :=
  List.mem_map.mpr ⟨a, List.mem_filter.mpr ⟨ha, by unfold oursB; rw [hw, decide_eq_true h0]; exact Bool.and_eq_true_iff.mpr ⟨beq_self_eq_true _, rfl⟩⟩, rfl⟩
theorem ports_from {nms : List (List (Option Lf))} {x : Int} (hx : x ∈ portsG nms) : ∃ a ∈ nms, (told a).1 = Str.ofString "ours" ∧ x = (told a).2 := by
  obtain ⟨a, ha, rfl⟩ := List.mem_map.mp hx
  obtain ⟨h1, h2⟩ := List.mem_filter.mp ha
  unfold oursB at h2
  exact ⟨a, h1, eq_of_beq (Bool.and_eq_true_iff.mp h2).1, rfl⟩
theorem widths {nms nmsD : List (List (Option Lf))} {kvs : List (Int × Value)} {r1 r2 : Int} (hok : ∀ nm ∈ nms, NameOk nm) (hp : nmsD.Perm nms) (T : TabI nms (sumT nms) nms.length kvs) (h1 : LinW kvs r1) (h2 : WidW nmsD r2) : r1 = r2 := by
  have hports : (portsG nmsD).Perm (portsG nms) := (hp.filter _).map _
  have hmem : ∀ x, x ∈ portsG nmsD ↔ x ∈ portsG nms := fun x => hports.mem_iff
  have hsum := perm_sum hports
  have hne : ∀ {l : List Int}, l.Perm (portsG nms) → (l = [] ↔ portsG nms = []) := fun p => ⟨fun e => by rw [e] at p; exact List.nil_perm.mp p, fun e => by rw [e] at p; exact List.perm_nil.mp p⟩
  have hany : nmsD.any refB = nms.any refB := by
    rw [Bool.eq_iff_iff, List.any_eq_true, List.any_eq_true]
    exact ⟨fun ⟨x, hx, q⟩ => ⟨x, hp.mem_iff.mp hx, q⟩, fun ⟨x, hx, q⟩ => ⟨x, hp.mem_iff.mpr hx, q⟩⟩
  have hsrc := T.src
  have hall := T.all
  rw [List.take_length] at hsrc hall
  rw [sumT_ports] at T hsrc
  have fa : ∀ p ∈ kvs, ∀ x u, p.2 = .int x u → x = (portsG nms).sum ∨ x ∈ portsG nms ∨ x = 0 := fun p hp x u e => by
    rcases hsrc p hp with ⟨_, t, q⟩ | ⟨_, _, a, ha, ⟨hw, u', q⟩ | ⟨_, q⟩⟩
    · rw [e] at q; cases q; exact .inl rfl
    · rw [e] at q; cases q
      by_cases h0 : (told a).2 = 0
      · exact .inr (.inr h0)
      · exact .inr (.inl (ports_of ha hw h0))
    · rw [e] at q; cases q
  have fc : ∀ x ∈ portsG nms, ∃ p ∈ kvs, ∃ u, p.2 = .int x u := fun x hx => by
    obtain ⟨a, ha, hw, rfl⟩ := ports_from hx
    obtain ⟨p, hp, q⟩ := hall a ha (by rw [hw]; decide +kernel)
    rcases q with ⟨_, u, q⟩ | ⟨q, _⟩
    · exact ⟨p, hp, u, q⟩
    · rw [hw] at q; exact absurd q (by decide +kernel)
  have hnone : (kvs.any fun p => isNoneV p.2) = nms.any refB := by
    rw [Bool.eq_iff_iff, List.any_eq_true, List.any_eq_true]
    constructor
    · rintro ⟨p, hp, q⟩
      rcases hsrc p hp with ⟨_, t, e⟩ | ⟨_, _, a, ha, ⟨_, u', e⟩ | ⟨hw, e⟩⟩
      · rw [e] at q; cases q
      · rw [e] at q; cases q
      · exact ⟨a, ha, by unfold refB; rw [hw]; exact beq_self_eq_true _⟩
    · rintro ⟨a, ha, q⟩
      have hw : (told a).1 = Str.ofString "refused" := eq_of_beq q
      obtain ⟨p, hp, ⟨e, _⟩ | ⟨_, e⟩⟩ := hall a ha (by rw [hw]; decide +kernel)
      · rw [hw] at e; exact absurd e (by decide +kernel)
      · exact ⟨p, hp, by rw [e]; rfl⟩
  rcases h1 with ⟨hno, rfl⟩ | ⟨M1, ⟨p1, hp1, u1, e1, hM10⟩, hmax, rfl⟩
  · rcases h2 with ⟨_, rfl⟩ | ⟨M, hM, _⟩
    · rfl
    · obtain ⟨p, hp, u, e⟩ := fc M ((hmem M).mp hM)
      have := hno p hp
      rw [e] at this
      simp only [keepV, decide_eq_false_iff_not] at this
      exact absurd (ports_mem hok M ((hmem M).mp hM)).1 this
  · have hin := fa p1 hp1 M1 u1 e1
    rcases h2 with ⟨he, _⟩ | ⟨M, hM, hMx, hr⟩
    · have hP := (hne hports).mp he
      rw [hP] at hin
      rcases hin with h | h | h
      · exact absurd h (by simpa using hM10)
      · exact absurd h List.not_mem_nil
      · exact absurd h hM10
    · have hM := (hmem M).mp hM
      have hMx : ∀ x ∈ portsG nms, x ≤ M := fun x hx => hMx x ((hmem x).mpr hx)
      have hMb := ports_mem hok M hM
      have hPne : portsG nms ≠ [] := fun e => by rw [e] at hM; exact List.not_mem_nil hM
      have hMM1 : M ≤ M1 := by
        obtain ⟨p, hp, u, e⟩ := fc M hM
        exact hmax p hp M u e hMb.1
      have hSM1 : (portsG nms).sum ≠ 0 → (portsG nms).sum ≤ M1 := fun h0 => by
        obtain ⟨p, hp, t, e⟩ := T.top
        exact hmax p hp _ t e h0
      have hneg : M < 0 → (portsG nms).sum ≤ M := fun h => neg_sum (by omega) hMx hPne
      rw [hsum] at hr
      rcases hr with ⟨rfl, rfl⟩ | ⟨hM1, wd, hw3, hlt, hge, rfl⟩
      · have : M1 = -1 := by
          rcases hin with h | h | h
          · have := hneg (by decide); omega
          · have := hMx _ h; omega
          · exact absurd h hM10
        rw [this]; rfl
      · obtain ⟨G, hG⟩ : ∃ G, G = (if (portsG nms).sum > M then (portsG nms).sum else M) := ⟨_, rfl⟩
        rw [← hG] at hlt hge
        have hGM : M1 = G := by
          rw [hG]
          rcases hin with h | h | h
          · split <;> omega
          · have := hMx _ h
            rw [if_neg]
            · omega
            · intro hgt
              by_cases h0 : (portsG nms).sum = 0
              · have := hneg (by omega); omega
              · have := hSM1 h0; omega
          · exact absurd h hM10
        have hG2 : G = -2 ∨ 0 ≤ G := by
          rw [hG]
          rcases Int.lt_or_le M 0 with h | h
          · have := hneg h
            rw [if_neg (by omega)]; omega
          · right; split <;> omega
        have hw := num_width hG2 hw3 hlt hge
        rw [hGM]
        unfold linR
        rw [if_neg (by omega), hw, hnone, hany]
        by_cases hb : nms.any refB = true
        · by_cases h : wd = 3
          · rw [if_pos ⟨by omega, hb⟩, if_pos ⟨h, hb⟩]
          · rw [if_neg (by omega), if_neg (by omega)]
        · rw [if_neg (fun q => hb q.2), if_neg (fun q => hb q.2)]
end Mine
end

section
open PySem PySem.W PyProof.Rows PySem.Calls
set_option maxRecDepth 100000
set_option maxHeartbeats 1000000
namespace Mine
noncomputable def dataT (nm : List (Option Lf)) : PyData := .tuple [.str (txt nm), .str (told nm).1, .int (told nm).2]
theorem told_reads {h₀ h : Heap} {L : Addr} {news X : List (Addr × Obj)} (N : News h₀ L h news) (hX : ∀ p ∈ X, p ∈ news) : ∀ {vs : List Value} {nms : List (List (Option Lf))}, DatAll X vs (nms.map toldD) → ReadsAll h vs (nms.map dataT) []
  | [], [], _ => .nil
  | v :: r, a :: q, .cons hv hr => by
    obtain ⟨t, k1, k2, k3, n, rfl, hm⟩ := tri_in hv
    have e : Reads h (.ref t) (dataT a) [] := .tuple (N _ (hX _ hm)).1 rfl rfl (.cons (.str _ _) (.cons (.str _ _) (.cons (.int _ _) .nil)))
    exact .cons e (told_reads N hX hr)
theorem word_ok (nm : List (Option Lf)) : PyData.canLay0 (.str (told nm).1) = true := by
  rcases told_word nm with h | ⟨h, _⟩ | ⟨h, _⟩ <;> rw [h] <;> decide +kernel
theorem data_ok : ∀ {nms : List (List (Option Lf))}, (∀ nm ∈ nms, NameOk nm) → PyData.canLay0 (.list (nms.map dataT)) = true
  | [], _ => rfl
  | a :: r, h => by
    have h1 := data_ok (nms := r) fun x hx => h x (List.mem_cons_of_mem _ hx)
    have h2 := txt_ok (h a List.mem_cons_self).fit
    have h3 := word_ok a
    show (PyData.canLay0 (dataT a) && PyData.canLayAll0 (r.map dataT)) = true
    rw [Bool.and_eq_true]
    refine ⟨?_, h1⟩
    show (PyData.canLay0 (.str (txt a)) && (PyData.canLay0 (.str (told a).1) && (PyData.canLay0 (.int (told a).2) && true))) = true
    rw [h2, h3]; rfl
theorem data_depth (nms : List (List (Option Lf))) : PyData.depth (.list (nms.map dataT)) ≤ 4 := by
  have key : ∀ nms : List (List (Option Lf)), PyData.depthAll (nms.map dataT) ≤ 3 := fun nms => by
    induction nms with
    | nil => exact Nat.zero_le _
    | cons a r ih =>
      show max (PyData.depth (dataT a)) (PyData.depthAll (r.map dataT)) ≤ 3
      have : PyData.depth (dataT a) ≤ 3 := by simp [dataT, PyData.depth, PyData.depthAll]
      omega
  show PyData.depthAll (nms.map dataT) + 1 ≤ 4 
  have := key nms
  omega
section
variable {prog : Program} {w : World} {A : Around} {E : Value → Shared → Prop} {s : Shared} {h₀ : Heap} {L a b : Addr} {m : Str → Option Value} {news X Y : List (Addr × Obj)} {vs us : List Value} {n n2 : Nat} {Q : Value → Shared → Prop} {nms : List (List (Option Lf))}
theorem r_eqtold (N : News h₀ L s.heap news) (h1 : (a, listOf vs.toArray n) ∈ news) (h2 : (b, listOf us.toArray n2) ∈ news) (hd1 : DatAll X vs (nms.map toldD)) (hd2 : DatAll Y us (nms.map toldD)) (hX : ∀ p ∈ X, p ∈ news) (hY : ∀ p ∈ Y, p ∈ news)
    (hok : ∀ nm ∈ nms, NameOk nm) (hu : A.units + 8 < cLine) (h : Q (.bool true) s) : wpAny (model prog w) A (compareOp .Eq (.ref a) (.ref b)) Q E s := by
  have hc := data_ok hok
  refine SeqAt.compareEq_reads (da := .list (nms.map dataT)) (db := .list (nms.map dataT)) (.list (N _ h1).1 rfl rfl (by simpa using told_reads N hX hd1)) (.list (N _ h2).1 rfl rfl (by simpa using told_reads N hY hd2)) hc hc ?_ ?_
  · have := data_depth nms
    have := Nat.min_le_left (PyData.depth (.list (nms.map dataT))) (PyData.depth (.list (nms.map dataT)))
    omega
  · rw [SeqAt.eqv_refl _ hc]; exact h
end
theorem due_one {α : Type} (a b : α) (ls : List (Option α)) : 1 ≤ (dueG a b ls).length := by
  have h1 := (states_ok a ls ls.length (Nat.le_refl _)).2
  rw [states_full] at h1
  have h2 := states_pos a ls
  unfold dueG
  rw [List.length_flatMap]
  cases hs : statesG a ls with
  | nil => rw [hs] at h1; have : 0 < 2 ^ ls.length := Nat.two_pow_pos _; simp at h1; omega
  | cons x r =>
    have := h2 x (by rw [hs]; exact List.mem_cons_self)
    rw [List.map_cons, List.sum_cons, List.length_replicate]
    omega
end Mine
end

section
open PySem PySem.W PyProof.Rows PySem.Calls
set_option maxRecDepth 100000
set_option maxHeartbeats 800000
namespace Mine
section
variable {prog : Program} {w : World} {A : Around} {E : Value → Shared → Prop} {s : Shared} {env : Env} {h₀ : Heap} {body : List Stmt} {Q : Flow → Shared → Prop}
theorem range_G {σ : Type} {Led : σ → List (Addr × Obj)} {ps : σ → List (Str × Value)} {adr : List Addr} {x : Str} {px : Pos} {r : Addr} {b : Int} {t₁ t₂ t₃ : Tok} {k : Nat} {cst : List (Addr × Obj)} {st : List Str} {m₀ : Str → Option Value} {c₀ : σ} (Inv : Nat → σ → List (Addr × Obj) → Prop) (hh : A.handled = none)
    (hadr : ∀ c, (Led c).map (·.1) = adr) (hr : IsRange s.heap r 0 b 1 t₁ t₂ t₃) (hsm : Builtin.Range.small 0 b 1 = true) (hn : Builtin.Range.rangeSize 0 b 1 = ((k : Nat) : Int))
    (F : Fr h₀ env.locals s.heap m₀) (N : News h₀ env.locals s.heap (Led c₀ ++ cst)) (hoff : ∀ p ∈ cst, p.1 ∉ adr) (hx : ∀ p ∈ ps c₀, m₀ p.1 = some p.2) (h0 : Inv 0 c₀ [])
    (turn : ∀ i t c tl I oI u h tk, i < k → Inv i c tl → (∀ p ∈ (cst ++ tl) ++ [(I, oI)], p.1 ∉ adr) → Bl cst tl →
      Fr h₀ env.locals h (locG (ps c) st u m₀) → News h₀ env.locals h (Led c ++ ((cst ++ tl) ++ [(I, oI)])) →
      wpAny (model prog w) A (assign (.Name x px) env (.int (i : Int) t)) (fun _ s₃ => wpAny (model prog w) A (execs body env) (BodyG Led ps h₀ env.locals m₀ st ((cst ++ tl) ++ [(I, oI)]) (fun c' add => Inv (i + 1) c' (tl ++ add)) { s with heap := h, toks := tk }) E s₃) E { s with heap := h, toks := tk })
    (done : ∀ c tl u h tk, Inv k c tl → (∀ p ∈ cst ++ tl, p.1 ∉ adr) → Bl cst tl → Fr h₀ env.locals h (locG (ps c) st u m₀) → News h₀ env.locals h (Led c ++ (cst ++ tl)) → Q .next { s with heap := h, toks := tk }) :
    wpAny (model prog w) A (pyIter (.ref r)) (fun it s₂ => TurnsAt prog w A h₀ env (.Name x px) body Q E it s₂) E s := by
  have F : Fr h₀ env.locals s.heap (locG (ps c₀) st m₀ m₀) := by rw [locG_eq hx fun _ _ _ => rfl]; exact F
  refine iter_rangeTurns hh hr hsm hn F N fun I hI => ?_
  have hIa : I ∉ adr := fun h => by
    rw [← hadr c₀] at h
    obtain ⟨p, hp, e⟩ := List.mem_map.mp h
    have := hI p (List.mem_append_left _ hp)
    rw [e] at this; exact Nat.lt_irrefl _ this
  have hlen : ((List.range k).map fun (i : Nat) => Itm.tok fun t => .int (0 + (i : Int)) t).length = k := by simp
  have g := items_G (prog := prog) (w := w) (A := A) (E := E) (s := s) (env := env) (h₀ := h₀) (target := .Name x px) (body := body) (Q := Q) (I := I) (ic := "range_iterator") (keep := []) (cst := cst) (st := st) (m₀ := m₀) (xs := (List.range k).map fun (i : Nat) => Itm.tok fun t => .int (0 + (i : Int)) t) Inv hadr
    (fun p hp => nomatch hp) hIa (fun i it v c tl oI u h tk ha hv => by
      rw [List.getElem?_map] at ha
      cases hx : (List.range k)[i]? with
      | none => rw [hx] at ha; cases ha
      | some j =>
        rw [hx] at ha
        cases ha
        obtain ⟨t, e⟩ := hv
        have e : v = .int (0 + (j : Int)) t := e
        rw [Int.zero_add] at e
        subst e
        obtain ⟨h1, h2⟩ := List.getElem?_eq_some_iff.mp hx
        rw [List.getElem_range] at h2
        subst h2
        exact turn i t c tl I oI u h tk (by simpa using h1)) (fun c tl u h tk hv => done c tl u h tk (by rw [hlen] at hv; exact hv)) k 0 (by rw [hlen]; omega) c₀ [] m₀ h0
    (fun p hp => by
      rw [List.append_nil] at hp
      exact ⟨hoff p hp, Nat.ne_of_lt (hI p (List.mem_append_right _ hp))⟩) Bl.nil
  rw [List.append_nil] at g
  exact g
end
end Mine
end

section
open PySem PySem.W PyProof.Rows PySem.Calls
set_option maxRecDepth 100000
set_option maxHeartbeats 8000000
namespace Mine
theorem codeC_mono {M : Model} {A : Around} {s : Shared} {c : Code} {R R' : Result → Shared → Prop} (h : codeC M A c R s) (hR : ∀ r s, R r s → R' r s) : codeC M A c R' s := fun Γ p hc hΓ hk => wpCode_mono hR (h Γ p hc hΓ hk)
theorem enter_callC {M : Model} {A : Around} {s : Shared} {f : Value} {pos : List Value} {kw : List (Str × Value)} {c : ClaimW} {cl : Str → Option Addr} {mean : ExcName → Option Value} {args : List WData} {s₁ : Shared}
    (h : codeC M A (.call f ⟨pos, kw⟩) (GoodWG c cl mean args s₁) s) : wpC M A (PySem.call f pos kw) (fun v s' => GoodWG c cl mean args s₁ (.ok (.ret v)) s') (fun e s' => GoodWG c cl mean args s₁ (.error e) s') s :=
  wpC_call (codeC_mono h fun res s' g => by rcases g.1 with ⟨v, _, _, rfl, _⟩ | ⟨e, _, _, rfl, _⟩ <;> exact g)
theorem call_fullC {prog : Program} {w : World} {A : Around} {R : Result → Shared → Prop} {s : Shared} {name : Str} {params : Arguments} {body : List Stmt} {scope : Scope}
    {dV kV pm cd doc : Value} {a : Addr} {o : Obj} {args : Args} {binds : List (Str × Value)}
    (hroom : A.depth < recursionLimit) (ho : s.heap.get? a = some o) (hdata : o.data = .func { docDef name params body scope pm cd doc with defaults := dV, kwdefaults := kV }) (hlim : s.heap.NoLimit) (hcd : s.heap.CodeRec cd name)
    (hbind : BindsTo s { docDef name params body scope pm cd doc with defaults := dV, kwdefaults := kV } args binds)
    (hloc : ∀ x ∈ binds, scope.names.lookup x.1 = some .local)
    (h : ∀ h₁, Fr s.heap s.heap.objs.size h₁ (fun x => binds.reverse.lookup x) →
      wpC (model prog w) (A.deeper (envOf name scope s.heap.objs.size a cd)) (execs body (envOf name scope s.heap.objs.size a cd))
        (fun f s' => R (.ok (.ret (match f with | .ret v => v | _ => .none))) s') NoE { s with heap := h₁, toks := s.toks + binds.length })
    (hco : scope.isCoroutine = false := by rfl) (hgen : scope.isGenerator = false := by rfl) (hk : scope.kind = .function := by rfl)
    (hcell : ∀ x ∈ scope.names, x.2 ≠ .cell := by decide) :
    codeC (model prog w) A (.call (.ref a) args) R s :=
  codeC_call_def hroom ho hdata hlim hcd rfl hbind hcell hloc (fun h₁ hns hkeep => wpC_mono (h h₁ ⟨hns, hkeep, Nat.le_refl _⟩) (fun _ _ q => q) fun _ _ f => f.elim) hco hgen hk
local macro_rules | `(tactic| walk_at $k:str) => (if (["eval Dict", "KdnMade", "eval ListComp", "call builtin:sum", "call builtin:len", "call builtin:sorted", "compareOp Eq ref ref", "setItem ref int", "subscriptTail Name Name ref int", "subscriptTail Subscript Constant ref int", "call ref"] : List String).contains k.getString then `(tactic| (refine Hold.out ?_)) else Lean.Macro.throwUnsupported)
local macro_rules | `(tactic| walk_at "exec For Name Call cons nil") => `(tactic| (k_here; (with_reducible rename Fr _ _ _ _ => lF'); (with_unfolding_all refine' For_turns lF' ?_)))
local macro_rules | `(tactic| walk_at "pyIter ref") => `(tactic| ((with_reducible show wpAny _ _ (pyIter _) (fun it s₂ => TurnsAt _ _ _ _ _ _ _ _ _ it s₂) _ _); refine Hold.out ?_))
theorem r_tri {w : World} {A : Around} {E : Value → Shared → Prop} {s : Shared} {h₀ : Heap} {L l : Addr} {X news : List (Addr × Obj)} {value slice : PySem.Expr} {ys : List Value} {n i : Nat} {u : Tok} {nms : List (List (Option Lf))} {nm : List (Option Lf)} {Q : Value → Shared → Prop}
    (N : News h₀ L s.heap news) (hm : (l, listOf ys.toArray n) ∈ news) (hD : DatAll X ys (nms.map toldD)) (hnm : nms[i]? = some nm) (h42 : nms.length ≤ 42)
    (h : ∀ ta k1 k2 k3 nt, (ta, tupOf [.str (txt nm) k1, .str (told nm).1 k2, .int (told nm).2 k3] nt) ∈ X → Q (.ref ta) s)
    (hs : subscripted slice false (.ref l) (.int (i : Int) u) = operate [.ref l, .int (i : Int) u] (getItem (.ref l) (.int (i : Int) u))) :
    wpAny (model Challenge.rw_zd0005_01.prog w) A (subscriptTail value slice (.ref l) (.int (i : Int) u)) Q E s := by
  have hi : i < nms.length := (List.getElem?_eq_some_iff.mp hnm).1
  refine kd_item N hm hD (by omega) (by rw [List.length_map]; omega) (by have := hD.length; rw [List.length_map] at this; omega) (fun v' dd' hdd' hmm' hin' => ?_) hs
  rw [Int.toNat_natCast, List.getElem?_map, hnm] at hdd'
  cases hdd'
  obtain ⟨ta, k1, k2, k3, nt, rfl, hmt⟩ := tri_in hin'
  exact h ta k1 k2 k3 nt hmt
theorem law_holds : PySem.Challenge.rw_zd0005_01.Holds := by
  refine hd ?_
  k_fill
  w_top off
  intro w s₀ s₁ mg mb G Y fa o pm cd doc dV kV ho hd' hcd hD hmg hg args vals as hpre hlay hrd hwl hlo
  have KX := kIn_of Y
  have X := (Ground.X G).1
  have V := (Ground.X G).2
  refine Ground.open G ?_
  intro T B D TE TW
  try (refine guard_noD D (by decide +kernel) ?_; clear D)
  obtain ⟨_, _, M⟩ := bmod_of_top T
  have TA := at_of_top T
  try (obtain ⟨_, _, he, B0⟩ := based_of_top T rfl hmg ho hd'; have he' : cd = _ := he; subst he'; clear he)
  clear hmg
  wrow_args hpre hlay hrd hwl hlo
  refine enter_callC ?_
  w_top on
  refine codeC_mono ?_ (fun _ _ g => GoodW.toG g)
  have K0 := below_caller (Top.heap T)
  have he := Dflts.none hD rfl; subst he
  refine call_fullC (by decide) ho hd' (Top.nolimit T) hcd (BindsTo.of_eq rfl) (locs rfl) fun h₁ F => ?_
  w_binds F
  have N0 := (News.nil : News _ _ _ []).at F
  clear hd' TA
  k_drop
  clear hcd
  rename_i ns _ _ _ _ _ _ _ sc vs _ hL _ _ _ hI _ hmost _
  refine wpC_execs_cons (wpC_of_any ?_)
  (try k_fold)
  k_steps
  refine Hold.mk ?_
  with_reducible rename Fr _ _ _ _ => F1
  with_reducible rename News _ _ _ _ => N1
  refine row_says hI (by omega) _ _ _ _ _ _ _ _ _ _ _ _ _ _ _ K0 F1 KX N1 T hL rfl (by decide) (by decide) ?_
  intro D vals n h' tk' F2 N2 hlt hdat
  k_steps
  refine wpC_execs_cons ?_
  obtain ⟨ls, hls⟩ : ∃ ls, ls = leavesOf ns := ⟨_, rfl⟩
  have hrow : rowOf ns = [some Lf.e] ++ ls ++ [some Lf.e] := by rw [hls]; rfl
  have h4 : ls.length ≤ 4 := hls ▸ leaves_four ns
  have hfit : ∀ t ∈ ls, TokFit t := hls ▸ leaves_fit ns
  rw [hrow] at hdat
  have hfitR : ∀ t ∈ [some Lf.e] ++ ls ++ [some Lf.e], TokFit t := fun t ht => by
    rcases List.mem_append.mp ht with h | h
    · rcases List.mem_append.mp h with h | h
      · rw [List.mem_singleton.mp h]; trivial
      · exact hfit t h
    · rw [List.mem_singleton.mp h]; trivial
  have hrlen : ([some Lf.e] ++ ls ++ [some Lf.e]).length = ls.length + 2 := by simp
  with_reducible rename Fr _ _ _ _ => Fc
  refine assignCompC Fc rfl (by with_unfolding_all rfl) (by with_unfolding_all rfl) (by decide) (by rfl) (by decide) (by rfl) (by rfl) (by rfl) ?_
  k_steps
  refine Hold.mk ?_
  with_reducible rename Fr _ _ _ _ => F3
  with_reducible rename News _ _ _ _ => N3
  refine says_use K0 F3 KX N3 T rfl (names_says (List.Mem.head _) hdat hfitR (by omega) (by omega)) (by decide) (by decide) ?_
  intro r tl h' tk' F4 N4 hne hOut
  obtain ⟨D2, vals2, n2, rfl, rfl, hdat2⟩ := hOut
  refine ⟨D2, vals2, n2, _, fun i ys tl => DatAll tl ys (((namesG ([some Lf.e] ++ ls ++ [some Lf.e])).take i).map toldD), rfl, rfl, F4, N4, List.mem_append_right _ (List.mem_singleton.mpr rfl), ?_, .nil, fun g => ?_, ?_⟩
  · have := hdat2.length; rw [List.length_map] at this; rw [this]; have := (names_due Lf.e Lf.e ls h4).2; omega
  · intro i v ys tl I oI C oC D' m₂ g' h tk hv hinv hbl hoC hx F5 N5 hoff hIC hID hCD
    obtain ⟨nm, hnm, hin⟩ := dat_get hdat2 hv
    cases hin
    rename_i tv
    have hok := names_nameok h4 hfit nm (List.mem_of_getElem? hnm)
    refine callNameC ?_
    k_steps
    refine callWith1C rfl ?_
    k_steps
    all_goals first | exact isFn_of (by k_asm) (by k_asm) (by k_dflt k_is) | skip
    with_reducible rename Fr _ _ _ _ => F6
    with_reducible rename News _ _ _ _ => N6
    refine read_says hok _ _ _ _ _ _ _ _ _ _ _ _ _ _ _ K0 F6 KX N6 T KX T rfl (by decide) (by decide) ?_
    intro r tl2 h2 tk2 F7 N7 hne7 hOut
    obtain ⟨ta, k1, k2, k3, rfl, rfl⟩ := hOut
    refine ⟨h2, tk2, _, rfl, F7, N7, hne7, ?_⟩
    dsimp only
    rw [List.take_add_one, hnm, List.map_append]
    exact DatAll.append (hinv.mono fun p hp => List.mem_append_left _ hp) (.cons (.tuple (List.mem_append_right _ List.mem_cons_self) (.cons (.str _ _) (.cons (.str _ _) (.cons (.int _ _) .nil)))) .nil)
  · intro ys tl D3 h tk hinv hbl F5 N5 hoff
    refine wpC_of_any ?_
    have hlen2 : vals2.length = (namesG ([some Lf.e] ++ ls ++ [some Lf.e])).length := by have := hdat2.length; rw [List.length_map] at this; exact this
    rw [hlen2, List.take_length] at hinv
    k_steps
    refine Hold.mk ?_
    with_reducible rename Fr _ _ _ _ => F6
    with_reducible rename News _ _ _ _ => N6
    refine says_use K0 F6 KX N6 T rfl (due_says (List.mem_cons_of_mem _ (List.mem_append_left _ (List.mem_append_left _ List.mem_cons_self))) hdat hfit h4) (by decide) (by decide) ?_
    intro r tl2 h2 tk2 F7 N7 hne7 hOut
    obtain ⟨D4, vals4, n4, rfl, hm4, hdat4⟩ := hOut
    obtain ⟨nmsR, hnR⟩ : ∃ l, l = namesG ([some Lf.e] ++ ls ++ [some Lf.e]) := ⟨_, rfl⟩
    obtain ⟨nmsD, hnD⟩ : ∃ l, l = dueG Lf.e Lf.e ls := ⟨_, rfl⟩
    have hokR : ∀ nm ∈ nmsR, NameOk nm := hnR ▸ names_nameok h4 hfit
    have hperm : nmsR.Perm nmsD := hnR ▸ hnD ▸ (names_due Lf.e Lf.e ls h4).1
    have h42 : nmsR.length ≤ 42 := hnR ▸ (names_due Lf.e Lf.e ls h4).2
    have hokD : ∀ nm ∈ nmsD, NameOk nm := fun nm h => hokR nm (hperm.mem_iff.mpr h)
    rw [← hnR] at hinv
    rw [← hnD] at hdat4
    obtain ⟨C, hC⟩ : ∃ C, C = (D3, LCg.lst ys) :: ([] ++ [(D, listOf vals.toArray n)] ++ [(D2, listOf vals2.toArray n2)] ++ tl) ++ tl2 := ⟨_, rfl⟩
    have hC3 : (D3, listOf ys.toArray ys.length) ∈ C := by rw [hC]; exact List.mem_append_left _ List.mem_cons_self
    have hC4 : (D4, listOf vals4 n4) ∈ C := by rw [hC]; exact List.mem_append_right _ hm4
    have hXr : ∀ p ∈ tl, p ∈ C := fun p hp => by rw [hC]; exact List.mem_append_left _ (List.mem_cons_of_mem _ (List.mem_append_right _ hp))
    have hXd : ∀ p ∈ tl2, p ∈ C := fun p hp => by rw [hC]; exact List.mem_append_right _ hp
    rw [← hC] at N7
    have hysl : ys.length = nmsR.length := by have := hinv.length; rw [List.length_map] at this; exact this
    clear hC hne7 hm4 hbl hoff
    k_steps
    refine Hold.mk ?_
    with_reducible rename Fr _ _ _ _ => F8
    with_reducible rename News _ _ _ _ => N8
    refine kdn_eval (knd := intKind Challenge.rw_zd0005_01.prog w) F8 N8 (Top.nolimit T) rfl rfl (List.cons_ne_nil _ _) (by decide) ?_
    intro d h9 o0 F9 N9 ltd hlo hdo
    k_steps
    refine Hold.mk ?_
    refine comp3 F9 (by with_unfolding_all rfl) (by decide) (by rfl) (by decide) (by rfl) (by rfl) (by rfl) (by decide) (by decide) (by decide) ?_
    k_steps
    unfold Src3
    refine ⟨D3, ys, ys.length, _, fun i pys => IntsAre pys ((nmsR.take i).map fun nm => (told nm).2), rfl, rfl, F9, N9, List.mem_cons_of_mem _ hC3, by omega, tri_all hinv fun p hp => List.mem_cons_of_mem _ (hXr p hp), .nil, fun g => ?_, ?_⟩
    · intro i t a b c nt pys I oI Cc oC Dd m₂ g' h tk E' hv hmt hin' hoC h1 h2 h3 F10 N10
      refine tri_open (l := _ :: C) hinv hv (fun p hp => N10 p (List.mem_cons_of_mem _ (List.mem_cons_of_mem _ (List.mem_cons_of_mem _ hp)))) hmt (fun p hp => List.mem_cons_of_mem _ (hXr p hp)) ?_
      intro nm k1 k2 k3 hnm ea eb ec
      subst ea eb ec
      refine wpAny_tests_nil ?_
      rw [if_pos rfl]
      k_steps
      show IntsAre (pys ++ _) _
      rw [List.take_add_one, hnm, List.map_append]
      exact hin'.append (.cons _ _ .nil)
    · intro pys D5 h tk hin' N10 hoff5 F10
      rw [hysl, List.take_length] at hin'
      k_steps
      refine Hold.mk ?_
      refine LSm.sum_ints F10 N10 rfl ⟨_, (N10 _ List.mem_cons_self).1, rfl, _, rfl⟩ hin' ?_
      intro h11 tk11 t11 F11 N11
      k_steps
      refine Hold.mk ?_
      have hdC : ∀ p ∈ C, p.1 ≠ d := fun p hp => Nat.ne_of_lt (ltd p hp)
      refine kdn_made_int F11 N11 (.tail (Ne.symm (hoff5 _ List.mem_cons_self)) (.head hdC)) hdo rfl (show ([(-1 : Int)]).Nodup from by decide) ?_
      intro h12 o1 F12 N12 hd1
      have hd1 : o1.IsDictOf (intKind Challenge.rw_zd0005_01.prog w) [(-1, .int (sumT nmsR) t11)] := hd1
      k_steps
      refine Hold.mk ?_
      with_reducible rename News _ _ _ _ => N13
      refine r_len N13 (List.mem_cons_of_mem _ (List.mem_cons_of_mem _ hC3)) hysl (by omega) ?_
      intro t13 k13
      k_steps
      refine Hold.mk ?_
      with_reducible rename IsRange _ _ _ _ _ _ _ _ => rg
      with_reducible rename Fr _ _ _ _ => F14
      with_reducible rename News _ _ _ _ => N14
      refine range_G (Led := fun c : Obj × List (Int × Value) => [(d, c.1)]) (ps := fun _ => []) (adr := [d]) (k := nmsR.length) (c₀ := (o1, [(-1, .int (sumT nmsR) t11)])) (cst := C) (st := [Str.ofString "k"])
        (fun i c tl => c.1.IsDictOf (intKind Challenge.rw_zd0005_01.prog w) c.2 ∧ TabI nmsR (sumT nmsR) i c.2) rfl (fun _ => rfl) rg (small_one (by omega) (by omega) (by omega) (by omega)) (by rw [rangeSize_nat]; omega) F14 (fun p hp => N14 p ?_) (fun p hp h => hdC p hp (List.mem_singleton.mp h)) (fun p hp => (List.not_mem_nil hp).elim) ⟨hd1, TabI.start _ _ _⟩ ?turnL ?doneL
      · rcases List.mem_append.mp hp with h | h
        · rw [List.mem_singleton.mp h]; exact List.mem_cons_of_mem _ List.mem_cons_self
        · exact List.mem_cons_of_mem _ (List.mem_cons_of_mem _ h)
      case turnL =>
        intro i t c tl3 I oI u h15 tk15 hi hinv3 hoff3 hbl3 F15 N15
        obtain ⟨o, kvs⟩ := c
        obtain ⟨hdo3, hT3⟩ := hinv3
        dsimp only at F15 N15 hdo3 hT3
        simp only [List.cons_append, List.nil_append] at N15
        obtain ⟨nm, hnm⟩ : ∃ nm, nmsR[i]? = some nm := ⟨_, List.getElem?_eq_getElem hi⟩
        have hmC : ∀ p : Addr × Obj, p ∈ C → p ∈ (d, o) :: (C ++ tl3 ++ [(I, oI)]) := fun p hp => List.mem_cons_of_mem _ (List.mem_append_left _ (List.mem_append_left _ hp))
        refine turn_cut [(Str.ofString "read", .ref D3), (Str.ofString "lines", .ref d)] F15 (keep_all (And.intro rfl (And.intro rfl trivial))) (fun _ y hn hy => locOutG hy hn) ?_
        clear F15
        intro RQ g9 d9 o9 mX F15 hRQ
        k_steps
        refine Hold.mk ?_
        with_reducible rename Fr _ _ _ _ => F16
        with_reducible rename News _ _ _ _ => N16
        refine r_tri N16 (hmC (_, _) hC3) hinv hnm h42 ?_ (by with_unfolding_all rfl)
        intro ta k1 k2 k3 nt hmt
        refine wpAny_Constant_int ?_
        (try dsimp only)
        refine item_tupleT (l := [.str (txt nm) k1, .str (told nm).1 k2, .int (told nm).2 k3]) ⟨_, (N16 _ (hmC (_, _) (hXr _ hmt))).1, rfl, nt, rfl⟩ (by decide) (by decide) (j := 1) rfl rfl ?_
        rcases told_word nm with hw | ⟨hw, h0⟩ | ⟨hw, h0⟩
        · rw [hw]
          k_steps
          refine Hold.mk ?_
          with_reducible rename Fr _ _ _ _ => F16
          with_reducible rename News _ _ _ _ => N16
          refine r_tri N16 (hmC (_, _) hC3) hinv hnm h42 ?_ (by with_unfolding_all rfl)
          intro ta k1 k2 k3 nt hmt
          refine wpAny_Constant_int ?_
          (try dsimp only)
          refine item_tupleT (l := [.str (txt nm) k1, .str (told nm).1 k2, .int (told nm).2 k3]) ⟨_, (N16 _ (hmC (_, _) (hXr _ hmt))).1, rfl, nt, rfl⟩ (by decide) (by decide) (j := 1) rfl rfl ?_
          rw [hw]
          k_steps
          refine Hold.mk ?_
          with_reducible rename Fr _ _ _ _ => F16
          with_reducible rename News _ _ _ _ => N16
          refine r_tri N16 (hmC (_, _) hC3) hinv hnm h42 ?_ (by with_unfolding_all rfl)
          intro ta k1 k2 k3 nt hmt
          refine wpAny_Constant_int ?_
          (try dsimp only)
          refine item_tupleT (l := [.str (txt nm) k1, .str (told nm).1 k2, .int (told nm).2 k3]) ⟨_, (N16 _ (hmC (_, _) (hXr _ hmt))).1, rfl, nt, rfl⟩ (by decide) (by decide) (j := 2) rfl rfl ?_
          k_steps
          refine Hold.mk ?_
          with_reducible rename Fr _ _ _ _ => F17
          with_reducible rename News _ _ _ _ => N17
          refine kda_set (knd := intKind Challenge.rw_zd0005_01.prog w) (k := (i : Int)) F17 N17 (.head fun p hp h => hoff3 p hp (List.mem_singleton.mpr h)) hdo3 (intKind_is _ _ _ _) (by have := hT3.len; rw [sizeLine_eq]; omega) ?_
          intro h18 o18 F18 N18 hdo18
          k_steps
          with_reducible rename Fr _ _ _ _ => F19
          with_reducible rename News _ _ _ _ => N19
          refine hRQ _ _ _ (o18, stored kvs (i : Int) (.int (told nm).2 k3)) [] F19 (fun p hp => (List.not_mem_nil hp).elim) (fun y hn hy => locIf (by decide) hy rfl) (fun p hp => N19 p ?_) Bl.nil ⟨hdo18, hT3.add hnm (.inl ⟨hw, _, rfl⟩)⟩
          rw [List.append_nil] at hp
          exact hp
        · rw [hw]
          k_steps
          with_reducible rename Fr _ _ _ _ => F19
          with_reducible rename News _ _ _ _ => N19
          refine hRQ _ _ _ (o, kvs) [] F19 (fun p hp => (List.not_mem_nil hp).elim) (fun y hn hy => locIf (by decide) hy rfl) (fun p hp => N19 p ?_) Bl.nil ⟨hdo3, hT3.skip hnm hw⟩
          rw [List.append_nil] at hp
          exact hp
        · rw [hw]
          k_steps
          refine Hold.mk ?_
          with_reducible rename Fr _ _ _ _ => F16
          with_reducible rename News _ _ _ _ => N16
          refine r_tri N16 (hmC (_, _) hC3) hinv hnm h42 ?_ (by with_unfolding_all rfl)
          intro ta k1 k2 k3 nt hmt
          refine wpAny_Constant_int ?_
          (try dsimp only)
          refine item_tupleT (l := [.str (txt nm) k1, .str (told nm).1 k2, .int (told nm).2 k3]) ⟨_, (N16 _ (hmC (_, _) (hXr _ hmt))).1, rfl, nt, rfl⟩ (by decide) (by decide) (j := 1) rfl rfl ?_
          rw [hw]
          k_steps
          refine Hold.mk ?_
          with_reducible rename Fr _ _ _ _ => F17
          with_reducible rename News _ _ _ _ => N17
          refine kda_set (knd := intKind Challenge.rw_zd0005_01.prog w) (k := (i : Int)) F17 N17 (.head fun p hp h => hoff3 p hp (List.mem_singleton.mpr h)) hdo3 (intKind_is _ _ _ _) (by have := hT3.len; rw [sizeLine_eq]; omega) ?_
          intro h18 o18 F18 N18 hdo18
          k_steps
          with_reducible rename Fr _ _ _ _ => F19
          with_reducible rename News _ _ _ _ => N19
          refine hRQ _ _ _ (o18, stored kvs (i : Int) .none) [] F19 (fun p hp => (List.not_mem_nil hp).elim) (fun y hn hy => locIf (by decide) hy rfl) (fun p hp => N19 p ?_) Bl.nil ⟨hdo18, hT3.add hnm (.inr ⟨hw, rfl⟩)⟩
          rw [List.append_nil] at hp
          exact hp
      case doneL =>
        intro c tl3 u h15 tk15 hinv3 hoff3 hbl3 F15 N15
        obtain ⟨o, kvs⟩ := c
        obtain ⟨hdo3, hT3⟩ := hinv3
        dsimp only at F15 N15 hdo3 hT3
        simp only [List.cons_append, List.nil_append] at N15
        have hC4' : (D4, listOf vals4.toList.toArray n4) ∈ C := by rw [Array.toArray_toList]; exact hC4
        have hCs : ∀ p : Addr × Obj, p ∈ C → p ∈ (d, o) :: (C ++ tl3) := fun p hp => List.mem_cons_of_mem _ (List.mem_append_left _ hp)
        have hone : 1 ≤ nmsR.length := by rw [hperm.length_eq, hnD]; exact due_one _ _ _
        have hlenD : nmsD.length = nmsR.length := hperm.length_eq.symm
        k_steps
        refine Hold.mk ?_
        with_reducible rename Fr _ _ _ _ => F16
        with_reducible rename News _ _ _ _ => N16
        refine r_sorted F16 N16 (hCs (_, _) hC3) hinv (fun p hp => hCs p (hXr p hp)) (fun a ha b hb e => by rw [txt_inj (hokR a ha) (hokR b hb) e]) hone (by omega) ?_
        intro E1 vs1 nms1 c1 h17 F17 N17 hdt1 hp1 hs1
        k_steps
        refine Hold.mk ?_
        with_reducible rename Fr _ _ _ _ => F18
        with_reducible rename News _ _ _ _ => N18
        refine r_sorted F18 N18 (List.mem_cons_of_mem _ (hCs (_, _) hC4')) hdat4 (fun p hp => List.mem_cons_of_mem _ (hCs p (hXd p hp))) (fun a ha b hb e => by rw [txt_inj (hokD a ha) (hokD b hb) e]) (by omega) (by omega) ?_
        intro E2 vs2 nms2 c2 h19 F19 N19 hdt2 hp2 hs2
        have hok1 : ∀ nm ∈ nms1, NameOk nm := fun nm h => hokR nm (hp1.mem_iff.mp h)
        obtain rfl : nms1 = nms2 := sorted_eq hok1 (hp1.trans (hperm.trans hp2.symm)) hs1 hs2
        k_steps
        refine Hold.mk ?_
        with_reducible rename Fr _ _ _ _ => F20
        with_reducible rename News _ _ _ _ => N20
        refine r_eqtold N20 (List.mem_cons_of_mem _ List.mem_cons_self) List.mem_cons_self hdt1 hdt2 (fun p hp => List.mem_cons_of_mem _ (List.mem_cons_of_mem _ (hCs p (hXr p hp)))) (fun p hp => List.mem_cons_of_mem _ (List.mem_cons_of_mem _ (hCs p (hXd p hp)))) hok1 (show (4 + 3) + 8 < cLine from by decide) ?_
        k_steps
        refine Hold.mk ?_
        with_reducible rename Fr _ _ _ _ => F21
        with_reducible rename News _ _ _ _ => N21
        refine says_use K0 F21 KX N21 T rfl (lin_says (List.mem_cons_of_mem _ (List.mem_cons_of_mem _ List.mem_cons_self)) hdo3 hT3.plain hlo (hT3.fit hokR h42)) (by decide) (by decide) ?_
        intro r22 tl22 h22 tk22 F22 N22 hne22 hOut22
        obtain ⟨M1, tM1, rfl, rfl, hLin⟩ := hOut22
        rw [List.append_nil] at N22
        k_steps
        refine Hold.mk ?_
        with_reducible rename Fr _ _ _ _ => F23
        with_reducible rename News _ _ _ _ => N23
        refine says_use K0 F23 KX N23 T rfl (wid_says (List.mem_cons_of_mem _ (List.mem_cons_of_mem _ (hCs (_, _) hC4'))) hdat4 (fun p hp => List.mem_cons_of_mem _ (List.mem_cons_of_mem _ (hCs p (hXd p hp)))) hokD (by omega)) (by decide) (by decide) ?_
        intro r24 tl24 h24 tk24 F24 N24 hne24 hOut24
        obtain ⟨M2, tM2, rfl, rfl, hWid⟩ := hOut24
        obtain rfl : M1 = M2 := widths hokR hperm.symm hT3 hLin hWid
        rw [List.append_nil] at N24
        k_steps
end Mine
end

theorem PySem.Challenge.cw_zd0005_01_holds : PySem.Challenge.rw_zd0005_01.Holds := by
  exact Mine.law_holds
