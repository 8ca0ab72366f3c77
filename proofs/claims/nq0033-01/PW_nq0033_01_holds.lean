import PyProof.Rows.All
import Wide.All
import OpenK.AllK
import Wide.FinOn
import PySem.Challenge.RW_nq0033_01
open PySem PySem.W PyProof.Rows PySem.Calls Builtin
set_option Elab.async false
set_option maxRecDepth 100000
set_option maxHeartbeats 8000000
namespace Mine
/-- no builtin of those that hold a bytearray -/
def okCode : Code → Bool
  | .builtin nm _ => !(Builtin.Bytes.decodersThatHold.contains nm) && !(guardIds.contains nm)
  | _ => true
def CleanL (l : List (Code × Pos)) : Prop := ∀ x ∈ l, okCode x.1 = true
/-- wpAny over the clean contexts -/
def wpC {α : Type} (M : Model) (A : Around) (t : Sem α) (Q : α → Shared → Prop) (E : Value → Shared → Prop) (s : Shared) : Prop :=
  ∀ Γ p, Γ.In A → okCode Γ.code = true → CleanL Γ.below → Sem.wp M Γ t (fun a _ s' => Q a s') (fun e _ s' => E e s') p s
def codeC (M : Model) (A : Around) (c : Code) (R : Result → Shared → Prop) (s : Shared) : Prop :=
  ∀ Γ p, Γ.code = c → Γ.Below A → CleanL Γ.below → wpCode M Γ R p s
section
variable {α β : Type} {M : Model} {A : Around} {E : Value → Shared → Prop} {s : Shared}
theorem wpC_any {t : Sem α} {Q : α → Shared → Prop} (h : wpAny M A t Q E s) : wpC M A t Q E s := fun Γ p hΓ _ _ => h Γ p hΓ
theorem codeC_any {c : Code} {R : Result → Shared → Prop} (h : codeAny M A c R s) : codeC M A c R s := fun Γ p hc hΓ _ => h Γ p hc hΓ
theorem wpC_mono {t : Sem α} {Q Q' : α → Shared → Prop} {E' : Value → Shared → Prop} (h : wpC M A t Q E s)
    (hQ : ∀ a s, Q a s → Q' a s) (hE : ∀ e s, E e s → E' e s) : wpC M A t Q' E' s :=
  fun Γ p hΓ h1 h2 => Sem.wp_mono M Γ t (fun a _ s => hQ a s) (fun e _ s => hE e s) p s (h Γ p hΓ h1 h2)
theorem wpC_bind {m : Sem α} {f : α → Sem β} {Q : β → Shared → Prop} (h : wpC M A m (fun a s' => wpC M A (f a) Q E s') E s) :
    wpC M A (m >>= f) Q E s := fun Γ p hΓ h1 h2 => by
  rw [Sem.wp_bind']
  exact Sem.wp_mono M Γ m (fun a p' s' h' => h' Γ p' hΓ h1 h2) (fun _ _ _ h' => h') p s (h Γ p hΓ h1 h2)
theorem wpC_bindA {m : Sem α} {f : α → Sem β} {Q : β → Shared → Prop} (h : wpAny M A m (fun a s' => wpC M A (f a) Q E s') E s) :
    wpC M A (m >>= f) Q E s := wpC_bind (wpC_any h)
theorem wpC_pure {a : α} {Q : α → Shared → Prop} (h : Q a s) : wpC M A (pure a) Q E s := fun _ _ _ _ _ => h
theorem wpC_holding {vs : List Value} {m : Sem α} {Q : α → Shared → Prop} (h : wpC M A m Q E s) : wpC M A (holding vs m) Q E s :=
  fun Γ p hΓ h1 h2 => by rw [Sem.wp_holding]; exact h Γ p hΓ h1 h2
theorem wpC_keep {vs : List Value} {m : Sem α} {Q : α → Shared → Prop} (h : wpC M A m Q E s) : wpC M A (m.keep vs) Q E s :=
  fun Γ p hΓ h1 h2 => by rw [Sem.wp_keep]; exact h Γ p hΓ h1 h2
theorem wpC_onRaise {m : Sem α} {k : Value → Sem Unit} {Q : α → Shared → Prop}
    (h : wpC M A m Q (fun e s' => wpC M A (k e) (fun _ s'' => E e s'') E s') s) : wpC M A (m.onRaise k) Q E s := fun Γ p hΓ h1 h2 => by
  rw [Sem.wp_onRaise]
  exact Sem.wp_mono M Γ m (fun _ _ _ h' => h') (fun e p' s' h' => h' Γ p' hΓ h1 h2) p s (h Γ p hΓ h1 h2)
theorem wpC_attempt {m : Sem α} {Q : Except Value α → Shared → Prop} (h : wpC M A m (fun a => Q (.ok a)) (fun e => Q (.error e)) s) :
    wpC M A m.attempt Q E s := fun Γ p hΓ h1 h2 => by rw [Sem.wp_attempt]; exact h Γ p hΓ h1 h2
theorem wpC_of_eq {t : Sem α} {a : α} {Q : α → Shared → Prop} (e : t = pure a) (h : Q a s) : wpC M A t Q E s := e ▸ wpC_pure h
theorem codeC_mono {c : Code} {R R' : Result → Shared → Prop} (h : codeC M A c R s) (hR : ∀ r s, R r s → R' r s) : codeC M A c R' s :=
  fun Γ p hc hΓ h2 => wpCode_mono hR (h Γ p hc hΓ h2)
theorem cleanL_cons {Γ : Ctx} {p : Pos} (h1 : okCode Γ.code = true) (h2 : CleanL Γ.below) : CleanL ((Γ.code, p) :: Γ.below) := by
  intro x hx
  rcases List.mem_cons.mp hx with rfl | h
  · exact h1
  · exact h2 x h
theorem wpC_run {c : Code} {h : Option Value} {Q : Flow → Shared → Prop}
    (hc : codeC M (A.mark h) c (fun r s' => match r with | .ok f => Q f s' | .error e => E e s') s) (hnb : h ≠ some byPass := by intro x; cases x) :
    wpC M A (run c h) Q E s :=
  fun Γ p hΓ h1 h2 => by rw [Sem.wp_run]; exact hc _ p rfl (hΓ.enter c h p hnb) (cleanL_cons h1 h2)
theorem wpC_runValue {c : Code} {Q : Value → Shared → Prop}
    (hc : codeC M A c (fun r s' => match r with | .ok (.ret v) => Q v s' | .ok _ => False | .error e => E e s') s) :
    wpC M A (runValue c) Q E s := fun Γ p hΓ h1 h2 => by rw [Sem.wp_runValue]; exact hc _ p rfl (hΓ.enter c none p (by intro x; cases x)) (cleanL_cons h1 h2)
theorem wpC_call {f : Value} {pos : List Value} {kw : List (Str × Value)} {Q : Value → Shared → Prop}
    (hc : codeC M A (.call f ⟨pos, kw⟩) (fun r s' => match r with | .ok (.ret v) => Q v s' | .ok _ => False | .error e => E e s') s) :
    wpC M A (call f pos kw) Q E s := wpC_runValue hc
theorem codeC_of_tree {c : Code} {R : Result → Shared → Prop} (hok : okCode c = true)
    (h : wpC M (A.under c) (M.den c) (fun fin s' => match fin with | .done f => R (.ok f) s' | .again c' => c'.quiet = true ∧ codeC M A c' R s')
      (fun e s' => R (.error e) s') s) : codeC M A c R s := fun Γ p hc hΓ h2 => by
  rw [wpCode_iff_wp, hc]
  refine Sem.wp_mono M Γ _ (fun fin p' s' h' => ?_) (fun _ _ _ h' => h') p s (h Γ p (hc ▸ hΓ.in) (hc ▸ hok) h2)
  cases fin with
  | done f => exact h'
  | again c' => exact ⟨h'.1, h'.2 (Γ.goto c') p' rfl (hΓ.goto c') h2⟩
theorem wpC_stackAny_false {f : Code × Pos → Bool} {Q : Bool → Shared → Prop} (hf : ∀ c p, okCode c = true → f (c, p) = false) (h : Q false s) : wpC M A (do return (← stack).any f) Q E s := fun Γ p hΓ h1 h2 => by
  show Q (((Γ.code, p) :: Γ.below).any f) s
  have : ((Γ.code, p) :: Γ.below).any f = false := by
    rw [List.any_eq_false]
    intro x hx
    obtain ⟨c, q⟩ := x
    have := hf c q (cleanL_cons h1 h2 _ hx)
    rw [this]; decide
  rw [this]; exact h
end
theorem exported_false {M : Model} {A : Around} {E : Value → Shared → Prop} {s : Shared} {self : Value} {Q : Bool → Shared → Prop} (h : Q false s) : wpC M A (Bytes.exported self) Q E s := by
  unfold Bytes.exported
  refine wpC_stackAny_false (fun c p hc => ?_) h
  cases c with
  | builtin nm args =>
    have k : Builtin.Bytes.decodersThatHold.contains nm = false ∧ guardIds.contains nm = false := by
      simp only [okCode, Bool.and_eq_true, Bool.not_eq_true'] at hc; exact hc
    have kn : ∀ x ∈ guardIds, nm ≠ x := by
      intro x hx e
      subst e
      have : guardIds.contains nm = true := List.contains_iff_mem.mpr hx
      rw [k.2] at this; cases this
    have n1 := kn "bytearray.__contains__" (by decide)
    have n2 := kn "bytearray.__mod__" (by decide)
    have n3 := kn "bytearray.__rmod__" (by decide)
    have n4 := kn "_struct.pack_into.held" (by decide)
    have n5 := kn "bytearray.find.held" (by decide)
    have k1 := k.1
    clear hc k kn
    obtain ⟨pos, kw⟩ := args
    delta PySem.Builtin.Bytes.exported.match_1
    cases pos with
    | nil => exact (dif_neg n1).trans ((dif_neg n2).trans ((dif_neg n3).trans ((dif_neg n4).trans ((dif_neg n5).trans rfl))))
    | cons v rest =>
      refine (dif_neg n1).trans ((dif_neg n2).trans ((dif_neg n3).trans ((dif_neg n4).trans ((dif_neg n5).trans ?_))))
      show (Bytes.sameRef v self && Bytes.decodersThatHold.contains nm) = false
      rw [k1, Bool.and_false]
  | _ => rfl

/-- the head, over clean contexts: the caller's own context is one -/
theorem caller_done {M : Model} {t : Sem Fin} {R : Result → Shared → Prop} {s : Shared}
    (h : wpC M callerA t (fun fin s' => ∃ f, fin = .done f ∧ R (.ok f) s') (fun e s' => R (.error e) s') s) (p : Pos) :
    Sem.wp M (⟨.builtin "claim.caller" {}, none, none, [], none⟩ : Ctx) t (Sem.finPost M (⟨.builtin "claim.caller" {}, none, none, [], none⟩ : Ctx) R) (fun e _ s' => R (.error e) s') p s := by
  refine Sem.wp_mono M _ t (fun fin p' s' h' => ?_) (fun _ _ _ h' => h') p s (h _ p caller_in (by decide +kernel) (fun x hx => nomatch hx))
  obtain ⟨f, rfl, hf⟩ := h'
  exact hf
theorem thread_endsC {prog : Program} {w : World} {t : Sem Fin} {s : Shared} {R : Result → Shared → Prop} (hreg : s.asleep)
    (h : wpC (model prog w) callerA t (fun fin s' => ∃ f, fin = .done f ∧ (R (.ok f) s' ∧ leftWithCleanup s'.gens = false)) (fun e s' => R (.error e) s' ∧ leftWithCleanup s'.gens = false) s) :
    ∃ n r s' s'', runN (denote table) prog w n s ⟨t, .builtin "claim.caller" {}, default, []⟩ = .halted (outcomeOf r) s' ∧
      schedN (denote table) prog w n (.single s ⟨t, .builtin "claim.caller" {}, default, []⟩) = .halted (outcomeOf r) s' ∧ s'.forget = s''.forget ∧ R r s'' := by
  obtain ⟨n, r, s₁, s₂, hs, hn, hfo, hR⟩ := wp_halts_full (M := model prog w) (R := R) hreg (caller_done (R := fun r s' => R r s' ∧ leftWithCleanup s'.gens = false) h default)
  exact ⟨n, r, s₂, s₁, hn, hs, hfo, hR⟩
theorem callFromC {c : ClaimW} {tree : List Value → Sem Fin} {w : World} {s : Shared} {free : Addr → Prop} {gens : Prop} {kept : Heap → Prop} (hz : s.asleep) (hgens : s.gens = #[])
    (hspec : ∀ args, c.pre args = true → WData.layableAll args = true → ∀ ord : List DictEntry → List DictEntry, (∀ l, (ord l).Perm l) →
      ∃ vs s₁, layAllW c.records (classAt s.heap) w.params ord args s = some (vs, s₁) ∧
        wpC (model c.prog w) callerA (tree vs) (fun fin s' => ∃ f, fin = .done f ∧ (c.Ends s args vs s₁ (.ok f) s' ∧ s'.os = s.os ∧ AllBare s'.gens ∧ kept s'.heap))
          (fun e s' => c.Ends s args vs s₁ (.error e) s' ∧ s'.os = s.os ∧ AllBare s'.gens ∧ kept s'.heap) s₁) :
    c.CallFrom (fun vs => ⟨tree vs, .builtin "claim.caller" {}, default, []⟩) w free gens kept s := by
  intro args hpre hlay ord hord
  obtain ⟨vs, s₁, hlaid, hcode⟩ := hspec args hpre hlay ord hord
  have hal := layAllW_rest _ _ _ hlaid
  obtain ⟨k, r, s', s'', hrun, hsched, hfo, hcase, hos, hkp⟩ := thread_endsC (prog := c.prog) (w := w) (t := tree vs) (s := s₁) (R := fun r s' => c.Ends s args vs s₁ r s' ∧ s'.os = s.os ∧ kept s'.heap)
    (Shared.asleep_of_life hal.2.2.2 hz)
    (wpC_mono hcode (fun _ _ ⟨f, e, h1, h2, h3, h4⟩ => ⟨f, e, ⟨h1, h2, h4⟩, leftWithCleanup_false_of_bare h3⟩) (fun _ _ ⟨h1, h2, h3, h4⟩ => ⟨⟨h1, h2, h4⟩, leftWithCleanup_false_of_bare h3⟩))
  obtain ⟨eh, _, _, eo, _⟩ := Shared.forget_eq hfo
  have hcase := hcase.congr eh
  have hkp : kept s'.heap := eh.symm ▸ hkp
  rw [← eo] at hos
  have hlife : s'.heap.life = s.heap.life := (runN_life _ _ _ hrun).trans hal.2.2.2
  refine ⟨vs, s₁, hlaid, k, _, s', hsched, ?_, (fun _ i x hx => by rw [hgens] at hx; simp at hx), hkp, by rw [hlife], Shared.rest_eq hos⟩
  rcases hcase with ⟨v, rfl, d1, d2, d3, d4, d5⟩ | ⟨e, ob, cls, rfl, d1, d2, d3, d4, d5⟩
  · exact .inl ⟨v, rfl, d1, d2, d3, fun b o y _ => d4 b o y, d5⟩
  · exact .inr ⟨e, ob, cls, rfl, d1, d2, d3, d4, fun b o y _ => d5 b o y⟩
/-- what is to be walked, over clean contexts -/
abbrev WalkC (q : Program) (loose : List Str) (XP : (Str → Option Value) → Heap → Prop) (YP : World → Heap → Prop) (r : RowW) (d : DefRec) (kwd : List (Str × Expr)) : Prop :=
  ∀ (w : World) (s₀ s₁ : Shared) (mg mb : Str → Option Value), Ground q loose r.records XP w s₀ mg mb s₁.heap → YP w s₁.heap → ∀ (a : Addr) (o : Obj) (pm cd doc dV kV : Value), s₁.heap.get? a = some o →
    o.data = .func { docDef d.name d.params d.body d.scope pm cd doc with defaults := dV, kwdefaults := kV } → s₁.heap.CodeRec cd d.name → Dflts mg s₁.heap d.params kwd dV kV → mg d.name = some (.ref a) → s₁.gens = #[] →
    ∀ (args : List WData) (vals : List Value) (as : List Addr), r.claim.pre args = true → WData.layableAll args = true → ReadsAllW r.records (classAt s₀.heap) s₁.heap vals args as → WellAll w.params s₁.heap vals args → (∀ a ∈ as, (a == sysModules) = false) →
      wpC (model r.prog w) callerA (PySem.call (.ref a) vals) (fun v s' => GoodWG r.claim (classAt s₀.heap) (ExcName.means s₀.heap) args s₁ (.ok (.ret v)) s')
        (fun e s' => GoodWG r.claim (classAt s₀.heap) (ExcName.means s₀.heap) args s₁ (.error e) s') s₁
theorem PySem.W.holds_open {r : OpenRow} {q : Program} {loose : List Str} {Xt : Shared → Bool} {XP : (Str → Option Value) → Heap → Prop} {α : Type} {Yf : Shared → α} {Ya : World → α} {YP : World → Heap → Prop} {d : DefRec} {kwd : List (Str × Expr)} {N : Nat}
    (left : LeftO r.prog q loose Xt Yf Ya N) (hY : ∀ w s, Yf s = Ya w → YP w s.heap) (hYk : ∀ w h h', YP w h → (∀ b o, h.get? b = some o → h'.get? b = some o) → YP w h')
    (hX : ∀ s, Xt s = true → XP (s.heap.nsMap mainGlobals) s.heap) (hXk : ∀ mg h h', XP mg h → (∀ b o, h.get? b = some o → h'.get? b = some o) → XP mg h')
    (hdef : defOf q r.name = some (d, kwd)) (hp : r.prog.theDef r.name = some (d.params, d.body, d.scope)) (hk : kwWritten? d.params.kwonlyargs d.params.kw_defaults = some kwd) (hRf : ∀ s, Xt s = true → RecFacts r.records s.heap) (hwr : (!r.writes || r.records.isEmpty) = true)
    (k1 : r.wellSaid = true) (ok : (chainsOk q && opensWell r.prog && (frees r.toRowW && r.within.isEmpty)) = true) (hb : r.prog.bare) (hw : r.toRowW.promised)
    (call : WalkC q loose XP YP r.toRowW d kwd) : r.Holds := by
  obtain ⟨ok, k5⟩ := Bool.and_eq_true_iff.mp ok
  obtain ⟨hch, o1⟩ := Bool.and_eq_true_iff.mp ok
  obtain ⟨k5, k6⟩ := Bool.and_eq_true_iff.mp k5
  obtain ⟨hsame, hu, ha, hap, hm⟩ := frees_parts k5
  refine ⟨k1, hw, ⟨hb, o1, by show r.toRowW.makers.map _ = []; rw [hm]; rfl⟩, hw.witness, fun w => ⟨(left.behind hX hch w).1, fun s' hs' => ?_⟩⟩
  obtain ⟨s₀, hf, hg0, s, hT, hz, hgens, hg, G00, y⟩ := (left.behind (XP := fun mg h => XP mg h ∧ RecFacts r.records h) (fun s hs => ⟨hX s hs, hRf s hs⟩) hch w).2 s' hs'
  have G0 : Ground q loose [] XP w s (s.heap.nsMap mainGlobals) (s.heap.nsMap builtinsNs) s.heap := ⟨G00.T, G00.B, G00.D, G00.TE, G00.TD, G00.W, G00.X.1, G00.cls, G00.has, G00.apart, G00.once, G00.K⟩
  have RF := G00.X.2
  have hT' := hT
  refine ⟨s₀, hf, hg0, s, hT, fun n hn => ?_, RF.1, RF.2.1, ?_⟩
  · obtain rfl : n = r.name := by split at hn <;> simp_all
    exact pinned_of_view hg G0 hdef hp hk
  have hgens : s.gens = #[] := Array.eq_empty_of_size_eq_zero (beq_iff_eq.mp hgens)
  have G : Ground q loose r.records XP w s _ _ s.heap := RF.ground G0
  refine callFromC (c := r.toRowW.claim) hz hgens fun args hpre hlay ord hord => ?_
  obtain ⟨⟨vs, s₁⟩, hlaid⟩ := Option.isSome_iff_exists.mp (layAllW_isSome (P := w.params) (ord := ord) G.has args r.args s (pre_splitW hpre).1)
  have keeps := layAllW_keeps _ _ _ hlaid
  have hal := layAllW_rest _ _ _ hlaid
  obtain ⟨as, hrd, hin, hold⟩ := reads_layAllW hord _ _ _ hlaid hlay s₁.heap (fun _ _ e => e)
  have L : Laid r.records w s s₁ args vs as := ⟨⟨ord, hord, hlaid⟩, hrd, hin, hold, keeps, hal.1.trans hgens, hal.2.2.1⟩
  have G₁ := G.keeps hXk keeps
  obtain ⟨a, o, pm, cd, doc, dV, kV, h1, h2, h3, h4, h5⟩ := G₁.fn hdef
  have h := call w s s₁ _ _ G₁ (hYk _ _ _ (hY w s y) keeps) a o pm cd doc dV kV h2 h3 h4 h5 (defOf_name hdef ▸ h1) L.gens args vs as hpre hlay L.reads L.well (L.low G.low)
  have hi := ident_freeW hu ha hap
  have hwi : r.toRowW.claim.within = [] := List.isEmpty_iff.mp k6
  refine ⟨vs, s₁, hlaid, wpC_bindA (wpAny_nsGet G₁.T.g ?_)⟩
  rw [h1]
  refine wpC_bind (wpC_mono h (fun v s' g => wpC_pure ⟨_, rfl, have z := g.laid (c := r.toRowW.claim) hsame hwi hi L; ⟨z.1, z.2.1, z.2.2, fun q => ⟨namesKept_of hT' hg _ keeps g.2.1.old, noTable hwr q⟩⟩⟩) fun e s' g => have z := g.laid (c := r.toRowW.claim) hsame hwi hi L; ⟨z.1, z.2.1, z.2.2, fun q => ⟨namesKept_of hT' hg _ keeps g.2.1.old, noTable hwr q⟩⟩)

open_top hd for PySem.Challenge.rw_nq0033_01
theorem fill_all (w : World) : (hd.heap_39 w.params).length = (hd.heap_39 w.params).length ∧ PySem.Challenge.rw_nq0033_01 = PySem.Challenge.rw_nq0033_01 := by
  k_fill
  w_top off
  exact ⟨rfl, rfl⟩
theorem deep_ok {A : Around} {env : Env} {k n : Nat} (h : A.depth + n < recursionLimit) (hk : k + 1 ≤ n := by decide) : (A.deeper env).depth + k < recursionLimit := by
  simp only [depth_deeper]; omega
theorem deep_lt {A : Around} {env : Env} {n : Nat} (h : A.depth + n < recursionLimit) (hk : 1 ≤ n := by decide) : (A.deeper env).depth < recursionLimit := by
  simp only [depth_deeper]; omega
theorem depth_lt {A : Around} {n : Nat} (h : A.depth + n < recursionLimit) : A.depth < recursionLimit := Nat.lt_of_le_of_lt (Nat.le_add_right _ _) h

/-- everything but `as` stays -/
def Ex (as : List Addr) (h h' : Heap) : Prop := ∀ b o, b ∉ as → h.get? b = some o → h'.get? b = some o


theorem enter {prog : Program} {w : World} {A : Around} {s : Shared} {hb : Heap} {news : List (Addr × Obj)} {K : Frag} {p : Program} {loose : List Str} {mean : ExcName → Option Value} {mg mb : Str → Option Value}
    {R : Result → Shared → Prop} {name qual : Str} {params : Arguments} {body : List Stmt} {scope : Scope} {dV kV doc pm cdv ct oc : Value} {an od : Option Addr} {osl : Array (Option Value)} {f : Addr} {args : Args} {binds : List (Str × Value)}
    (X : K.In hb) (T : Top p loose mean mg mb hb) (st : ∀ b o, hb.get? b = some o → s.heap.get? b = some o)
    (N : ∀ q ∈ news, s.heap.get? q.1 = some q.2 ∧ hb.get? q.1 = none)
    (ho : K.lookup f = some ⟨oc, od, .func (fnOf name qual params body scope dV kV doc pm an cdv ct), osl⟩) (hcd : codeIn K cdv qual = true) (hroom : A.depth < recursionLimit)
    (hbind : BindsTo s (fnOf name qual params body scope dV kV doc pm an cdv ct) args binds) (hloc : ∀ y ∈ binds, scope.names.lookup y.1 = some .local)
    (h : ∀ g L h₁, Fr g L h₁ (fun y => binds.reverse.lookup y) → News g L h₁ news → K.In g → Top p loose mean mg mb g → Ex (news.map (·.1)) s.heap g → (∀ b o, hb.get? b = some o → g.get? b = some o) →
      wpAny (model prog w) (A.deeper (envOf qual scope L f cdv)) (execs body (envOf qual scope L f cdv))
        (fun fl s' => R (.ok (.ret (match fl with | .ret v => v | _ => .none))) s')
        (fun e s' => wpAny (model prog w) (A.deeper (envOf qual scope L f cdv)) (leaving (envOf qual scope L f cdv) e) (fun _ s'' => R (.error e) s'') (fun e' s'' => R (.error e') s'') s')
        { s with heap := h₁, toks := s.toks + binds.length })
    (hco : scope.isCoroutine = false := by rfl) (hgen : scope.isGenerator = false := by rfl) (hk : scope.kind = .function := by rfl)
    (hcell : ∀ x ∈ scope.names, x.2 ≠ .cell := by decide) : codeAny (model prog w) A (.call (.ref f) args) R s := by
  have X' := X.keeps st
  refine codeAny_call_def (fd := fnOf name qual params body scope dV kV doc pm an cdv ct) (body := body) (binds := binds) hroom (X' _ _ ho) rfl (T.nolimit.keeps st) (codeRec_of X' hcd) rfl hbind hcell hloc (fun h₁ hns hk₁ => ?_) hco hgen hk
  have nm : ∀ b o, hb.get? b = some o → b ∉ news.map (·.1) := fun b o e q => by
    obtain ⟨p, hp, rfl⟩ := List.mem_map.mp q
    rw [(N p hp).2] at e; cases e
  have st' : ∀ b o, hb.get? b = some o → (hideAll s.heap (news.map (·.1))).get? b = some o := fun b o e => hideAll_get _ (st b o e) (nm b o e)
  exact h (hideAll s.heap (news.map (·.1))) s.heap.objs.size h₁
    ⟨hns, fun b o e => hk₁ b o (of_hideAll _ e), Nat.le_of_eq (hideAll_size _ _)⟩
    (fun p hp => ⟨hk₁ _ _ (N p hp).1, Nat.ne_of_lt (Heap.lt_size (N p hp).1), hideAll_none _ (List.mem_map_of_mem hp)⟩)
    (X.keeps st') (T.keeps st') (fun b o hb e => hideAll_get _ e hb) st'

theorem enterF {prog : Program} {w : World} {A : Around} {s : Shared} {hb : Heap} {news : List (Addr × Obj)} {K : Frag} {p : Program} {loose : List Str} {mean : ExcName → Option Value} {mg mb : Str → Option Value}
    {Q : Value → Shared → Prop} {E : Value → Shared → Prop} {name qual : Str} {params : Arguments} {body : List Stmt} {scope : Scope} {dV kV doc pm cdv ct oc : Value} {an od : Option Addr} {osl : Array (Option Value)} {f : Addr} {vals : List Value} {binds : List (Str × Value)}
    (X : K.In hb) (T : Top p loose mean mg mb hb) (st : ∀ b o, hb.get? b = some o → s.heap.get? b = some o)
    (N : ∀ q ∈ news, s.heap.get? q.1 = some q.2 ∧ hb.get? q.1 = none)
    (ho : K.lookup f = some ⟨oc, od, .func (fnOf name qual params body scope dV kV doc pm an cdv ct), osl⟩) (hcd : codeIn K cdv qual = true) (hroom : A.depth < recursionLimit)
    (hbind : BindsTo s (fnOf name qual params body scope dV kV doc pm an cdv ct) ⟨vals, []⟩ binds) (hloc : ∀ y ∈ binds, scope.names.lookup y.1 = some .local)
    (h : ∀ g L h₁, Fr g L h₁ (fun y => binds.reverse.lookup y) → News g L h₁ news → K.In g → Top p loose mean mg mb g → Ex (news.map (·.1)) s.heap g → (∀ b o, hb.get? b = some o → g.get? b = some o) →
      wpAny (model prog w) (A.deeper (envOf qual scope L f cdv)) (execs body (envOf qual scope L f cdv))
        (fun fl s' => Q (match fl with | .ret v => v | _ => .none) s') (fun _ _ => False) { s with heap := h₁, toks := s.toks + binds.length })
    (hco : scope.isCoroutine = false) (hgen : scope.isGenerator = false) (hk : scope.kind = .function)
    (hcell : ∀ x ∈ scope.names, x.2 ≠ .cell) : wpAny (model prog w) A (call (.ref f) vals) Q E s :=
  wpAny_call (enter X T st N ho hcd hroom hbind hloc (fun g L h₁ F N' X' T' xg stg => wpAny_mono (h g L h₁ F N' X' T' xg stg) (fun _ _ q => q) (fun _ _ q => q.elim)) hco hgen hk hcell)

/-- at a function's end: all but the handed objects stands -/
theorem leaveEx {g h h' : Heap} {L : Addr} {m : Str → Option Value} {as : List Addr} (F : Fr g L h' m) (x : Ex as h g) : Ex as h h' :=
  fun b o hb e => F.keep b o (x b o hb e)

theorem Ex.fr {g h h' : Heap} {L a : Addr} {m : Str → Option Value} (F : Fr g L h m) (x : Ex [a] h h') (haL : a ≠ L) (hag : g.get? a = none) : Fr g L h' m := by
  obtain ⟨oL, es, ep, hL, r⟩ := F.ns
  refine ⟨⟨oL, es, ep, x _ _ (by simpa using Ne.symm haL) hL, r⟩, fun b o e => x b o ?_ (F.keep b o e), F.above⟩
  intro q
  have : b = a := by simpa using q
  subst this; rw [hag] at e; cases e

theorem Ex.news {g h h' : Heap} {L a : Addr} {o o' : Obj} {rest : List (Addr × Obj)} (N : News g L h ((a, o) :: rest)) (x : Ex [a] h h') (hr : ∀ p ∈ rest, p.1 ≠ a) (ho : h'.get? a = some o') :
    News g L h' ((a, o') :: rest) := by
  intro p hp
  rcases List.mem_cons.mp hp with rfl | q
  · exact ⟨ho, (N _ (.head _)).2⟩
  · exact ⟨x _ _ (by simpa using hr p q) (N p (.tail _ q)).1, (N p (.tail _ q)).2⟩


abbrev BT := Array UInt8 × Tok
abbrev bv (p : BT) : Value := .bytes p.1 p.2
abbrev bl (l : List BT) (n : Nat) : Obj := listOf (l.map bv).toArray n
abbrev d0 : BT := (#[], 0)
/-- the order of two words -/
def blt (x y : BT) : Bool := Bytes.order x.1.toList y.1.toList == .lt

theorem slot_lt : Slot "bytes" (cmpInfo .Lt).2.1 "bytes.__lt__" :=
  .of (owner := "bytes") (n := "__lt__") (by rw [typeLookup_type, builtinLookup_eq_fast]; kernel_rfl) (by decide +kernel) (by decide +kernel) (by decide +kernel)
    (by first | exact .inl (by decide +kernel) | exact .inr (by decide +kernel)) (by rw [isSubtype_type]; kernel_rfl)
theorem entry_lt : entryFor table "bytes.__lt__" = some Builtin.«bytes.__lt__» := entryFor_of_tree (by kernel_rfl)
theorem args_lt (a b : Value) : argsOk "bytes.__lt__" ⟨[a, b], []⟩ := by
  unfold argsOk; rw [signature?_of (id := "bytes.__lt__") (n := ['_', '_', 't', 'l', '_', '_']) (o := ['s', 'e', 't', 'y', 'b']) (by kernel_rfl) FB.owner_bytes]; kernel_rfl
theorem gives_lt (b c : Array UInt8) (t u : Tok) : Gives («bytes.__lt__» ⟨[.bytes b t, .bytes c u], []⟩) (.val (.bool (blt (b, t) (c, u)))) := by
  refine .of_wp fun M A E s Q hq => ?_
  show wpAny M A (isInstance (.bytes c u) (.type "bytes") >>= fun r => _) _ E s
  refine wpAny_bind (wpAny_isInstance (typeIs_bytes s c u) F.sub_bytes_bytes ?_)
  exact wpAny_pure ⟨_, rfl, hq⟩

section
variable {prog : Program} {w : World} {A : Around} {E : Value → Shared → Prop} {s : Shared}
theorem lt_bytes {b c : Array UInt8} {t u : Tok} {Q : Value → Shared → Prop} (h : Q (.bool (blt (b, t) (c, u))) s) : wpAny (model prog w) A (compareOp .Lt (.bytes b t) (.bytes c u)) Q E s :=
  compareOp_gives (op := .Lt) (typeIs_bytes s b t) (typeIs_bytes s c u) slot_lt entry_lt (args_lt _ _) (gives_lt b c t u) (fun e => nomatch e) h

theorem getItem_b {a : Addr} {l : List BT} {n : Nat} {k : Int} {u : Tok} {Q : Value → Shared → Prop} (hl : s.heap.get? a = some (bl l n)) (h0 : 0 ≤ k) (h1 : k < l.length) (hfit : k < 2 ^ 63)
    (h : Q (bv (l.getD k.toNat d0)) s) : wpAny (model prog w) A (getItem (.ref a) (.int k u)) Q E s := by
  have hlt : k.toNat < l.length := by omega
  exact wpAny_getItem_list (PySem.IsL.isList (n := n) hl) h0 hfit (x := bv (l.getD k.toNat d0)) (by simp [hlt]) h
theorem item_b {value slice : Expr} {a : Addr} {l : List BT} {n : Nat} {k : Int} {u : Tok} {Q : Value → Shared → Prop} (hl : s.heap.get? a = some (bl l n)) (h0 : 0 ≤ k) (h1 : k < l.length) (hfit : k < 2 ^ 63)
    (h : Q (bv (l.getD k.toNat d0)) s)
    (hs : subscripted slice false (.ref a) (.int k u) = operate [.ref a, .int k u] (getItem (.ref a) (.int k u)) := by with_unfolding_all rfl) :
    wpAny (model prog w) A (subscriptTail value slice (.ref a) (.int k u)) Q E s :=
  tail_any (PySem.IsL.isList (n := n) hl).typeIs slot_list_getitem.lookup (getItem_b hl h0 h1 hfit h) hs

theorem setItem_b {g : Heap} {L a : Addr} {m : Str → Option Value} {rest : List (Addr × Obj)} {l : List BT} {n : Nat} {k : Int} {t u : Tok} {b : Array UInt8} {Q : Unit → Shared → Prop}
    (F : Fr g L s.heap m) (N : News g L s.heap ((a, bl l n) :: rest)) (hr : ∀ p ∈ rest, p.1 ≠ a) (h0 : 0 ≤ k) (h1 : k < l.length) (hfit : k < 2 ^ 63)
    (h : ∀ h', Fr g L h' m → News g L h' ((a, bl (l.set k.toNat (b, t)) n) :: rest) → Q () { s with heap := h' }) :
    wpAny (model prog w) A (setItem (.ref a) (.int k u) (.bytes b t)) Q E s := by
  have z := N _ (.head _)
  refine ki_setAt z.1 h0 hfit (by simpa using h1) (h _ (F.change (Heap.SameBut.update ..) z.2.1 z.2.2) (ki_turn (pre := []) _ N (fun _ h => nomatch h) hr ?_ ?_))
  · show (l.map bv).toArray.setIfInBounds k.toNat (.bytes b t) = ((l.set k.toNat (b, t)).map bv).toArray
    apply Array.toList_inj.mp
    simp [List.map_set]
  · simp
end

theorem Fr.pin {g h : Heap} {L : Addr} {m : Str → Option Value} (F : Fr g L h m) (x : Str) {v : Value} (hv : m x = some v) : Fr g L h (fun y => if y = x then some v else m y) := by
  have : m = fun y => if y = x then some v else m y := by
    funext y; by_cases e : y = x
    · subst e; simp [hv]
    · simp [e]
  rw [← this]; exact F

def Has (m : Str → Option Value) : List (Str × Value) → Prop
  | [] => True
  | (x, v) :: r => m x = some v ∧ Has m r
theorem Has.get {m : Str → Option Value} {x : Str} {v : Value} : ∀ {ps : List (Str × Value)}, Has m ps → ps.lookup x = some v → m x = some v
  | [], _, e => nomatch e
  | (y, u) :: r, h, e => by
    rw [List.lookup_cons] at e
    by_cases q : x = y
    · subst q; simp at e; subst e; exact h.1
    · have : (x == y) = false := by simpa using q
      rw [this] at e; exact Has.get h.2 e
theorem Fr.pins {g h : Heap} {L : Addr} {m : Str → Option Value} (F : Fr g L h m) {ps : List (Str × Value)} (hv : Has m ps) : Fr g L h (fun y => match ps.lookup y with | some v => some v | none => m y) := by
  have : m = fun y => match ps.lookup y with | some v => some v | none => m y := by
    funext y
    cases e : ps.lookup y with
    | none => rfl
    | some v => exact hv.get e
  rw [← this]; exact F

/-- what _siftdown makes of the row -/
def sd (l : List BT) (x : BT) (sp pos : Nat) : List BT :=
  if h : sp < pos then
    if blt x (l.getD ((pos - 1) / 2) d0) then sd (l.set pos (l.getD ((pos - 1) / 2) d0)) x sp ((pos - 1) / 2) else l.set pos x
  else l.set pos x
termination_by pos
decreasing_by omega

section
variable {prog : Program} {w : World} {A : Around} {E : Value → Shared → Prop} {s : Shared}
theorem len_b {a : Addr} {l : List BT} {n : Nat} {Q : Value → Shared → Prop} (hl : s.heap.get? a = some (bl l n)) (hsz : l.length < 2 ^ 60)
    (h : ∀ t tk, Q (.int l.length t) { s with toks := tk }) : wpAny (model prog w) A (call (.builtin "len") [.ref a]) Q E s := by
  refine len_list (PySem.IsL.isList (n := n) hl) (by simp; omega) ?_
  have := h (s.toks + 1) (s.toks + 1 + 1)
  simpa using this
end
local macro_rules | `(tactic| walk_at "subscriptTail") => `(tactic| (k_here; (with_reducible show wpAny _ _ (subscriptTail _ _ (Value.ref _) (Value.int _ _)) _ _ _); k_dflt (refine' item_b ?k1 ?k2 ?k3 ?k4 ?_ ?k5; (case k1 => exact News.get (by k_asm) (by k_mem)); (case k2 => omega); (case k3 => (try simp only [List.length_set, List.length_append, List.length_cons, List.length_nil]); omega); (case k4 => omega); (case k5 => with_unfolding_all rfl); k_whole)))
local macro_rules | `(tactic| walk_at "setItem ref int bytes") => `(tactic| (k_here; k_dflt (refine' setItem_b ?k1 ?k2 ?k3 ?k4 ?k5 ?k6 ?_; (case k1 => k_asm); (case k2 => k_asm); (case k3 => k_all); (case k4 => omega); (case k5 => (try simp only [List.length_set, List.length_append, List.length_cons, List.length_nil]); omega); (case k6 => omega); k_whole); intro h' F' N'; (try k_sweep)))
local macro_rules | `(tactic| walk_at "compareOp Lt bytes bytes") => `(tactic| refine lt_bytes ?_)
local macro_rules | `(tactic| walk_at "call builtin:len") => `(tactic| (k_here; (with_reducible show wpAny _ _ (call (Value.builtin "len") [Value.ref _]) _ _ _); k_dflt (refine' len_b ?k1 ?k2 ?_; (case k1 => exact News.get (by k_asm) (by k_mem)); (case k2 => (try simp only [List.length_set, List.length_append, List.length_cons, List.length_nil]); omega); k_whole); intro t' tk'; (try dsimp only)))

section
variable {prog : Program} {w : World} {A : Around} {E : Value → Shared → Prop} {s : Shared} {a b n : Int} {t u : Tok} {Q : Value → Shared → Prop}
theorem add_W (h : ∀ t tk, Q (.int (a + b) t) { s with toks := tk }) : wpAny (model prog w) A (binaryOp .Add (.int a t) (.int b u)) Q E s := PyProof.Rows.add_int (h _ _)
theorem sub_W (h : ∀ t tk, Q (.int (a - b) t) { s with toks := tk }) : wpAny (model prog w) A (binaryOp .Sub (.int a t) (.int b u)) Q E s := PyProof.Rows.sub_int (h _ _)
theorem mul_W (hm : IntMulOk a b) (h : ∀ t tk, Q (.int (a * b) t) { s with toks := tk }) : wpAny (model prog w) A (binaryOp .Mult (.int a t) (.int b u)) Q E s := PyProof.Rows.mul_int (h _ _) hm
theorem rshift_W (hn : 0 ≤ n) (h : ∀ t tk, Q (.int (a.fdiv (2 ^ n.toNat)) t) { s with toks := tk }) : wpAny (model prog w) A (binaryOp .RShift (.int a t) (.int n u)) Q E s := PyProof.Rows.rshift_int hn (h _ _)
theorem fmod_W (hb : b ≠ 0) (h : ∀ t tk, Q (.int (a.fmod b) t) { s with toks := tk }) : wpAny (model prog w) A (binaryOp .Mod (.int a t) (.int b u)) Q E s := PyProof.Rows.mod_int' hb (h _ _)
theorem pow_W (hn : 0 ≤ n) (hn2 : n ≤ 1000000) (ha : a.natAbs < 2 ^ 64) (h : ∀ t tk, Q (.int (a ^ n.toNat) t) { s with toks := tk }) : wpAny (model prog w) A (binaryOp .Pow (.int a t) (.int n u)) Q E s := PyProof.Rows.pow_int_small hn hn2 ha (h _ _)
theorem const_W {M : Model} {i : Int} {k : Nat} {pos : Pos} {env : Env} (h : ∀ t tk, Q (.int i t) { s with toks := tk }) : wpAny M A (eval (.Constant (.int i) k pos) env) Q E s := wpAny_Constant_int (h _ _)
theorem st_W {g : Heap} {L ad : Addr} {m : Str → Option Value} {news : List (Addr × Obj)} {M : Model} {name : Str} {scope : Scope} {cd : Value} {x : Str} {v : Value} {Q : Unit → Shared → Prop} (F : Fr g L s.heap m) (N : News g L s.heap news)
    (h : ∀ h' tk, Fr g L h' (fun y => if y = x then some v else m y) → News g L h' news → Q () { s with heap := h', toks := tk })
    (hk : scope.kind = .function) (hl : (envOf name scope L ad cd).kindOf x = some .local) :
    wpAny M A (storeName (envOf name scope L ad cd) x v) Q E s := stN F N (fun h' F' N' => h h' _ F' N') hk hl
end
local macro_rules | `(tactic| walk_at "storeName") => `(tactic| (k_here; k_dflt (refine' st_W ?k1 ?k2 ?_ ?k3 ?k4; (case k1 => k_asm); (case k2 => k_asm); (case k3 => exact rfl); (case k4 => exact rfl); k_whole); intro h' tk' F' N'; (try k_sweep); (try dsimp only)))
local macro_rules | `(tactic| walk_at "binaryOp Add int int") => `(tactic| (refine add_W ?_; intro t' tk'; try dsimp only))
local macro_rules | `(tactic| walk_at "binaryOp Sub int int") => `(tactic| (refine sub_W ?_; intro t' tk'; try dsimp only))
local macro_rules | `(tactic| walk_at "binaryOp Mult int int") => `(tactic| (refine mul_W (by mul_fits) ?_; intro t' tk'; try dsimp only))
local macro_rules | `(tactic| walk_at "binaryOp RShift int int") => `(tactic| (refine rshift_W (by omega) ?_; intro t' tk'; try dsimp only))
local macro_rules | `(tactic| walk_at "eval Constant int") => `(tactic| (refine const_W ?_; intro t' tk'; try dsimp only))



section
variable {w : World} {A : Around} {s : Shared} {hb : Heap} {mean : ExcName → Option Value} {mg mb : Str → Option Value} {E : Value → Shared → Prop} {Q : Value → Shared → Prop}

theorem siftdown_call
    {a : Addr} {l : List BT} {n : Nat} {sp p : Nat} {t1 t2 : Tok}
    (X : (hd.heap_39 w.params).In hb) (T : Top hd.view_39 (looseW hd.view_39 []) mean mg mb hb) (st : ∀ b o, hb.get? b = some o → s.heap.get? b = some o)
    (hl : s.heap.get? a = some (bl l n)) (ha : hb.get? a = none) (hroom : A.depth < recursionLimit)
    (hp : p < l.length) (hsz : l.length < 1000)
    (h : ∀ h' tk, Ex [a] s.heap h' → h'.get? a = some (bl (sd l (l.getD p d0) sp p) n) → Q .none { s with heap := h', toks := tk }) :
    wpAny (model PySem.Challenge.rw_nq0033_01.row.prog w) A (call (.ref 56) [.ref a, .int sp t1, .int p t2]) Q E s := by
  refine' enterF X T st (news := [(a, bl l n)]) (binds := [(Str.ofString "heap", .ref a), (Str.ofString "startpos", .int sp t1), (Str.ofString "pos", .int p t2)]) (by simpa using ⟨hl, ha⟩) ?k6 ?k7 hroom ?k9 ?kB ?_ ?c2 ?c3 ?c4 ?c5
  case k6 => k_is
  case k7 => k_is
  case k9 => exact BindsTo.of_eq rfl
  case kB => exact locs rfl
  case c2 => exact rfl
  case c3 => exact rfl
  case c4 => exact rfl
  case c5 => decide
  intro g L h₁ F N X' T' xg stg
  iterate 9 walk1
  rename Fr _ _ _ _ => F2; rename News _ _ _ _ => N2
  refine While_inv2 (n₀ := p) (fun k m news => ∃ (l' : List BT) (t : Tok), Has m [(Str.ofString "heap", .ref a), (Str.ofString "startpos", .int sp t1), (Str.ofString "pos", .int (k : Nat) t), (Str.ofString "newitem", bv (l.getD p d0))] ∧ news = [(a, bl l' n)] ∧ k < l'.length ∧ l'.length = l.length ∧ sd l' (l.getD p d0) sp k = sd l (l.getD p d0) sp p) F2 N2 ⟨l, t2, ⟨rfl, rfl, rfl, rfl, trivial⟩, rfl, hp, rfl, rfl⟩ ?_ PassesOwn.never
  intro k m₁ news₁ h₁ tk₁ F₁ N₁ J₁
  obtain ⟨l', t, hm, rfl, hk, hll, hsd⟩ := J₁
  have F₁ := Fr.pins F₁ hm
  clear hm F2 N2
  iterate 5 walk1
  by_cases hlt : sp < k
  · rw [if_pos (by simpa using hlt)]
    iterate 9 walk1
    have e : ((k : Int) - 1).fdiv (2 ^ Int.toNat 1) = (((k - 1) / 2 : Nat) : Int) := by
      show ((k : Int) - 1).fdiv 2 = _
      rw [Int.fdiv_eq_ediv_of_nonneg _ (by omega)]; omega
    rw [e]
    have hpp : (k - 1) / 2 < l'.length := by omega
    generalize hq : (k - 1) / 2 = q at *
    repeat' walk1
    · rename blt _ _ = true => hb1
      have hb2 : blt (l.getD p d0) (l'.getD q d0) = true := hb1
      rename Fr _ _ _ _ => F3; rename News _ _ _ _ => N3
      refine ⟨_, _, _, _, q, rfl, F3, N3, by omega, _, _, ⟨rfl, rfl, rfl, rfl, trivial⟩, rfl, by simpa using hpp, by simpa using hll, ?_⟩
      rw [← hsd, sd.eq_1 l' (l.getD p d0) sp k, dif_pos hlt, hq, if_pos hb2]
      rfl
    · rename blt _ _ = false => hb1
      have hb2 : ¬ blt (l.getD p d0) (l'.getD q d0) = true := by rw [show blt (l.getD p d0) (l'.getD q d0) = false from hb1]; exact fun x => nomatch x
      dsimp only [WhileStep2]
      repeat' walk1
      rename Fr _ _ _ _ => F3; rename News _ _ _ _ => N3
      have e : sd l (l.getD p d0) sp p = l'.set k (l.getD p d0) := by rw [← hsd, sd, dif_pos hlt, hq, if_neg hb2]
      refine h _ _ (leaveEx F3 xg) ?_
      have := (N3 _ (.head _)).1
      rw [e]
      exact this
  · rw [if_neg (by simpa using hlt)]
    dsimp only
    repeat' walk1
    rename Fr _ _ _ _ => F3; rename News _ _ _ _ => N3
    have e : sd l (l.getD p d0) sp p = l'.set k (l.getD p d0) := by rw [← hsd, sd, dif_neg hlt]
    refine h _ _ (leaveEx F3 xg) ?_
    have := (N3 _ (.head _)).1
    rw [e]
    exact this
end


/-- the smaller child -/
def pick (l : List BT) (c : Nat) : Nat := if c + 1 < l.length ∧ ¬ blt (l.getD c d0) (l.getD (c + 1) d0) = true then c + 1 else c
theorem pick_gt (l : List BT) (c : Nat) : c ≤ pick l c := by unfold pick; split <;> omega
theorem pick_lt (l : List BT) (c : Nat) (h : c < l.length) : pick l c < l.length := by unfold pick; split <;> omega
def suL (l : List BT) (pos : Nat) : List BT × Nat :=
  if h : 2 * pos + 1 < l.length then suL (l.set pos (l.getD (pick l (2 * pos + 1)) d0)) (pick l (2 * pos + 1)) else (l, pos)
termination_by l.length - pos
decreasing_by
  have := pick_gt l (2 * pos + 1); have := pick_lt l _ h
  simp only [List.length_set]; omega
/-- what _siftup makes of the row -/
def su (l : List BT) (pos : Nat) : List BT := sd ((suL l pos).1.set (suL l pos).2 (l.getD pos d0)) (l.getD pos d0) pos (suL l pos).2


section
variable {w : World} {A : Around} {s : Shared} {hb : Heap} {mean : ExcName → Option Value} {mg mb : Str → Option Value} {E : Value → Shared → Prop} {Q : Value → Shared → Prop}

theorem siftup_call
    {a : Addr} {l : List BT} {n : Nat} {p : Nat} {t2 : Tok}
    (X : (hd.heap_39 w.params).In hb) (T : Top hd.view_39 (looseW hd.view_39 []) mean mg mb hb) (st : ∀ b o, hb.get? b = some o → s.heap.get? b = some o)
    (hl : s.heap.get? a = some (bl l n)) (ha : hb.get? a = none) (hroom : A.depth + 1 < recursionLimit)
    (hp : p < l.length) (hsz : l.length < 1000)
    (h : ∀ h' tk, Ex [a] s.heap h' → h'.get? a = some (bl (su l p) n) → Q .none { s with heap := h', toks := tk }) :
    wpAny (model PySem.Challenge.rw_nq0033_01.row.prog w) A (call (.ref 63) [.ref a, .int p t2]) Q E s := by
  refine' enterF X T st (news := [(a, bl l n)]) (binds := [(Str.ofString "heap", .ref a), (Str.ofString "pos", .int p t2)]) (by simpa using ⟨hl, ha⟩) ?k6 ?k7 (depth_lt hroom) ?k9 ?kB ?_ ?c2 ?c3 ?c4 ?c5
  case k6 => k_is
  case k7 => k_is
  case k9 => exact BindsTo.of_eq rfl
  case kB => exact locs rfl
  case c2 => exact rfl
  case c3 => exact rfl
  case c4 => exact rfl
  case c5 => decide
  intro g L h₁ F N X' T' xg stg
  iterate 33 walk1
  rename Fr _ _ _ _ => F2; rename News _ _ _ _ => N2
  refine While_inv2 (n₀ := l.length - p) (fun k m news => ∃ (l' : List BT) (q : Nat) (t tc te : Tok), Has m [(Str.ofString "heap", .ref a), (Str.ofString "startpos", .int p t2), (Str.ofString "endpos", .int l.length te), (Str.ofString "pos", .int (q : Nat) t), (Str.ofString "childpos", .int (2 * (q : Nat) + 1) tc), (Str.ofString "newitem", bv (l.getD p d0))] ∧ news = [(a, bl l' n)] ∧ k = l.length - q ∧ q < l.length ∧ l'.length = l.length ∧ suL l' q = suL l p) F2 N2 ⟨l, p, _, _, _, ⟨rfl, rfl, rfl, rfl, rfl, rfl, trivial⟩, rfl, rfl, hp, rfl, rfl⟩ ?_ PassesOwn.never
  intro k m₁ news₁ h₁ tk₁ F₁ N₁ J₁
  obtain ⟨l', q, t, tc, te, hm, rfl, hk, hq, hll, hsu⟩ := J₁
  have F₁ := Fr.pins F₁ hm
  clear hm F2 N2
  iterate 5 walk1
  by_cases hlt : 2 * q + 1 < l.length
  · rw [if_pos (by simp; omega)]
    have fin : suL l p = suL (l'.set q (l'.getD (pick l' (2 * q + 1)) d0)) (pick l' (2 * q + 1)) := by rw [← hsu, suL, dif_pos (by omega)]
    repeat' walk1
    · rename blt _ _ = true => hb1
      rename Fr _ _ _ _ => F3
      rename News _ _ _ _ => N3
      have hgl := pick_lt l' (2 * q + 1) (by omega)
      have hgg := pick_gt l' (2 * q + 1)
      have e1 : (2 * (q : Int) + 1).toNat = 2 * q + 1 := by omega
      have e2 : (2 * (q : Int) + 1 + 1).toNat = 2 * q + 1 + 1 := by omega
      have e3 : (q : Int).toNat = q := by omega
      have hpk : pick l' (2 * q + 1) = 2 * q + 1 := by
        rw [e1, e2] at hb1; unfold pick; rw [if_neg (fun x => x.2 hb1)]
      rw [hpk] at hgl hgg fin
      rw [e1] at N3
      exact ⟨_, _, _, _, l.length - (2 * q + 1), rfl, F3, N3, by omega, _, 2 * q + 1, _, _, _, ⟨rfl, rfl, rfl, rfl, rfl, rfl, trivial⟩, rfl, rfl, by omega, by simpa using hll, fin.symm⟩
    · rename blt _ _ = false => hb1
      rename Fr _ _ _ _ => F3
      rename News _ _ _ _ => N3
      have hgl := pick_lt l' (2 * q + 1) (by omega)
      have hgg := pick_gt l' (2 * q + 1)
      have e1 : (2 * (q : Int) + 1).toNat = 2 * q + 1 := by omega
      have e2 : (2 * (q : Int) + 1 + 1).toNat = 2 * q + 1 + 1 := by omega
      have e3 : (q : Int).toNat = q := by omega
      have hpk : pick l' (2 * q + 1) = 2 * q + 1 + 1 := by
        rw [e1, e2] at hb1; unfold pick; rw [if_pos ⟨by omega, by simpa using hb1⟩]
      rw [hpk] at hgl hgg fin
      rw [e2] at N3
      exact ⟨_, _, _, _, l.length - (2 * q + 1 + 1), rfl, F3, N3, by omega, _, 2 * q + 1 + 1, _, _, _, ⟨rfl, rfl, rfl, rfl, rfl, rfl, trivial⟩, rfl, rfl, by omega, by simpa using hll, fin.symm⟩
    · rename Fr _ _ _ _ => F3
      rename News _ _ _ _ => N3
      have hgl := pick_lt l' (2 * q + 1) (by omega)
      have hgg := pick_gt l' (2 * q + 1)
      have e1 : (2 * (q : Int) + 1).toNat = 2 * q + 1 := by omega
      have e2 : (2 * (q : Int) + 1 + 1).toNat = 2 * q + 1 + 1 := by omega
      have e3 : (q : Int).toNat = q := by omega
      have hpk : pick l' (2 * q + 1) = 2 * q + 1 := by
        unfold pick; rw [if_neg (fun x => by have := x.1; omega)]
      rw [hpk] at hgl hgg fin
      rw [e1] at N3
      exact ⟨_, _, _, _, l.length - (2 * q + 1), rfl, F3, N3, by omega, _, 2 * q + 1, _, _, _, ⟨rfl, rfl, rfl, rfl, rfl, rfl, trivial⟩, rfl, rfl, by omega, by simpa using hll, fin.symm⟩
  · rw [if_neg (by simp; omega)]
    dsimp only
    repeat walk1
    rename Fr _ _ _ _ => F3; rename News _ _ _ _ => N3
    have hsu' : suL l p = (l', q) := by rw [← hsu, suL, dif_neg (by omega)]
    refine siftdown_call (hb := g) X' T' (fun b o e => F3.keep b o e) (N3.get (.head _)) (N3.fresh (.head _)) (by first | exact deep_ok hroom | exact deep_lt hroom) (by simp; omega) (by simp; omega) ?_
    intro h4 tk4 x4 hl4
    iterate 1 walk1
    refine h _ _ ?_ ?_
    · exact fun b o hb e => x4 b o hb (F3.keep b o (xg b o hb e))
    · have e : ((l'.set (q : Int).toNat (l.getD p d0)).getD q d0) = l.getD p d0 := by simp [hll, hq]
      unfold su
      rw [hsu']
      rw [e] at hl4
      exact hl4
end

/-- a range's iterator -/
abbrev rit (x left step : Int) : Obj := { cls := .type "range_iterator", dict := none, data := .fields #[rawInt x, rawInt left, rawInt step], slots := #[] }
def ForEnd (g : Heap) (L : Addr) (s : Shared) (J : (Str → Option Value) → List (Addr × Obj) → Prop) (own : List (Addr × Obj)) (Q : Flow → Shared → Prop) (f : Flow) (s₃ : Shared) : Prop :=
  match f with
  | .next | .cont => ∃ h' tk m₂ news₂, s₃ = { s with heap := h', toks := tk } ∧ Fr g L h' m₂ ∧ News g L h' (own ++ news₂) ∧ (∀ p ∈ own, ∀ q ∈ news₂, q.1 ≠ p.1) ∧ J m₂ news₂
  | .brk => Q .next s₃
  | .ret v => Q (.ret v) s₃
section
variable {prog : Program} {w : World} {A : Around} {s : Shared} {env : Env} {g : Heap} {L : Addr}

theorem sameBut_fr {h h' : Heap} {m : Str → Option Value} {I : Addr} (F : Fr g L h m) (hs : ∀ b o, b ≠ I → h.get? b = some o → h'.get? b = some o) (hIL : I ≠ L) (hIg : g.get? I = none) : Fr g L h' m := by
  obtain ⟨oL, es, ep, hL, r⟩ := F.ns
  refine ⟨⟨oL, es, ep, hs _ _ (Ne.symm hIL) hL, r⟩, fun b o e => hs b o ?_ (F.keep b o e), F.above⟩
  rintro rfl; rw [hIg] at e; cases e
theorem sameBut_news {h h' : Heap} {I : Addr} {news : List (Addr × Obj)} (N : News g L h news) (hs : ∀ b o, b ≠ I → h.get? b = some o → h'.get? b = some o) (hn : ∀ p ∈ news, p.1 ≠ I) : News g L h' news :=
  fun p hp => ⟨hs _ _ (hn p hp) (N p hp).1, (N p hp).2⟩

theorem for_rng {x : Str} {px : Pos} {body : List Stmt} {I : Addr} {a c : Int} {n : Nat} {m : Str → Option Value} {news : List (Addr × Obj)} {Q : Flow → Shared → Prop}
    (hL : env.locals = L) (hh : A.handled = none) (hx : env.kindOf x = some .local) (hp : (env.scope.kind == .class || (env.scope.kind == .module && env.locals != env.globals)) = false)
    (F : Fr g L s.heap m) (N : News g L s.heap ((I, rit a n c) :: news)) (hne : ∀ p ∈ news, p.1 ≠ I)
    (J : Nat → (Str → Option Value) → List (Addr × Obj) → Prop) (hJ : J 0 m news)
    (turn : ∀ i m₁ news₁ h₁ tk₁ t, i < n → J i m₁ news₁ → (∀ p ∈ news₁, p.1 ≠ I) → Fr g L h₁ (fun y => if y = x then some (.int (a + i * c) t) else m₁ y) → News g L h₁ ((I, rit (a + (i + 1 : Nat) * c) (n - (i + 1 : Nat)) c) :: news₁) →
      wpAny (model prog w) A (execs body env) (ForEnd g L s (J (i + 1)) [(I, rit (a + (i + 1 : Nat) * c) (n - (i + 1 : Nat)) c)] Q) (fun _ _ => False) { s with heap := h₁, toks := tk₁ })
    (done : ∀ m₁ news₁ h₁ tk₁, J n m₁ news₁ → Fr g L h₁ m₁ → News g L h₁ news₁ → Q .next { s with heap := h₁, toks := tk₁ }) :
    codeAny (model prog w) A (.forLoop (.Name x px) (.ref I) body [] env) (fun r s' => match r with | .ok f => Q f s' | .error e => cameBackBy (model prog w) A env (fun _ _ => False) e s') s := by
  subst hL
  refine codeAny_forLoop (fun k s' => ∃ h' tk m' news' i, s' = { s with heap := h', toks := tk } ∧ Fr g env.locals h' m' ∧ News g env.locals h' ((I, rit (a + (i : Nat) * c) (n - (i : Nat)) c) :: news') ∧ (∀ p ∈ news', p.1 ≠ I) ∧ J i m' news' ∧ i ≤ n ∧ k = n + 1 - i)
    ?_ (n + 1) ⟨s.heap, s.toks, m, news, 0, rfl, F, by simpa using N, hne, hJ, Nat.zero_le _, rfl⟩
  rintro k s' ⟨h', tk, m', news', i, rfl, F', N', hne', hJ', hi, rfl⟩
  have z := N' _ (.head _)
  have hit : IsRangeIter h' I (a + (i : Nat) * c) (n - (i : Nat)) c := z.1
  by_cases hlt : i < n
  · refine wpAny_pyNext_range_item hit (by omega) fun h₁ hit₁ hs₁ => ?_
    have F₁ := sameBut_fr F' (fun b o hb e => hs₁.extBut b o hb e) z.2.1 z.2.2
    have e1 : (a + (i : Nat) * c) + c = a + ((i + 1 : Nat) : Int) * c := by push_cast; rw [Int.add_mul]; omega
    have e2 : ((n : Int) - (i : Nat)) - 1 = n - ((i + 1 : Nat) : Int) := by push_cast; omega
    rw [e1, e2] at hit₁
    have N₁ : News g env.locals h₁ ((I, rit (a + (i + 1 : Nat) * c) (n - (i + 1 : Nat)) c) :: news') := by
      intro p hp
      rcases List.mem_cons.mp hp with rfl | q
      · exact ⟨hit₁, z.2⟩
      · exact sameBut_news (fun p hp => N' p (.tail _ hp)) (fun b o hb e => hs₁.extBut b o hb e) hne' p q
    refine wpAny_assign_Name (wpAny_storeName_local hx F₁.ns (fun h₂ hn₂ hs₂ => ?_) hp)
    refine wpAny_passesOwn PassesOwn.never (wpAny_mono (turn i m' news' h₂ _ _ hlt hJ' hne' (F₁.set hn₂ hs₂) (N₁.set hs₂)) (fun f s₃ h₃ => ?_) fun _ _ e => e)
    cases f with
    | next | cont =>
      obtain ⟨h₄, tk₄, m₂, news₂, rfl, F₂, N₂, hd, J₂⟩ := h₃
      exact ⟨n + 1 - (i + 1), by omega, h₄, tk₄, m₂, news₂, i + 1, rfl, F₂, N₂, fun q hq => hd _ (.head _) q hq, J₂, hlt, rfl⟩
    | brk => exact h₃
    | ret v => exact h₃
  · have hie : i = n := by omega
    subst hie
    refine wpAny_pyNext_range_end hh hit (by omega) fun h₁ he₁ => wpAny_execs_nil ?_
    exact done m' news' h₁ tk hJ' (sameBut_fr F' (fun b o hb e => he₁ b o hb e) z.2.1 z.2.2) (sameBut_news (fun p hp => N' p (.tail _ hp)) (fun b o hb e => he₁ b o hb e) hne')

theorem For_rng {x : Str} {px pos : Pos} {iter : Expr} {body : List Stmt} {Q : Flow → Shared → Prop}
    (h : wpAny (model prog w) A (eval iter env) (fun xv s₁ => wpAny (model prog w) A (pyIter xv) (fun it s₂ =>
      codeAny (model prog w) A (.forLoop (.Name x px) it body [] env) (fun r s' => match r with | .ok f => Q f s' | .error e => cameBackBy (model prog w) A env (fun _ _ => False) e s') s₂) (fun _ _ => False) s₁) (fun _ _ => False) s)
    (hs : ∀ x, foldedSetIterable iter env x = pure x) :
    wpAny (model prog w) A (exec (.For (.Name x px) iter body [] pos) env) Q (fun _ _ => False) s := wpAny_For h hs
end

theorem Ex.fr0 {g h h' : Heap} {L : Addr} {m : Str → Option Value} (F : Fr g L h m) (x : Ex [] h h') : Fr g L h' m := by
  obtain ⟨oL, es, ep, hL, r⟩ := F.ns
  exact ⟨⟨oL, es, ep, x _ _ (by simp) hL, r⟩, fun b o e => x b o (by simp) (F.keep b o e), F.above⟩
theorem Ex.news0 {g h h' : Heap} {L : Addr} {news : List (Addr × Obj)} (N : News g L h news) (x : Ex [] h h') : News g L h' news :=
  fun p hp => ⟨x _ _ (by simp) (N p hp).1, (N p hp).2⟩

theorem slot_rrev : Slot "range" "__reversed__" "range.__reversed__" :=
  .of (owner := "range") (n := "__reversed__") (by rw [typeLookup_type, builtinLookup_eq_fast]; kernel_rfl) (by decide +kernel) (by decide +kernel) (by decide +kernel)
    (by first | exact .inl (by decide +kernel) | exact .inr (by decide +kernel)) (by rw [isSubtype_type]; kernel_rfl)
theorem entry_rrev : entryFor table "range.__reversed__" = some Builtin.«range.__reversed__» := entryFor_of_tree (by kernel_rfl)
theorem args_rrev (a : Value) : argsOk "range.__reversed__" ⟨[a], []⟩ := by unfold argsOk; kernel_rfl
theorem sub_rit_reversed : isSubtype (.type "range_iterator") (.type "reversed") = pure false := by rw [isSubtype_type]; kernel_rfl
section
variable {prog : Program} {w : World} {A : Around} {E : Value → Shared → Prop} {s : Shared}
theorem call_rrev {r : Addr} {n : Nat} {t u v : Tok} {Q : Value → Shared → Prop} (hr : IsRange s.heap r 0 n 1 t u v) (hn : n < 2 ^ 40)
    (h : Q (.ref s.heap.objs.size) { s with heap := s.heap.push (rit ((n : Int) - 1) n (-1)) }) : wpAny (model prog w) A (call (.builtin "range.__reversed__") [.ref r]) Q E s := by
  have hT : s.TypeIs (.ref r) "range" := ⟨_, hr, rfl⟩
  refine wpAny_call_entry slot_rrev hT entry_rrev ?_ (args_rrev _)
  unfold Builtin.«range.__reversed__»
  refine wpAny_bind (wpAny_of_eq (a := Value.ref r) rfl ?_)
  have e1 : Builtin.Range.rangeSize 0 n 1 = n := by unfold Builtin.Range.rangeSize; simp; omega
  have sm : (Builtin.Range.rangeFitsLong 0 && Builtin.Range.rangeFitsLong n && Builtin.Range.rangeFitsLong 1 && Builtin.Range.rangeFitsLong (-1) && Builtin.Range.rangeFitsLong (0 - 1) && Builtin.Range.rangeFitsLong n) = true := by
    simp [Builtin.Range.rangeFitsLong]; omega
  refine wpAny_bind ?_
  unfold Builtin.Range.rangeFields
  refine wpAny_bind (wpAny_field hr rfl (x := .int 0 t) rfl ?_)
  refine wpAny_bind (wpAny_of_eq (a := some 0) rfl ?_)
  refine wpAny_bind (wpAny_field hr rfl (x := .int n u) rfl ?_)
  refine wpAny_bind (wpAny_of_eq (a := some (n : Int)) rfl ?_)
  refine wpAny_bind (wpAny_field hr rfl (x := .int 1 v) rfl ?_)
  show wpAny _ _ (Pure.pure ((0 : Int), (n : Int), (1 : Int)) : Sem (Int × Int × Int)) _ _ _
  refine wpAny_pure ?_
  dsimp only
  rw [e1, sm]
  simp only [if_true, Bool.not_true, Bool.false_eq_true, if_false]
  refine wpAny_bind ?_
  unfold newFields
  refine wpAny_newObj_type (wpAny_pure ⟨_, rfl, ?_⟩)
  rw [show (0 : Int) + ((n : Int) - 1) * 1 = n - 1 by omega]
  exact h
theorem code_rrev_new {r : Addr} {n : Nat} {t u v : Tok} {Q₁ : Value → Shared → Prop} (hr : IsRange s.heap r 0 n 1 t u v) (hn : n < 2 ^ 40)
    (h : Q₁ (.ref s.heap.objs.size) { s with heap := s.heap.push (rit ((n : Int) - 1) n (-1)) }) :
    codeAny (model prog w) A (.call (.builtin "reversed.__new__") ⟨[.type "reversed", .ref r], []⟩) (wants Q₁ E) s := by
  have hT : s.TypeIs (.ref r) "range" := ⟨_, hr, rfl⟩
  refine codeAny_of_tree ?_
  show wpAny _ A.in1 (do checkBuiltinCall "reversed.__new__" ⟨[.type "reversed", .ref r], []⟩; again (.builtin "reversed.__new__" ⟨[.type "reversed", .ref r], []⟩)) _ _ s
  refine wpAny_bind (wpAny_of_eq (F.newCall_reversed_1 _) (wpAny_pure ⟨plainId_quiet F.plain_reversed_new _, codeAny_builtin F.entry_reversed_new ?_⟩))
  rw [Around.under_plainId F.plain_reversed_new _]
  unfold Builtin.«reversed.__new__»
  refine wpAny_bind (wpAny_of_eq (newClass_reversed _) ?_)
  try dsimp only
  refine wpAny_bind (wpAny_of_eq (a := ()) (by first | rfl | kernel_rfl) ?_)
  refine wpAny_bind (wpAny_of_eq (a := ()) (by first | rfl | kernel_rfl) ?_)
  try dsimp only
  refine wpAny_bind (wpAny_specialOf hT slot_rrev.lookup ?_)
  try dsimp only
  refine wpAny_bind (wpAny_of_eq (slot_rrev.bind _) ?_)
  try dsimp only
  rw [if_neg (show ¬ ((Value.builtin "range.__reversed__" == Value.none) = true) from Bool.false_ne_true)]
  refine wpAny_bind (wpAny_rule ?_)
  refine wpAny_bind (m := runValue (.call (.builtin "range.__reversed__") ⟨[.ref r], []⟩)) (show wpAny _ _ (call (.builtin "range.__reversed__") [.ref r]) _ _ _ from call_rrev hr hn ?_)
  exact wpAny_pure h
theorem call_rev_rng {r : Addr} {n : Nat} {t u v : Tok} {Q : Value → Shared → Prop} (hr : IsRange s.heap r 0 n 1 t u v) (hn : n < 2 ^ 40)
    (h : Q (.ref s.heap.objs.size) { s with heap := s.heap.push (rit ((n : Int) - 1) n (-1)) }) : wpAny (model prog w) A (call (.type "reversed") [.ref r]) Q E s := by
  refine callType_other (U := "range_iterator") (Q₁ := fun obj s₁ => obj = .ref s.heap.objs.size ∧ s₁ = { s with heap := s.heap.push (rit ((n : Int) - 1) n (-1)) }) (by decide +kernel) F.create_reversed ⟨_, _, F.mro_reversed⟩ F.made_reversed sub_rit_reversed (F.typeCall_reversed_1 _) (code_rrev_new hr hn ⟨rfl, rfl⟩) ?_
  rintro obj s₁ ⟨rfl, rfl⟩
  exact ⟨⟨_, Heap.get?_push_size _ rfl, rfl⟩, h⟩
theorem pyIter_rit {I : Addr} {x left step : Int} {Q : Value → Shared → Prop} (hit : s.heap.get? I = some (rit x left step)) (h : Q (.ref I) s) : wpAny (model prog w) A (pyIter (.ref I)) Q E s := wpAny_pyIter_rangeiter hit h
end

theorem fdiv_W {prog : Program} {w : World} {A : Around} {E : Value → Shared → Prop} {s : Shared} {a b : Int} {t u : Tok} {Q : Value → Shared → Prop} (hb : b ≠ 0) (hb2 : b.natAbs < 1073741824) (h : ∀ t tk, Q (.int (a.fdiv b) t) { s with toks := tk }) : wpAny (model prog w) A (binaryOp .FloorDiv (.int a t) (.int b u)) Q E s :=
  PyProof.Rows.floordiv_int hb (h _ _) (.inl (PyProof.noPylong_small hb2))
local macro_rules | `(tactic| walk_at "binaryOp FloorDiv int int") => `(tactic| (refine fdiv_W (by first | decide | assumption) (by first | decide | assumption) ?_; intro t' tk'; try dsimp only))
local macro_rules | `(tactic| walk_at "binaryOp Mod int int") => `(tactic| (refine fmod_W (by first | decide | assumption) ?_; intro t' tk'; try dsimp only))
local macro_rules | `(tactic| walk_at "binaryOp Pow int int") => `(tactic| (refine pow_W (by omega) (by omega) (by decide) ?_; intro t' tk'; try dsimp only))
theorem sd_length (l : List BT) (x : BT) (sp pos : Nat) : (sd l x sp pos).length = l.length := by
  induction pos using Nat.strongRecOn generalizing l with
  | ind pos ih =>
    rw [sd]
    split
    · rename_i h
      split
      · rw [ih _ (by omega), List.length_set]
      · simp
    · simp
theorem suL_spec (l : List BT) (pos : Nat) (h : pos < l.length) : (suL l pos).1.length = l.length ∧ (suL l pos).2 < l.length ∧ pos ≤ (suL l pos).2 := by
  generalize hk : l.length - pos = k
  induction k using Nat.strongRecOn generalizing l pos with
  | ind k ih =>
    rw [suL]
    split
    · rename_i h2
      have h3 := pick_lt l _ h2
      have h4 := pick_gt l (2 * pos + 1)
      obtain ⟨a, b, c⟩ := ih (l.length - pick l (2 * pos + 1)) (by omega) (l.set pos (l.getD (pick l (2 * pos + 1)) d0)) (pick l (2 * pos + 1)) (by simpa using h3) (by rw [List.length_set])
      simp only [List.length_set] at a b
      exact ⟨a, b, by omega⟩
    · exact ⟨rfl, h, Nat.le_refl _⟩
theorem su_length (l : List BT) (pos : Nat) (h : pos < l.length) : (su l pos).length = l.length := by
  unfold su; rw [sd_length, List.length_set, (suL_spec l pos h).1]
/-- what heapify makes of the row: the sift of k - 1, k - 2, .. , 0 -/
def hf (l : List BT) : Nat → List BT
  | 0 => l
  | k + 1 => hf (su l k) k
section
variable {w : World} {A : Around} {s : Shared} {hb : Heap} {mean : ExcName → Option Value} {mg mb : Str → Option Value} {E : Value → Shared → Prop} {Q : Value → Shared → Prop}
theorem heapify_call
    {a : Addr} {l : List BT} {n : Nat}
    (X : (hd.heap_39 w.params).In hb) (T : Top hd.view_39 (looseW hd.view_39 []) mean mg mb hb) (st : ∀ b o, hb.get? b = some o → s.heap.get? b = some o)
    (hl : s.heap.get? a = some (bl l n)) (ha : hb.get? a = none) (hh : A.handled = none) (hroom : A.depth + 2 < recursionLimit) (hsz : l.length < 1000)
    (h : ∀ h' tk, Ex [a] s.heap h' → h'.get? a = some (bl (hf l (l.length / 2)) n) → Q .none { s with heap := h', toks := tk }) :
    wpAny (model PySem.Challenge.rw_nq0033_01.row.prog w) A (call (.ref 49) [.ref a]) Q E s := by
  refine' enterF X T st (news := [(a, bl l n)]) (binds := [(Str.ofString "x", .ref a)]) (by simpa using ⟨hl, ha⟩) ?k6 ?k7 (depth_lt hroom) ?k9 ?kB ?_ ?c2 ?c3 ?c4 ?c5
  case k6 => k_is
  case k7 => k_is
  case k9 => exact BindsTo.of_eq rfl
  case kB => exact locs rfl
  case c2 => exact rfl
  case c3 => exact rfl
  case c4 => exact rfl
  case c5 => decide
  intro g L h₁ F N X' T' xg stg
  iterate 12 walk1
  refine For_rng ?_ (by intro _; rfl)
  iterate 15 walk1
  rename IsRange _ _ _ _ _ _ _ _ => hr
  rename Fr _ _ _ _ => F2
  rename News _ _ _ _ => N2
  have e : ((l.length : Nat) : Int).fdiv 2 = ((l.length / 2 : Nat) : Int) := by
    rw [Int.fdiv_eq_ediv_of_nonneg _ (by omega)]; omega
  rw [e] at hr
  refine call_rev_rng hr (by omega) ?_
  refine pyIter_rit (Heap.get?_push_size _ rfl) ?_
  refine for_rng (L := L) (news := [(a, bl l n)]) rfl hh rfl rfl (F2.push _) (N2.push F2 _) ?_ (fun i m news => Has m [(Str.ofString "x", .ref a)] ∧ ∃ l', news = [(a, bl l' n)] ∧ l'.length = l.length ∧ hf l' (l.length / 2 - i) = hf l (l.length / 2)) ⟨⟨rfl, trivial⟩, l, rfl, rfl, rfl⟩ ?_ ?_
  · intro p hp
    have := Heap.lt_size (N2 p hp).1
    exact Nat.ne_of_lt this
  · rintro i m₁ news₁ h₁ tk₁ t hi ⟨hm, l', rfl, hll, hhf⟩ hne F₁ N₁
    have F₁ := Fr.pins F₁ (ps := [(Str.ofString "x", .ref a)]) ⟨hm.1, trivial⟩
    have e3 : ((l.length / 2 : Nat) : Int) - 1 + (i : Nat) * -1 = ((l.length / 2 - i - 1 : Nat) : Int) := by omega
    rw [e3] at F₁
    repeat walk1
    refine siftup_call (hb := g) X' T' (fun b o e => F₁.keep b o e) (N₁.get (.tail _ (.head _))) (N₁.fresh (.tail _ (.head _))) (by first | exact deep_ok hroom | exact deep_lt hroom) (by omega) (by omega) ?_
    intro h4 tk4 x4 hl4
    have hIa := hne _ (.head _)
    have za := N₁ _ (.tail _ (.head _))
    iterate 1 walk1
    refine ⟨_, _, _, [(a, bl (su l' (l.length / 2 - i - 1)) n)], rfl, x4.fr F₁ za.2.1 za.2.2, ?_, ?_, ⟨rfl, trivial⟩, _, rfl, ?_, ?_⟩
    · intro p hp
      rcases List.mem_cons.mp hp with rfl | q
      · exact ⟨x4 _ _ (by simpa using Ne.symm hIa) (N₁ _ (.head _)).1, (N₁ _ (.head _)).2⟩
      · cases List.mem_singleton.mp q; exact ⟨hl4, za.2⟩
    · intro p hp q hq
      cases List.mem_singleton.mp hp; cases List.mem_singleton.mp hq; exact hIa
    · rw [su_length _ _ (by omega)]; exact hll
    · rw [← hhf, show l.length / 2 - (i + 1) = l.length / 2 - i - 1 from by omega]
      generalize hj : l.length / 2 - i - 1 = j
      rw [show l.length / 2 - i = j + 1 from by omega, hf]
  · rintro m₁ news₁ h₁ tk₁ ⟨hm, l', rfl, hll, hhf⟩ F₁ N₁
    rw [Nat.sub_self] at hhf
    repeat walk1
    refine h _ _ (leaveEx F₁ xg) ?_
    rw [← hhf]
    exact N₁.get (.head _)
end

section
variable {prog : Program} {w : World} {A : Around} {E : Value → Shared → Prop} {s : Shared} {g : Heap} {L a : Addr} {m : Str → Option Value} {rest : List (Addr × Obj)} {l : List BT} {n : Nat}
theorem append_b {b : Array UInt8} {t : Tok} {Q : Value → Shared → Prop} (F : Fr g L s.heap m) (N : News g L s.heap ((a, bl l n) :: rest)) (hr : ∀ p ∈ rest, p.1 ≠ a) (hsz : l.length < 1000000)
    (h : ∀ h', Fr g L h' m → News g L h' ((a, bl (l ++ [(b, t)]) (n + 1)) :: rest) → Q .none { s with heap := h' }) : wpAny (model prog w) A (call (.builtin "list.append") [.ref a, .bytes b t]) Q E s := by
  refine append_K (its := (l.map bv).toArray) F N (Upd.head hr) (fun h' F' N' => h h' F' ?_) (by simp [sizeLine]; omega)
  have e : (l.map bv).toArray.push (.bytes b t) = ((l ++ [(b, t)]).map bv).toArray := by simp
  rw [e] at N'; exact N'
theorem kl_last_snoc (y : Value) : ∀ p : List Value, kl_last (p ++ [y]) = some (p, y) := kpa_last y
theorem pop_b {x : BT} {Q : Value → Shared → Prop} (F : Fr g L s.heap m) (N : News g L s.heap ((a, bl (l ++ [x]) n) :: rest)) (hr : ∀ p ∈ rest, p.1 ≠ a) (hsz : l.length < 1000000)
    (h : ∀ h', Fr g L h' m → News g L h' ((a, bl l (n + 1)) :: rest) → Q (bv x) { s with heap := h' }) : wpAny (model prog w) A (call (.builtin "list.pop") [.ref a]) Q E s := by
  refine kl_pop (its := ((l ++ [x]).map bv).toArray) (p := l.map bv) (y := bv x) F N ?_ (Upd.head hr) ?_ h
  · rw [show ((l ++ [x]).map bv).toArray.toList = l.map bv ++ [bv x] by simp]; exact kpa_last _ _
  · simp [sizeLine]; omega
theorem truthy_b {Q : Bool → Shared → Prop} (hl : s.heap.get? a = some (bl l n)) (hsz : l.length < 1000000) (h : ∀ tk, Q (!l.isEmpty) { s with toks := tk }) : wpAny (model prog w) A (truthy (.ref a)) Q E s := by
  refine wpAny_truthy_list (PySem.IsL.isList (n := n) hl) (by simp; omega) ?_
  have e : (!(l.map bv).toArray.isEmpty) = !l.isEmpty := by cases l <;> simp
  rw [e]; exact h _
end
local macro_rules | `(tactic| walk_at "call builtin:list.append") => `(tactic| (k_here; (with_reducible show wpAny _ _ (call (Value.builtin _) [Value.ref _, Value.bytes _ _]) _ _ _); k_dflt (refine' append_b ?k1 ?k2 ?k3 ?k4 ?_; (case k1 => k_asm); (case k2 => k_asm); (case k3 => k_all); (case k4 => omega); k_whole); intro h' F' N'; (try k_sweep)))
local macro_rules | `(tactic| walk_at "call builtin:list.pop") => `(tactic| (k_here; (with_reducible show wpAny _ _ (call (Value.builtin _) [Value.ref _]) _ _ _); k_dflt (refine' pop_b ?k1 ?k2 ?k3 ?k4 ?_; (case k1 => k_asm); (case k2 => k_asm); (case k3 => k_all); (case k4 => omega); k_whole); intro h' F' N'; (try k_sweep)))
local macro_rules | `(tactic| walk_at "truthy ref") => `(tactic| (k_here; k_dflt (refine' truthy_b ?k1 ?k2 ?_; (case k1 => exact News.get (by k_asm) (by k_mem)); (case k2 => (try simp only [List.length_set, List.length_append, List.length_cons, List.length_nil]); omega); k_whole); intro tk'; (try dsimp only)))

section
variable {w : World} {A : Around} {s : Shared} {hb : Heap} {mean : ExcName → Option Value} {mg mb : Str → Option Value} {E : Value → Shared → Prop} {Q : Value → Shared → Prop}
theorem heappush_call
    {a : Addr} {l : List BT} {n : Nat} {b : Array UInt8} {t : Tok}
    (X : (hd.heap_39 w.params).In hb) (T : Top hd.view_39 (looseW hd.view_39 []) mean mg mb hb) (st : ∀ b o, hb.get? b = some o → s.heap.get? b = some o)
    (hl : s.heap.get? a = some (bl l n)) (ha : hb.get? a = none) (hroom : A.depth + 2 < recursionLimit) (hsz : l.length < 900)
    (h : ∀ h' tk, Ex [a] s.heap h' → h'.get? a = some (bl (sd (l ++ [(b, t)]) (b, t) 0 l.length) (n + 1)) → Q .none { s with heap := h', toks := tk }) :
    wpAny (model PySem.Challenge.rw_nq0033_01.row.prog w) A (call (.ref 21) [.ref a, .bytes b t]) Q E s := by
  refine' enterF X T st (news := [(a, bl l n)]) (binds := [(Str.ofString "heap", .ref a), (Str.ofString "item", .bytes b t)]) (by simpa using ⟨hl, ha⟩) ?k6 ?k7 (depth_lt hroom) ?k9 ?kB ?_ ?c2 ?c3 ?c4 ?c5
  case k6 => k_is
  case k7 => k_is
  case k9 => exact BindsTo.of_eq rfl
  case kB => exact locs rfl
  case c2 => exact rfl
  case c3 => exact rfl
  case c4 => exact rfl
  case c5 => decide
  intro g L h₁ F N X' T' xg stg
  repeat walk1
  rename Fr _ _ _ _ => F2
  rename News _ _ _ _ => N2
  have e : (((l ++ [(b, t)]).length : Nat) : Int) - 1 = (l.length : Nat) := by simp
  rw [e]
  refine siftdown_call (sp := 0) (hb := g) X' T' (fun b o e => F2.keep b o e) (N2.get (.head _)) (N2.fresh (.head _)) (by first | exact deep_ok hroom | exact deep_lt hroom) (by simp) (by simp; omega) ?_
  intro h4 tk4 x4 hl4
  repeat walk1
  refine h _ _ (fun b o hb e => x4 b o hb (F2.keep b o (xg b o hb e))) ?_
  have e : (l ++ [(b, t)]).getD l.length d0 = (b, t) := by simp
  rw [e] at hl4
  exact hl4

theorem heappop_call
    {a : Addr} {p : List BT} {x : BT} {n : Nat}
    (X : (hd.heap_39 w.params).In hb) (T : Top hd.view_39 (looseW hd.view_39 []) mean mg mb hb) (st : ∀ b o, hb.get? b = some o → s.heap.get? b = some o)
    (hl : s.heap.get? a = some (bl (p ++ [x]) n)) (ha : hb.get? a = none) (hroom : A.depth + 2 < recursionLimit) (hsz : p.length < 900)
    (h : ∀ h' tk, Ex [a] s.heap h' → h'.get? a = some (bl (if p = [] then [] else su (p.set 0 x) 0) (n + 1)) → Q (bv (p.getD 0 x)) { s with heap := h', toks := tk }) :
    wpAny (model PySem.Challenge.rw_nq0033_01.row.prog w) A (call (.ref 28) [.ref a]) Q E s := by
  refine' enterF X T st (news := [(a, bl (p ++ [x]) n)]) (binds := [(Str.ofString "heap", .ref a)]) (by simpa using ⟨hl, ha⟩) ?k6 ?k7 (depth_lt hroom) ?k9 ?kB ?_ ?c2 ?c3 ?c4 ?c5
  case k6 => k_is
  case k7 => k_is
  case k9 => exact BindsTo.of_eq rfl
  case kB => exact locs rfl
  case c2 => exact rfl
  case c3 => exact rfl
  case c4 => exact rfl
  case c5 => decide
  intro g L h₁ F N X' T' xg stg
  repeat' walk1
  · rename p.isEmpty = true => hp
    rename Fr _ _ _ _ => F2
    rename News _ _ _ _ => N2
    have e : p = [] := by simpa using hp
    subst e
    exact h _ _ (leaveEx F2 xg) (N2.get (.head _))
  · rename p.isEmpty = false => hp
    have hpl : 0 < p.length := by cases p with | nil => cases hp | cons _ _ => simp
    repeat walk1
    rename Fr _ _ _ _ => F2
    rename News _ _ _ _ => N2
    refine siftup_call (p := 0) (hb := g) X' T' (fun b o e => F2.keep b o e) (N2.get (.head _)) (N2.fresh (.head _)) (by first | exact deep_ok hroom | exact deep_lt hroom) (by simpa using hpl) (by simp; omega) ?_
    intro h4 tk4 x4 hl4
    have za := N2 _ (.head _)
    have F4 := x4.fr F2 za.2.1 za.2.2
    have N4 := x4.news N2 (fun _ h => nomatch h) hl4
    repeat walk1
    have e : p ≠ [] := by intro e; rw [e] at hpl; exact absurd hpl (by simp)
    have e2 : p.getD 0 x = p.getD 0 d0 := by cases p with | nil => exact absurd rfl e | cons _ _ => rfl
    rw [if_neg e, e2] at h
    exact h _ _ (leaveEx F4 xg) hl4

theorem heapreplace_call
    {a : Addr} {l : List BT} {n : Nat} {b : Array UInt8} {t : Tok}
    (X : (hd.heap_39 w.params).In hb) (T : Top hd.view_39 (looseW hd.view_39 []) mean mg mb hb) (st : ∀ b o, hb.get? b = some o → s.heap.get? b = some o)
    (hl : s.heap.get? a = some (bl l n)) (ha : hb.get? a = none) (hroom : A.depth + 2 < recursionLimit) (hsz : l.length < 900) (hpl : 0 < l.length)
    (h : ∀ h' tk, Ex [a] s.heap h' → h'.get? a = some (bl (su (l.set 0 (b, t)) 0) n) → Q (bv (l.getD 0 d0)) { s with heap := h', toks := tk }) :
    wpAny (model PySem.Challenge.rw_nq0033_01.row.prog w) A (call (.ref 35) [.ref a, .bytes b t]) Q E s := by
  refine' enterF X T st (news := [(a, bl l n)]) (binds := [(Str.ofString "heap", .ref a), (Str.ofString "item", .bytes b t)]) (by simpa using ⟨hl, ha⟩) ?k6 ?k7 (depth_lt hroom) ?k9 ?kB ?_ ?c2 ?c3 ?c4 ?c5
  case k6 => k_is
  case k7 => k_is
  case k9 => exact BindsTo.of_eq rfl
  case kB => exact locs rfl
  case c2 => exact rfl
  case c3 => exact rfl
  case c4 => exact rfl
  case c5 => decide
  intro g L h₁ F N X' T' xg stg
  repeat walk1
  rename Fr _ _ _ _ => F2
  rename News _ _ _ _ => N2
  refine siftup_call (p := 0) (hb := g) X' T' (fun b o e => F2.keep b o e) (N2.get (.head _)) (N2.fresh (.head _)) (by first | exact deep_ok hroom | exact deep_lt hroom) (by simpa using hpl) (by simp; omega) ?_
  intro h4 tk4 x4 hl4
  have za := N2 _ (.head _)
  have F4 := x4.fr F2 za.2.1 za.2.2
  have N4 := x4.news N2 (fun _ h => nomatch h) hl4
  repeat walk1
  exact h _ _ (leaveEx F4 xg) hl4

theorem heappushpop_call
    {a : Addr} {l : List BT} {n : Nat} {b : Array UInt8} {t : Tok}
    (X : (hd.heap_39 w.params).In hb) (T : Top hd.view_39 (looseW hd.view_39 []) mean mg mb hb) (st : ∀ b o, hb.get? b = some o → s.heap.get? b = some o)
    (hl : s.heap.get? a = some (bl l n)) (ha : hb.get? a = none) (hh : A.handled = none) (hroom : A.depth + 2 < recursionLimit) (hsz : l.length < 900)
    (h : ∀ h' tk, Ex [a] s.heap h' → h'.get? a = some (bl (if 0 < l.length ∧ blt (l.getD 0 d0) (b, t) = true then su (l.set 0 (b, t)) 0 else l) n) →
      Q (bv (if 0 < l.length ∧ blt (l.getD 0 d0) (b, t) = true then l.getD 0 d0 else (b, t))) { s with heap := h', toks := tk }) :
    wpAny (model PySem.Challenge.rw_nq0033_01.row.prog w) A (call (.ref 42) [.ref a, .bytes b t]) Q E s := by
  refine' enterF X T st (news := [(a, bl l n)]) (binds := [(Str.ofString "heap", .ref a), (Str.ofString "item", .bytes b t)]) (by simpa using ⟨hl, ha⟩) ?k6 ?k7 (depth_lt hroom) ?k9 ?kB ?_ ?c2 ?c3 ?c4 ?c5
  case k6 => k_is
  case k7 => k_is
  case k9 => exact BindsTo.of_eq rfl
  case kB => exact locs rfl
  case c2 => exact rfl
  case c3 => exact rfl
  case c4 => exact rfl
  case c5 => decide
  intro g L h₁ F N X' T' xg stg
  repeat' walk1
  · rename l.isEmpty = true => hp
    have e : ¬ (0 < l.length ∧ blt (l.getD 0 d0) (b, t) = true) := by
      cases l with | nil => simp | cons _ _ => cases hp
    rw [if_neg e, if_neg e] at h
    rename Fr _ _ _ _ => F2
    rename News _ _ _ _ => N2
    exact h _ _ (leaveEx F2 xg) (N2.get (.head _))
  · rename l.isEmpty = false => hp
    have hpl : 0 < l.length := by cases l with | nil => cases hp | cons _ _ => simp
    repeat' walk1
    · rename blt _ _ = true => hb1
      have hc : 0 < l.length ∧ blt (l.getD 0 d0) (b, t) = true := ⟨hpl, hb1⟩
      rw [if_pos hc, if_pos hc] at h
      rename Fr _ _ _ _ => F2
      rename News _ _ _ _ => N2
      refine unpackN_ F2 N2 (News.isTup N2 (.head _)) hh rfl rfl ?_
      intro h3 F3 N3
      have N3 : News g L h3 [(a, bl l n)] := fun p hp => N3 p (.tail _ hp)
      clear F2 N2
      repeat walk1
      rename Fr _ _ _ _ => F2
      rename News _ _ _ _ => N2
      refine siftup_call (p := 0) (hb := g) X' T' (fun b o e => F2.keep b o e) (N2.get (.head _)) (N2.fresh (.head _)) (by first | exact deep_ok hroom | exact deep_lt hroom) (by simpa using hpl) (by simp; omega) ?_
      intro h4 tk4 x4 hl4
      have za := N2 _ (.head _)
      have F4 := x4.fr F2 za.2.1 za.2.2
      have N4 := x4.news N2 (fun _ h => nomatch h) hl4
      repeat walk1
      exact h _ _ (leaveEx F4 xg) hl4
    · rename blt _ _ = false => hb1
      have hc : ¬ (0 < l.length ∧ blt (l.getD 0 d0) (b, t) = true) := by
        rintro ⟨_, h2⟩; rw [show blt (l.getD 0 d0) (b, t) = false from hb1] at h2; cases h2
      rw [if_neg hc, if_neg hc] at h
      rename Fr _ _ _ _ => F2
      rename News _ _ _ _ => N2
      exact h _ _ (leaveEx F2 xg) (N2.get (.head _))
end

abbrev bao (b : Array UInt8) : Obj := { cls := .type "bytearray", data := .bytearray b }
theorem mro_ba : mroOf (.type "bytearray") = pure [.type "bytearray", .type "object"] := by rw [mroOf_type]; kernel_rfl
theorem lookup_ba_new : typeLookup (.type "bytearray") "__new__" = pure (some (.builtin "bytearray.__new__")) := by rw [typeLookup_type, builtinLookup_eq_fast]; kernel_rfl
theorem slot_ba_init : Slot "bytearray" "__init__" "bytearray.__init__" :=
  .of (owner := "bytearray") (n := "__init__") (by rw [typeLookup_type, builtinLookup_eq_fast]; kernel_rfl) (by decide +kernel) (by decide +kernel) (by decide +kernel)
    (by first | exact .inl (by decide +kernel) | exact .inr (by decide +kernel)) (by rw [isSubtype_type]; kernel_rfl)
theorem called_ba : TypeCalled "bytearray" "bytearray.__new__" "bytearray.__init__" :=
  ⟨by decide +kernel, by decide +kernel, ⟨_, _, mro_ba⟩, madeBy_type mro_ba lookup_ba_new (by decide +kernel), by decide +kernel, by rw [isSubtype_type]; kernel_rfl, slot_ba_init⟩
theorem typeCall_ba (a : Value) : checkTypeCall "bytearray" ⟨[a], []⟩ = pure () := by kernel_rfl
theorem newCall_ba (a : Value) : checkBuiltinCall "bytearray.__new__" ⟨[.type "bytearray", a], []⟩ = pure () := by kernel_rfl
theorem entry_ba_new : entryFor table "bytearray.__new__" = some Builtin.«list.__new__» :=
  entryFor_alias (id' := "list.__new__") (by kernel_rfl) (by first | rfl | decide +kernel | (unfold String.splitOn; simp +decide [String.splitOnAux])) (by decide +kernel) (by kernel_rfl)
theorem plain_ba_new : plainId "bytearray.__new__" = true := by decide +kernel
theorem entry_ba_init : entryFor table "bytearray.__init__" = some Builtin.«bytearray.__init__» := entryFor_of_tree (by kernel_rfl)
theorem args_ba_init (a b : Value) : argsOk "bytearray.__init__" ⟨[a, b], []⟩ := by unfold argsOk; kernel_rfl
theorem owner_ba_new : ("bytearray.__new__".splitOn ".__new__").headD "" = "bytearray" := by simp +decide [String.splitOn, String.splitOnAux]
theorem sub_ba_self : isSubtype (.type "bytearray") (.type "bytearray") = pure true := by rw [isSubtype_type]; kernel_rfl
section
variable {prog : Program} {w : World} {A : Around} {E : Value → Shared → Prop} {s : Shared}
theorem code_ba_new (a : Value) {Q₁ : Value → Shared → Prop}
    (h : Q₁ (.ref s.heap.objs.size) { s with heap := s.heap.push (bao #[]) }) :
    codeAny (model prog w) A (.call (.builtin "bytearray.__new__") ⟨[.type "bytearray", a], []⟩) (wants Q₁ E) s := by
  refine codeAny_of_tree ?_
  show wpAny _ A.in1 (do checkBuiltinCall "bytearray.__new__" ⟨[.type "bytearray", a], []⟩; again (.builtin "bytearray.__new__" ⟨[.type "bytearray", a], []⟩)) _ _ s
  refine wpAny_bind (wpAny_of_eq (newCall_ba a) (wpAny_pure ⟨plainId_quiet plain_ba_new _, codeAny_builtin_stack entry_ba_new rfl fun p st => ?_⟩))
  rw [Around.under_plainId plain_ba_new _]
  have hsub := sub_ba_self
  have hown := owner_ba_new
  obtain ⟨hp, g, d, tk, os⟩ := s
  simp only [hown]
  wp_walk
  exact h
end

theorem look_ba_rel : typeLookup (.type "bytearray") "__release_buffer__" = pure (some (.builtin "bytearray.__release_buffer__")) := by rw [typeLookup_type, builtinLookup_eq_fast]; kernel_rfl
theorem look_ba_buf : typeLookup (.type "bytearray") "__buffer__" = pure (some (.builtin "bytearray.__buffer__")) := by rw [typeLookup_type, builtinLookup_eq_fast]; kernel_rfl
theorem ba_bind (v : Value) : Builtin.Bytes.bindOptional "bytearray.__init__" "bytearray" ["source", "encoding", "errors"] [v] [] = pure [some v, none, none] := by kernel_rfl
section
variable {prog : Program} {w : World} {A : Around} {E : Value → Shared → Prop} {s : Shared}
theorem ba_ownSlot {a : Addr} {b : Array UInt8} {nm : String} {id : String} {Q : Bool → Shared → Prop} (ho : s.heap.get? a = some (bao b)) (hl : typeLookup (.type "bytearray") (nm : Str) = pure (some (.builtin id)))
    (h1 : (!id.endsWith ("." ++ nm)) = false) (h2 : id.dropRight (nm.length + 1) = "bytearray") (h : Q true s) : wpAny (model prog w) A (Bytes.slotIsOwn (.ref a) nm) Q E s := by
  have hT : s.TypeIs (.ref a) "bytearray" := ⟨_, ho, rfl⟩
  unfold Bytes.slotIsOwn
  refine wpAny_bind (wpAny_specialOf hT hl ?_)
  dsimp only
  rw [if_neg (by rw [h1]; decide), h2]
  exact wpAny_isInstance hT sub_ba_self h
theorem ba_write {a : Addr} {b : Array UInt8} {f : Array UInt8 → Array UInt8} {Q : Unit → Shared → Prop} (ho : s.heap.get? a = some (bao b)) (hn : (f b).size ≤ 16777216)
    (h : ∀ h', Heap.SameBut a s.heap h' → h'.get? a = some (bao (f b)) → Q () { s with heap := h' }) : wpAny (model prog w) A (Bytes.write (.ref a) f) Q E s := by
  unfold Bytes.write
  show wpAny _ _ (updateBytearray a f) _ _ _
  unfold updateBytearray
  refine wpAny_bind (wpAny_load ho ?_)
  have hg : (s.heap.update a (Obj.mapBytearray f)).get? a = some (bao (f b)) := Heap.get?_update_self _ ho rfl
  refine wpAny_bind (wpAny_update ho (wpAny_lookBehind hg ?_ (h _ (Heap.SameBut.update ..) hg)))
  show (if (f b).size > sizeLine then some "bytearray:memory" else none) = none
  rw [if_neg (by rw [sizeLine_eq]; omega)]
theorem ba_init {a : Addr} {n : Nat} {t : Tok} {Q : Fin → Shared → Prop} (ho : s.heap.get? a = some (bao #[])) (hn : n < 1000000)
    (h : ∀ h', Heap.SameBut a s.heap h' → h'.get? a = some (bao (Array.replicate n 0)) → Q (.done (.ret .none)) { s with heap := h' }) :
    wpC (model prog w) A (Builtin.«bytearray.__init__» ⟨[.ref a, .int n t], []⟩) Q E s := by
  have hT : s.TypeIs (.ref a) "bytearray" := ⟨_, ho, rfl⟩
  unfold Builtin.«bytearray.__init__»
  unfold Bytes.ownRelease
  refine wpC_bindA (wpAny_bind (ba_ownSlot ho look_ba_rel (by decide +kernel) (by decide +kernel) (wpAny_pure ?_)))
  dsimp only
  rw [if_neg (by decide)]
  refine wpC_bindA (wpAny_of_eq (ba_bind _) ?_)
  dsimp only
  refine wpC_bindA (wpAny_of_eq (a := ()) rfl ?_)
  refine wpC_bindA (wpAny_of_eq (a := ()) rfl ?_)
  refine wpC_bind ?_
  refine wpC_bind (exported_false ?_)
  refine wpC_any ?_
  show wpAny _ _ (do let x ← Bytes.exportsOf (.ref a); pure (decide (x > 0))) _ _ _
  refine wpAny_bind ?_
  unfold Bytes.exportsOf
  refine wpAny_bind (wpAny_load ho ?_)
  refine wpAny_pure (wpAny_pure ?_)
  refine wpC_any ?_
  rw [if_neg (by decide)]
  refine wpAny_bind (ba_write ho (by simp) ?_)
  intro h1 hs1 ho1
  have e1 : asStr? (Value.int (n : Nat) t) = pure none := rfl
  have e2 : (asIndex (Value.int (n : Nat) t)).attempt = pure (.ok (n : Int)) := rfl
  have e3 : Bytes.fitsIndex (n : Int) = true := by simp only [Bytes.fitsIndex, Bool.and_eq_true, decide_eq_true_eq]; omega
  have e4 : Bytes.tooLong (n : Int).toNat = false := KBy.tooLong_not (by omega)
  simp only [e1, pure_bind, Option.isSome_none, Bool.false_eq_true, if_false]
  have e5 : specialOf (Value.int (n : Nat) t) (Str.ofString "__index__") = pure (some (.builtin "int.__index__")) := by
    show (typeLookup (.type "int") (Str.ofString "__index__")) = _
    exact F.slot_int_index.lookup
  simp only [e5, pure_bind, Option.isSome_some, if_true, e2, pure_bind, e3, Bool.not_true, Bool.false_eq_true, if_false]
  rw [if_neg (by omega), if_neg (by simp; omega), e4]
  simp only [Bool.false_eq_true, if_false]
  refine wpAny_bind (wpAny_rule ?_)
  by_cases hz : (n : Int) > 0
  · rw [if_pos hz]
    refine wpAny_bind (ba_write ho1 (by simp; omega) ?_)
    intro h2 hs2 ho2
    exact wpAny_pure (h _ (hs1.trans hs2) (by simpa using ho2))
  · rw [if_neg hz]
    have : n = 0 := by omega
    subst this
    exact wpAny_pure (h _ hs1 (by simpa using ho1))
end

theorem ok_builtin {nm : String} (h : (!(Builtin.Bytes.decodersThatHold.contains nm) && !(guardIds.contains nm)) = true) (args : Args) : okCode (.builtin nm args) = true := h
section
variable {prog : Program} {w : World} {A : Around} {E : Value → Shared → Prop} {s : Shared} {R : Result → Shared → Prop}
theorem codeC_builtin {nm : String} {args : Args} {b : Builtin} (hb : entryFor table nm = some b) (hok : okCode (.builtin nm args) = true)
    (h : wpC (model prog w) (A.under (.builtin nm args)) (b args)
      (fun fin s' => match fin with | .done f => R (.ok f) s' | .again c' => c'.quiet = true ∧ codeC (model prog w) A c' R s') (fun e s' => R (.error e) s') s) :
    codeC (model prog w) A (.builtin nm args) R s := by
  refine codeC_of_tree hok ?_
  show wpC _ _ (match entryFor table nm with | some b => b args | none => unsupported ((withoutEnding? nm "#data").getD nm)) _ _ s
  rw [hb]; exact h
theorem codeC_call_builtin {nm : String} {args : Args} {b : Builtin} (hq : plainId nm = true) (hb : entryFor table nm = some b) (hok : okCode (.builtin nm args) = true)
    (h : wpAny (model prog w) A.in1 (checkBuiltinCall nm args) (fun _ s₁ => wpC (model prog w) A.in1 (b args)
      (fun fin s' => match fin with | .done f => R (.ok f) s' | .again c' => c'.quiet = true ∧ codeC (model prog w) A c' R s') (fun e s' => R (.error e) s') s₁) (fun e s' => R (.error e) s') s) :
    codeC (model prog w) A (.call (.builtin nm) args) R s := by
  refine codeC_of_tree rfl ?_
  show wpC _ A.in1 (do checkBuiltinCall nm args; again (.builtin nm args)) _ _ s
  refine wpC_bindA (wpAny_mono h (fun _ s₁ h₁ => wpC_pure (And.intro (plainId_quiet hq _) (codeC_builtin hb hok ?_))) fun _ _ h' => h')
  rw [Around.under_plainId hq _]; exact h₁
theorem call_ba {n : Nat} {t : Tok} {Q : Value → Shared → Prop} (hn : n < 1000000)
    (h : ∀ h', (∀ b o, s.heap.get? b = some o → h'.get? b = some o) → h'.get? s.heap.objs.size = some (bao (Array.replicate n 0)) → Q (.ref s.heap.objs.size) { s with heap := h' }) :
    wpC (model prog w) A (call (.type "bytearray") [.int n t]) Q E s := by
  obtain ⟨c, tl, hmro⟩ := called_ba.mro
  have hmade := called_ba.made
  have hsub := called_ba.sub
  have h1 := called_ba.notType
  have h2 := called_ba.canCreate
  refine wpC_call (codeC_of_tree rfl ?_)
  show wpC _ _ (callAny (.type "bytearray") _) _ _ _
  refine wpC_pure ⟨Code.quiet_builtin _ (by decide +kernel), codeC_builtin F.entry_type_call (ok_builtin (by decide +kernel) _) ?_⟩
  rw [Around.under_plain (weight_type_call_type "bytearray" _ []) rfl]
  unfold Builtin.«type.__call__»
  simp only [h1, Bool.false_eq_true, if_false, h2, typeCall_ba, pure_bind, hmro, hmade, List.isEmpty_cons]
  refine wpC_bind (wpC_holding (wpC_any (wpAny_call (code_ba_new _ ?_))))
  have ho : (s.heap.push (bao #[])).get? s.heap.objs.size = some (bao #[]) := Heap.get?_push_size _ rfl
  have hT : ({ s with heap := s.heap.push (bao #[]) } : Shared).TypeIs (.ref s.heap.objs.size) "bytearray" := ⟨_, ho, rfl⟩
  refine wpC_bindA (wpAny_isInstance hT sub_ba_self ?_)
  rw [if_neg (by decide)]
  refine wpC_bind (wpC_holding ?_)
  unfold callSpecial?
  refine wpC_bindA (wpAny_specialOf hT slot_ba_init.lookup ?_)
  refine wpC_holding ?_
  refine wpC_bindA (wpAny_of_eq (slot_ba_init.bind _) ?_)
  refine wpC_bind (wpC_call (codeC_call_builtin slot_ba_init.plain entry_ba_init (ok_builtin (by decide +kernel) _) (slot_ba_init.check _ _ _ _ _ _ _ _ hT (args_ba_init _ _) ?_)))
  refine ba_init ho hn ?_
  intro h' hs' ho'
  refine wpC_pure ?_
  dsimp only
  rw [if_neg (by decide)]
  refine wpC_pure ?_
  refine h h' (fun b o e => hs'.extBut b o (Nat.ne_of_lt (Heap.lt_size e)) (Heap.get?_push_of_some _ e)) ho'
end

theorem slot_ba_set : Slot "bytearray" "__setitem__" "bytearray.__setitem__" :=
  .of (owner := "bytearray") (n := "__setitem__") (by rw [typeLookup_type, builtinLookup_eq_fast]; kernel_rfl) (by decide +kernel) (by decide +kernel) (by decide +kernel)
    (by first | exact .inl (by decide +kernel) | exact .inr (by decide +kernel)) (by rw [isSubtype_type]; kernel_rfl)
theorem entry_ba_set : entryFor table "bytearray.__setitem__" = some Builtin.«bytearray.__setitem__» := entryFor_of_tree (by kernel_rfl)
theorem args_ba_set (a b c : Value) : argsOk "bytearray.__setitem__" ⟨[a, b, c], []⟩ := by unfold argsOk; kernel_rfl
section
variable {prog : Program} {w : World} {A : Around} {E : Value → Shared → Prop} {s : Shared}
theorem set_ba {a : Addr} {b : Array UInt8} {k : Int} {x : UInt8} {t u : Tok} {Q : Unit → Shared → Prop} (ho : s.heap.get? a = some (bao b)) (h0 : 0 ≤ k) (h1 : k < b.size) (hz : b.size < 1000000)
    (h : ∀ h' tk, Heap.SameBut a s.heap h' → h'.get? a = some (bao (b.setIfInBounds k.toNat x)) → Q () { s with heap := h', toks := tk }) :
    wpAny (model prog w) A (setItem (.ref a) (.int k u) (.int x.toNat t)) Q E s := by
  have hT : s.TypeIs (.ref a) "bytearray" := ⟨_, ho, rfl⟩
  unfold setItem
  try with_reducible refine wpAny_holding ?_
  first | refine wpAny_bind (wpAny_pure ?_) | skip
  refine wpAny_bind (wpAny_sequenceKey hT (by decide) ?_)
  refine wpAny_bind (wpAny_callSpecial?_slot (name := Str.ofString "__setitem__") hT slot_ba_set
    (wpAny_call_entry slot_ba_set hT entry_ba_set ?_ (args_ba_set _ _ _)))
  unfold Builtin.«bytearray.__setitem__»
  have e5 : specialOf (Value.int k u) (Str.ofString "__index__") = pure (some (.builtin "int.__index__")) := by
    show (typeLookup (.type "int") (Str.ofString "__index__")) = _
    exact F.slot_int_index.lookup
  have e2 : asIndex (Value.int k u) = pure k := rfl
  have e6 : asIndex (Value.int x.toNat t) = pure (x.toNat : Int) := rfl
  have e3 : Bytes.fitsIndex k = true := by simp only [Bytes.fitsIndex, Bool.and_eq_true, decide_eq_true_eq]; omega
  have e7 : Bytes.subscript? (Value.int k u) = pure (some k) := by
    unfold Bytes.subscript?
    simp only [e5, e2, e3, pure_bind, Option.isNone_some, Bool.false_eq_true, if_false, Bool.not_true]
  have hx : x.toNat < 256 := x.toNat_lt
  have e8 : Bytes.byteValue (Value.int x.toNat t) = pure x := by
    unfold Bytes.byteValue
    simp only [e6, pure_bind]
    rw [if_neg (by simp; omega)]
    simp
  show wpAny _ _ (Bytes.subscript? (Value.int k u) >>= _) _ _ _
  refine wpAny_bind (wpAny_of_eq e7 ?_)
  show wpAny _ _ (Bytes.byteValue (Value.int x.toNat t) >>= _) _ _ _
  refine wpAny_bind (wpAny_of_eq e8 ?_)
  have e9 : seqIndex? k b.size = some k.toNat := by
    have hn : ¬ k < 0 := by omega
    simp [seqIndex?, hn, h0, h1]
  refine wpAny_bind ?_
  unfold Bytes.payload
  refine wpAny_bind ?_
  unfold Bytes.payload?
  refine wpAny_bind (wpAny_load ho (wpAny_pure (wpAny_pure ?_)))
  rw [e9]
  refine wpAny_bind (ba_write ho (by simp; omega) ?_)
  intro h' hs' ho'
  exact wpAny_pure ⟨_, rfl, wpAny_pure (h h' _ hs' ho')⟩
end

theorem ba_no_bytes : typeLookup (.type "bytearray") "__bytes__" = pure none := by rw [typeLookup_type, builtinLookup_eq_fast]; kernel_rfl
theorem ba_no_index : typeLookup (.type "bytearray") "__index__" = pure none := by rw [typeLookup_type, builtinLookup_eq_fast]; kernel_rfl
section
variable {prog : Program} {w : World} {A : Around} {E : Value → Shared → Prop} {s : Shared}
theorem ba_buffer {a : Addr} {b : Array UInt8} {nm : String} {f : Bool} {Q : Option (Array UInt8) → Shared → Prop} (ho : s.heap.get? a = some (bao b)) (h : Q (some b) s) :
    wpAny (model prog w) A (Bytes.buffer? nm (.ref a) f) Q E s := by
  have hT : s.TypeIs (.ref a) "bytearray" := ⟨_, ho, rfl⟩
  unfold Bytes.buffer?
  refine wpAny_bind (wpAny_specialOf hT look_ba_buf ?_)
  refine wpAny_bind (ba_ownSlot ho look_ba_buf (by decide +kernel) (by decide +kernel) ?_)
  rw [if_neg (by decide)]
  refine wpAny_bind (wpAny_specialOf hT look_ba_buf ?_)
  dsimp only
  refine wpAny_bind ?_
  unfold Bytes.ownRelease
  refine wpAny_bind (ba_ownSlot ho look_ba_rel (by decide +kernel) (by decide +kernel) (wpAny_pure ?_))
  rw [if_neg (by decide)]
  refine wpAny_bind ?_
  unfold Bytes.payload
  refine wpAny_bind ?_
  unfold Bytes.payload?
  exact wpAny_bind (wpAny_load ho (wpAny_pure (wpAny_pure (wpAny_pure h))))
theorem ba_new_bytes {a : Addr} {b : Array UInt8} {Q : Value → Shared → Prop} (ho : s.heap.get? a = some (bao b)) (hz : b.size ≤ 16777216)
    (hQ : ∀ t k, Q (.bytes b t) { s with toks := k }) :
    codeAny (model prog w) A (.call (.builtin "bytes.__new__") ⟨[.type "bytes", .ref a], []⟩) (wants Q E) s := by
  refine codeAny_of_tree ?_
  show wpAny _ A.in1 (do checkBuiltinCall "bytes.__new__" ⟨[.type "bytes", .ref a], []⟩; again (.builtin "bytes.__new__" ⟨[.type "bytes", .ref a], []⟩)) _ _ s
  refine wpAny_bind (wpAny_of_eq (F.bm_newCall _) (wpAny_pure ⟨plainId_quiet F.bm_plain _, codeAny_builtin F.bm_entry ?_⟩))
  rw [Around.under_plainId F.bm_plain _]
  have hT : s.TypeIs (.ref a) "bytearray" := ⟨_, ho, rfl⟩
  unfold Builtin.«bytes.__new__»
  refine wpAny_bind (wpAny_of_eq (a := true) rfl ?_)
  refine bm_if_false rfl ?_
  refine wpAny_bind (wpAny_of_eq F.bm_sub ?_)
  refine bm_if_false rfl ?_
  refine wpAny_bind (wpAny_of_eq (F.bm_bind _) ?_)
  refine wpAny_bind (wpAny_of_eq (a := ()) rfl ?_)
  refine wpAny_bind (wpAny_of_eq (a := ()) rfl ?_)
  refine bm_if_false rfl ?_
  refine wpAny_bind (wpAny_specialOf hT ba_no_bytes ?_)
  refine wpAny_bind (wpAny_bind ?_)
  show wpAny _ _ (load a >>= _) _ _ _
  refine wpAny_bind (wpAny_load ho ?_)
  refine wpAny_pure (wpAny_pure ?_)
  refine bm_if_false rfl ?_
  refine wpAny_bind (wpAny_specialOf hT ba_no_index ?_)
  refine bm_if_true rfl ?_
  show wpAny _ _ (Bytes.buffer? "bytes.__new__" (.ref a) true >>= _) _ _ _
  refine wpAny_bind (ba_buffer ho ?_)
  dsimp only
  refine wpAny_bind (wpAny_rule ?_)
  refine wpAny_bind (wpAny_mkBytes ?_ (by rw [sizeLine_eq]; exact hz))
  exact wpAny_pure (hQ _ _)
theorem bytes_ba {a : Addr} {b : Array UInt8} {Q : Value → Shared → Prop} (ho : s.heap.get? a = some (bao b)) (hz : b.size ≤ 16777216)
    (hQ : ∀ t k, Q (.bytes b t) { s with toks := k }) : wpAny (model prog w) A (call (.type "bytes") [.ref a]) Q E s := by
  refine callType_codes (Q₁ := fun obj s₁ => s₁.TypeIs obj "bytes" ∧ Q obj s₁) F.bm_called (F.bm_typeCall _) F.entry_object_init
    (ba_new_bytes ho hz fun t k => ⟨PySem.W.typeIs_bytes _ _ _, hQ t k⟩) fun obj s₁ h₁ => ?_
  exact ⟨h₁.1, F.args_object_init_2 obj _, object_init_meets F.bm_called.init.lookup F.bm_called.made (by decide) prog w A.in1 _ s₁ ⟨h₁.1, rfl, h₁.2⟩⟩
end

section
variable {M : Model} {A : Around} {E : Value → Shared → Prop} {s : Shared} {env : Env}
theorem wpC_execs_cons {st : Stmt} {rest : List Stmt} {Q : Flow → Shared → Prop}
    (h : wpC M A (exec st env) (fun f s' => match f with | .next => wpC M A (execs rest env) Q E s' | f => Q f s') E s) :
    wpC M A (execs (st :: rest) env) Q E s := fun Γ p hΓ h1 h2 => by
  rw [execs_cons, Sem.wp_bind']
  refine Sem.wp_mono M Γ _ (fun f p' s' h' => ?_) (fun _ _ _ h' => h') _ _ (h Γ p hΓ h1 h2)
  cases f <;> first | exact h' Γ p' hΓ h1 h2 | exact h'
theorem wpC_execs_consA {st : Stmt} {rest : List Stmt} {Q : Flow → Shared → Prop}
    (h : wpAny M A (exec st env) (fun f s' => match f with | .next => wpC M A (execs rest env) Q E s' | f => Q f s') E s) :
    wpC M A (execs (st :: rest) env) Q E s := wpC_execs_cons (wpC_any h)
theorem wpC_Assign_Name {x : Str} {pos' : Pos} {value : Expr} {pos : Pos} {Q : Flow → Shared → Prop}
    (h : wpC M A (eval value env) (fun v s₁ => wpAny M A (storeName env x v) (fun _ => Q .next) E s₁) E s)
    (hs : swapsWith value (some (.Name x pos')) pos.line env = pure false := by rfl) :
    wpC M A (exec (.Assign [.Name x pos'] value pos) env) Q E s := fun Γ p hΓ h1 h2 => by
  simp only [exec_Assign_Name env x pos' value pos hs, Sem.wp_bind', Sem.wp_cmd_standAt, Sem.wp_bindName, Sem.wp_pure']
  exact Sem.wp_mono M Γ _ (fun v _ s₁ h₁ => h₁ Γ _ hΓ) (fun _ _ _ h' => h') _ _ (h Γ _ hΓ h1 h2)
theorem wpC_If {test : Expr} {body orelse : List Stmt} {pos : Pos} {Q : Flow → Shared → Prop}
    (h : wpC M A (isTrue test env (eval test env))
      (fun b s₂ => if b then wpC M A (execs body env) Q E s₂ else wpC M A (execs orelse env) Q E s₂) E s) :
    wpC M A (exec (.If test body orelse pos) env) Q E s := fun Γ p hΓ h1 h2 => by
  simp only [exec_If, Sem.wp_bind', Sem.wp_cmd_standAt]
  refine Sem.wp_mono M Γ _ (fun b p₂ s₂ h₂ => ?_) (fun _ _ _ h' => h') _ _ (h Γ _ hΓ h1 h2)
  cases b <;> exact h₂ Γ p₂ hΓ h1 h2
theorem wpC_isTrue_Compare1 {l : Expr} {op : CmpOp} {r : Expr} {pos : Pos} {whole : Sem Value} {Q : Bool → Shared → Prop}
    (h : wpC M A (eval l env) (fun a s₁ => wpAny M A (eval r env) (fun b s₂ => wpAny M A (compareOp op a b)
      (fun c s₃ => wpAny M A (truthy c) Q E s₃) E s₂) E s₁) E s)
    (hm : behindInMarks op r = false := by with_unfolding_all rfl) : wpC M A (isTrue (.Compare l [op] [r] pos) env whole) Q E s := fun Γ p hΓ h1 h2 => by
  simp only [isTrue_Compare1, markedBehindIn_of_false hm, Sem.wp_bind', Sem.wp_holding, Sem.wp_cmd_standAt, Sem.wp_operate]
  exact Sem.wp_mono M Γ _ (fun a p₁ s₁ h₁ => Sem.wp_mono M Γ _ (fun b _ s₂ h₂ => Sem.wp_mono M Γ _ (fun c p₃ s₃ h₃ => h₃ Γ p₃ hΓ)
    (fun _ _ _ h' => h') _ _ (h₂ Γ _ hΓ)) (fun _ _ _ h' => h') _ _ (h₁ Γ p₁ hΓ)) (fun _ _ _ h' => h') _ _ (h Γ p hΓ h1 h2)
theorem wpC_Call {func : Expr} {args : List Expr} {pos : Pos} {Q : Value → Shared → Prop}
    (h : wpAny M A (eval func env) (fun f s₁ => wpC M A (callWith pos f [] (backTo pos (starEach args env)) []) Q E s₁) E s)
    (he : eval (.Call func args [] pos) env = (do callWith pos (← eval func env) [] (backTo pos (starEach args env)) (backToKw pos (keywordEach [] env))) := by rfl) :
    wpC M A (eval (.Call func args [] pos) env) Q E s := by
  rw [he]; exact wpC_bindA h
theorem wpC_callWith {f : Value} {pos : Pos} {P : Heap → Prop} {args : List (Bool × Sem Value)} {Q : Value → Shared → Prop} (hplain : (args.any (·.1) || ([] : List (Option Str × Sem Value)).any (·.1.isNone)) = false)
    (hk : ∀ h, P h → ∃ k, (k = Keeper.frame ∨ k = Keeper.machine ∨ k = Keeper.boundFrame) ∧ Looks M h (keeperOf f) k)
    (h : wpC M A (evalArgs f true args []) (fun a s₁ => P s₁.heap ∧ wpC M A (call f a.pos a.kw) Q E s₁) E s) : wpC M A (callWith pos f [] args []) Q E s := by
  unfold callWith
  refine wpC_bind (wpC_holding (wpC_mono h (fun a s₁ h₁ => wpC_bindA (wpAny_standAt ?_)) fun _ _ x => x))
  obtain ⟨k, hk', L⟩ := hk _ h₁.1
  simp only [hplain]
  refine wpC_bindA (L.here ?_)
  have tail : ∀ {t : Sem Value}, wpC M A t Q E s₁ → wpC M A (t >>= fun r => holding [r] point >>= fun _ => pure r) Q E s₁ :=
    fun ht => wpC_bind (wpC_mono ht (fun r s₂ hr => wpC_any (wpAny_bind (wpAny_holding (wpAny_point (wpAny_pure hr))))) fun _ _ x => x)
  have marked (mk : Value) : wpC M A (callMarked mk f ([] ++ a.pos) a.kw) Q E s₁ := by unfold callMarked; exact wpC_keep h₁.2
  rcases hk' with rfl | rfl | rfl <;> dsimp only <;> first | exact tail h₁.2 | (split <;> first | exact tail h₁.2 | exact tail (marked _))
theorem wpC_evalArgs {f : Value} {x : Sem Value} {rest : List (Bool × Sem Value)} {Q : Args → Shared → Prop}
    (h : wpC M A (spliced ((false, x) :: rest)) (fun vs s' => Q ⟨vs, []⟩ s') E s) : wpC M A (evalArgs f true ((false, x) :: rest) []) Q E s := by
  unfold evalArgs
  show wpC M A (spliced ((false, x) :: rest) >>= _) Q E s
  refine wpC_bind (wpC_mono h (fun vs s' h' => ?_) fun _ _ x => x)
  refine wpC_any (wpAny_holding ?_)
  exact wpAny_bind (wpAny_pure (wpAny_bind (wpAny_pure (wpAny_pure h'))))
theorem wpC_spliced_cons {x : Sem Value} {rest : List (Bool × Sem Value)} {Q : List Value → Shared → Prop}
    (h : wpC M A x (fun v s₁ => wpC M A (spliced rest) (fun vs s₂ => Q (v :: vs) s₂) E s₁) E s) : wpC M A (spliced ((false, x) :: rest)) Q E s := by
  rw [spliced]
  refine wpC_bind (wpC_mono h (fun v s₁ h₁ => ?_) fun _ _ x => x)
  simp only [Bool.false_eq_true, if_false]
  exact wpC_bindA (wpAny_pure (wpC_bind (wpC_holding (wpC_mono h₁ (fun vs s₂ h₂ => wpC_pure h₂) fun _ _ x => x))))
/-- a call of a def of the text, or of a type, whose arguments are plain -/
theorem wpC_CallK {K : Frag} {f : Value} {e : Expr} {rest : List Expr} {pos : Pos} {Q : Value → Shared → Prop} (hk : keepIn K f = true)
    (h : wpC M A (spliced (backTo pos (starEach (e :: rest) env))) (fun vs s₁ => K.In s₁.heap ∧ wpC M A (call f vs) Q E s₁) E s)
    (he : starEach (e :: rest) env = (false, eval e env) :: starEach rest env := by rfl) (hplain : (backTo pos (starEach rest env)).any (·.1) = false := by rfl) :
    wpC M A (callWith pos f [] (backTo pos (starEach (e :: rest) env)) []) Q E s := by
  rw [he] at h ⊢
  exact wpC_callWith (P := K.In) (by show ((false || (backTo pos (starEach rest env)).any (·.1)) || false) = false; rw [hplain]; rfl) (keeps_K hk) (wpC_evalArgs h)
theorem wpC_CallT {T : String} {e : Expr} {rest : List Expr} {pos : Pos} {Q : Value → Shared → Prop}
    (h : wpC M A (spliced (backTo pos (starEach (e :: rest) env))) (fun vs s₁ => wpC M A (call (.type T) vs) Q E s₁) E s)
    (he : starEach (e :: rest) env = (false, eval e env) :: starEach rest env := by rfl) (hplain : (backTo pos (starEach rest env)).any (·.1) = false := by rfl) :
    wpC M A (callWith pos (.type T) [] (backTo pos (starEach (e :: rest) env)) []) Q E s := by
  rw [he] at h ⊢
  refine wpC_callWith (P := fun _ => True) (by show ((false || (backTo pos (starEach rest env)).any (·.1)) || false) = false; rw [hplain]; rfl) (fun _ _ => ⟨.machine, .inr (.inl rfl), Looks.of_pure rfl⟩) (wpC_evalArgs (wpC_mono h (fun _ _ x => ⟨trivial, x⟩) fun _ _ x => x))
end
section
variable {prog : Program} {w : World} {A : Around} {E : Value → Shared → Prop} {s : Shared} {R : Result → Shared → Prop}
theorem codeC_func {body : List Stmt} {env : Env}
    (h : wpC (model prog w) (A.deeper env) (execs body env) (fun f s' => R (.ok (.ret (match f with | .ret v => v | _ => .none))) s')
      (fun e s' => wpAny (model prog w) (A.deeper env) (leaving env e) (fun _ s'' => R (.error e) s'') (fun e' s'' => R (.error e') s'') s') s) :
    codeC (model prog w) A (.func body env) R s := by
  refine codeC_of_tree rfl ?_
  show wpC _ (A.deeper env) (do point; match ← (execs body env).onRaise (leaving env) with | .ret v => ret v | _ => ret .none) _ _ s
  refine wpC_bindA (wpAny_point (wpC_bind (wpC_onRaise (wpC_mono h (fun f s' h' => ?_) fun _ _ h' => wpC_any h'))))
  cases f <;> exact wpC_pure h'
theorem codeC_call_function {a : Addr} {args : Args} {o : Obj} {fd : FuncData} {body : List Stmt} (hroom : A.depth < recursionLimit)
    (ho : s.heap.get? a = some o)
    (hd' : o.data = .func fd) (hco : fd.scope.isCoroutine = false) (hgen : fd.scope.isGenerator = false) (hbody : fd.body = .stmts body) (hcd : s.heap.CodeRec fd.code fd.qualname)
    (h : wpAny (model prog w) A.in1 (bindArgs fd args) (fun binds s₁ =>
      wpAny (model prog w) A.in1 (newFunctionEnv fd.scope fd.globals fd.closure binds (fd.qualname ++ ".<locals>.") (some a) fd.code none fd.builtins)
        (fun env s₂ => s₂.heap.NoLimit ∧ codeC (model prog w) A (.func body env) R s₂) (fun e s' => R (.error e) s') s₁) (fun e s' => R (.error e) s') s) :
    codeC (model prog w) A (.call (.ref a) args) R s := by
  refine codeC_of_tree rfl ?_
  show wpC _ A.in1 (callAny (.ref a) args) _ _ s
  simp only [callAny]
  refine wpC_bindA (wpAny_load ho ?_)
  obtain ⟨c, oc, vs, tq, hc, hoc, hdc, hq⟩ := hcd
  simp only [hd', callFunction, hco, hgen, hbody, hc]
  rw [hc] at h
  refine wpC_bindA (m := field (.ref c) 1) (wpAny_field hoc hdc hq (wpC_bindA (wpAny_pure ?_)))
  exact wpC_bindA (wpAny_mono h (fun binds s₁ h₁ => wpC_bindA (wpAny_mono h₁ (fun env s₂ h₂ => wpC_any (wpAny_bind (wpAny_enterFrame h₂.1 hroom
    (wpAny_pure (And.intro rfl h₂.2))))) fun _ _ h' => h')) fun _ _ h' => h')
end
theorem enterK {prog : Program} {w : World} {A : Around} {s : Shared} {hb : Heap} {news : List (Addr × Obj)} {K : Frag} {p : Program} {loose : List Str} {mean : ExcName → Option Value} {mg mb : Str → Option Value}
    {Q : Value → Shared → Prop} {E : Value → Shared → Prop} {name qual : Str} {params : Arguments} {body : List Stmt} {scope : Scope} {dV kV doc pm cdv ct oc : Value} {an od : Option Addr} {osl : Array (Option Value)} {f : Addr} {vals : List Value} {binds : List (Str × Value)}
    (X : K.In hb) (T : Top p loose mean mg mb hb) (st : ∀ b o, hb.get? b = some o → s.heap.get? b = some o)
    (N : ∀ q ∈ news, s.heap.get? q.1 = some q.2 ∧ hb.get? q.1 = none)
    (ho : K.lookup f = some ⟨oc, od, .func (fnOf name qual params body scope dV kV doc pm an cdv ct), osl⟩) (hcd : codeIn K cdv qual = true) (hroom : A.depth < recursionLimit)
    (hbind : BindsTo s (fnOf name qual params body scope dV kV doc pm an cdv ct) ⟨vals, []⟩ binds) (hloc : ∀ y ∈ binds, scope.names.lookup y.1 = some .local)
    (h : ∀ g L h₁, Fr g L h₁ (fun y => binds.reverse.lookup y) → News g L h₁ news → K.In g → Top p loose mean mg mb g → Ex (news.map (·.1)) s.heap g → (∀ b o, hb.get? b = some o → g.get? b = some o) →
      wpC (model prog w) (A.deeper (envOf qual scope L f cdv)) (execs body (envOf qual scope L f cdv))
        (fun fl s' => Q (match fl with | .ret v => v | _ => .none) s')
        (fun e s' => wpAny (model prog w) (A.deeper (envOf qual scope L f cdv)) (leaving (envOf qual scope L f cdv) e) (fun _ s'' => E e s'') (fun e' s'' => E e' s'') s')
        { s with heap := h₁, toks := s.toks + binds.length })
    (hco : scope.isCoroutine = false) (hgen : scope.isGenerator = false) (hk : scope.kind = .function)
    (hcell : ∀ x ∈ scope.names, x.2 ≠ .cell) : wpC (model prog w) A (call (.ref f) vals) Q E s := by
  have X' := X.keeps st
  refine wpC_call (codeC_call_function hroom (X' _ _ ho) rfl hco hgen rfl (codeRec_of X' hcd) (hbind _ _ _ _ ?_))
  refine wpAny_newFunctionEnv hcell hloc (fun h₁ hns₁ hsb₁ => ⟨(T.nolimit.keeps st).fresh _ hsb₁, codeC_func ?_⟩) hk
  have hk₁ : ∀ b o, s.heap.get? b = some o → h₁.get? b = some o := fun b o e => hsb₁.extBut b o (Nat.ne_of_lt (Heap.lt_size e)) (Heap.get?_push_of_some _ e)
  have nm : ∀ b o, hb.get? b = some o → b ∉ news.map (·.1) := fun b o e q => by
    obtain ⟨p, hp, rfl⟩ := List.mem_map.mp q
    rw [(N p hp).2] at e; cases e
  have st' : ∀ b o, hb.get? b = some o → (hideAll s.heap (news.map (·.1))).get? b = some o := fun b o e => hideAll_get _ (st b o e) (nm b o e)
  exact h (hideAll s.heap (news.map (·.1))) s.heap.objs.size h₁
    ⟨hns₁, fun b o e => hk₁ b o (of_hideAll _ e), Nat.le_of_eq (hideAll_size _ _)⟩
    (fun p hp => ⟨hk₁ _ _ (N p hp).1, Nat.ne_of_lt (Heap.lt_size (N p hp).1), hideAll_none _ (List.mem_map_of_mem hp)⟩)
    (X.keeps st') (T.keeps st') (fun b o hb e => hideAll_get _ e hb) st'

/-- a call of a def with captured names -/
theorem enterC {prog : Program} {w : World} {A : Around} {s : Shared} {hb : Heap} {news : List (Addr × Obj)} {K : Frag} {p : Program} {loose : List Str} {mean : ExcName → Option Value} {mg mb : Str → Option Value}
    {Q : Value → Shared → Prop} {E : Value → Shared → Prop} {name qual : Str} {params : Arguments} {body : List Stmt} {scope : Scope} {dV kV doc pm cdv ct oc : Value} {an od : Option Addr} {osl : Array (Option Value)} {f : Addr} {vals : List Value} {binds : List (Str × Value)}
    (X : K.In hb) (T : Top p loose mean mg mb hb) (st : ∀ b o, hb.get? b = some o → s.heap.get? b = some o)
    (N : ∀ q ∈ news, s.heap.get? q.1 = some q.2 ∧ hb.get? q.1 = none)
    (ho : K.lookup f = some ⟨oc, od, .func (fnOf name qual params body scope dV kV doc pm an cdv ct), osl⟩) (hcd : codeIn K cdv qual = true) (hroom : A.depth < recursionLimit)
    (hbind : BindsTo s (fnOf name qual params body scope dV kV doc pm an cdv ct) ⟨vals, []⟩ binds) (hkind : (binds.all fun y => scope.names.lookup y.1 == some .local || scope.names.lookup y.1 == some .cell) = true)
    (hnd : ((cellsFrom 0 scope.names []).map (·.1)).Nodup)
    (h : ∀ g L h₁ tk cells, Fr g L h₁ (bindL (envOfC qual scope L f cdv).kindOf binds fun _ => none) → News g L h₁ (cells ++ news) →
      CellsAre (bindC (envOfC qual scope L f cdv).kindOf binds fun _ => none) (cellsFrom (L + 1) scope.names []) cells → (∀ q ∈ news, q.1 < L) → K.In g → Top p loose mean mg mb g → Ex (news.map (·.1)) s.heap g → (∀ b o, hb.get? b = some o → g.get? b = some o) →
      wpAny (model prog w) (A.deeper (envOfC qual scope L f cdv)) (execs body (envOfC qual scope L f cdv))
        (fun fl s' => Q (match fl with | .ret v => v | _ => .none) s') (fun _ _ => False) { s with heap := h₁, toks := tk })
    (hco : scope.isCoroutine = false) (hgen : scope.isGenerator = false) (hk : scope.kind = .function) : wpAny (model prog w) A (call (.ref f) vals) Q E s := by
  have X' := X.keeps st
  refine wpAny_call (codeAny_call_function hroom (X' _ _ ho) rfl hco hgen rfl (codeRec_of X' hcd) (hbind _ _ _ _ ?_))
  refine wpAny_newFunctionEnv_cells hk (kindsX hkind _) fun env' he s' x => ?_
  subst he
  refine ⟨(T.nolimit.keeps st).keeps x.toInCall.keep, codeAny_func ?_⟩
  obtain ⟨h₁, tk, rfl, _⟩ := x.done
  have hk₁ := x.toInCall.keep
  have nm : ∀ b o, hb.get? b = some o → b ∉ news.map (·.1) := fun b o e q => by
    obtain ⟨p, hp, rfl⟩ := List.mem_map.mp q
    rw [(N p hp).2] at e; cases e
  have st' : ∀ b o, hb.get? b = some o → (hideAll s.heap (news.map (·.1))).get? b = some o := fun b o e => hideAll_get _ (st b o e) (nm b o e)
  obtain ⟨cells, NC, Y⟩ := Cl.news (h₀ := s.heap) (Nat.le_refl _) fun n c hm => ⟨x.cell n c (lookup_of_mem_nodup (cellsFrom_names scope.names 0 (s.heap.objs.size + 1) [] [] rfl ▸ hnd) hm), x.above n c hm⟩
  refine wpAny_mono (h (hideAll s.heap (news.map (·.1))) s.heap.objs.size h₁ tk cells ⟨x.toInCall.ns, fun b o e => hk₁ b o (of_hideAll _ e), Nat.le_of_eq (hideAll_size _ _)⟩ (fun p hp => ?_) Y (fun p hp => Heap.lt_size (N p hp).1) (X.keeps st') (T.keeps st') (fun b o hb e => hideAll_get _ e hb) st') (fun fl s' hl => hl) fun _ _ y => y.elim
  rcases List.mem_append.mp hp with hp | hp
  · refine ⟨(NC p hp).1, (NC p hp).2.1, ?_⟩
    cases q : (hideAll s.heap (news.map (·.1))).get? p.1 with
    | none => rfl
    | some o => have := of_hideAll _ q; rw [(NC p hp).2.2] at this; cases this
  · exact ⟨hk₁ _ _ (N p hp).1, Nat.ne_of_lt (Heap.lt_size (N p hp).1), hideAll_none _ (List.mem_map_of_mem hp)⟩

/-- the ground of a comprehension's element: all that stands behind the iterator -/
structure CompG (K : Frag) (p : Program) (loose : List Str) (mean : ExcName → Option Value) (mg mb : Str → Option Value) (h₂ : Heap) (I : Addr) (g' : Heap) : Prop where
  X : K.In g'
  T : Top p loose mean mg mb g'
  all : ∀ b o, b ≠ I → h₂.get? b = some o → g'.get? b = some o
  fr : ∀ C h₃ m₃, h₂.objs.size ≤ C → h₃.Ns C m₃ → (∀ b o, b ∉ [I] → h₂.get? b = some o → h₃.get? b = some o) → Fr g' C h₃ m₃
theorem compG {K : Frag} {p : Program} {loose : List Str} {mean : ExcName → Option Value} {mg mb : Str → Option Value} {g h₂ : Heap} {I : Addr} (X : K.In g) (T : Top p loose mean mg mb g)
    (st : ∀ b o, g.get? b = some o → h₂.get? b = some o) (hI : g.get? I = none) : ∃ g', CompG K p loose mean mg mb h₂ I g' := by
  have st' : ∀ b o, g.get? b = some o → (hideAll h₂ [I]).get? b = some o := fun b o e => hideAll_get _ (st b o e) (by
    intro q; have : b = I := by simpa using q
    subst this; rw [hI] at e; cases e)
  refine ⟨hideAll h₂ [I], X.keeps st', T.keeps st', fun b o hb e => hideAll_get _ e (by simpa using hb), fun C h₃ m₃ hC hn hk => ⟨hn, fun b o e => ?_, ?_⟩⟩
  · refine hk b o ?_ (of_hideAll _ e)
    intro q
    have := hideAll_none (h := h₂) [I] q
    rw [this] at e; cases e
  · rw [hideAll_size]; exact hC

section
variable {M : Model} {A : Around} {E : Value → Shared → Prop} {s : Shared} {env : Env} {g : Heap} {m : Str → Option Value} {x : Str} {pos : Pos} {v : Value} {Q : Value → Shared → Prop}
theorem name_loc {L : Addr} (F : Fr g L s.heap m) (hL : env.locals = L) (hv : m x = some v) (h : Q v s) (hk : env.scope.kind = .function) (hx : env.kindOf x = some .local) (hd : (x == ("__debug__" : Str)) = false) :
    wpAny M A (eval (.Name x pos) env) Q E s := wpAny_Name (wpAny_loadName_local hk hx (hL ▸ F.ns) hv h) hd
theorem name_cell {c : Addr} (hc : env.cells.lookup x = some c) (hv : s.heap.IsCell c (some v)) (h : Q v s) (hk : env.scope.kind = .function) (hx : env.kindOf x = some .cell) (hd : (x == ("__debug__" : Str)) = false) :
    wpAny M A (eval (.Name x pos) env) Q E s := wpAny_Name (wpAny_loadName_cell hk hx hc hv h) hd
theorem name_glob {L : Addr} {K : Frag} {p : Program} {loose : List Str} {mean : ExcName → Option Value} {mg mb : Str → Option Value} (F : Fr g L s.heap m) (X : K.In g) (T : Top p loose mean mg mb g) (e : nsIn K mainGlobals x = some (some v)) (h : Q v s)
    (hg : env.globals = mainGlobals) (hk : env.scope.kind = .function) (hx : env.kindOf x = some .globalImplicit) (hd : (x == ("__debug__" : Str)) = false) :
    wpAny M A (eval (.Name x pos) env) Q E s := Name_function_global hk hx (loadGlobal_global (hg ▸ T.g.keeps F.keep) (mg_of X T.g e) h) hd
theorem name_built {L : Addr} {K : Frag} {p : Program} {loose : List Str} {mean : ExcName → Option Value} {mg mb : Str → Option Value} (F : Fr g L s.heap m) (X : K.In g) (T : Top p loose mean mg mb g) (e : nsIn K mainGlobals x = some none) (hv : bootBuiltins x = some v) (hn : x ≠ "__name__") (h : Q v s)
    (hg : env.globals = mainGlobals) (hb : env.builtins = builtinsNs) (hk : env.scope.kind = .function) (hx : env.kindOf x = some .globalImplicit) (hd : (x == ("__debug__" : Str)) = false) :
    wpAny M A (eval (.Name x pos) env) Q E s := Name_function_global hk hx (loadGlobal_builtin (hg ▸ T.g.keeps F.keep) (mg_none_of X T.g e) (hb ▸ T.b.keeps F.keep) ((T.builtins x hn).trans hv) h) hd
end
local macro_rules | `(tactic| walk_at "eval Name") => `(tactic| (k_here; k_dflt (first | (refine' name_loc ?F ?L ?v ?_ ?a ?b ?d; (case F => k_asm); (case L => exact rfl); (case a => exact rfl); (case b => exact rfl); (case d => decide); (case v => exact rfl); k_whole) | (refine' name_cell ?c ?v ?_ ?a ?b ?d; (case a => exact rfl); (case b => exact rfl); (case c => exact rfl); (case v => first | exact ⟨_, News.get (by k_asm) (by k_mem), by k_asm⟩ | exact Heap.IsCell.keeps (by assumption) (Fr.keep (by k_asm))); (case d => decide); k_whole) | (refine' name_glob ?F ?X ?T ?e ?_ ?g ?a ?b ?d; (case F => k_asm); (case X => k_asm); (case T => k_asm); (case g => exact rfl); (case a => exact rfl); (case b => exact rfl); (case d => decide); (case e => k_is); k_whole) | (refine' name_built ?F ?X ?T ?e ?v ?n ?_ ?g ?bb ?a ?b ?d; (case F => k_asm); (case X => k_asm); (case T => k_asm); (case g => exact rfl); (case bb => exact rfl); (case a => exact rfl); (case b => exact rfl); (case d => decide); (case e => k_is); (case v => boot_fast); (case n => decide); k_whole))))

/-- keeps the walk from opening an end -/
def Done (P : Prop) : Prop := P
theorem keeps_refl (s : Shared) : PySem.Keeps s s := ⟨s.heap, s.toks, rfl, fun _ _ e => e⟩
theorem keeps_toks (s : Shared) (tk : Nat) : PySem.Keeps s { s with toks := tk } := ⟨s.heap, tk, rfl, fun _ _ e => e⟩
theorem keeps_ex {s : Shared} {h' : Heap} {tk : Nat} (x : Ex [] s.heap h') : PySem.Keeps s { s with heap := h', toks := tk } := ⟨h', tk, rfl, fun b o e => x b o (by simp) e⟩
section
variable {prog : Program} {w : World} {A : Around} {s : Shared} {env : Env} {E : Value → Shared → Prop}
theorem comp_core {K : Frag} {p : Program} {loose : List Str} {mean : ExcName → Option Value} {mg mb : Str → Option Value} {g : Heap} {L : Addr} {m : Str → Option Value} {news : List (Addr × Obj)}
    {elt : Expr} {x : Str} {ifs : List Expr} {scope : Scope} {cl : List (Str × Addr)} {Q : Value → Shared → Prop} {fp : List Addr} {n : Nat} {P : Nat → Value → Prop} {St : Nat → Heap → Prop}
    (F : Fr g L s.heap m) (N : News g L s.heap news) (X : K.In g) (T : Top p loose mean mg mb g) (oI : Obj)
    (W : Walks prog w A s.heap.objs.size fp [s.heap.objs.size] n P St) (hn : n ≤ sizeLine) (hst : St 0 (s.heap.push oI)) (hfp : ∀ b ∈ fp, b < s.heap.objs.size + 1) (pp : Value → Bool) (FF : Value → Value → Prop)
    (tests : ∀ g' C i v s₃ m₃ E', P i v → K.In g' → Top p loose mean mg mb g' → (∀ b o, s.heap.get? b = some o → g'.get? b = some o) → Fr g' C s₃.heap m₃ → m₃ x = some v →
      wpAny (model prog w) A (forIn ifs true fun c r => if r = true then do let ok ← isTrue c (compEnvC scope cl C env) (eval c (compEnvC scope cl C env)); pure (ForInStep.yield ok) else pure (ForInStep.yield r)) (fun ok s₄ => ok = pp v ∧ PySem.Keeps s₃ s₄) E' s₃)
    (eltH : ∀ g' C i v s₃ m₃ E', P i v → pp v = true → K.In g' → Top p loose mean mg mb g' → (∀ b o, s.heap.get? b = some o → g'.get? b = some o) → Fr g' C s₃.heap m₃ → m₃ x = some v →
      wpAny (model prog w) A (eval elt (compEnvC scope cl C env)) (fun y s₄ => FF v y ∧ PySem.Keeps s₃ s₄) E' s₃)
    (hQ : ∀ D h' tk ys (vs : List Value) k, Fr g L h' m → News g L h' ((D, listOf ys k) :: news) → (∀ q ∈ news, q.1 ≠ D) → Ex [] s.heap h' → vs.length = n → (∀ j v, vs[j]? = some v → P j v) → Paired FF (vs.filter pp) ys.toList → Q (.ref D) { s with heap := h', toks := tk }) :
    ∃ I fp wr n P St, Value.ref s.heap.objs.size = .ref I ∧ Walks prog w A I fp wr n P St ∧ n ≤ sizeLine ∧ St 0 (s.heap.push oI) ∧ (∀ b ∈ fp, b < (s.heap.push oI).objs.size) ∧
      QuietOnC prog w A env scope cl x ifs elt wr P pp FF { s with heap := s.heap.push oI } ∧
      (∀ D h' tk ys (vs : List Value), (s.heap.push oI).get? D = none → h'.IsList D ys → h'.PlainList D ys → vs.length = n → (∀ j v, vs[j]? = some v → P j v) → Paired FF (vs.filter pp) ys.toList →
        (∀ b o, b ∉ wr → (s.heap.push oI).get? b = some o → h'.get? b = some o) → Q (.ref D) { s with heap := h', toks := tk }) := by
  have hIg : g.get? s.heap.objs.size = none := by
    cases q : g.get? s.heap.objs.size with
    | none => rfl
    | some o => exact absurd (Heap.lt_size (F.keep _ _ q)) (Nat.lt_irrefl _)
  have stp : ∀ b o, s.heap.get? b = some o → (s.heap.push oI).get? b = some o := fun b o e => Heap.get?_push_of_some _ e
  obtain ⟨g', G⟩ := compG (h₂ := s.heap.push oI) X T (fun b o e => stp b o (F.keep b o e)) hIg
  have sg : ∀ b o, s.heap.get? b = some o → g'.get? b = some o := fun b o e => G.all b o (Nat.ne_of_lt (Heap.lt_size e)) (stp b o e)
  refine ⟨_, fp, _, n, P, St, rfl, W, hn, hst, fun b hb => by rw [Heap.size_push]; exact hfp b hb, ⟨?_, ?_⟩, ?_⟩
  · intro C i v s₃ m₃ E' hC hP hns hx hk _
    exact tests g' C i v s₃ m₃ E' hP G.X G.T sg (G.fr C s₃.heap m₃ hC hns hk) hx
  · intro C i v s₃ m₃ E' hC hP hp hns hx hk _
    exact eltH g' C i v s₃ m₃ E' hP hp G.X G.T sg (G.fr C s₃.heap m₃ hC hns hk) hx
  · intro D h' tk ys vs hD _ hpl hlen hP hF hk
    have hk' : ∀ b o, s.heap.get? b = some o → h'.get? b = some o := fun b o e => hk b o (by simpa using Nat.ne_of_lt (Heap.lt_size e)) (stp b o e)
    have hDs : ∀ b o, s.heap.get? b = some o → b ≠ D := by rintro b o e rfl; rw [stp _ _ e] at hD; cases hD
    obtain ⟨k, hk2⟩ := hpl
    obtain ⟨oL, es, ep, hL, r⟩ := F.ns
    refine hQ D h' tk ys vs k ⟨⟨oL, es, ep, hk' _ _ hL, r⟩, fun b o e => hk' b o (F.keep b o e), F.above⟩ ?_ ?_ (fun b o _ e => hk' b o e) hlen hP hF
    · intro q hq
      rcases List.mem_cons.mp hq with rfl | hq
      · refine ⟨hk2, fun e => hDs _ _ hL e.symm, ?_⟩
        cases q : g.get? D with
        | none => rfl
        | some o => exact absurd rfl (hDs _ _ (F.keep _ _ q))
      · exact ⟨hk' _ _ (N q hq).1, (N q hq).2⟩
    · exact fun q hq => hDs _ _ (N q hq).1
theorem tests_nil {cenv : Env} {s₃ : Shared} {E' : Value → Shared → Prop} :
    wpAny (model prog w) A (forIn ([] : List Expr) true fun c r => if r = true then do let ok ← isTrue c cenv (eval c cenv); pure (ForInStep.yield ok) else pure (ForInStep.yield r)) (fun ok s₄ => Done (ok = true ∧ PySem.Keeps s₃ s₄)) E' s₃ :=
  wpAny_pure ⟨rfl, keeps_refl _⟩
theorem tests_one {cenv : Env} {s₃ : Shared} {b : Bool} {c : Expr} {E' : Value → Shared → Prop} (h : wpAny (model prog w) A (isTrue c cenv (eval c cenv)) (fun ok s₄ => Done (ok = b ∧ PySem.Keeps s₃ s₄)) E' s₃) :
    wpAny (model prog w) A (forIn [c] true fun c r => if r = true then do let ok ← isTrue c cenv (eval c cenv); pure (ForInStep.yield ok) else pure (ForInStep.yield r)) (fun ok s₄ => Done (ok = b ∧ PySem.Keeps s₃ s₄)) E' s₃ := by
  rw [List.forIn_cons]
  simp only [if_true]
  refine wpAny_bind (wpAny_bind (wpAny_mono h (fun ok s₄ q => ?_) fun _ _ e => e))
  exact wpAny_pure (wpAny_pure q)
end

def CompAt (prog : Program) (w : World) (A : Around) (env : Env) (scope : Scope) (cl : List (Str × Addr)) (x : Str) (ifs : List Expr) (elt : Expr) (pp : Value → Bool) (FF : Value → Value → Prop) (Q : Value → Shared → Prop) (it : Value) (s₂ : Shared) : Prop :=
  ∃ I fp wr n P St, it = .ref I ∧ Walks prog w A I fp wr n P St ∧ n ≤ sizeLine ∧ St 0 s₂.heap ∧ (∀ b ∈ fp, b < s₂.heap.objs.size) ∧
      QuietOnC prog w A env scope cl x ifs elt wr P pp FF s₂ ∧
      (∀ D h' tk ys (vs : List Value), s₂.heap.get? D = none → h'.IsList D ys → h'.PlainList D ys → vs.length = n → (∀ j v, vs[j]? = some v → P j v) → Paired FF (vs.filter pp) ys.toList →
        (∀ b o, b ∉ wr → s₂.heap.get? b = some o → h'.get? b = some o) → Q (.ref D) { s₂ with heap := h', toks := tk })
section
variable {prog : Program} {w : World} {A : Around} {s : Shared} {env : Env} {E : Value → Shared → Prop}
  {elt iter : Expr} {x : Str} {px : Pos} {ifs : List Expr} {scope : Scope} {cl : List (Str × Addr)} {pos : Pos} {Q : Value → Shared → Prop} {pp : Value → Bool} {FF : Value → Value → Prop}
theorem ListComp_W (pp : Value → Bool) (FF : Value → Value → Prop)
    (hclos : closureFor scope env = pure cl) (hcell : ∀ y ∈ scope.names, y.2 ≠ .cell) (hkind : scope.kind = .function)
    (hnames : ∀ y ∈ scope.names, y.2 = .local → scope.names.lookup y.1 = some .local) (hx : scope.names.lookup x = some .local)
    (h : wpAny (model prog w) A (eval iter env) (fun xv s₁ => wpAny (model prog w) A (pyIter xv) (fun it s₂ => CompAt prog w A env scope cl x ifs elt pp FF Q it s₂) E s₁) E s)
    (hs : ∀ x, foldedSetIterable iter env x = pure x) :
    wpAny (model prog w) A (eval (.ListComp elt [⟨.Name x px, iter, ifs, 0⟩] scope pos) env) Q E s := wpAny_ListComp_free pp FF hclos hcell hkind hnames hx h hs
variable {K : Frag} {p : Program} {loose : List Str} {mean : ExcName → Option Value} {mg mb : Str → Option Value} {g : Heap} {L : Addr} {m : Str → Option Value} {news : List (Addr × Obj)}
theorem comp_rng {r : Addr} {a b c : Int} {t u v : Tok} {n : Nat} (hr : IsRange s.heap r a b c t u v) (hsmall : Builtin.Range.small a b c = true) (hsz : Builtin.Range.rangeSize a b c = n) (hn : n ≤ sizeLine) (hh : A.handled = none)
    (F : Fr g L s.heap m) (N : News g L s.heap news) (X : K.In g) (T : Top p loose mean mg mb g)
    (tests : ∀ g' C (i : Nat) t s₃ m₃ E', i < n → K.In g' → Top p loose mean mg mb g' → (∀ b o, s.heap.get? b = some o → g'.get? b = some o) → Fr g' C s₃.heap m₃ → m₃ x = some (.int (a + i * c) t) →
      wpAny (model prog w) A (forIn ifs true fun c r => if r = true then do let ok ← isTrue c (compEnvC scope cl C env) (eval c (compEnvC scope cl C env)); pure (ForInStep.yield ok) else pure (ForInStep.yield r)) (fun ok s₄ => Done (ok = pp (.int (a + i * c) t) ∧ PySem.Keeps s₃ s₄)) E' s₃)
    (eltH : ∀ g' C (i : Nat) t s₃ m₃ E', i < n → pp (.int (a + i * c) t) = true → K.In g' → Top p loose mean mg mb g' → (∀ b o, s.heap.get? b = some o → g'.get? b = some o) → Fr g' C s₃.heap m₃ → m₃ x = some (.int (a + i * c) t) →
      wpAny (model prog w) A (eval elt (compEnvC scope cl C env)) (fun y s₄ => Done (FF (.int (a + i * c) t) y ∧ PySem.Keeps s₃ s₄)) E' s₃)
    (hQ : ∀ D h' tk ys (vs : List Value) k, Fr g L h' m → News g L h' ((D, listOf ys k) :: news) → (∀ q ∈ news, q.1 ≠ D) → Ex [] s.heap h' → vs.length = n → (∀ (j : Nat) (v : Value), vs[j]? = some v → ∃ t, v = Value.int (a + (j : Nat) * c) t) → Paired FF (vs.filter pp) ys.toList → Q (.ref D) { s with heap := h', toks := tk }) :
    wpAny (model prog w) A (pyIter (.ref r)) (fun it s₂ => CompAt prog w A env scope cl x ifs elt pp FF Q it s₂) E s := by
  refine wpAny_pyIter_range hr hsmall ?_
  rw [hsz]
  have hb : ∀ i v, (∃ t, v = Value.int (a + (i : Nat) * c) t) → True := fun _ _ _ => trivial
  have W0 := Walks.range (prog := prog) (w := w) hh s.heap.objs.size a c n
  have W : Walks prog w A s.heap.objs.size [s.heap.objs.size] [s.heap.objs.size] n (fun i v => i < n ∧ ∃ t, v = Value.int (a + (i : Nat) * c) t) (fun i h => IsRangeIter h s.heap.objs.size (a + (i : Nat) * c) ((n : Int) - (i : Nat)) c) :=
    { sub := W0.sub, frame := W0.frame, done := W0.done, self := W0.self, item := fun i s Q E hi st hQ => W0.item i s Q E hi st fun v h' tk hv => hQ v h' tk ⟨hi, hv⟩ }
  refine comp_core F N X T _ W hn (by simp; exact Heap.get?_push_size _ rfl) (by simp) pp FF ?_ ?_ ?_
  · rintro g' C i v s₃ m₃ E' ⟨hi, t, rfl⟩ X3 T3 sg F3 hm
    exact tests g' C i t s₃ m₃ E' hi X3 T3 sg F3 hm
  · rintro g' C i v s₃ m₃ E' ⟨hi, t, rfl⟩ hp X3 T3 sg F3 hm
    exact eltH g' C i t s₃ m₃ E' hi hp X3 T3 sg F3 hm
  · intro D h' tk ys vs k F4 N4 hD x4 hlen hP hF
    exact hQ D h' tk ys vs k F4 N4 hD x4 hlen (fun j v hv => (hP j v hv).2) hF
theorem comp_lst {ax : Addr} {items : Array Value} (hl : s.heap.IsList ax items) (hn : items.size ≤ sizeLine) (hh : A.handled = none)
    (F : Fr g L s.heap m) (N : News g L s.heap news) (X : K.In g) (T : Top p loose mean mg mb g)
    (tests : ∀ g' C (i : Nat) v s₃ m₃ E', items[i]? = some v → K.In g' → Top p loose mean mg mb g' → (∀ b o, s.heap.get? b = some o → g'.get? b = some o) → Fr g' C s₃.heap m₃ → m₃ x = some v →
      wpAny (model prog w) A (forIn ifs true fun c r => if r = true then do let ok ← isTrue c (compEnvC scope cl C env) (eval c (compEnvC scope cl C env)); pure (ForInStep.yield ok) else pure (ForInStep.yield r)) (fun ok s₄ => Done (ok = pp v ∧ PySem.Keeps s₃ s₄)) E' s₃)
    (eltH : ∀ g' C (i : Nat) v s₃ m₃ E', items[i]? = some v → pp v = true → K.In g' → Top p loose mean mg mb g' → (∀ b o, s.heap.get? b = some o → g'.get? b = some o) → Fr g' C s₃.heap m₃ → m₃ x = some v →
      wpAny (model prog w) A (eval elt (compEnvC scope cl C env)) (fun y s₄ => Done (FF v y ∧ PySem.Keeps s₃ s₄)) E' s₃)
    (hQ : ∀ D h' tk ys k, Fr g L h' m → News g L h' ((D, listOf ys k) :: news) → (∀ q ∈ news, q.1 ≠ D) → Ex [] s.heap h' → Paired FF (items.toList.filter pp) ys.toList → Q (.ref D) { s with heap := h', toks := tk }) :
    wpAny (model prog w) A (pyIter (.ref ax)) (fun it s₂ => CompAt prog w A env scope cl x ifs elt pp FF Q it s₂) E s := by
  refine wpAny_pyIter_list hl ?_
  obtain ⟨ol, hol, hcl⟩ := id hl
  have hne : ax ≠ s.heap.objs.size := Nat.ne_of_lt (Heap.lt_size hol)
  refine comp_core F N X T _ (Walks.list hh s.heap.objs.size ax hne items) hn ⟨⟨_, Heap.get?_push_size _ rfl, rfl, rfl⟩, hl.at fun o e => Heap.get?_push_of_some _ e⟩ ?_ pp FF ?_ ?_ ?_
  · intro b hb
    have h1 := Heap.lt_size hol
    rcases List.mem_cons.mp hb with rfl | h
    · exact Nat.lt_succ_self _
    · rw [List.mem_singleton.mp h]; exact Nat.lt_succ_of_lt h1
  · intro g' C i v s₃ m₃ E' hv X3 T3 sg F3 hm
    exact tests g' C i v s₃ m₃ E' hv X3 T3 sg F3 hm
  · intro g' C i v s₃ m₃ E' hv hp X3 T3 sg F3 hm
    exact eltH g' C i v s₃ m₃ E' hv hp X3 T3 sg F3 hm
  · intro D h' tk ys vs k F4 N4 hD x4 hlen hP hF
    have e : vs = items.toList := by
      apply List.ext_getElem?
      intro j
      by_cases hj : j < vs.length
      · have := hP j vs[j] (by simp [hj])
        have e2 : items.toList[j]? = some vs[j] := by rw [Array.getElem?_toList]; exact this
        rw [e2]; simp [hj]
      · rw [List.getElem?_eq_none (by omega), List.getElem?_eq_none (by simp; omega)]
    subst e
    exact hQ D h' tk ys k F4 N4 hD x4 hF
end

theorem filter_tt {l : List Value} : l.filter (fun _ => true) = l := by simp

theorem small_up {b : Int} {c : Int} (hb : 0 ≤ b) (hb2 : b < 2 ^ 40) (hc : 0 < c) (hc2 : c < 2 ^ 40) (a : Int) (ha : 0 ≤ a) (ha2 : a < 2 ^ 40) : Builtin.Range.small a b c = true := by
  have h1 : 0 ≤ Builtin.Range.rangeSize a b c ∧ Builtin.Range.rangeSize a b c < 2 ^ 41 := by
    unfold Builtin.Range.rangeSize
    rw [if_pos hc]
    split
    · have : (b - a - 1) / c ≤ b - a - 1 := Int.ediv_le_self _ (by omega)
      have : 0 ≤ (b - a - 1) / c := Int.ediv_nonneg (by omega) (by omega)
      omega
    · omega
  unfold Builtin.Range.small
  simp only [Builtin.Range.rangeFitsLong, Bool.and_eq_true, decide_eq_true_eq, Bool.or_eq_true, beq_iff_eq]
  rw [if_pos hc]
  simp only [Bool.and_eq_true, decide_eq_true_eq]
  omega
/-- a comprehension's made ints -/
theorem paired_from {a c : Int} (hc : c ≠ 0) {f : Nat → Int} : ∀ {vs ys : List Value} (k : Nat), (∀ j v, vs[j]? = some v → ∃ t, v = Value.int (a + (k + j : Nat) * c) t) →
    Paired (fun v y => ∃ (i : Nat) (t u : Tok), v = Value.int (a + i * c) t ∧ y = Value.int (f i) u) vs ys → IntsAre ys ((List.range' k vs.length).map f)
  | [], _, _, _, hp => by cases hp; exact .nil
  | v :: vs, _, k, h, hp => by
    cases hp with
    | cons hf hr =>
      obtain ⟨i, t, u, e1, rfl⟩ := hf
      obtain ⟨t', e2⟩ := h 0 v rfl
      have : i = k := by
        rw [e2] at e1
        injection e1 with e1 _
        have e3 : ((i : Int) - k) * c = 0 := by
          have : (a + (k + 0 : Nat) * c) = a + i * c := e1
          rw [Int.sub_mul]; simp at this; omega
        rcases Int.mul_eq_zero.mp e3 with h1 | h1
        · omega
        · exact absurd h1 hc
      subst this
      rw [List.length_cons, List.range'_succ, List.map_cons]
      exact .cons _ _ (paired_from hc (i + 1) (fun j v hv => by
        obtain ⟨t, e⟩ := h (j + 1) v (by simpa using hv)
        exact ⟨t, by rw [e, show i + (j + 1) = i + 1 + j by omega]⟩) hr)
theorem paired_ints {a c : Int} (hc : c ≠ 0) {f : Nat → Int} {n : Nat} {vs ys : List Value} (hl : vs.length = n) (h : ∀ j v, vs[j]? = some v → ∃ t, v = Value.int (a + (j : Nat) * c) t)
    (hp : Paired (fun v y => ∃ (i : Nat) (t u : Tok), v = Value.int (a + i * c) t ∧ y = Value.int (f i) u) vs ys) : IntsAre ys ((List.range n).map f) := by
  have := paired_from hc 0 (fun j v hv => by simpa using h j v hv) hp
  rw [hl, ← List.range_eq_range'] at this; exact this
/-- a number's bytes, lowest first -/
def lowL (n wd : Nat) : List UInt8 := (List.range wd).map fun i => UInt8.ofNat (n / 256 ^ i % 256)
section
variable {w : World} {A : Around} {s : Shared} {hb : Heap} {mean : ExcName → Option Value} {mg mb : Str → Option Value} {E : Value → Shared → Prop} {Q : Value → Shared → Prop}
theorem low_call {n wd : Nat} {t1 t2 : Tok}
    (X : (hd.heap_39 w.params).In hb) (T : Top hd.view_39 (looseW hd.view_39 []) mean mg mb hb) (st : ∀ b o, hb.get? b = some o → s.heap.get? b = some o)
    (hh : A.handled = none) (hroom : A.depth + 2 < recursionLimit) (hwd : wd ≤ 4)
    (h : ∀ h' tk t, Ex [] s.heap h' → Q (.bytes (lowL n wd).toArray t) { s with heap := h', toks := tk }) :
    wpAny (model PySem.Challenge.rw_nq0033_01.row.prog w) A (call (.ref 75) [.int n t1, .int wd t2]) Q E s := by
  refine' enterC X T st (news := []) (binds := [(Str.ofString "number", .int n t1), (Str.ofString "width", .int wd t2)]) (fun _ h => nomatch h) ?k6 ?k7 (depth_lt hroom) ?k9 ?kB ?kD ?_ ?c2 ?c3 ?c4
  case k6 => k_is
  case k7 => k_is
  case k9 => exact BindsTo.of_eq rfl
  case kB => exact rfl
  case kD => decide +kernel
  case c2 => exact rfl
  case c3 => exact rfl
  case c4 => exact rfl
  intro g L h₁ tk cells F N Y hlt X' T' xg stg
  obtain ⟨o1, rfl, d1⟩ := CellsAre.one Y
  simp only [List.cons_append, List.nil_append] at N
  iterate 6 walk1
  refine ListComp_W (fun _ => true) (fun v y => ∃ (i : Nat) (t u : Tok), v = Value.int (0 + i * 1) t ∧ y = Value.int ((n / 256 ^ i % 256 : Nat) : Int) u) (cl := [(Str.ofString "number", L + 1)]) rfl (by decide) rfl (by decide) rfl ?_ (by intro _; rfl)
  repeat walk1
  rename IsRange _ _ _ _ _ _ _ _ => hr
  rename Fr _ _ _ _ => F2
  rename News _ _ _ _ => N2
  have d1 : o1.data = .cell (some (.int n t1)) := d1
  refine comp_rng (n := wd) hr (small_up (by omega) (by omega) (by omega) (by omega) _ (by omega) (by omega)) (by unfold Builtin.Range.rangeSize; simp; omega) (by simp [sizeLine]; omega) hh F2 N2 X' T' (fun _ _ _ _ _ _ _ _ _ _ _ _ _ => tests_nil) ?_ ?_
  · intro g' C i t s₃ m₃ E' hi _ X3 T3 sg F3 hm
    have F3 := Fr.pins F3 (ps := [(Str.ofString "place", _)]) ⟨hm, trivial⟩
    have hc1 : g'.IsCell (L + 1) (some (.int n t1)) := ⟨_, sg _ _ (N2.get (.head _)), d1⟩
    clear F2 N2 hr T' X'
    have hp1 : (256 : Int) ^ (0 + (i : Int) * 1).toNat = ((256 ^ i : Nat) : Int) := by
      rw [show (0 + (i : Int) * 1).toNat = i by omega]; push_cast; rfl
    have hp2 : 256 ^ i ≤ 256 ^ 3 := Nat.pow_le_pow_right (by omega) (by omega)
    have hp3 : 0 < 256 ^ i := Nat.pow_pos (by omega)
    have hz1 : (256 : Int) ^ (0 + (i : Int) * 1).toNat ≠ 0 := by rw [hp1]; omega
    have hz2 : ((256 : Int) ^ (0 + (i : Int) * 1).toNat).natAbs < 1073741824 := by rw [hp1]; omega
    repeat walk1
    have e : ((n : Int).fdiv (256 ^ (0 + (i : Int) * 1).toNat)).fmod 256 = ((n / 256 ^ i % 256 : Nat) : Int) := by
      rw [hp1, Int.fdiv_eq_ediv_of_nonneg _ (by omega), Int.fmod_eq_emod_of_nonneg _ (by omega)]; rfl
    rw [e]
    exact And.intro ⟨i, _, _, rfl, rfl⟩ (keeps_toks _ _)
  · intro D h' tk' ys vs k F4 N4 hD x4 hlen hP hF
    rw [filter_tt] at hF
    repeat walk1
    have hi := paired_ints (by omega) hlen hP hF
    have hys : ys = ys.toList.toArray := by simp
    rw [hys] at N4
    refine call_bytes_ints (PySem.IsL.isList (n := k) (N4.get (.head _))) hi ?_ ?_ hh ?_
    · intro z hz
      obtain ⟨i, _, rfl⟩ := List.mem_map.mp hz
      omega
    · rw [hi.length]; simp [sizeLine]; omega
    · intro h5 t5 k5 hk5
      have e : byteArr ((List.range wd).map fun i => ((n / 256 ^ i % 256 : Nat) : Int)) = (lowL n wd).toArray := by
        unfold byteArr lowL
        rw [List.map_map]
        rfl
      rw [e]
      exact h _ _ _ (fun b o hb e => hk5 b o (F4.keep b o (xg b o hb e)))
end

theorem sliced_rev (b : Array UInt8) : Bytes.sliced b ((b.size : Int) - 1) (-1) (-1) = b.toList.reverse.toArray := by
  unfold Bytes.sliced
  rw [krv_sliceRange, krv_range, List.filterMap_reverse, krv_all]
theorem meets_rev (b : Array UInt8) (t : Tok) (a : Addr) {k : Tok} :
    Meets («bytes.__getitem__» ⟨[.bytes b t, .ref a], []⟩) (fun _ R s => s.heap.IsSliceOf a .none .none (.int (-1) k) ∧ b.size ≤ sizeLine ∧ ∀ t' k, R (.ok (.ret (.bytes b.toList.reverse.toArray t'))) { s with toks := k }) := by
  refine .of_wp fun prog w A R s hS => ?_
  obtain ⟨⟨o, ho, hc, hd⟩, hsz, h⟩ := hS
  have hT : s.TypeIs (.ref a) "slice" := ⟨o, ho, hc⟩
  show wpAny _ _ (Bytes.payload (.bytes b t) >>= fun r => _) _ _ s
  refine wpAny_bind (wpAny_of_eq (a := b) rfl ?_)
  show wpAny _ _ (Bytes.subscript? (.ref a) >>= fun r => _) _ _ s
  refine wpAny_bind ?_
  unfold Bytes.subscript?
  refine wpAny_bind (wpAny_specialOf hT slice_no_index (wpAny_pure ?_))
  refine wpAny_bind (wpAny_typeOf hT ?_)
  show wpAny _ _ (Bytes.sliceParts (.ref a) >>= fun r => _) _ _ s
  refine wpAny_bind ?_
  unfold Bytes.sliceParts
  refine wpAny_bind (wpAny_field (x := .int (-1) k) ho hd rfl ?_)
  kby_int
  refine wpAny_ite (KBy.ite_no (show ¬ ((rawInt (-1) == rawInt 0) = true) from by decide) ?_)
  refine wpAny_bind (wpAny_field (x := .none) ho hd rfl ?_)
  kby_none
  refine wpAny_bind (wpAny_field (x := .none) ho hd rfl ?_)
  kby_none
  refine wpAny_pure ?_
  have go : wpAny (model prog w) A.in1 (sliceIndices (rawPart none) (rawPart none) (rawPart (some (-1))) b.size) (fun r s' => r = sliceBounds none none (some (-1)) b.size ∧ s' = s) (fun _ _ => False) s :=
    wpAny_of_eq (sliceIndices_raw none none (some (-1)) b.size (by decide)) ⟨rfl, rfl⟩
  refine wpAny_bind (wpAny_mono go (fun r s' hr => ?_) fun _ _ e => e.elim)
  obtain ⟨hr1, hr2⟩ := hr
  subst hr1 hr2
  rw [krv_bounds]
  refine wpAny_ite (KBy.ite_no ?_ ?_)
  · simp
  · rw [sliced_rev]
    exact wpAny_bind (wpAny_mkBytes (wpAny_pure ⟨_, rfl, h _ _⟩) (by simpa using hsz))
section
variable {prog : Program} {w : World} {A : Around} {E : Value → Shared → Prop} {s : Shared} {value slice : Expr} {b : Array UInt8} {t : Tok} {h₀ : Heap} {L : Addr} {m : Str → Option Value} {news : List (Addr × Obj)} {Q : Value → Shared → Prop}
theorem rev_K {k : Tok} (hF : Fr h₀ L s.heap m) (hN : News h₀ L s.heap news) (hz : b.size ≤ 16777216)
    (h : ∀ h' t' k, Fr h₀ L h' m → News h₀ L h' news → Q (.bytes b.toList.reverse.toArray t') { s with heap := h', toks := k })
    (hs : subscripted slice false (.bytes b t) (.ref s.heap.objs.size) = operate [.ref s.heap.objs.size, .bytes b t] (getItem (.bytes b t) (.ref s.heap.objs.size)))
    (ht : ∀ r, letTemporaryGo value (.bytes b t) r = pure ()) :
    wpAny (model prog w) A (subscriptTail value slice (.bytes b t) (.ref s.heap.objs.size)) Q E { s with heap := s.heap.push { cls := .type "slice", data := .fields #[.none, .none, .int (-1) k] } } :=
  tail_of_ItemOn ⟨"bytes", _, FB.slot_bytes_getitem.lookup, typeIs_bytes _ _ _, getItem_meets (typeIs_bytes _ _ _) (by decide) FB.slot_bytes_getitem FB.entry_bytes_getitem (FB.args_bytes_getitem_2 _ _) (meets_rev b t _)
    ⟨Heap.IsSliceOf.new _ _ _ _, by rw [sizeLine_eq]; exact hz, fun t' k => h _ _ _ (hF.push _) (News.pushKeep hN _)⟩⟩ hs ht
end

section
variable {w : World} {A : Around} {s : Shared} {hb : Heap} {mean : ExcName → Option Value} {mg mb : Str → Option Value} {E : Value → Shared → Prop} {Q : Value → Shared → Prop}
theorem high_call {n wd : Nat} {t1 t2 : Tok}
    (X : (hd.heap_39 w.params).In hb) (T : Top hd.view_39 (looseW hd.view_39 []) mean mg mb hb) (st : ∀ b o, hb.get? b = some o → s.heap.get? b = some o)
    (hh : A.handled = none) (hroom : A.depth + 3 < recursionLimit) (hwd : wd ≤ 4)
    (h : ∀ h' tk t, Ex [] s.heap h' → Q (.bytes (lowL n wd).reverse.toArray t) { s with heap := h', toks := tk }) :
    wpAny (model PySem.Challenge.rw_nq0033_01.row.prog w) A (call (.ref 82) [.int n t1, .int wd t2]) Q E s := by
  refine' enterF X T st (news := []) (binds := [(Str.ofString "number", .int n t1), (Str.ofString "width", .int wd t2)]) (fun _ h => nomatch h) ?k6 ?k7 (depth_lt hroom) ?k9 ?kB ?_ ?c2 ?c3 ?c4 ?c5
  case k6 => k_is
  case k7 => k_is
  case k9 => exact BindsTo.of_eq rfl
  case kB => exact locs rfl
  case c2 => exact rfl
  case c3 => exact rfl
  case c4 => exact rfl
  case c5 => decide
  intro g L h₁ F N X' T' xg stg
  repeat walk1
  rename Fr _ _ _ _ => F2
  rename News _ _ _ _ => N2
  refine low_call (hb := g) X' T' (fun b o e => F2.keep b o e) hh (by first | exact deep_ok hroom | exact deep_lt hroom) hwd ?_
  intro h4 tk4 t4 x4
  have F4 := Ex.fr0 F2 x4
  have N4 : News g L h4 [] := News.nil
  clear F2 N2
  iterate 7 walk1
  dsimp only
  refine' rev_K (s := ⟨_, _, _, _, _⟩) ?k1 ?k2 ?k3 ?_ ?k4 ?k5
  case k1 => exact F4
  case k2 => exact N4
  case k3 => simp [lowL]; omega
  case k4 => with_unfolding_all rfl
  case k5 => intro _; with_unfolding_all rfl
  intro h5 t5 k5 F5 N5
  repeat walk1
  have e : (lowL n wd).toArray.toList.reverse.toArray = (lowL n wd).reverse.toArray := by simp
  rw [e]
  exact h _ _ _ (leaveEx F5 xg)
end

/-- the number with the same bytes in the opposite order -/
def otherL (n wd : Nat) : List Nat := (List.range wd).map fun i => n / 256 ^ i % 256 * 256 ^ (wd - 1 - i)
theorem sum_cast : ∀ l : List Nat, ((l.sum : Nat) : Int) = (l.map fun x : Nat => (x : Int)).sum
  | [] => rfl
  | a :: l => by rw [List.sum_cons, List.map_cons, List.sum_cons, ← sum_cast l]; push_cast; rfl
def other (n wd : Nat) : Nat := (otherL n wd).sum
section
variable {w : World} {A : Around} {s : Shared} {hb : Heap} {mean : ExcName → Option Value} {mg mb : Str → Option Value} {E : Value → Shared → Prop} {Q : Value → Shared → Prop}
theorem other_call {n wd : Nat} {t1 t2 : Tok}
    (X : (hd.heap_39 w.params).In hb) (T : Top hd.view_39 (looseW hd.view_39 []) mean mg mb hb) (st : ∀ b o, hb.get? b = some o → s.heap.get? b = some o)
    (hh : A.handled = none) (hroom : A.depth + 2 < recursionLimit) (hwd : wd ≤ 4)
    (h : ∀ h' tk t, Ex [] s.heap h' → Q (.int ((other n wd : Nat) : Int) t) { s with heap := h', toks := tk }) :
    wpAny (model PySem.Challenge.rw_nq0033_01.row.prog w) A (call (.ref 87) [.int n t1, .int wd t2]) Q E s := by
  refine' enterC X T st (news := []) (binds := [(Str.ofString "number", .int n t1), (Str.ofString "width", .int wd t2)]) (fun _ h => nomatch h) ?k6 ?k7 (depth_lt hroom) ?k9 ?kB ?kD ?_ ?c2 ?c3 ?c4
  case k6 => k_is
  case k7 => k_is
  case k9 => exact BindsTo.of_eq rfl
  case kB => exact rfl
  case kD => decide +kernel
  case c2 => exact rfl
  case c3 => exact rfl
  case c4 => exact rfl
  intro g L h₁ tk cells F N Y hlt X' T' xg stg
  obtain ⟨o2, o1, rfl, d2, d1⟩ := CellsAre.two Y
  clear Y
  simp only [List.cons_append, List.nil_append] at N
  have d1 : o1.data = .cell (some (.int n t1)) := d1
  have d2 : o2.data = .cell (some (.int wd t2)) := d2
  iterate 6 walk1
  refine ListComp_W (fun _ => true) (fun v y => ∃ (i : Nat) (t u : Tok), v = Value.int (0 + i * 1) t ∧ y = Value.int ((n / 256 ^ i % 256 * 256 ^ (wd - 1 - i) : Nat) : Int) u) (cl := [(Str.ofString "width", L + 2), (Str.ofString "number", L + 1)]) rfl (by decide) rfl (by decide) rfl ?_ (by intro _; rfl)
  repeat walk1
  rename IsRange _ _ _ _ _ _ _ _ => hr
  rename Fr _ _ _ _ => F2
  rename News _ _ _ _ => N2
  refine comp_rng (n := wd) hr (small_up (by omega) (by omega) (by omega) (by omega) _ (by omega) (by omega)) (by unfold Builtin.Range.rangeSize; simp; omega) (by simp [sizeLine]; omega) hh F2 N2 X' T' (fun _ _ _ _ _ _ _ _ _ _ _ _ _ => tests_nil) ?_ ?_
  · intro g' C i t s₃ m₃ E' hi _ X3 T3 sg F3 hm
    have F3 := Fr.pins F3 (ps := [(Str.ofString "place", _)]) ⟨hm, trivial⟩
    have hc1 : g'.IsCell (L + 1) (some (.int n t1)) := ⟨_, sg _ _ (N2.get (.tail _ (.head _))), d1⟩
    have hc2 : g'.IsCell (L + 2) (some (.int wd t2)) := ⟨_, sg _ _ (N2.get (.head _)), d2⟩
    clear F2 N2 hr T' X'
    have hp1 : (256 : Int) ^ (0 + (i : Int) * 1).toNat = ((256 ^ i : Nat) : Int) := by
      rw [show (0 + (i : Int) * 1).toNat = i by omega]; push_cast; rfl
    have hp2 : 256 ^ i ≤ 256 ^ 3 := Nat.pow_le_pow_right (by omega) (by omega)
    have hp3 : 0 < 256 ^ i := Nat.pow_pos (by omega)
    have hz1 : (256 : Int) ^ (0 + (i : Int) * 1).toNat ≠ 0 := by rw [hp1]; omega
    have hz2 : ((256 : Int) ^ (0 + (i : Int) * 1).toNat).natAbs < 1073741824 := by rw [hp1]; omega
    repeat walk1
    have e : ((n : Int).fdiv (256 ^ (0 + (i : Int) * 1).toNat)).fmod 256 * 256 ^ ((wd : Int) - 1 - (0 + (i : Int) * 1)).toNat = ((n / 256 ^ i % 256 * 256 ^ (wd - 1 - i) : Nat) : Int) := by
      rw [hp1, Int.fdiv_eq_ediv_of_nonneg _ (by omega), Int.fmod_eq_emod_of_nonneg _ (by omega), show ((wd : Int) - 1 - (0 + (i : Int) * 1)).toNat = wd - 1 - i by omega]
      push_cast; rfl
    rw [e]
    exact And.intro ⟨i, _, _, rfl, rfl⟩ (keeps_toks _ _)
  · intro D h' tk' ys vs k F4 N4 hD x4 hlen hP hF
    rw [filter_tt] at hF
    have hi := paired_ints (by omega) hlen hP hF
    have hys : ys = ys.toList.toArray := by simp
    rw [hys] at N4
    iterate 1 walk1
    refine' LSm.sum_ints ?k2 ?k3 ?k1 ?k4 ?k5 ?_
    case k1 => exact hh
    case k2 => exact F4
    case k3 => exact N4
    case k4 => exact PySem.IsL.isList (n := k) (N4.get (.head _))
    case k5 => exact hi
    intro h5 tk5 t5 F5 N5
    have e : ((List.range wd).map fun i => ((n / 256 ^ i % 256 * 256 ^ (wd - 1 - i) : Nat) : Int)).sum = ((other n wd : Nat) : Int) := by
      unfold other otherL
      rw [sum_cast, List.map_map]; rfl
    rw [e]
    exact h _ _ _ (leaveEx F5 xg)
end

/-- each word of wd bytes turned about -/
def sv (l : List UInt8) (wd p : Nat) : UInt8 := l.getD (p / wd * wd + (wd - 1 - p % wd)) 0
def swp (l : List UInt8) (wd : Nat) : List UInt8 := (List.range l.length).map (sv l wd)
def fillA (f : Nat → UInt8) (n : Nat) (P : Nat → Bool) : Array UInt8 := ((List.range n).map fun p => if P p then f p else 0).toArray
theorem fillA_size (f : Nat → UInt8) (n : Nat) (P : Nat → Bool) : (fillA f n P).size = n := by simp [fillA]
theorem fillA_congr {f : Nat → UInt8} {n : Nat} {P P' : Nat → Bool} (h : ∀ p, p < n → P p = P' p) : fillA f n P = fillA f n P' := by
  unfold fillA
  congr 1
  apply List.map_congr_left
  intro p hp
  rw [h p (List.mem_range.mp hp)]
theorem fillA_set {f : Nat → UInt8} {n : Nat} {P : Nat → Bool} {k : Nat} : (fillA f n P).setIfInBounds k (f k) = fillA f n (fun p => P p || p == k) := by
  apply Array.ext
  · simp [fillA]
  · intro i h1 h2
    have hi : i < n := by simpa [fillA] using h2
    by_cases hk : i = k
    · subst hk; simp [fillA, hi]
    · rw [Array.getElem_setIfInBounds (by simpa [fillA] using hi), if_neg (Ne.symm hk)]
      simp [fillA, hk]
theorem fillA_none {f : Nat → UInt8} {n : Nat} {P : Nat → Bool} (h : ∀ p, p < n → P p = false) : fillA f n P = Array.replicate n 0 := by
  apply Array.ext
  · simp [fillA]
  · intro i h1 h2
    have hi : i < n := by simpa [fillA] using h1
    simp [fillA, h i hi]
theorem fillA_all {l : List UInt8} {wd : Nat} {P : Nat → Bool} (h : ∀ p, p < l.length → P p = true) : fillA (sv l wd) l.length P = (swp l wd).toArray := by
  unfold fillA swp
  congr 1
  apply List.map_congr_left
  intro p hp
  rw [h p (List.mem_range.mp hp)]; rfl
section
variable {prog : Program} {w : World} {A : Around} {E : Value → Shared → Prop} {s : Shared} {g : Heap} {L a : Addr} {m : Str → Option Value} {rest : List (Addr × Obj)}
theorem setItem_ba {b : Array UInt8} {k : Int} {x : UInt8} {t u : Tok} {Q : Unit → Shared → Prop} (F : Fr g L s.heap m) (N : News g L s.heap ((a, bao b) :: rest)) (hr : ∀ p ∈ rest, p.1 ≠ a) (h0 : 0 ≤ k) (h1 : k < b.size) (hz : b.size < 1000000)
    (h : ∀ h' tk, Fr g L h' m → News g L h' ((a, bao (b.setIfInBounds k.toNat x)) :: rest) → Q () { s with heap := h', toks := tk }) :
    wpAny (model prog w) A (setItem (.ref a) (.int k u) (.int x.toNat t)) Q E s := by
  have z := N _ (.head _)
  refine set_ba z.1 h0 h1 hz fun h' tk hs' ho' => h h' tk (F.change hs' z.2.1 z.2.2) ?_
  exact Ex.news N (fun b o hb e => hs'.extBut b o (by simpa using hb) e) hr ho'
end
theorem rs_mul (m wd : Nat) (h : 1 ≤ wd) : Builtin.Range.rangeSize 0 ((m * wd : Nat) : Int) wd = m := by
  unfold Builtin.Range.rangeSize
  rw [if_pos (by omega)]
  by_cases hm : m = 0
  · subst hm; simp
  · have h1 : 1 ≤ m * wd := Nat.mul_pos (by omega) (by omega)
    rw [if_pos (by omega)]
    have e : (((m * wd : Nat) : Int) - 0 - 1) / (wd : Int) = ((m - 1 : Nat) : Int) := by
      have e1 : (((m * wd : Nat) : Int) - 0 - 1) = ((m * wd - 1 : Nat) : Int) := by omega
      rw [e1, ← Int.natCast_ediv]
      congr 1
      rw [Nat.div_eq_iff (by omega)]
      have : m * wd = (m - 1) * wd + wd := by
        conv => lhs; rw [show m = (m - 1) + 1 by omega, Nat.add_mul, Nat.one_mul]
      omega
    rw [e]; omega
theorem news_new {g h h' : Heap} {L : Addr} {m : Str → Option Value} {news : List (Addr × Obj)} {o : Obj} (F : Fr g L h m) (N : News g L h news) (hk : ∀ b o, h.get? b = some o → h'.get? b = some o) (ho : h'.get? h.objs.size = some o) :
    News g L h' ((h.objs.size, o) :: news) := by
  intro p hp
  rcases List.mem_cons.mp hp with rfl | hp
  · refine ⟨ho, Nat.ne_of_gt F.ns.lt, ?_⟩
    cases q : g.get? h.objs.size with
    | none => rfl
    | some o' => exact absurd (Heap.lt_size (F.keep _ _ q)) (Nat.lt_irrefl _)
  · exact ⟨hk _ _ (N p hp).1, (N p hp).2⟩
theorem fr_keeps {g h h' : Heap} {L : Addr} {m : Str → Option Value} (F : Fr g L h m) (hk : ∀ b o, h.get? b = some o → h'.get? b = some o) : Fr g L h' m := Ex.fr0 F (fun b o _ e => hk b o e)
section
variable {w : World} {A : Around} {s : Shared} {hb : Heap} {mean : ExcName → Option Value} {mg mb : Str → Option Value} {E : Value → Shared → Prop} {Q : Value → Shared → Prop}
theorem byteswap_call {l : List UInt8} {wd mm : Nat} {t1 t2 : Tok}
    (X : (hd.heap_39 w.params).In hb) (T : Top hd.view_39 (looseW hd.view_39 []) mean mg mb hb) (st : ∀ b o, hb.get? b = some o → s.heap.get? b = some o)
    (hh : A.handled = none) (hroom : A.depth + 2 < recursionLimit) (hwd : 1 ≤ wd) (hwd2 : wd < 1000) (hl : l.length = mm * wd) (hsz : l.length < 1000)
    (h : ∀ h' tk t, Ex [] s.heap h' → Q (.bytes (swp l wd).toArray t) { s with heap := h', toks := tk }) :
    wpC (model PySem.Challenge.rw_nq0033_01.row.prog w) A (call (.ref 70) [.bytes l.toArray t1, .int wd t2]) Q E s := by
  refine' enterK X T st (news := []) (binds := [(Str.ofString "data", .bytes l.toArray t1), (Str.ofString "width", .int wd t2)]) (fun _ h => nomatch h) ?k6 ?k7 (depth_lt hroom) ?k9 ?kB ?_ ?c2 ?c3 ?c4 ?c5
  case k6 => k_is
  case k7 => k_is
  case k9 => exact BindsTo.of_eq rfl
  case kB => exact locs rfl
  case c2 => exact rfl
  case c3 => exact rfl
  case c4 => exact rfl
  case c5 => decide
  intro g L h₁ F N X' T' xg stg
  have hsz' : l.length < 1000000 := by omega
  refine wpC_mono (E := fun _ _ => False) ?_ (fun _ _ q => q) (fun _ _ q => q.elim)
  refine wpC_execs_cons (wpC_Assign_Name (wpC_Call ?_) (by rfl))
  walk1
  refine wpC_CallT (wpC_any ?_)
  repeat walk1
  refine call_ba (n := l.length) hsz' ?_
  intro h2 hk2 ho2
  rename Fr _ _ _ _ => F
  rename News _ _ _ _ => N
  dsimp only at hk2 ho2
  have F2 := fr_keeps F hk2
  have N2 := news_new F N hk2 ho2
  clear F N
  try dsimp only
  generalize h₁.objs.size = ba at *
  rw [← fillA_none (f := sv l wd) (n := l.length) (P := fun p => decide (p < 0 * wd)) (by intro p _; simp)] at N2
  iterate 1 walk1
  refine wpC_any ?_
  iterate 1 walk1
  refine For_rng ?_ (by intro _; rfl)
  repeat walk1
  rename_i h4 tk4 ta tb tc hr4 F4 N4 hk4
  have el : ((l.toArray.size : Nat) : Int) = ((mm * wd : Nat) : Int) := by simp [hl]
  rw [el] at hr4
  have hmw : mm * wd < 1000 := by omega
  have hwm : mm = 0 ∨ wd ≤ mm * wd := by
    rcases Nat.eq_zero_or_pos mm with h0 | h0
    · exact .inl h0
    · exact .inr (Nat.le_mul_of_pos_left wd h0)
  refine wpAny_pyIter_range hr4 (small_up (b := ((mm * wd : Nat) : Int)) (c := (wd : Nat)) (by omega) (by omega) (by omega) (by omega) _ (by omega) (by omega)) ?_
  rw [rs_mul mm wd hwd]
  dsimp only
  have hne4 : ba ≠ h4.objs.size := Nat.ne_of_lt (Heap.lt_size (N4.get (.head _)))
  have F6 := F4.push (rit 0 mm wd)
  have N6 := N4.push F4 (rit 0 mm wd)
  clear hr4 hk4
  generalize h4.objs.size = I at *
  refine for_rng (L := L) (news := [(ba, bao (fillA (sv l wd) l.length fun p => decide (p < 0 * wd)))]) rfl hh rfl rfl F6 N6 ?_
    (fun i m news => Has m [(Str.ofString "data", .bytes l.toArray t1), (Str.ofString "width", .int wd t2), (Str.ofString "swapped_data", .ref ba)] ∧ news = [(ba, bao (fillA (sv l wd) l.length fun p => decide (p < i * wd)))]) ⟨⟨rfl, rfl, rfl, trivial⟩, rfl⟩ ?_ ?_
  · intro p hp
    cases List.mem_singleton.mp hp; exact hne4
  · rintro i m₁ news₁ h₁ tk₁ t hi ⟨hm, rfl⟩ hne F₁ N₁
    have hiw : i * wd + wd ≤ mm * wd := by
      rw [show i * wd + wd = (i + 1) * wd by rw [Nat.add_mul, Nat.one_mul]]
      exact Nat.mul_le_mul_right wd (by omega)
    have ei : (0 : Int) + (i : Nat) * (wd : Nat) = ((i * wd : Nat) : Int) := by push_cast; omega
    rw [ei] at F₁
    have F₁ := Fr.pins F₁ (ps := [(Str.ofString "data", .bytes l.toArray t1), (Str.ofString "width", .int wd t2), (Str.ofString "swapped_data", .ref ba), (Str.ofString "i", .int ((i * wd : Nat) : Int) t)]) ⟨hm.1, hm.2.1, hm.2.2.1, rfl, trivial⟩
    have hIb := hne _ (.head _)
    generalize hrit : rit (0 + ((i + 1 : Nat) : Int) * (wd : Nat)) ((mm : Nat) - ((i + 1 : Nat) : Int)) (wd : Nat) = oI at *
    iterate 1 walk1
    refine For_rng ?_ (by intro _; rfl)
    repeat walk1
    rename_i h5 tk5 ta5 tb5 tc5 hr5 F5 N5 hk5
    refine wpAny_pyIter_range hr5 (small_up (b := (wd : Nat)) (c := 1) (by omega) (by omega) (by omega) (by omega) 0 (by omega) (by omega)) ?_
    rw [show Builtin.Range.rangeSize 0 (wd : Nat) 1 = (wd : Nat) by unfold Builtin.Range.rangeSize; simp; omega]
    dsimp only
    have hn5 : I ≠ h5.objs.size ∧ ba ≠ h5.objs.size := ⟨Nat.ne_of_lt (Heap.lt_size (N5.get (.head _))), Nat.ne_of_lt (Heap.lt_size (N5.get (.tail _ (.head _))))⟩
    have F7 := F5.push (rit 0 wd 1)
    have N7 := N5.push F5 (rit 0 wd 1)
    clear hr5 hk5 F5 N5
    generalize h5.objs.size = I2 at *
    generalize hq : i * wd = q at *
    refine for_rng (L := L) (news := [(I, oI), (ba, bao (fillA (sv l wd) l.length fun p => decide (p < q)))]) rfl hh rfl rfl F7 N7 ?_
      (fun j m news => Has m [(Str.ofString "data", .bytes l.toArray t1), (Str.ofString "width", .int wd t2), (Str.ofString "swapped_data", .ref ba), (Str.ofString "i", .int ((q : Nat) : Int) t)] ∧ news = [(I, oI), (ba, bao (fillA (sv l wd) l.length fun p => decide (p < q ∨ (q + wd ≤ p + j ∧ p < q + wd))))])
      ⟨⟨rfl, rfl, rfl, rfl, trivial⟩, ?_⟩ ?_ ?_
    · intro p hp
      rcases List.mem_cons.mp hp with rfl | hp
      · exact hn5.1
      · cases List.mem_singleton.mp hp; exact hn5.2
    · rw [fillA_congr (P' := fun p => decide (p < q ∨ (q + wd ≤ p + 0 ∧ p < q + wd)))]
      intro p _
      simp only [decide_eq_decide]; omega
    · rintro j m₂ news₂ h₆ tk₆ t6 hj ⟨hm2, rfl⟩ hne2 F₈ N₈
      have ej : (0 : Int) + (j : Nat) * 1 = ((j : Nat) : Int) := by omega
      rw [ej] at F₈
      have F₈ := Fr.pins F₈ (ps := [(Str.ofString "data", .bytes l.toArray t1), (Str.ofString "width", .int wd t2), (Str.ofString "swapped_data", .ref ba), (Str.ofString "i", .int ((q : Nat) : Int) t), (Str.ofString "j", .int ((j : Nat) : Int) t6)]) ⟨hm2.1, hm2.2.1, hm2.2.2.1, hm2.2.2.2.1, rfl, trivial⟩
      generalize hrit2 : rit (0 + ((j + 1 : Nat) : Int) * 1) ((wd : Nat) - ((j + 1 : Nat) : Int)) 1 = oI2 at *
      have N₈ : News g L h₆ [(ba, bao (fillA (sv l wd) l.length fun p => decide (p < q ∨ (q + wd ≤ p + j ∧ p < q + wd)))), (I2, oI2), (I, oI)] := by
        intro p hp
        refine N₈ p ?_
        simp only [List.mem_cons, List.not_mem_nil, or_false] at hp ⊢
        rcases hp with h | h | h <;> simp [h]
      repeat walk1
      rename Fr _ _ _ _ => F9
      rename News _ _ _ _ => N9
      have hsvj : sv l wd (q + wd - 1 - j) = l.getD ((q : Int) + (j : Int)).toNat 0 := by
        unfold sv
        have e1 : q + wd - 1 - j = wd * i + (wd - 1 - j) := by rw [Nat.mul_comm, hq]; omega
        have e2 : (q + wd - 1 - j) / wd = i := by rw [e1, Nat.mul_add_div (by omega), Nat.div_eq_of_lt (by omega)]; omega
        have e3 : (q + wd - 1 - j) % wd = wd - 1 - j := by rw [e1, Nat.mul_add_mod, Nat.mod_eq_of_lt (by omega)]
        rw [e2, e3, hq, show q + (wd - 1 - (wd - 1 - j)) = ((q : Int) + (j : Int)).toNat by omega]
      refine' setItem_ba (x := l.getD ((q : Int) + (j : Int)).toNat 0) ?F ?N ?hr ?h0 ?h1 ?hz ?_
      case F => exact F9
      case N => exact N9
      case hr =>
        intro p hp
        rcases List.mem_cons.mp hp with rfl | hp
        · exact fun e => hn5.2 e.symm
        · cases List.mem_singleton.mp hp; exact fun e => hIb e.symm
      case h0 => omega
      case h1 => rw [fillA_size]; omega
      case hz => rw [fillA_size]; omega
      intro h9 tk9 F10 N10
      rw [show ((q : Int) + (wd : Int) - 1 - (j : Int)).toNat = q + wd - 1 - j by omega, ← hsvj, fillA_set, fillA_congr (P' := fun p => decide (p < q ∨ (q + wd ≤ p + (j + 1) ∧ p < q + wd)))] at N10
      · repeat walk1
        refine ⟨_, _, _, _, rfl, F10, ?_, ?_, ⟨rfl, rfl, rfl, rfl, trivial⟩, rfl⟩
        · intro p hp
          refine N10 p ?_
          simp only [List.cons_append, List.nil_append, List.mem_cons, List.not_mem_nil, or_false] at hp ⊢
          rcases hp with h | h | h <;> simp [h]
        · intro p hp r hr
          cases List.mem_singleton.mp hp
          rcases List.mem_cons.mp hr with rfl | hr
          · exact hn5.1
          · cases List.mem_singleton.mp hr; exact hn5.2
      · intro p hp
        simp only [beq_iff_eq, Bool.or_eq_true, decide_eq_true_eq, Bool.decide_or]
        rw [Bool.eq_iff_iff]
        simp
        omega
    · rintro m₂ news₂ h₆ tk₆ ⟨hm2, rfl⟩ F₈ N₈
      repeat walk1
      refine ⟨_, _, _, _, rfl, F₈, ?_, ?_, ⟨hm2.1, hm2.2.1, hm2.2.2.1, trivial⟩, rfl⟩
      · rw [fillA_congr (P' := fun p => decide (p < (i + 1) * wd))] at N₈
        · exact N₈
        · intro p _
          rw [Nat.add_mul, Nat.one_mul, hq]
          simp only [decide_eq_decide]; omega
      · intro p hp r hr
        cases List.mem_singleton.mp hp
        cases List.mem_singleton.mp hr
        exact hIb
  · rintro m₁ news₁ h₁ tk₁ ⟨hm, rfl⟩ F₁ N₁
    have F₁ := Fr.pins F₁ hm
    rw [fillA_all (by intro p hp; rw [hl] at hp; simpa using hp)] at N₁
    repeat walk1
    refine bytes_ba (N₁.get (.head _)) (by simp [swp]; omega) ?_
    intro t5 k5
    exact h _ _ _ (leaveEx F₁ xg)
end

section
variable {prog : Program} {w : World} {A : Around} {E : Value → Shared → Prop} {s : Shared}
theorem pop_empty {a : Addr} {n : Nat} {Q : Value → Shared → Prop} (hh : A.handled = none) (ho : s.heap.get? a = some (listOf #[] n))
    (hE : ∀ h' tk e, Heap.NewExc s.heap h' e "IndexError" → E (.ref e) { s with heap := h', toks := tk }) : wpAny (model prog w) A (call (.builtin "list.pop") [.ref a]) Q E s := by
  have hT : s.TypeIs (.ref a) "list" := ⟨_, ho, rfl⟩
  refine wpAny_call_entry F.slot_list_pop hT F.entry_list_pop ?_ (F.args_list_pop_1 _)
  unfold Builtin.«list.pop»
  refine wpAny_bind (wpAny_of_eq (a := (Value.ref a, [])) rfl ?_)
  refine wpAny_bind (wpAny_of_eq (a := (-1 : Int)) rfl ?_)
  dsimp only
  simp only [show (!Builtin.List.listFitsIndex (-1)) = false from rfl, Bool.false_eq_true, if_false]
  refine wpAny_bind ?_
  unfold Builtin.List.listItems
  refine wpAny_bind (wpAny_seqItems ho rfl (wpAny_pure ?_))
  simp only [show (#[] : Array Value).isEmpty = true from rfl, if_true]
  first
    | exact wpAny_bind (wpAny_rule (by exact_raiseError plainExc_IndexError hh hE))
    | exact wpAny_bind (wpAny_rule (wpAny_bind (by exact_raiseError plainExc_IndexError hh hE)))
    | exact wpAny_bind (wpAny_bind (wpAny_rule (by exact_raiseError plainExc_IndexError hh hE)))
    | exact wpAny_rule (by exact_raiseError plainExc_IndexError hh hE)
end
section
variable {w : World} {A : Around} {s : Shared} {hb B : Heap} {outer : List Env} {mean : ExcName → Option Value} {mg mb : Str → Option Value} {E : Value → Shared → Prop} {Q : Value → Shared → Prop}
theorem funFrames_up {h h' B : Heap} {l : List Env} (x : h.FunFrames B l) (k : ∀ b o, h.get? b = some o → h'.get? b = some o) : h'.FunFrames B l := x.of_keeps fun b o e _ => ⟨o, k b o e, rfl⟩
theorem all_kept {h g h₁ : Heap} {L a : Addr} {o : Obj} {m : Str → Option Value} (F : Fr g L h₁ m) (N : News g L h₁ [(a, o)]) (xg : Ex [a] h g) (ho : h.get? a = some o) : ∀ b o', h.get? b = some o' → h₁.get? b = some o' := by
  intro b o' e
  by_cases q : b = a
  · subst q; rw [ho] at e; cases e; exact (N _ (.head _)).1
  · exact F.keep _ _ (xg _ _ (by simpa using q) e)
theorem none_below {h g h₁ B : Heap} {L a : Addr} {o : Obj} {m : Str → Option Value} (hB : B.StaysIn h) (F : Fr g L h₁ m) (N : News g L h₁ [(a, o)]) (xg : Ex [a] h g) : B.get? L = none := by
  cases q : B.get? L with
  | none => rfl
  | some o => exact absurd (Heap.lt_size (xg _ _ (by simpa using fun e => (N _ (.head _)).2.1 e.symm) (hB _ _ q))) (Nat.not_lt.mpr F.above)

theorem leave_first {M : Model} {Q : Unit → Shared → Prop} {s' : Shared} {h₂ : Heap} {env : Env} {L e : Addr} {m : Str → Option Value} {cls : String} (hfr : A.frames = some (env :: outer)) (hf : env.frame = some L) (hk : env.scope.kind = .function)
    (hns : h₂.Ns L m) (hx : Heap.NewExc h₂ s'.heap e cls) (hB : B.StaysIn h₂) (hL : B.get? L = none) (hfs : h₂.FunFrames B outer)
    (hQ : ∀ h' a0, Heap.FlyingW B outer e (.type cls) a0 h' → h₂.UpToSlots h' → Q () { s' with heap := h' }) : wpAny M A (leaving env (.ref e)) Q E s' := by
  obtain ⟨ob, tp, he, hcls, hd⟩ := hx.there
  have hB' : B.StaysIn s'.heap := fun b o q => hx.keeps b o (hB b o q)
  have hen : B.get? e = none := by
    cases q : B.get? e with
    | none => rfl
    | some o => have := hB _ _ q; rw [hx.new] at this; cases this
  refine wpAny_leaving_firstW (a0 := tp) hfr ((Heap.FunFrames.cons (by rw [hk]; decide) hf hns hL hfs).of_keeps fun b o hb _ => ⟨o, hx.keeps b o hb, rfl⟩) hf he hB' hen hd rfl rfl fun h' hL' => ?_
  obtain ⟨k1, ⟨_, _, k2⟩, k3, k4⟩ := hL'
  exact hQ h' tp ⟨k1, hen, k2, by rw [← hcls]; exact k3⟩ ((Heap.UpToSlots.of_keeps hx.keeps).trans k4)

theorem heappop_raises {a : Addr} {n : Nat}
    (X : (hd.heap_39 w.params).In hb) (T : Top hd.view_39 (looseW hd.view_39 []) mean mg mb hb) (st : ∀ b o, hb.get? b = some o → s.heap.get? b = some o)
    (hl : s.heap.get? a = some (bl [] n)) (ha : hb.get? a = none) (hroom : A.depth + 1 < recursionLimit) (hh : A.handled = none)
    (hfr : A.frames = some outer) (hB : B.StaysIn s.heap) (hfs : s.heap.FunFrames B outer)
    (h : ∀ h' tk e a0, Heap.FlyingW B outer e (.type "IndexError") a0 h' → s.heap.UpToSlots h' → E (.ref e) { s with heap := h', toks := tk }) :
    wpAny (model PySem.Challenge.rw_nq0033_01.row.prog w) A (call (.ref 28) [.ref a]) Q E s := by
  refine wpAny_call ?_
  refine' enter X T st (news := [(a, bl [] n)]) (binds := [(Str.ofString "heap", .ref a)]) (by simpa using ⟨hl, ha⟩) ?k6 ?k7 (depth_lt hroom) ?k9 ?kB ?_ ?c2 ?c3 ?c4 ?c5
  case k6 => k_is
  case k7 => k_is
  case k9 => exact BindsTo.of_eq rfl
  case kB => exact locs rfl
  case c2 => exact rfl
  case c3 => exact rfl
  case c4 => exact rfl
  case c5 => decide
  intro g L h₁ F N X' T' xg stg
  have kk := all_kept F N xg hl
  have hBL := none_below hB F N xg
  iterate 6 walk1
  rename Fr _ _ _ _ => F5
  rename News _ _ _ _ => N5
  refine pop_empty hh (N5.get (.head _)) ?_
  intro h6 tk6 e6 hx6
  dsimp only
  refine leave_first (B := B) (Around.frames_deeper hfr) rfl rfl F5.ns hx6 (fun b o q => kk b o (hB b o q)) hBL (funFrames_up hfs kk) (fun h' a0 z1 z2 => h h' _ e6 a0 z1 ((Heap.UpToSlots.of_keeps kk).trans z2))

theorem heapreplace_raises {a : Addr} {n : Nat} {b : Array UInt8} {t : Tok}
    (X : (hd.heap_39 w.params).In hb) (T : Top hd.view_39 (looseW hd.view_39 []) mean mg mb hb) (st : ∀ b o, hb.get? b = some o → s.heap.get? b = some o)
    (hl : s.heap.get? a = some (bl [] n)) (ha : hb.get? a = none) (hroom : A.depth + 1 < recursionLimit) (hh : A.handled = none)
    (hfr : A.frames = some outer) (hB : B.StaysIn s.heap) (hfs : s.heap.FunFrames B outer)
    (h : ∀ h' tk e a0, Heap.FlyingW B outer e (.type "IndexError") a0 h' → s.heap.UpToSlots h' → E (.ref e) { s with heap := h', toks := tk }) :
    wpAny (model PySem.Challenge.rw_nq0033_01.row.prog w) A (call (.ref 35) [.ref a, .bytes b t]) Q E s := by
  refine wpAny_call ?_
  refine' enter X T st (news := [(a, bl [] n)]) (binds := [(Str.ofString "heap", .ref a), (Str.ofString "item", .bytes b t)]) (by simpa using ⟨hl, ha⟩) ?k6 ?k7 (depth_lt hroom) ?k9 ?kB ?_ ?c2 ?c3 ?c4 ?c5
  case k6 => k_is
  case k7 => k_is
  case k9 => exact BindsTo.of_eq rfl
  case kB => exact locs rfl
  case c2 => exact rfl
  case c3 => exact rfl
  case c4 => exact rfl
  case c5 => decide
  intro g L h₁ F N X' T' xg stg
  have kk := all_kept F N xg hl
  have hBL := none_below hB F N xg
  iterate 5 walk1
  rename Fr _ _ _ _ => F5
  rename News _ _ _ _ => N5
  have hls : Heap.IsList h₁ a #[] := PySem.IsL.isList (n := n) (N5.get (.head _))
  refine subscriptTail_builtin hls.typeIs slot_list_getitem.lookup (wpAny_getItem_list_out hh hls (.inr (by simp)) (by decide) (by decide) ?_)
  intro h6 tk6 e6 hx6
  dsimp only
  refine leave_first (B := B) (Around.frames_deeper hfr) rfl rfl F5.ns hx6 (fun b o q => kk b o (hB b o q)) hBL (funFrames_up hfs kk) (fun h' a0 z1 z2 => h h' _ e6 a0 z1 ((Heap.UpToSlots.of_keeps kk).trans z2))
end

section
variable {w : World} {A : Around} {s : Shared} {hb : Heap} {mean : ExcName → Option Value} {mg mb : Str → Option Value} {E : Value → Shared → Prop} {Q : Value → Shared → Prop}
theorem called_pop {a : Addr} {l : List BT} {x : BT} {n : Nat} {b : Array UInt8} {t u : Tok}
    (X : (hd.heap_39 w.params).In hb) (T : Top hd.view_39 (looseW hd.view_39 []) mean mg mb hb) (st : ∀ b o, hb.get? b = some o → s.heap.get? b = some o)
    (hl : s.heap.get? a = some (bl (l ++ [x]) n)) (ha : hb.get? a = none) (hh : A.handled = none) (hroom : A.depth + 4 < recursionLimit) (hsz : l.length < 900)
    (h : ∀ h' tk, Ex [a] s.heap h' → h'.get? a = some (bl (if l = [] then [] else su (l.set 0 x) 0) (n + 1)) → Q (bv (l.getD 0 x)) { s with heap := h', toks := tk }) :
    wpAny (model PySem.Challenge.rw_nq0033_01.row.prog w) A (call (.ref 94) [.ref a, .int 1 u, .bytes b t]) Q E s := by
  refine' enterF X T st (news := [(a, bl (l ++ [x]) n)]) (binds := [(Str.ofString "queue", .ref a), (Str.ofString "call", .int 1 u), (Str.ofString "word", .bytes b t)]) (by simpa using ⟨hl, ha⟩) ?k6 ?k7 (depth_lt hroom) ?k9 ?kB ?_ ?c2 ?c3 ?c4 ?c5
  case k6 => k_is
  case k7 => k_is
  case k9 => exact BindsTo.of_eq rfl
  case kB => exact locs rfl
  case c2 => exact rfl
  case c3 => exact rfl
  case c4 => exact rfl
  case c5 => decide
  intro g L h₁ F N X' T' xg stg
  repeat walk1
  rename Fr _ _ _ _ => F2
  rename News _ _ _ _ => N2
  refine' heappop_call (hb := g) X' T' (fun b o e => F2.keep b o e) (N2.get (.head _)) (N2.fresh (.head _)) (by first | exact deep_ok hroom | exact deep_lt hroom) (by omega) ?_
  intro h4 tk4 x4 hl4
  have za := N2 _ (.head _)
  have F4 := x4.fr F2 za.2.1 za.2.2
  have N4 := x4.news N2 (fun _ h => nomatch h) hl4
  repeat walk1
  exact h _ _ (leaveEx F4 xg) hl4

theorem called_rep {a : Addr} {l : List BT} {x : BT} {n : Nat} {b : Array UInt8} {t u : Tok}
    (X : (hd.heap_39 w.params).In hb) (T : Top hd.view_39 (looseW hd.view_39 []) mean mg mb hb) (st : ∀ b o, hb.get? b = some o → s.heap.get? b = some o)
    (hl : s.heap.get? a = some (bl l n)) (ha : hb.get? a = none) (hh : A.handled = none) (hroom : A.depth + 4 < recursionLimit) (hsz : l.length < 900) (hpl : 0 < l.length)
    (h : ∀ h' tk, Ex [a] s.heap h' → h'.get? a = some (bl (su (l.set 0 (b, t)) 0) n) → Q (bv (l.getD 0 d0)) { s with heap := h', toks := tk }) :
    wpAny (model PySem.Challenge.rw_nq0033_01.row.prog w) A (call (.ref 94) [.ref a, .int 2 u, .bytes b t]) Q E s := by
  refine' enterF X T st (news := [(a, bl l n)]) (binds := [(Str.ofString "queue", .ref a), (Str.ofString "call", .int 2 u), (Str.ofString "word", .bytes b t)]) (by simpa using ⟨hl, ha⟩) ?k6 ?k7 (depth_lt hroom) ?k9 ?kB ?_ ?c2 ?c3 ?c4 ?c5
  case k6 => k_is
  case k7 => k_is
  case k9 => exact BindsTo.of_eq rfl
  case kB => exact locs rfl
  case c2 => exact rfl
  case c3 => exact rfl
  case c4 => exact rfl
  case c5 => decide
  intro g L h₁ F N X' T' xg stg
  repeat walk1
  rename Fr _ _ _ _ => F2
  rename News _ _ _ _ => N2
  refine' heapreplace_call (hb := g) X' T' (fun b o e => F2.keep b o e) (N2.get (.head _)) (N2.fresh (.head _)) (by first | exact deep_ok hroom | exact deep_lt hroom) (by omega) hpl ?_
  intro h4 tk4 x4 hl4
  have za := N2 _ (.head _)
  have F4 := x4.fr F2 za.2.1 za.2.2
  have N4 := x4.news N2 (fun _ h => nomatch h) hl4
  repeat walk1
  exact h _ _ (leaveEx F4 xg) hl4

theorem called_pp {a : Addr} {l : List BT} {x : BT} {n : Nat} {b : Array UInt8} {t u : Tok}
    (X : (hd.heap_39 w.params).In hb) (T : Top hd.view_39 (looseW hd.view_39 []) mean mg mb hb) (st : ∀ b o, hb.get? b = some o → s.heap.get? b = some o)
    (hl : s.heap.get? a = some (bl l n)) (ha : hb.get? a = none) (hh : A.handled = none) (hroom : A.depth + 4 < recursionLimit) (hsz : l.length < 900)
    (h : ∀ h' tk, Ex [a] s.heap h' → h'.get? a = some (bl (if 0 < l.length ∧ blt (l.getD 0 d0) (b, t) = true then su (l.set 0 (b, t)) 0 else l) n) → Q (bv (if 0 < l.length ∧ blt (l.getD 0 d0) (b, t) = true then l.getD 0 d0 else (b, t))) { s with heap := h', toks := tk }) :
    wpAny (model PySem.Challenge.rw_nq0033_01.row.prog w) A (call (.ref 94) [.ref a, .int 3 u, .bytes b t]) Q E s := by
  refine' enterF X T st (news := [(a, bl l n)]) (binds := [(Str.ofString "queue", .ref a), (Str.ofString "call", .int 3 u), (Str.ofString "word", .bytes b t)]) (by simpa using ⟨hl, ha⟩) ?k6 ?k7 (depth_lt hroom) ?k9 ?kB ?_ ?c2 ?c3 ?c4 ?c5
  case k6 => k_is
  case k7 => k_is
  case k9 => exact BindsTo.of_eq rfl
  case kB => exact locs rfl
  case c2 => exact rfl
  case c3 => exact rfl
  case c4 => exact rfl
  case c5 => decide
  intro g L h₁ F N X' T' xg stg
  repeat walk1
  rename Fr _ _ _ _ => F2
  rename News _ _ _ _ => N2
  refine' heappushpop_call (hb := g) X' T' (fun b o e => F2.keep b o e) (N2.get (.head _)) (N2.fresh (.head _)) hh (by first | exact deep_ok hroom | exact deep_lt hroom) (by omega) ?_
  intro h4 tk4 x4 hl4
  have za := N2 _ (.head _)
  have F4 := x4.fr F2 za.2.1 za.2.2
  have N4 := x4.news N2 (fun _ h => nomatch h) hl4
  repeat walk1
  exact h _ _ (leaveEx F4 xg) hl4

theorem called_push0 {a : Addr} {l : List BT} {x : BT} {n : Nat} {b : Array UInt8} {t u : Tok}
    (X : (hd.heap_39 w.params).In hb) (T : Top hd.view_39 (looseW hd.view_39 []) mean mg mb hb) (st : ∀ b o, hb.get? b = some o → s.heap.get? b = some o)
    (hl : s.heap.get? a = some (bl l n)) (ha : hb.get? a = none) (hh : A.handled = none) (hroom : A.depth + 4 < recursionLimit) (hsz : l.length < 900)
    (h : ∀ h' tk, Ex [a] s.heap h' → h'.get? a = some (bl (sd (l ++ [(b, t)]) (b, t) 0 l.length) (n + 1)) → Q (.none) { s with heap := h', toks := tk }) :
    wpAny (model PySem.Challenge.rw_nq0033_01.row.prog w) A (call (.ref 94) [.ref a, .int 0 u, .bytes b t]) Q E s := by
  refine' enterF X T st (news := [(a, bl l n)]) (binds := [(Str.ofString "queue", .ref a), (Str.ofString "call", .int 0 u), (Str.ofString "word", .bytes b t)]) (by simpa using ⟨hl, ha⟩) ?k6 ?k7 (depth_lt hroom) ?k9 ?kB ?_ ?c2 ?c3 ?c4 ?c5
  case k6 => k_is
  case k7 => k_is
  case k9 => exact BindsTo.of_eq rfl
  case kB => exact locs rfl
  case c2 => exact rfl
  case c3 => exact rfl
  case c4 => exact rfl
  case c5 => decide
  intro g L h₁ F N X' T' xg stg
  repeat walk1
  rename Fr _ _ _ _ => F2
  rename News _ _ _ _ => N2
  refine' heappush_call (hb := g) X' T' (fun b o e => F2.keep b o e) (N2.get (.head _)) (N2.fresh (.head _)) (by first | exact deep_ok hroom | exact deep_lt hroom) (by omega) ?_
  intro h4 tk4 x4 hl4
  have za := N2 _ (.head _)
  have F4 := x4.fr F2 za.2.1 za.2.2
  have N4 := x4.news N2 (fun _ h => nomatch h) hl4
  repeat walk1
  exact h _ _ (leaveEx F4 xg) hl4

theorem called_push5 {a : Addr} {l : List BT} {x : BT} {n : Nat} {b : Array UInt8} {t u : Tok}
    (X : (hd.heap_39 w.params).In hb) (T : Top hd.view_39 (looseW hd.view_39 []) mean mg mb hb) (st : ∀ b o, hb.get? b = some o → s.heap.get? b = some o)
    (hl : s.heap.get? a = some (bl l n)) (ha : hb.get? a = none) (hh : A.handled = none) (hroom : A.depth + 4 < recursionLimit) (hsz : l.length < 900)
    (h : ∀ h' tk, Ex [a] s.heap h' → h'.get? a = some (bl (sd (l ++ [(b, t)]) (b, t) 0 l.length) (n + 1)) → Q (.none) { s with heap := h', toks := tk }) :
    wpAny (model PySem.Challenge.rw_nq0033_01.row.prog w) A (call (.ref 94) [.ref a, .int 5 u, .bytes b t]) Q E s := by
  refine' enterF X T st (news := [(a, bl l n)]) (binds := [(Str.ofString "queue", .ref a), (Str.ofString "call", .int 5 u), (Str.ofString "word", .bytes b t)]) (by simpa using ⟨hl, ha⟩) ?k6 ?k7 (depth_lt hroom) ?k9 ?kB ?_ ?c2 ?c3 ?c4 ?c5
  case k6 => k_is
  case k7 => k_is
  case k9 => exact BindsTo.of_eq rfl
  case kB => exact locs rfl
  case c2 => exact rfl
  case c3 => exact rfl
  case c4 => exact rfl
  case c5 => decide
  intro g L h₁ F N X' T' xg stg
  repeat walk1
  rename Fr _ _ _ _ => F2
  rename News _ _ _ _ => N2
  refine' heappush_call (hb := g) X' T' (fun b o e => F2.keep b o e) (N2.get (.head _)) (N2.fresh (.head _)) (by first | exact deep_ok hroom | exact deep_lt hroom) (by omega) ?_
  intro h4 tk4 x4 hl4
  have za := N2 _ (.head _)
  have F4 := x4.fr F2 za.2.1 za.2.2
  have N4 := x4.news N2 (fun _ h => nomatch h) hl4
  repeat walk1
  exact h _ _ (leaveEx F4 xg) hl4

end


theorem cut_down {hb B g h₁ : Heap} {L : Addr} (ha : g.objs.size ≤ L) (kg : ∀ b o, g.get? b = some o → h₁.get? b = some o) (kB : ∀ b o, B.get? b = some o → h₁.get? b = some o)
    (sg : ∀ b o, hb.get? b = some o → g.get? b = some o) (sB : ∀ b o, hb.get? b = some o → B.get? b = some o) :
    ∃ g' : Heap, (∀ b o, hb.get? b = some o → g'.get? b = some o) ∧ (∀ b o, g'.get? b = some o → B.get? b = some o) ∧ g'.objs.size ≤ L := by
  refine ⟨hideAll g ((List.range g.objs.size).filter (fun b => (B.get? b).isNone)), fun b o e => hideAll_get _ (sg b o e) (fun q => ?_), fun b o e => ?_, by rw [hideAll_size]; exact ha⟩
  · have := (List.mem_filter.mp q).2
    rw [sB b o e] at this; cases this
  · have e1 := of_hideAll _ e
    cases q : B.get? b with
    | some o' =>
      have := kB b o' q
      rw [kg b o e1] at this
      exact this.symm
    | none =>
      have : b ∈ (List.range g.objs.size).filter (fun b => (B.get? b).isNone) := List.mem_filter.mpr ⟨List.mem_range.mpr (Heap.lt_size e1), by rw [q]; rfl⟩
      rw [hideAll_none _ this] at e; cases e
section
variable {w : World} {A : Around} {s : Shared} {hb B : Heap} {outer : List Env} {mean : ExcName → Option Value} {mg mb : Str → Option Value} {E : Value → Shared → Prop} {Q : Value → Shared → Prop}
theorem called_none1 {a : Addr} {n : Nat} {b : Array UInt8} {t u : Tok}
    (X : (hd.heap_39 w.params).In hb) (T : Top hd.view_39 (looseW hd.view_39 []) mean mg mb hb) (st : ∀ b o, hb.get? b = some o → s.heap.get? b = some o)
    (hl : s.heap.get? a = some (bl [] n)) (ha : hb.get? a = none) (hh : A.handled = none) (hroom : A.depth + 4 < recursionLimit)
    (hfr : A.frames = some outer) (hB : B.StaysIn s.heap) (hfs : s.heap.FunFrames B outer) (hbB : ∀ b o, hb.get? b = some o → B.get? b = some o)
    (h : ∀ h' tk t', B.StaysIn h' → s.heap.UpToSlots h' → Q (.str (Str.ofString "nothing") t') { s with heap := h', toks := tk }) :
    wpAny (model PySem.Challenge.rw_nq0033_01.row.prog w) A (call (.ref 94) [.ref a, .int 1 u, .bytes b t]) Q E s := by
  refine' enterF X T st (news := [(a, bl [] n)]) (binds := [(Str.ofString "queue", .ref a), (Str.ofString "call", .int 1 u), (Str.ofString "word", .bytes b t)]) (by simpa using ⟨hl, ha⟩) ?k6 ?k7 (depth_lt hroom) ?k9 ?kB ?_ ?c2 ?c3 ?c4 ?c5
  case k6 => k_is
  case k7 => k_is
  case k9 => exact BindsTo.of_eq rfl
  case kB => exact locs rfl
  case c2 => exact rfl
  case c3 => exact rfl
  case c4 => exact rfl
  case c5 => decide
  intro g L h₁ F N X' T' xg stg
  have kk := all_kept F N xg hl
  have hBL := none_below hB F N xg
  obtain ⟨g', hbg, hgB, hsL⟩ := cut_down (B := B) (g := g) (hb := hb) (h₁ := h₁) (L := L) F.above F.keep (fun b o q => kk b o (hB b o q)) stg hbB
  repeat walk1
  rename Fr _ _ _ _ => F2
  rename News _ _ _ _ => N2
  refine' heappop_raises (B := B) (hb := g) X' T' (fun b o e => F2.keep b o e) (N2.get (.head _)) (N2.fresh (.head _)) (by first | exact deep_ok hroom | exact deep_lt hroom) hh (Around.frames_deeper hfr) (fun b o q => kk b o (hB b o q)) (Heap.FunFrames.cons (by intro q; cases q) rfl F2.ns hBL (funFrames_up hfs kk)) ?_
  intro h4 tk4 e a0 fl4 up4
  dsimp only
  refine wpAny_looks_onW (Around.frames_deeper hfr) rfl fl4 fun h5 he5 up5 => ?_
  refine wpAny_landsW he5 fun h6 fl6 up6 => ?_
  have F6 : Fr g' L h6 _ := ⟨((up4.trans up5).trans up6).ns F2.ns, fun b o q => fl6.1 b o (hgB b o q), hsL⟩
  have XB := X.keeps hbg
  have TB := T.keeps hbg
  obtain ⟨ob, hob, hobc⟩ := fl6.there
  refine wpAny_handleBy_builtin (X := "IndexError") (T := "IndexError") (b := true) (by rw [isSubtype_type]; kernel_rfl) (by rw [isSubtype_type]; kernel_rfl) (by rw [isSubtype_type]; kernel_rfl) ?_
  refine' name_built F6 XB TB ?ne (v := .type "IndexError") ?nv ?nn ?_ rfl rfl rfl rfl ?nd
  case ne => k_is
  case nv => boot_fast
  case nn => decide
  case nd => decide
  refine ⟨rfl, ⟨ob, hob, hobc⟩, ?_⟩
  rw [if_pos rfl]
  refine lands_againW fl6 fun h7 fl7 up7 => ?_
  have F7 : Fr g' L h7 _ := ⟨(((up4.trans up5).trans up6).trans up7).ns F2.ns, fun b o q => fl7.1 b o (hgB b o q), hsL⟩
  clear F2 F6
  repeat walk1
  exact h _ _ _ fl7.1 ((((Heap.UpToSlots.of_keeps kk).trans up4).trans up5).trans (up6.trans up7))

theorem called_none2 {a : Addr} {n : Nat} {b : Array UInt8} {t u : Tok}
    (X : (hd.heap_39 w.params).In hb) (T : Top hd.view_39 (looseW hd.view_39 []) mean mg mb hb) (st : ∀ b o, hb.get? b = some o → s.heap.get? b = some o)
    (hl : s.heap.get? a = some (bl [] n)) (ha : hb.get? a = none) (hh : A.handled = none) (hroom : A.depth + 4 < recursionLimit)
    (hfr : A.frames = some outer) (hB : B.StaysIn s.heap) (hfs : s.heap.FunFrames B outer) (hbB : ∀ b o, hb.get? b = some o → B.get? b = some o)
    (h : ∀ h' tk t', B.StaysIn h' → s.heap.UpToSlots h' → Q (.str (Str.ofString "nothing") t') { s with heap := h', toks := tk }) :
    wpAny (model PySem.Challenge.rw_nq0033_01.row.prog w) A (call (.ref 94) [.ref a, .int 2 u, .bytes b t]) Q E s := by
  refine' enterF X T st (news := [(a, bl [] n)]) (binds := [(Str.ofString "queue", .ref a), (Str.ofString "call", .int 2 u), (Str.ofString "word", .bytes b t)]) (by simpa using ⟨hl, ha⟩) ?k6 ?k7 (depth_lt hroom) ?k9 ?kB ?_ ?c2 ?c3 ?c4 ?c5
  case k6 => k_is
  case k7 => k_is
  case k9 => exact BindsTo.of_eq rfl
  case kB => exact locs rfl
  case c2 => exact rfl
  case c3 => exact rfl
  case c4 => exact rfl
  case c5 => decide
  intro g L h₁ F N X' T' xg stg
  have kk := all_kept F N xg hl
  have hBL := none_below hB F N xg
  obtain ⟨g', hbg, hgB, hsL⟩ := cut_down (B := B) (g := g) (hb := hb) (h₁ := h₁) (L := L) F.above F.keep (fun b o q => kk b o (hB b o q)) stg hbB
  repeat walk1
  rename Fr _ _ _ _ => F2
  rename News _ _ _ _ => N2
  refine' heapreplace_raises (B := B) (hb := g) X' T' (fun b o e => F2.keep b o e) (N2.get (.head _)) (N2.fresh (.head _)) (by first | exact deep_ok hroom | exact deep_lt hroom) hh (Around.frames_deeper hfr) (fun b o q => kk b o (hB b o q)) (Heap.FunFrames.cons (by intro q; cases q) rfl F2.ns hBL (funFrames_up hfs kk)) ?_
  intro h4 tk4 e a0 fl4 up4
  dsimp only
  refine wpAny_looks_onW (Around.frames_deeper hfr) rfl fl4 fun h5 he5 up5 => ?_
  refine wpAny_landsW he5 fun h6 fl6 up6 => ?_
  have F6 : Fr g' L h6 _ := ⟨((up4.trans up5).trans up6).ns F2.ns, fun b o q => fl6.1 b o (hgB b o q), hsL⟩
  have XB := X.keeps hbg
  have TB := T.keeps hbg
  obtain ⟨ob, hob, hobc⟩ := fl6.there
  refine wpAny_handleBy_builtin (X := "IndexError") (T := "IndexError") (b := true) (by rw [isSubtype_type]; kernel_rfl) (by rw [isSubtype_type]; kernel_rfl) (by rw [isSubtype_type]; kernel_rfl) ?_
  refine' name_built F6 XB TB ?ne (v := .type "IndexError") ?nv ?nn ?_ rfl rfl rfl rfl ?nd
  case ne => k_is
  case nv => boot_fast
  case nn => decide
  case nd => decide
  refine ⟨rfl, ⟨ob, hob, hobc⟩, ?_⟩
  rw [if_pos rfl]
  refine lands_againW fl6 fun h7 fl7 up7 => ?_
  have F7 : Fr g' L h7 _ := ⟨(((up4.trans up5).trans up6).trans up7).ns F2.ns, fun b o q => fl7.1 b o (hgB b o q), hsL⟩
  clear F2 F6
  repeat walk1
  exact h _ _ _ fl7.1 ((((Heap.UpToSlots.of_keeps kk).trans up4).trans up5).trans (up6.trans up7))

end


/-- the order of bytes, as an order of lists of numbers -/
theorem order_lt : ∀ a b : List UInt8, (Bytes.order a b == .lt) = decide (a.map UInt8.toNat < b.map UInt8.toNat)
  | [], [] => by simp [Bytes.order]
  | [], y :: ys => by simp [Bytes.order]
  | x :: xs, [] => by simp [Bytes.order]
  | x :: xs, y :: ys => by
    have ih := order_lt xs ys
    simp only [Bytes.order, List.map_cons, List.cons_lt_cons_iff]
    by_cases h1 : x < y
    · have : x.toNat < y.toNat := UInt8.lt_iff_toNat_lt.mp h1
      simp [h1, this]
    · have h1' : ¬ x.toNat < y.toNat := fun q => h1 (UInt8.lt_iff_toNat_lt.mpr q)
      by_cases h2 : x > y
      · have : y.toNat < x.toNat := UInt8.lt_iff_toNat_lt.mp h2
        have hne : ¬ x.toNat = y.toNat := by omega
        simp [h1, h2, h1', hne]
      · have h2' : ¬ y.toNat < x.toNat := fun q => h2 (UInt8.lt_iff_toNat_lt.mpr q)
        have e : x.toNat = y.toNat := by omega
        simp [h1, h2, e, ih]

theorem toNats_inj : ∀ {a b : List UInt8}, a.map UInt8.toNat = b.map UInt8.toNat → a = b
  | [], [], _ => rfl
  | [], _ :: _, h => by simp at h
  | _ :: _, [], h => by simp at h
  | x :: xs, y :: ys, h => by
    simp only [List.map_cons, List.cons.injEq] at h
    rw [UInt8.toNat_inj.mp h.1, toNats_inj h.2]

@[reducible] def bytesKind : KeyKind where
  α := List UInt8
  blt a b := decide (a.map UInt8.toNat < b.map UInt8.toNat)
  irrefl a := by simpa using List.lt_irrefl (a.map UInt8.toNat)
  trans a b c h1 h2 := by simp only [decide_eq_true_eq] at *; exact List.lt_trans h1 h2
  negTrans a b c h := by
    simp only [decide_eq_true_eq] at *
    by_cases hab : a.map UInt8.toNat < b.map UInt8.toNat
    · exact .inl hab
    · exact .inr (List.lt_of_le_of_lt (List.not_lt.mp hab) h)
  total a b h1 h2 := by simp only [decide_eq_false_iff_not] at *; exact toNats_inj (List.le_antisymm (List.not_lt.mp h2) (List.not_lt.mp h1))
  keyOf v := match v with | .bytes x _ => some x.toList | _ => none
  dflt := []

theorem blt_kind (x y : BT) : blt x y = bytesKind.blt x.1.toList y.1.toList := order_lt _ _

section
variable {prog : Program} {w : World} {A : Around} {E : Value → Shared → Prop} {s : Shared}
theorem slot_lt' : Slot "bytes" "__lt__" "bytes.__lt__" := slot_lt
theorem call_bytes_lt {b c : Array UInt8} {t u : Tok} {Q : Value → Shared → Prop} (h : Q (.bool (blt (b, t) (c, u))) s) :
    wpAny (model prog w) A (call (.builtin "bytes.__lt__") [.bytes b t, .bytes c u]) Q E s := by
  refine wpAny_call_entry slot_lt' (typeIs_bytes s b t) entry_lt ?_ (args_lt _ _)
  show wpAny _ _ (isInstance (.bytes c u) (.type "bytes") >>= fun r => _) _ E s
  refine wpAny_bind (wpAny_isInstance (typeIs_bytes s c u) F.sub_bytes_bytes ?_)
  exact wpAny_pure ⟨_, rfl, h⟩
theorem oneLt_bytes {b c : Array UInt8} {t u : Tok} {Q : Bool → Shared → Prop} (h : Q (blt (b, t) (c, u)) s) : wpAny (model prog w) A (oneLt' true (.bytes b t) (.bytes c u)) Q E s := by
  rw [oneLt'_eq]
  simp only [if_true]
  refine wpAny_bind (wpAny_cRoomFor_byValue rfl ?_)
  refine wpAny_bind (wpAny_callSpecialIfBound?_slot (typeIs_bytes s b t) slot_lt' (call_bytes_lt ?_))
  exact wpAny_truthy_bool h
end
theorem bytesKind_oneLt : bytesKind.OneLt := by
  intro prog w A E s x y a b Q ha hb h
  cases x <;> simp only [bytesKind, reduceCtorEq, Option.some.injEq] at ha
  cases y <;> simp only [bytesKind, reduceCtorEq, Option.some.injEq] at hb
  cases ha; cases hb
  exact oneLt_bytes (by rw [blt_kind]; exact h)

theorem mapM_first_b : ∀ l : List BT, (l.map bv).mapM firstOfTuple' = pure ((l.map bv).map fun _ => none)
  | [] => by simp
  | x :: l => by rw [List.map_cons, List.mapM_cons, mapM_first_b l, show firstOfTuple' (bv x) = pure none from rfl]; simp
theorem mapM_typeOf_b : ∀ l : List BT, (l.map bv).mapM typeOf = pure ((l.map bv).map fun _ => Value.type "bytes")
  | [] => by simp
  | x :: l => by
    rw [List.map_cons, List.mapM_cons, mapM_typeOf_b l]
    show (pure (Value.type "bytes") >>= fun b => pure _ >>= fun bs => pure (b :: bs)) = _
    simp
theorem keyKind_b (x y : BT) (l : List BT) : keyKind' ((x :: y :: l).map bv).toArray = pure oneType' := by
  rw [keyKind'_eq, List.mapM_toArray, mapM_first_b]
  simp only [map_pure, pure_bind]
  rw [if_neg (by simp), if_neg (by simp)]
  rw [oneTypeOnly'_eq, List.mapM_toArray, mapM_typeOf_b]
  simp only [map_pure, pure_bind]
  have hall : ((List.map (fun _ => Value.type "bytes") ((x :: y :: l).map bv)).toArray.all fun x => x == Value.type "bytes") = true := by
    simp only [List.all_toArray, List.all_map, List.all_eq_true]
    intro _ _
    rfl
  have h0 : (List.map (fun _ => Value.type "bytes") ((x :: y :: l).map bv)).toArray[0]? = some (Value.type "bytes") := by simp
  rw [h0]
  simp only [hall, if_true, pure_bind]
  first | rfl | (simp; done)
def bt : Value → BT
  | .bytes x t => (x, t)
  | _ => d0
theorem bt_bv (x : BT) : bt (bv x) = x := rfl
theorem sorted_out_b {l : List BT} {xs : Array Keyed} (hp : xs.Perm (pairsOf (l.map bv))) (hs : SortedToK bytesKind xs (pairsOf (l.map bv)).size) :
    ∃ l' : List BT, (xs.map (·.2)).toList = l'.map bv ∧ l'.Perm l ∧ l'.Pairwise (fun a b => blt b a = false) := by
  have hl : xs.toList.Perm ((l.map bv).zip (l.map bv)) := by rw [← pairsOf_toList]; exact Array.perm_iff_toList_perm.mp hp
  have hmem : ∀ p, p ∈ xs.toList → ∃ x, p = (bv x, bv x) := fun p hp' => by
    have := mem_zip_self (hl.mem_iff.mp hp')
    obtain ⟨x, _, hx⟩ := List.mem_map.mp this.2
    exact ⟨x, Prod.ext hx.symm (by rw [← this.1]; exact hx.symm)⟩
  refine ⟨xs.toList.map (fun p => bt p.1), ?_, ?_, ?_⟩
  · rw [Array.toList_map, List.map_map]
    refine List.map_congr_left fun p hp' => ?_
    obtain ⟨x, rfl⟩ := hmem p hp'
    rfl
  · have h1 := hl.map (fun p => bt p.1)
    have e2 : ((l.map bv).zip (l.map bv)).map (fun p => bt p.1) = l := by
      have : ((l.map bv).zip (l.map bv)).map (fun p => bt p.1) = (((l.map bv).zip (l.map bv)).map Prod.fst).map bt := by rw [List.map_map]; rfl
      rw [this, List.map_fst_zip (Nat.le_refl _), List.map_map]
      have : bt ∘ bv = _root_.id := funext fun x => rfl
      rw [this, List.map_id]
    rwa [e2] at h1
  · rw [List.pairwise_iff_getElem]
    intro i j hi hj hij
    have hi' : i < xs.size := by simpa using hi
    have hj' : j < xs.size := by simpa using hj
    have h1 := hs i j (Nat.le_of_lt hij) (by rw [← hp.size_eq]; exact hj')
    obtain ⟨x, ex⟩ := hmem xs[i] (by simp)
    obtain ⟨y, ey⟩ := hmem xs[j] (by simp)
    unfold KK at h1
    rw [getElem?_pos xs i hi', getElem?_pos xs j hj', ex, ey] at h1
    simp only [List.getElem_map, Array.getElem_toList]
    rw [ex, ey, bt_bv, bt_bv, blt_kind]
    exact h1
section
variable {prog : Program} {w : World} {A : Around} {E : Value → Shared → Prop} {s : Shared}
theorem sorted_b {g : Heap} {L : Addr} {m : Str → Option Value} {news : List (Addr × Obj)} {a : Addr} {l : List BT} {n : Nat} {Q : Value → Shared → Prop}
    (F : Fr g L s.heap m) (N : News g L s.heap news) (hl : s.heap.get? a = some (bl l n)) (h64 : l.length < 64)
    (h : ∀ h' D l' e, Fr g L h' m → News g L h' ((D, bl l' e) :: news) → (∀ q ∈ news, q.1 ≠ D) → l'.Perm l → l'.Pairwise (fun a b => blt b a = false) → Q (.ref D) { s with heap := h' }) :
    wpAny (model prog w) A (call (.builtin "sorted") [.ref a]) Q E s := by
  refine sortedK bytesKind_oneLt (PySem.IsL.isList (n := n) hl) (fun p hp => ?_) (fun v₁ v₂ rest e => ?_) (by simpa using h64) fun st' hp hs => ?_
  · rw [pairsOf_toList] at hp
    have := mem_zip_self hp
    obtain ⟨x, _, hx⟩ := List.mem_map.mp this.2
    exact ⟨x.1.toList, by rw [← hx]⟩
  · match l, e with
    | x :: y :: l, e =>
      rw [← e]; exact keyKind_b x y l
  · obtain ⟨l', h1, h2, h3⟩ := sorted_out_b hp hs
    obtain ⟨e, he⟩ := sortedAll_at s.heap (l.map bv) ((arrOf st').map (·.2))
    refine h _ _ l' e (F.kept fun _ _ => sortedAll_old) (N.kept_cons F (fun _ _ => sortedAll_old) (Nat.le_succ _) ?_) (fun q hq => Nat.ne_of_lt (Nat.lt_succ_of_lt (Heap.lt_size (N q hq).1))) h2 h3
    have e3 : (arrOf st').map (·.2) = (l'.map bv).toArray := by rw [← h1, Array.toArray_toList]
    rw [e3] at he ⊢; exact he
end

theorem eqAt_bytes {A : Around} {s : Shared} (x y : BT) (e : x.1.toList = y.1.toList) : SeqAt.EqAt A s (bv x) (bv y) true := fun prog w E Q h => by
  unfold eqBool
  refine wpAny_holding ?_
  refine wpAny_ite_split (fun hab => wpAny_bind (wpAny_rule (wpAny_pure h))) (fun _ => ?_)
  refine wpAny_bind (richCompare_gives (op := .Eq) (typeIs_bytes s x.1 x.2) (typeIs_bytes s y.1 y.2) FB.slot_bytes_eq FB.entry_bytes_eq (FB.args_bytes_eq_2 _ _) (gives_bytes_eq x.1 y.1 x.2 y.2) (fun e => nomatch e) ?_)
  have : (x.1.toList == y.1.toList) = true := by rw [e]; exact beq_self_eq_true _
  rw [this]
  exact wpAny_truthy_bool h
section
variable {prog : Program} {w : World} {A : Around} {E : Value → Shared → Prop} {s : Shared}
theorem all_true : ∀ l : List Nat, (l.all fun _ => true) = true := by intro l; simp
theorem ne_bl {a b : Addr} {l l' : List BT} {n n' : Nat} {Q : Value → Shared → Prop} (ha : s.heap.get? a = some (bl l n)) (hb : s.heap.get? b = some (bl l' n')) (hu : A.units < cLine)
    (he : l.map (·.1) = l'.map (·.1)) (h : Q (.bool false) s) : wpAny (model prog w) A (compareOp .NotEq (.ref a) (.ref b)) Q E s := by
  have hlen : l.length = l'.length := by simpa using congrArg List.length he
  refine SeqAt.RcNeAt.lists (e := fun _ => true) (PySem.IsL.isList (n := n) ha) (PySem.IsL.isList (n := n') hb) (by simpa using hlen) hu (fun j h1 h2 => ?_) prog w E Q ?_
  · have g1 : j < l.length := by simpa using h1
    have g2 : j < l'.length := by simpa using h2
    have e : l[j].1 = l'[j].1 := by
      have := congrArg (fun z => z[j]?) he
      simpa [g1, g2] using this
    simpa using eqAt_bytes (A := A.in1) (s := s) l[j] l'[j] (by rw [e])
  · rw [all_true]; exact h
theorem eq_bl {a b : Addr} {l l' : List BT} {n n' : Nat} {Q : Value → Shared → Prop} (ha : s.heap.get? a = some (bl l n)) (hb : s.heap.get? b = some (bl l' n')) (hu : A.units < cLine)
    (he : l.map (·.1) = l'.map (·.1)) (h : Q (.bool true) s) : wpAny (model prog w) A (compareOp .Eq (.ref a) (.ref b)) Q E s := by
  have hlen : l.length = l'.length := by simpa using congrArg List.length he
  refine SeqAt.RcAt.lists (e := fun _ => true) (PySem.IsL.isList (n := n) ha) (PySem.IsL.isList (n := n') hb) (by simpa using hlen) hu (fun j h1 h2 => ?_) prog w E Q ?_
  · have g1 : j < l.length := by simpa using h1
    have g2 : j < l'.length := by simpa using h2
    have e : l[j].1 = l'[j].1 := by
      have := congrArg (fun z => z[j]?) he
      simpa [g1, g2] using this
    simpa using eqAt_bytes (A := A.in1) (s := s) l[j] l'[j] (by rw [e])
  · rw [all_true]; exact h
end

abbrev NT := Nat × Tok
abbrev iv (p : NT) : Value := .int (p.1 : Int) p.2
abbrev il (l : List NT) (n : Nat) : Obj := listOf (l.map iv).toArray n
theorem ints_il : ∀ l : List NT, IntsAre (l.map iv) (l.map fun p => (p.1 : Int))
  | [] => .nil
  | x :: l => .cons _ _ (ints_il l)
theorem il_of_ints : ∀ {vs : List Value} {ns : List Int}, IntsAre vs ns → (∀ k ∈ ns, 0 ≤ k) → ∃ l : List NT, vs = l.map iv ∧ (l.map fun p => (p.1 : Int)) = ns
  | _, _, .nil, _ => ⟨[], rfl, rfl⟩
  | _, _, .cons k t h, hk => by
    obtain ⟨l, e1, e2⟩ := il_of_ints h (fun x hx => hk x (List.mem_cons_of_mem _ hx))
    have h0 := hk k (List.mem_cons_self ..)
    refine ⟨(k.toNat, t) :: l, ?_, ?_⟩
    · simp only [List.map_cons, e1, iv]; rw [Int.toNat_of_nonneg h0]
    · simp only [List.map_cons, e2]; rw [Int.toNat_of_nonneg h0]
theorem perm_cast {l l' : List NT} (h : (l'.map fun p => (p.1 : Int)).Perm (l.map fun p => (p.1 : Int))) : (l'.map (·.1)).Perm (l.map (·.1)) := by
  have := h.map Int.toNat
  simpa [List.map_map, Function.comp_def] using this
theorem sorted_cast {l : List NT} (h : (l.map fun p => (p.1 : Int)).Pairwise (· ≤ ·)) : (l.map (·.1)).Pairwise (· ≤ ·) := by
  rw [List.pairwise_map] at h ⊢
  exact h.imp (fun q => by omega)
theorem il_after {l : List NT} {vs : List Value} {ns : List Int} (hi : IntsAre vs ns) (hp : ns.Perm (l.map fun p => (p.1 : Int))) (hs : ns.Pairwise (· ≤ ·)) :
    ∃ l' : List NT, vs = l'.map iv ∧ (l'.map (·.1)).Perm (l.map (·.1)) ∧ (l'.map (·.1)).Pairwise (· ≤ ·) := by
  obtain ⟨l', e1, e2⟩ := il_of_ints hi (fun k hk => by
    obtain ⟨p, _, rfl⟩ := List.mem_map.mp (hp.mem_iff.mp hk)
    exact Int.natCast_nonneg _)
  exact ⟨l', e1, perm_cast (e2 ▸ hp), sorted_cast (e2 ▸ hs)⟩
section
variable {prog : Program} {w : World} {A : Around} {E : Value → Shared → Prop} {s : Shared} {g : Heap} {L a : Addr} {m : Str → Option Value} {rest : List (Addr × Obj)} {l : List NT} {n : Nat}
theorem append_i {k : Nat} {t : Tok} {Q : Value → Shared → Prop} (F : Fr g L s.heap m) (N : News g L s.heap ((a, il l n) :: rest)) (hr : ∀ p ∈ rest, p.1 ≠ a) (hsz : l.length < 1000000)
    (h : ∀ h', Fr g L h' m → News g L h' ((a, il (l ++ [(k, t)]) (n + 1)) :: rest) → Q .none { s with heap := h' }) : wpAny (model prog w) A (call (.builtin "list.append") [.ref a, .int k t]) Q E s := by
  refine append_K (its := (l.map iv).toArray) F N (Upd.head hr) (fun h' F' N' => h h' F' ?_) (by simp [sizeLine]; omega)
  have e : (l.map iv).toArray.push (.int k t) = ((l ++ [(k, t)]).map iv).toArray := by simp
  rw [e] at N'; exact N'
theorem pop0_i {x : NT} {u : Tok} {Q : Value → Shared → Prop} (F : Fr g L s.heap m) (N : News g L s.heap ((a, il (x :: l) n) :: rest)) (hr : ∀ p ∈ rest, p.1 ≠ a) (hsz : l.length < 1000000)
    (h : ∀ h', Fr g L h' m → News g L h' ((a, il l (n + 1)) :: rest) → Q (iv x) { s with heap := h' }) : wpAny (model prog w) A (call (.builtin "list.pop") [.ref a, .int 0 u]) Q E s := by
  refine kl_popAt (its := ((x :: l).map iv).toArray) (k := 0) (p := []) (q := l.map iv) (y := iv x) F N (by decide) ?_ ?_ (Upd.head hr) ?_ h
  · simp [seqIndex?]
  · rfl
  · simp [sizeLine]; omega
theorem sort_i {Q : Value → Shared → Prop} (F : Fr g L s.heap m) (N : News g L s.heap ((a, il l n) :: rest)) (hr : ∀ p ∈ rest, p.1 ≠ a) (h64 : l.length < 64)
    (h : ∀ h' l' n', Fr g L h' m → News g L h' ((a, il l' n') :: rest) → (l'.map (·.1)).Perm (l.map (·.1)) → (l'.map (·.1)).Pairwise (· ≤ ·) → Q .none { s with heap := h' }) :
    wpAny (model prog w) A (call (.builtin "list.sort") [.ref a]) Q E s := by
  have z := N _ (.head _)
  have ho : s.heap.get? a = some (seqObj "list" (l.map iv).toArray n) := z.1
  refine wpAny_call_entry PyProof.Rows.slot_list_sort ⟨_, z.1, rfl⟩ PyProof.Rows.entry_list_sort (list_sort_tree (n := n) (vs := l.map iv) ho (ints_il l) (by simpa using h64) fun out ns' hI hp hP => ⟨.none, rfl, ?_⟩) (PyProof.Rows.args_list_sort _)
  obtain ⟨l', e1, e2, e3⟩ := il_after hI hp hP
  obtain ⟨n', hn'⟩ := sortedHeap_at (out := out) ho
  have hx : Ex [a] s.heap (sortedHeap s.heap a (l.map iv) out) := fun b o hb e => by
    rw [sortedHeap_old (by simpa using hb) (Heap.lt_size e)]; exact e
  have eo : out = (l'.map iv).toArray := by rw [← e1, Array.toArray_toList]
  refine h _ l' n' (hx.fr F z.2.1 z.2.2) (hx.news N hr ?_) e2 e3
  rw [eo] at hn' ⊢; exact hn'
end

section
variable {prog : Program} {w : World} {A : Around} {E : Value → Shared → Prop} {s : Shared} {g : Heap} {L a : Addr} {m : Str → Option Value} {news : List (Addr × Obj)} {l : List NT} {n : Nat}
theorem news_one {h : Heap} {o : Obj} (N : News g L h news) (hm : (a, o) ∈ news) : News g L h [(a, o)] := fun p hp => by
  have : p = (a, o) := by simpa using hp
  subst this; exact N _ hm
theorem append_i1 {k : Nat} {t : Tok} {Q : Value → Shared → Prop} (F : Fr g L s.heap m) (N : News g L s.heap news) (hm : (a, il l n) ∈ news) (hsz : l.length < 1000000)
    (h : ∀ h', Fr g L h' m → News g L h' [(a, il (l ++ [(k, t)]) (n + 1))] → Q .none { s with heap := h' }) : wpAny (model prog w) A (call (.builtin "list.append") [.ref a, .int k t]) Q E s :=
  append_i F (news_one N hm) (fun _ h => nomatch h) hsz h
theorem pop0_i1 {x : NT} {u : Tok} {Q : Value → Shared → Prop} (F : Fr g L s.heap m) (N : News g L s.heap news) (hm : (a, il (x :: l) n) ∈ news) (hsz : l.length < 1000000)
    (h : ∀ h', Fr g L h' m → News g L h' [(a, il l (n + 1))] → Q (iv x) { s with heap := h' }) : wpAny (model prog w) A (call (.builtin "list.pop") [.ref a, .int 0 u]) Q E s :=
  pop0_i F (news_one N hm) (fun _ h => nomatch h) hsz h
theorem sort_i1 {Q : Value → Shared → Prop} (F : Fr g L s.heap m) (N : News g L s.heap news) (hm : (a, il l n) ∈ news) (h64 : l.length < 64)
    (h : ∀ h' l' n', Fr g L h' m → News g L h' [(a, il l' n')] → (l'.map (·.1)).Perm (l.map (·.1)) → (l'.map (·.1)).Pairwise (· ≤ ·) → Q .none { s with heap := h' }) :
    wpAny (model prog w) A (call (.builtin "list.sort") [.ref a]) Q E s :=
  sort_i F (news_one N hm) (fun _ h => nomatch h) h64 h
theorem isList_il {h : Heap} (ha : h.get? a = some (il l n)) : h.IsList a (l.map iv).toArray := PySem.IsL.isList (n := n) ha
theorem eq_il {b : Addr} {k : Nat} {Q : Value → Shared → Prop} (ha : s.heap.get? a = some (il l n)) (hb : s.heap.get? b = some (listOf #[] k)) (hu : A.units + 64 < cLine) (h : Q (.bool l.isEmpty) s) :
    wpAny (model prog w) A (compareOp .Eq (.ref a) (.ref b)) Q E s := by
  refine eq_intsK (isList_il ha) (ints_il l) (us := []) (ms := []) (PySem.IsL.isList (n := k) hb) .nil hu ?_
  cases l <;> exact h
theorem ne_il {b : Addr} {k : Nat} {Q : Value → Shared → Prop} (ha : s.heap.get? a = some (il l n)) (hb : s.heap.get? b = some (listOf #[] k)) (hu : A.units + 64 < cLine) (h : Q (.bool (!l.isEmpty)) s) :
    wpAny (model prog w) A (compareOp .NotEq (.ref a) (.ref b)) Q E s := by
  refine ne_intsK (isList_il ha) (ints_il l) (us := []) (ms := []) (PySem.IsL.isList (n := k) hb) .nil hu ?_
  cases l <;> exact h
end
local macro_rules | `(tactic| walk_at "compareOp Eq ref ref") => `(tactic| (k_here; (with_reducible show wpAny _ _ (compareOp CmpOp.Eq (Value.ref _) (Value.ref _)) _ _ _); k_dflt (refine' eq_il ?k1 ?k2 ?k3 ?_; (case k1 => exact News.get (by k_asm) (by k_mem)); (case k2 => exact News.get (by k_asm) (by k_mem)); (case k3 => units_room); k_whole); (try simp only [List.isEmpty_cons, List.isEmpty_nil])))
local macro_rules | `(tactic| walk_at "call builtin:list.append") => `(tactic| (k_here; (with_reducible show wpAny _ _ (call (Value.builtin _) [Value.ref _, Value.int _ _]) _ _ _); k_dflt (refine' append_i1 ?k1 ?k2 ?k3 ?k4 ?_; (case k1 => k_asm); (case k2 => k_asm); (case k3 => k_mem); (case k4 => omega); k_whole); intro h' F' N'; (try k_sweep)))
section
variable {w : World} {A : Around} {s : Shared} {hb : Heap} {mean : ExcName → Option Value} {mg mb : Str → Option Value} {E : Value → Shared → Prop} {Q : Value → Shared → Prop}
theorem due_none1 {a : Addr} {n nb wd : Nat} {t1 t2 t3 : Tok}
    (X : (hd.heap_39 w.params).In hb) (T : Top hd.view_39 (looseW hd.view_39 []) mean mg mb hb) (st : ∀ b o, hb.get? b = some o → s.heap.get? b = some o)
    (hl : s.heap.get? a = some (il [] n)) (ha : hb.get? a = none) (hh : A.handled = none) (hroom : A.depth + 5 < recursionLimit) (hu : A.units + 100 < cLine) (hwd : wd ≤ 4)
    (h : ∀ h' tk t', Ex [a] s.heap h' → h'.get? a = some (il [] n) → Q (.str (Str.ofString "nothing") t') { s with heap := h', toks := tk }) :
    wpAny (model PySem.Challenge.rw_nq0033_01.row.prog w) A (call (.ref 101) [.ref a, .int 1 t1, .int nb t2, .int wd t3]) Q E s := by
  refine' enterF X T st (news := [(a, il [] n)]) (binds := [(Str.ofString "row", .ref a), (Str.ofString "call", .int 1 t1), (Str.ofString "number", .int nb t2), (Str.ofString "width", .int wd t3)]) (by simpa using ⟨hl, ha⟩) ?k6 ?k7 (depth_lt hroom) ?k9 ?kB ?_ ?c2 ?c3 ?c4 ?c5
  case k6 => k_is
  case k7 => k_is
  case k9 => exact BindsTo.of_eq rfl
  case kB => exact locs rfl
  case c2 => exact rfl
  case c3 => exact rfl
  case c4 => exact rfl
  case c5 => decide
  intro g L h₁ F N X' T' xg stg
  repeat walk1
  rename Fr _ _ _ _ => F2
  rename News _ _ _ _ => N2
  exact h _ _ _ (leaveEx F2 xg) (N2.get (by k_mem))

theorem due_none2 {a : Addr} {n nb wd : Nat} {t1 t2 t3 : Tok}
    (X : (hd.heap_39 w.params).In hb) (T : Top hd.view_39 (looseW hd.view_39 []) mean mg mb hb) (st : ∀ b o, hb.get? b = some o → s.heap.get? b = some o)
    (hl : s.heap.get? a = some (il [] n)) (ha : hb.get? a = none) (hh : A.handled = none) (hroom : A.depth + 5 < recursionLimit) (hu : A.units + 100 < cLine) (hwd : wd ≤ 4)
    (h : ∀ h' tk t', Ex [a] s.heap h' → h'.get? a = some (il [] n) → Q (.str (Str.ofString "nothing") t') { s with heap := h', toks := tk }) :
    wpAny (model PySem.Challenge.rw_nq0033_01.row.prog w) A (call (.ref 101) [.ref a, .int 2 t1, .int nb t2, .int wd t3]) Q E s := by
  refine' enterF X T st (news := [(a, il [] n)]) (binds := [(Str.ofString "row", .ref a), (Str.ofString "call", .int 2 t1), (Str.ofString "number", .int nb t2), (Str.ofString "width", .int wd t3)]) (by simpa using ⟨hl, ha⟩) ?k6 ?k7 (depth_lt hroom) ?k9 ?kB ?_ ?c2 ?c3 ?c4 ?c5
  case k6 => k_is
  case k7 => k_is
  case k9 => exact BindsTo.of_eq rfl
  case kB => exact locs rfl
  case c2 => exact rfl
  case c3 => exact rfl
  case c4 => exact rfl
  case c5 => decide
  intro g L h₁ F N X' T' xg stg
  repeat walk1
  rename Fr _ _ _ _ => F2
  rename News _ _ _ _ => N2
  exact h _ _ _ (leaveEx F2 xg) (N2.get (by k_mem))

theorem due_pop {a : Addr} {n nb wd : Nat} {t1 t2 t3 : Tok} {l : List NT} {x : NT}
    (X : (hd.heap_39 w.params).In hb) (T : Top hd.view_39 (looseW hd.view_39 []) mean mg mb hb) (st : ∀ b o, hb.get? b = some o → s.heap.get? b = some o)
    (hl : s.heap.get? a = some (il (x :: l) n)) (ha : hb.get? a = none) (hh : A.handled = none) (hroom : A.depth + 5 < recursionLimit) (hu : A.units + 100 < cLine) (hwd : wd ≤ 4) (hsz : l.length < 50)
    (h : ∀ h' tk t' n', Ex [a] s.heap h' → h'.get? a = some (il l n') → Q (.bytes (lowL x.1 wd).reverse.toArray t') { s with heap := h', toks := tk }) :
    wpAny (model PySem.Challenge.rw_nq0033_01.row.prog w) A (call (.ref 101) [.ref a, .int 1 t1, .int nb t2, .int wd t3]) Q E s := by
  refine' enterF X T st (news := [(a, il (x :: l) n)]) (binds := [(Str.ofString "row", .ref a), (Str.ofString "call", .int 1 t1), (Str.ofString "number", .int nb t2), (Str.ofString "width", .int wd t3)]) (by simpa using ⟨hl, ha⟩) ?k6 ?k7 (depth_lt hroom) ?k9 ?kB ?_ ?c2 ?c3 ?c4 ?c5
  case k6 => k_is
  case k7 => k_is
  case k9 => exact BindsTo.of_eq rfl
  case kB => exact locs rfl
  case c2 => exact rfl
  case c3 => exact rfl
  case c4 => exact rfl
  case c5 => decide
  intro g L h₁ F N X' T' xg stg
  repeat walk1
  rename Fr _ _ _ _ => F2
  rename News _ _ _ _ => N2
  refine' pop0_i1 (x := x) (l := l) F2 N2 ?hm ?hz ?_
  case hm => k_mem
  case hz => omega
  intro h3 F3 N3
  clear F2 N2
  repeat walk1
  rename Fr _ _ _ _ => F2
  rename News _ _ _ _ => N2
  refine high_call (hb := g) X' T' (fun b o e => F2.keep b o e) hh (by first | exact deep_ok hroom | exact deep_lt hroom) hwd ?_
  intro h4 tk4 t4 x4
  have F4 := Ex.fr0 F2 x4
  have N4 := Ex.news0 N2 x4
  clear F2 N2
  repeat walk1
  rename Fr _ _ _ _ => F2
  rename News _ _ _ _ => N2
  exact h _ _ _ _ (leaveEx F2 xg) (N2.get (by k_mem))

theorem due_rep {a : Addr} {n nb wd : Nat} {t1 t2 t3 : Tok} {l : List NT} {x : NT}
    (X : (hd.heap_39 w.params).In hb) (T : Top hd.view_39 (looseW hd.view_39 []) mean mg mb hb) (st : ∀ b o, hb.get? b = some o → s.heap.get? b = some o)
    (hl : s.heap.get? a = some (il (x :: l) n)) (ha : hb.get? a = none) (hh : A.handled = none) (hroom : A.depth + 5 < recursionLimit) (hu : A.units + 100 < cLine) (hwd : wd ≤ 4) (hsz : l.length < 50)
    (h : ∀ h' tk t' n' l', Ex [a] s.heap h' → h'.get? a = some (il l' n') → (l'.map (·.1)).Perm ((l ++ [(nb, t2)]).map (·.1)) → (l'.map (·.1)).Pairwise (· ≤ ·) → Q (.bytes (lowL x.1 wd).reverse.toArray t') { s with heap := h', toks := tk }) :
    wpAny (model PySem.Challenge.rw_nq0033_01.row.prog w) A (call (.ref 101) [.ref a, .int 2 t1, .int nb t2, .int wd t3]) Q E s := by
  refine' enterF X T st (news := [(a, il (x :: l) n)]) (binds := [(Str.ofString "row", .ref a), (Str.ofString "call", .int 2 t1), (Str.ofString "number", .int nb t2), (Str.ofString "width", .int wd t3)]) (by simpa using ⟨hl, ha⟩) ?k6 ?k7 (depth_lt hroom) ?k9 ?kB ?_ ?c2 ?c3 ?c4 ?c5
  case k6 => k_is
  case k7 => k_is
  case k9 => exact BindsTo.of_eq rfl
  case kB => exact locs rfl
  case c2 => exact rfl
  case c3 => exact rfl
  case c4 => exact rfl
  case c5 => decide
  intro g L h₁ F N X' T' xg stg
  repeat walk1
  rename Fr _ _ _ _ => F2
  rename News _ _ _ _ => N2
  refine' pop0_i1 (x := x) (l := l) F2 N2 ?hm ?hz ?_
  case hm => k_mem
  case hz => omega
  intro h3 F3 N3
  clear F2 N2
  repeat walk1
  rename Fr _ _ _ _ => F2
  rename News _ _ _ _ => N2
  refine high_call (hb := g) X' T' (fun b o e => F2.keep b o e) hh (by first | exact deep_ok hroom | exact deep_lt hroom) hwd ?_
  intro h4 tk4 t4 x4
  have F4 := Ex.fr0 F2 x4
  have N4 := Ex.news0 N2 x4
  clear F2 N2
  repeat walk1
  skip
  rename Fr _ _ _ _ => F2
  rename News _ _ _ _ => N2
  refine sort_i1 F2 N2 (by k_mem) (by simp; omega) ?_
  intro h5 l5 n5 F5 N5 p5 s5
  clear F2 N2
  repeat walk1
  rename Fr _ _ _ _ => F2
  rename News _ _ _ _ => N2
  exact h _ _ _ _ _ (leaveEx F2 xg) (N2.get (by k_mem)) p5 s5

theorem due_push0 {a : Addr} {n nb wd : Nat} {t1 t2 t3 : Tok} {l : List NT}
    (X : (hd.heap_39 w.params).In hb) (T : Top hd.view_39 (looseW hd.view_39 []) mean mg mb hb) (st : ∀ b o, hb.get? b = some o → s.heap.get? b = some o)
    (hl : s.heap.get? a = some (il l n)) (ha : hb.get? a = none) (hh : A.handled = none) (hroom : A.depth + 5 < recursionLimit) (hu : A.units + 100 < cLine) (hwd : wd ≤ 4) (hsz : l.length < 50)
    (h : ∀ h' tk n' l', Ex [a] s.heap h' → h'.get? a = some (il l' n') → (l'.map (·.1)).Perm ((l ++ [(nb, t2)]).map (·.1)) → (l'.map (·.1)).Pairwise (· ≤ ·) → Q .none { s with heap := h', toks := tk }) :
    wpAny (model PySem.Challenge.rw_nq0033_01.row.prog w) A (call (.ref 101) [.ref a, .int 0 t1, .int nb t2, .int wd t3]) Q E s := by
  refine' enterF X T st (news := [(a, il l n)]) (binds := [(Str.ofString "row", .ref a), (Str.ofString "call", .int 0 t1), (Str.ofString "number", .int nb t2), (Str.ofString "width", .int wd t3)]) (by simpa using ⟨hl, ha⟩) ?k6 ?k7 (depth_lt hroom) ?k9 ?kB ?_ ?c2 ?c3 ?c4 ?c5
  case k6 => k_is
  case k7 => k_is
  case k9 => exact BindsTo.of_eq rfl
  case kB => exact locs rfl
  case c2 => exact rfl
  case c3 => exact rfl
  case c4 => exact rfl
  case c5 => decide
  intro g L h₁ F N X' T' xg stg
  repeat walk1
  rename Fr _ _ _ _ => F2
  rename News _ _ _ _ => N2
  refine sort_i1 F2 N2 (by k_mem) (by simp; omega) ?_
  intro h5 l5 n5 F5 N5 p5 s5
  clear F2 N2
  repeat walk1
  rename Fr _ _ _ _ => F2
  rename News _ _ _ _ => N2
  exact h _ _ _ _ (leaveEx F2 xg) (N2.get (by k_mem)) p5 s5

theorem due_push5 {a : Addr} {n nb wd : Nat} {t1 t2 t3 : Tok} {l : List NT}
    (X : (hd.heap_39 w.params).In hb) (T : Top hd.view_39 (looseW hd.view_39 []) mean mg mb hb) (st : ∀ b o, hb.get? b = some o → s.heap.get? b = some o)
    (hl : s.heap.get? a = some (il l n)) (ha : hb.get? a = none) (hh : A.handled = none) (hroom : A.depth + 5 < recursionLimit) (hu : A.units + 100 < cLine) (hwd : wd ≤ 4) (hsz : l.length < 50)
    (h : ∀ h' tk n' l', Ex [a] s.heap h' → h'.get? a = some (il l' n') → (l'.map (·.1)).Perm ((l ++ [(nb, t2)]).map (·.1)) → (l'.map (·.1)).Pairwise (· ≤ ·) → Q .none { s with heap := h', toks := tk }) :
    wpAny (model PySem.Challenge.rw_nq0033_01.row.prog w) A (call (.ref 101) [.ref a, .int 5 t1, .int nb t2, .int wd t3]) Q E s := by
  refine' enterF X T st (news := [(a, il l n)]) (binds := [(Str.ofString "row", .ref a), (Str.ofString "call", .int 5 t1), (Str.ofString "number", .int nb t2), (Str.ofString "width", .int wd t3)]) (by simpa using ⟨hl, ha⟩) ?k6 ?k7 (depth_lt hroom) ?k9 ?kB ?_ ?c2 ?c3 ?c4 ?c5
  case k6 => k_is
  case k7 => k_is
  case k9 => exact BindsTo.of_eq rfl
  case kB => exact locs rfl
  case c2 => exact rfl
  case c3 => exact rfl
  case c4 => exact rfl
  case c5 => decide
  intro g L h₁ F N X' T' xg stg
  repeat walk1
  rename Fr _ _ _ _ => F2
  rename News _ _ _ _ => N2
  refine sort_i1 F2 N2 (by k_mem) (by simp; omega) ?_
  intro h5 l5 n5 F5 N5 p5 s5
  clear F2 N2
  repeat walk1
  rename Fr _ _ _ _ => F2
  rename News _ _ _ _ => N2
  exact h _ _ _ _ (leaveEx F2 xg) (N2.get (by k_mem)) p5 s5

theorem due_pp {a : Addr} {n nb wd : Nat} {t1 t2 t3 : Tok} {l : List NT}
    (X : (hd.heap_39 w.params).In hb) (T : Top hd.view_39 (looseW hd.view_39 []) mean mg mb hb) (st : ∀ b o, hb.get? b = some o → s.heap.get? b = some o)
    (hl : s.heap.get? a = some (il l n)) (ha : hb.get? a = none) (hh : A.handled = none) (hroom : A.depth + 5 < recursionLimit) (hu : A.units + 100 < cLine) (hwd : wd ≤ 4) (hsz : l.length < 50)
    (h : ∀ h' tk t' n' l' x', Ex [a] s.heap h' → h'.get? a = some (il l' n') → ((x' :: l').map (·.1)).Perm ((l ++ [(nb, t2)]).map (·.1)) → ((x' :: l').map (·.1)).Pairwise (· ≤ ·) → Q (.bytes (lowL x'.1 wd).reverse.toArray t') { s with heap := h', toks := tk }) :
    wpAny (model PySem.Challenge.rw_nq0033_01.row.prog w) A (call (.ref 101) [.ref a, .int 3 t1, .int nb t2, .int wd t3]) Q E s := by
  refine' enterF X T st (news := [(a, il l n)]) (binds := [(Str.ofString "row", .ref a), (Str.ofString "call", .int 3 t1), (Str.ofString "number", .int nb t2), (Str.ofString "width", .int wd t3)]) (by simpa using ⟨hl, ha⟩) ?k6 ?k7 (depth_lt hroom) ?k9 ?kB ?_ ?c2 ?c3 ?c4 ?c5
  case k6 => k_is
  case k7 => k_is
  case k9 => exact BindsTo.of_eq rfl
  case kB => exact locs rfl
  case c2 => exact rfl
  case c3 => exact rfl
  case c4 => exact rfl
  case c5 => decide
  intro g L h₁ F N X' T' xg stg
  repeat walk1
  rename Fr _ _ _ _ => F2
  rename News _ _ _ _ => N2
  refine sort_i1 F2 N2 (by k_mem) (by simp; omega) ?_
  intro h5 l5 n5 F5 N5 p5 s5
  clear F2 N2
  have hlen : l5.length = l.length + 1 := by have := p5.length_eq; simpa using this
  cases l5 with
  | nil => simp at hlen
  | cons x5 l5 =>
  have hsz : l5.length < 50 := by simp at hlen; omega
  repeat walk1
  rename Fr _ _ _ _ => F2
  rename News _ _ _ _ => N2
  refine' pop0_i1 (x := x5) (l := l5) F2 N2 ?hm ?hz ?_
  case hm => k_mem
  case hz => omega
  intro h3 F3 N3
  clear F2 N2
  repeat walk1
  rename Fr _ _ _ _ => F2
  rename News _ _ _ _ => N2
  refine high_call (hb := g) X' T' (fun b o e => F2.keep b o e) hh (by first | exact deep_ok hroom | exact deep_lt hroom) hwd ?_
  intro h4 tk4 t4 x4
  have F4 := Ex.fr0 F2 x4
  have N4 := Ex.news0 N2 x4
  clear F2 N2
  repeat walk1
  rename Fr _ _ _ _ => F2
  rename News _ _ _ _ => N2
  exact h _ _ _ _ _ _ (leaveEx F2 xg) (N2.get (by k_mem)) p5 s5

end


section
variable {w : World} {A : Around} {s : Shared} {hb : Heap} {mean : ExcName → Option Value} {mg mb : Str → Option Value} {E : Value → Shared → Prop} {Q : Value → Shared → Prop}
/-- the word of a number -/
def wordOf (wd : Nat) (n : Nat) : Array UInt8 := (lowL n wd).reverse.toArray
theorem words_of {rl : List NT} {wd : Nat} {ys : Array Value} (h : Paired (fun v y => ∃ (p : NT) (u : Tok), v = iv p ∧ y = Value.bytes (wordOf wd p.1) u) ((rl.map iv).toArray.toList) ys.toList) :
    ∃ yl : List BT, ys = (yl.map bv).toArray ∧ yl.map (·.1) = rl.map fun p => wordOf wd p.1 := by
  have : ∀ (rl : List NT) (zs : List Value), Paired (fun v y => ∃ (p : NT) (u : Tok), v = iv p ∧ y = Value.bytes (wordOf wd p.1) u) (rl.map iv) zs → ∃ yl : List BT, zs = yl.map bv ∧ yl.map (·.1) = rl.map fun p => wordOf wd p.1 := by
    intro rl
    induction rl with
    | nil => intro zs h; cases h; exact ⟨[], rfl, rfl⟩
    | cons x rl ih =>
      intro zs h
      cases h with
      | cons h1 h2 =>
        obtain ⟨p, u, e1, rfl⟩ := h1
        obtain ⟨yl, rfl, e2⟩ := ih _ h2
        have : x.1 = p.1 := by injection e1 with e1 _; omega
        exact ⟨(wordOf wd p.1, u) :: yl, rfl, by simp [e2, this]⟩
  obtain ⟨yl, e1, e2⟩ := this rl ys.toList (by simpa using h)
  exact ⟨yl, by rw [← e1, Array.toArray_toList], e2⟩
theorem stands_call {a r : Addr} {l : List BT} {rl : List NT} {n k wd : Nat} {t3 : Tok}
    (X : (hd.heap_39 w.params).In hb) (T : Top hd.view_39 (looseW hd.view_39 []) mean mg mb hb) (st : ∀ b o, hb.get? b = some o → s.heap.get? b = some o)
    (hl : s.heap.get? a = some (bl l n)) (ha : hb.get? a = none) (hrl : s.heap.get? r = some (il rl k)) (hr0 : hb.get? r = none) (har : a ≠ r) (hh : A.handled = none) (hroom : A.depth + 5 < recursionLimit) (hu : A.units + 100 < cLine) (hwd : wd ≤ 4)
    (hsz : l.length < 64) (hsr : rl.length < 64)
    (hs1 : ∀ l' : List BT, l'.Perm l → l'.Pairwise (fun a b => blt b a = false) → l'.map (·.1) = rl.map fun p => wordOf wd p.1)
    (hs2 : ∀ p, 1 ≤ p → p < l.length → blt (l.getD p d0) (l.getD ((p - 1) / 2) d0) = false)
    (h : ∀ h' tk, Ex [] s.heap h' → Q (.bool true) { s with heap := h', toks := tk }) :
    wpAny (model PySem.Challenge.rw_nq0033_01.row.prog w) A (call (.ref 106) [.ref a, .ref r, .int wd t3]) Q E s := by
  refine' enterC X T st (news := [(a, bl l n), (r, il rl k)]) (binds := [(Str.ofString "queue", .ref a), (Str.ofString "row", .ref r), (Str.ofString "width", .int wd t3)]) (by simpa using ⟨⟨hl, ha⟩, hrl, hr0⟩) ?k6 ?k7 (depth_lt hroom) ?k9 ?kB ?kD ?_ ?c2 ?c3 ?c4
  case k6 => k_is
  case k7 => k_is
  case k9 => exact BindsTo.of_eq rfl
  case kB => exact rfl
  case kD => decide +kernel
  case c2 => exact rfl
  case c3 => exact rfl
  case c4 => exact rfl
  intro g L h₁ tk cells F N Y hlt X' T' xg stg
  obtain ⟨o2, o1, rfl, d2, d1⟩ := CellsAre.two Y
  clear Y
  simp only [List.cons_append, List.nil_append] at N
  have d1 : o1.data = .cell (some (.ref a)) := d1
  have d2 : o2.data = .cell (some (.int wd t3)) := d2
  repeat walk1
  rename Fr _ _ _ _ => F2
  rename News _ _ _ _ => N2
  refine sorted_b F2 N2 (N2.get (by k_mem)) hsz ?_
  intro h3 D3 l3 e3 F3 N3 nd3 p3 s3
  have q3 := hs1 l3 p3 s3
  clear F2 N2
  refine ListComp_W (fun _ => true) (fun v y => ∃ (p : NT) (u : Tok), v = iv p ∧ y = Value.bytes (wordOf wd p.1) u) (cl := [(Str.ofString "width", L + 2)]) rfl (by decide) rfl (by decide) rfl ?_ (by intro _; rfl)
  repeat walk1
  refine comp_lst (items := (rl.map iv).toArray) (isList_il (N3.get (by k_mem))) (by simp [sizeLine]; omega) hh F3 N3 X' T' (fun _ _ _ _ _ _ _ _ _ _ _ _ _ => tests_nil) ?_ ?_
  · intro g' C i v s₃ m₃ E' hi _ X4 T4 sg F4 hm
    obtain ⟨p, _, rfl⟩ : ∃ p ∈ rl, iv p = v := by
      have := List.mem_of_getElem? (by simpa using hi : (rl.map iv)[i]? = some v)
      simpa using this
    have F4 := Fr.pins F4 (ps := [(Str.ofString "number", _)]) ⟨hm, trivial⟩
    have hc2 : g'.IsCell (L + 2) (some (.int wd t3)) := ⟨_, sg _ _ (N3.get (by k_mem)), d2⟩
    clear F3 N3 X' T'
    have N4 : News g' C s₃.heap [] := News.nil
    repeat walk1
    refine high_call (n := p.1) (hb := g') X4 T4 (fun b o e => F4.keep b o e) hh (by first | exact deep_ok hroom | exact deep_lt hroom) hwd ?_
    intro h5 tk5 t5 x5
    k_unfold
    (try dsimp only)
    exact And.intro ⟨p, _, rfl, rfl⟩ (keeps_ex x5)
  · intro D4 h4 tk4 ys k4 F4 N4 nd4 x4 hF
    rw [filter_tt] at hF
    obtain ⟨yl, rfl, hyl⟩ := words_of hF
    refine ne_bl (N4.get (by k_mem)) (N4.get (by k_mem)) (by units_room) (q3.trans hyl.symm) ?_
    clear F3 N3
    iterate 6 walk1
    refine ListComp_W (fun _ => false) (fun v y => True) (cl := []) rfl (by decide) rfl (by decide) rfl ?_ (by intro _; rfl)
    repeat walk1
    refine comp_lst (items := (l.map bv).toArray) (PySem.IsL.isList (n := n) (N4.get (by k_mem))) (by simp [sizeLine]; omega) hh F4 N4 X' T' ?_ (fun _ _ _ _ _ _ _ _ hp => by cases hp) ?_
    · intro g' C i v s₃ m₃ E' hi X5 T5 sg F5 hm
      obtain ⟨p, _, rfl⟩ : ∃ p ∈ l, bv p = v := by
        have := List.mem_of_getElem? (by simpa using hi : (l.map bv)[i]? = some v)
        simpa using this
      have F5 := Fr.pins F5 (ps := [(Str.ofString "word", _)]) ⟨hm, trivial⟩
      clear F4 N4 X' T'
      have N5 : News g' C s₃.heap [] := News.nil
      refine tests_one ?_
      repeat walk1
      exact And.intro rfl (keeps_toks _ _)
    · intro D5 h5 tk5 ys5 k5 F5 N5 nd5 x5 hF5
      have e5 : ys5 = #[] := by
        have : ((l.map bv).toArray.toList.filter fun _ => false) = [] := by simp
        rw [this] at hF5
        generalize hz : ys5.toList = z at hF5
        cases hF5
        simpa using hz
      subst e5
      iterate 10 walk1
      refine ListComp_W (fun _ => false) (fun v y => True) (cl := [(Str.ofString "queue", L + 1)]) rfl (by decide) rfl (by decide) rfl ?_ (by intro _; rfl)
      repeat walk1
      rename IsRange _ _ _ _ _ _ _ _ => hr
      rename Fr _ _ _ _ => F6
      rename News _ _ _ _ => N6
      refine comp_rng (n := l.length - 1) hr (small_up (by omega) (by omega) (by omega) (by omega) _ (by omega) (by omega)) (by unfold Builtin.Range.rangeSize; simp; omega) (by simp [sizeLine]; omega) hh F6 N6 X' T' ?_ (fun _ _ _ _ _ _ _ _ hp => by cases hp) ?_
      · intro g' C i t s₃ m₃ E' hi X7 T7 sg F7 hm
        have F7 := Fr.pins F7 (ps := [(Str.ofString "place", _)]) ⟨hm, trivial⟩
        have hc1 : g'.IsCell (L + 1) (some (.ref a)) := ⟨_, sg _ _ (N6.get (by k_mem)), d1⟩
        have hla : s₃.heap.get? a = some (bl l n) := F7.keep _ _ (sg _ _ (N6.get (by k_mem)))
        clear F6 N6 X' T' hr
        have N7 : News g' C s₃.heap [] := News.nil
        refine tests_one ?_
        repeat walk1
        refine item_b (k := 1 + (i : Int) * 1) hla (by omega) (by omega) (by omega) ?_
        repeat walk1
        have e2 : ((1 + (i : Int) * 1 - 1).fdiv 2) = ((i / 2 : Nat) : Int) := by
          rw [Int.fdiv_eq_ediv_of_nonneg _ (by omega)]; omega
        rw [e2]
        refine item_b (k := ((i / 2 : Nat) : Int)) hla (by omega) (by omega) (by omega) ?_
        repeat walk1
        refine And.intro ?_ (keeps_toks _ _)
        have := hs2 (1 + i) (by omega) (by omega)
        rw [show (1 + i - 1) / 2 = i / 2 by omega] at this
        rw [show (1 + (i : Int) * 1).toNat = 1 + i by omega, show (((i / 2 : Nat) : Int)).toNat = i / 2 by omega]
        exact this
      · intro D7 h7 tk7 ys7 vs7 k7 F7 N7 nd7 x7 hlen7 hP7 hF7
        have e7 : ys7 = #[] := by
          have : (vs7.filter fun _ => false) = [] := by simp
          rw [this] at hF7
          generalize hz : ys7.toList = z at hF7
          cases hF7
          simpa using hz
        subst e7
        clear F6 N6
        repeat walk1
        rename Fr _ _ _ _ => F8
        rename News _ _ _ _ => N8
        refine h _ _ fun b o _ e => ?_
        by_cases q1 : b = a
        · subst q1; rw [hl] at e; cases e; exact N8.get (by k_mem)
        by_cases q2 : b = r
        · subst q2; rw [hrl] at e; cases e; exact N8.get (by k_mem)
        exact F8.keep _ _ (xg _ _ (by simpa using ⟨q1, q2⟩) e)
end

/-! the plain part: heaps -/
def ble (x y : BT) : Prop := blt y x = false
theorem ble_refl (x : BT) : ble x x := by unfold ble; rw [blt_kind]; exact bytesKind.irrefl _
theorem ble_of_blt {x y : BT} (h : blt x y = true) : ble x y := by
  unfold ble; rw [blt_kind] at h ⊢; exact KeyOrd.kle_of_klt (O := bytesKind.toKeyOrd) h
theorem ble_of_not {x y : BT} (h : ¬ blt x y = true) : ble y x := by unfold ble; simpa using h
theorem ble_trans {x y z : BT} (h1 : ble x y) (h2 : ble y z) : ble x z := by
  unfold ble at *; rw [blt_kind] at *; exact KeyOrd.kle_trans (O := bytesKind.toKeyOrd) h1 h2
theorem ble_antisymm {x y : BT} (h1 : ble x y) (h2 : ble y x) : x.1 = y.1 := by
  unfold ble at *; rw [blt_kind] at *
  exact Array.toList_inj.mp (KeyOrd.kle_antisymm (O := bytesKind.toKeyOrd) h1 h2)
abbrev at_ (l : List BT) (i : Nat) : BT := l.getD i d0
theorem at_set_self {l : List BT} {i : Nat} {x : BT} (h : i < l.length) : at_ (l.set i x) i = x := by simp [at_, h]
theorem at_set_ne {l : List BT} {i j : Nat} {x : BT} (h : i ≠ j) : at_ (l.set i x) j = at_ l j := by simp [at_, List.getD, List.getElem?_set_ne h]
/-- the pairs from k on stand -/
def HeapFrom (l : List BT) (k : Nat) : Prop := ∀ i, 1 ≤ i → i < l.length → k ≤ (i - 1) / 2 → ble (at_ l ((i - 1) / 2)) (at_ l i)
/-- all pairs from k on that have nothing to do with the hole stand, and what lies under the hole is not less than what lies over it -/
structure Hole (l : List BT) (k pos : Nat) : Prop where
  apart : ∀ i, 1 ≤ i → i < l.length → k ≤ (i - 1) / 2 → i ≠ pos → (i - 1) / 2 ≠ pos → ble (at_ l ((i - 1) / 2)) (at_ l i)
  over : ∀ i, 1 ≤ i → i < l.length → (i - 1) / 2 = pos → 1 ≤ pos → k ≤ (pos - 1) / 2 → ble (at_ l ((pos - 1) / 2)) (at_ l i)
inductive Desc (k : Nat) : Nat → Prop
  | self : Desc k k
  | left {p} : Desc k p → Desc k (2 * p + 1)
  | right {p} : Desc k p → Desc k (2 * p + 2)
theorem Desc.le {k p : Nat} (h : Desc k p) : k ≤ p := by induction h <;> omega
theorem Desc.up {k p : Nat} (h : Desc k p) (hk : k < p) : Desc k ((p - 1) / 2) := by
  cases h with
  | self => omega
  | @left p h => rw [show (2 * p + 1 - 1) / 2 = p by omega]; exact h
  | @right p h => rw [show (2 * p + 2 - 1) / 2 = p by omega]; exact h
theorem sd_heap (x : BT) (k : Nat) : ∀ (pos : Nat) (l : List BT), pos < l.length → Desc k pos → Hole l k pos → (∀ i, 1 ≤ i → i < l.length → (i - 1) / 2 = pos → ble x (at_ l i)) → HeapFrom (sd l x k pos) k := by
  intro pos
  induction pos using Nat.strongRecOn with
  | ind pos ih =>
    intro l hpos hD H hc
    have fin : (k < pos → ble (at_ l ((pos - 1) / 2)) x) → HeapFrom (l.set pos x) k := by
      intro hk i h1 h2 h3
      rw [List.length_set] at h2
      by_cases e1 : i = pos
      · subst e1
        rw [at_set_self h2, at_set_ne (by omega)]
        exact hk (by omega)
      · by_cases e2 : (i - 1) / 2 = pos
        · rw [e2, at_set_self hpos, at_set_ne (Ne.symm e1)]
          exact hc i h1 h2 e2
        · rw [at_set_ne (Ne.symm e2), at_set_ne (Ne.symm e1)]
          exact H.apart i h1 h2 h3 e1 e2
    rw [sd]
    split
    · rename_i hk
      split
      · rename_i hb
        have hq := hD.up hk
        have hql : (pos - 1) / 2 < pos := by omega
        have hkq := hq.le
        refine ih _ hql _ (by simp; omega) hq ⟨?_, ?_⟩ ?_
        · intro i h1 h2 h3 e1 e2
          rw [List.length_set] at h2
          by_cases e3 : i = pos
          · subst e3; exact absurd rfl e2
          · rw [at_set_ne (Ne.symm e3)]
            by_cases e4 : (i - 1) / 2 = pos
            · rw [e4, at_set_self hpos]
              exact H.over i h1 h2 e4 (by omega) hkq
            · rw [at_set_ne (Ne.symm e4)]
              exact H.apart i h1 h2 h3 e3 e4
        · intro i h1 h2 e1 h3 h4
          rw [List.length_set] at h2
          rw [at_set_ne (by omega)]
          have top : ble (at_ l (((pos - 1) / 2 - 1) / 2)) (at_ l ((pos - 1) / 2)) := H.apart _ h3 (by omega) h4 (by omega) (by omega)
          by_cases e3 : i = pos
          · subst e3; rw [at_set_self h2]; exact top
          · rw [at_set_ne (Ne.symm e3)]
            have := H.apart i h1 h2 (by omega) e3 (by omega)
            rw [e1] at this
            exact ble_trans top this
        · intro i h1 h2 e1
          rw [List.length_set] at h2
          have hx := ble_of_blt hb
          by_cases e3 : i = pos
          · subst e3; rw [at_set_self h2]; exact hx
          · rw [at_set_ne (Ne.symm e3)]
            have := H.apart i h1 h2 (by omega) e3 (by omega)
            rw [e1] at this
            exact ble_trans hx this
      · rename_i hb
        exact fin (fun _ => ble_of_not hb)
    · exact fin (fun h => absurd h (by assumption))
theorem pick_cases (l : List BT) (c : Nat) (hc : c < l.length) : (pick l c = c ∨ pick l c = c + 1) ∧ (∀ i, i < l.length → (i = c ∨ i = c + 1) → ble (at_ l (pick l c)) (at_ l i)) := by
  unfold pick
  split
  · rename_i h
    refine ⟨.inr rfl, fun i hi e => ?_⟩
    rcases e with rfl | rfl
    · exact ble_of_not h.2
    · exact ble_refl _
  · rename_i h
    refine ⟨.inl rfl, fun i hi e => ?_⟩
    rcases e with rfl | rfl
    · exact ble_refl _
    · apply ble_of_blt
      by_cases q : blt (l.getD c d0) (l.getD (c + 1) d0) = true
      · exact q
      · exact absurd ⟨hi, q⟩ h
theorem suL_heap (k : Nat) : ∀ (d : Nat) (pos : Nat) (l : List BT), l.length - pos = d → pos < l.length → Desc k pos → Hole l k pos →
    Hole (suL l pos).1 k (suL l pos).2 ∧ Desc k (suL l pos).2 ∧ l.length ≤ 2 * (suL l pos).2 + 1 := by
  intro d
  induction d using Nat.strongRecOn with
  | ind d ih =>
    intro pos l hd hpos hD H
    rw [suL]
    split
    · rename_i h2
      have hp1 := pick_gt l (2 * pos + 1)
      have hp2 := pick_lt l _ h2
      obtain ⟨pc, pm⟩ := pick_cases l (2 * pos + 1) h2
      have hD' : Desc k (pick l (2 * pos + 1)) := by
        rcases pc with e | e <;> rw [e]
        · exact hD.left
        · exact hD.right
      have hpar : (pick l (2 * pos + 1) - 1) / 2 = pos := by omega
      have hkp := hD.le
      have r := ih (l.length - pick l (2 * pos + 1)) (by omega) (pick l (2 * pos + 1)) (l.set pos (l.getD (pick l (2 * pos + 1)) d0)) (by simp) (by simpa using hp2) hD' ⟨?_, ?_⟩
      · simpa using r
      · intro i h1 h3 h4 e1 e2
        rw [List.length_set] at h3
        by_cases e3 : i = pos
        · subst e3
          rw [at_set_self h3, at_set_ne (by omega)]
          exact H.over _ (by omega) hp2 hpar h1 h4
        · rw [at_set_ne (Ne.symm e3)]
          by_cases e4 : (i - 1) / 2 = pos
          · rw [e4, at_set_self hpos]
            exact pm i h3 (by omega)
          · rw [at_set_ne (Ne.symm e4)]
            exact H.apart i h1 h3 h4 e3 e4
      · intro i h1 h3 e1 h4 h5
        rw [List.length_set] at h3
        rw [hpar, at_set_self hpos, at_set_ne (by omega)]
        have := H.apart i h1 h3 (by omega) (by omega) (by omega)
        rw [e1] at this
        exact this
    · rename_i h2
      exact ⟨H, hD, by simp; omega⟩
theorem su_heap {l : List BT} {k : Nat} (hk : k < l.length) (H : HeapFrom l (k + 1)) : HeapFrom (su l k) k := by
  have h0 : Hole l k k := ⟨fun i h1 h2 h3 e1 e2 => H i h1 h2 (by omega), fun i h1 h2 e1 h3 h4 => by omega⟩
  obtain ⟨r1, r2, r3⟩ := suL_heap k _ k l rfl hk .self h0
  obtain ⟨s1, s2, s3⟩ := suL_spec l k hk
  unfold su
  refine sd_heap _ k _ _ (by rw [List.length_set, s1]; exact s2) r2 ⟨?_, ?_⟩ ?_
  · intro i h1 h2 h3 e1 e2
    rw [List.length_set] at h2
    rw [at_set_ne (Ne.symm e1), at_set_ne (Ne.symm e2)]
    exact r1.apart i h1 h2 h3 e1 e2
  · intro i h1 h2 e1 h3 h4
    rw [List.length_set, s1] at h2; omega
  · intro i h1 h2 e1
    rw [List.length_set, s1] at h2; omega
theorem hf_heap : ∀ (k : Nat) (l : List BT), k ≤ l.length → HeapFrom l k → HeapFrom (hf l k) 0
  | 0, l, _, H => H
  | k + 1, l, hk, H => hf_heap k _ (by rw [su_length l k (by omega)]; omega) (su_heap (by omega) H)
theorem heapFrom_half (l : List BT) : HeapFrom l (l.length / 2) := fun i h1 h2 h3 => by omega
theorem push_heap {l : List BT} {x : BT} (H : HeapFrom l 0) : HeapFrom (sd (l ++ [x]) x 0 l.length) 0 := by
  have hD : ∀ n, Desc 0 n := by
    intro n
    induction n using Nat.strongRecOn with
    | ind n ih =>
      by_cases h : n = 0
      · subst h; exact .self
      · have := ih ((n - 1) / 2) (by omega)
        by_cases h2 : n % 2 = 1
        · have e := this.left; rw [show 2 * ((n - 1) / 2) + 1 = n by omega] at e; exact e
        · have e := this.right; rw [show 2 * ((n - 1) / 2) + 2 = n by omega] at e; exact e
  have ha : ∀ i, i < l.length → at_ (l ++ [x]) i = at_ l i := by intro i hi; simp [at_, List.getD, List.getElem?_append_left hi]
  refine sd_heap x 0 _ _ (by simp) (hD _) ⟨?_, ?_⟩ ?_
  · intro i h1 h2 h3 e1 e2
    simp at h2
    rw [ha _ (by omega), ha _ (by omega)]
    exact H i h1 (by omega) h3
  · intro i h1 h2 e1 h3 h4
    simp at h2; omega
  · intro i h1 h2 e1
    simp at h2; omega
theorem least {l : List BT} (H : HeapFrom l 0) : ∀ i, i < l.length → ble (at_ l 0) (at_ l i) := by
  intro i
  induction i using Nat.strongRecOn with
  | ind i ih =>
    intro hi
    by_cases h : i = 0
    · subst h; exact ble_refl _
    · exact ble_trans (ih ((i - 1) / 2) (by omega) (by omega)) (H i (by omega) hi (by omega))

/-! the plain part: what is in the row stays in the row -/
theorem set_swap_perm {l : List BT} {p q : Nat} {x : BT} (hp : p < l.length) (hq : q < l.length) (hne : p ≠ q) : ((l.set p (at_ l q)).set q x).Perm (l.set p x) := by
  rw [List.perm_iff_count]
  intro a
  have e1 : at_ l q = l[q] := by simp [at_, hq]
  rw [e1, List.count_set (by simpa using hq), List.count_set hp, List.count_set hp]
  have e2 : (l.set p l[q])[q]'(by simpa using hq) = l[q] := by rw [List.getElem_set_ne hne]
  rw [e2]
  have c1 : (if (l[p] == a) = true then 1 else 0) ≤ l.count a := by
    split
    · rename_i h
      have : a ∈ l := by rw [← beq_iff_eq.mp h]; exact List.getElem_mem hp
      exact List.count_pos_iff.mpr this
    · exact Nat.zero_le _
  omega
theorem set_set_self {l : List BT} {p : Nat} {x y : BT} : (l.set p x).set p y = l.set p y := by simp
theorem sd_perm (x : BT) (k : Nat) : ∀ (pos : Nat) (l : List BT), pos < l.length → (sd l x k pos).Perm (l.set pos x) := by
  intro pos
  induction pos using Nat.strongRecOn with
  | ind pos ih =>
    intro l hpos
    rw [sd]
    split
    · rename_i h
      split
      · refine (ih _ (by omega) _ (by simp; omega)).trans ?_
        exact set_swap_perm hpos (by omega) (by omega)
      · exact .refl _
    · exact .refl _
theorem suL_perm (x : BT) : ∀ (d : Nat) (pos : Nat) (l : List BT), l.length - pos = d → pos < l.length → ((suL l pos).1.set (suL l pos).2 x).Perm (l.set pos x) := by
  intro d
  induction d using Nat.strongRecOn with
  | ind d ih =>
    intro pos l hd hpos
    rw [suL]
    split
    · rename_i h2
      have hp1 := pick_gt l (2 * pos + 1)
      have hp2 := pick_lt l _ h2
      refine (ih (l.length - pick l (2 * pos + 1)) (by omega) (pick l (2 * pos + 1)) _ (by simp) (by simpa using hp2)).trans ?_
      exact set_swap_perm hpos hp2 (by omega)
    · exact .refl _
theorem su_perm {l : List BT} {k : Nat} (hk : k < l.length) : (su l k).Perm l := by
  unfold su
  obtain ⟨s1, s2, s3⟩ := suL_spec l k hk
  refine (sd_perm _ _ _ _ (by rw [List.length_set, s1]; exact s2)).trans ?_
  rw [set_set_self]
  refine (suL_perm _ _ k l rfl hk).trans ?_
  have : l.set k (l.getD k d0) = l := by
    apply List.ext_getElem (by simp)
    intro i h1 h2
    by_cases e : k = i
    · subst e; simp [hk]
    · rw [List.getElem_set_ne e]
  rw [this]
theorem hf_perm : ∀ (k : Nat) (l : List BT), k ≤ l.length → (hf l k).Perm l
  | 0, l, _ => .refl _
  | k + 1, l, hk => (hf_perm k _ (by rw [su_length l k (by omega)]; omega)).trans (su_perm (by omega))
theorem push_perm {l : List BT} {x : BT} : (sd (l ++ [x]) x 0 l.length).Perm (l ++ [x]) := by
  refine (sd_perm x 0 _ _ (by simp)).trans ?_
  have : (l ++ [x]).set l.length x = l ++ [x] := by
    rw [List.set_append_right _ _ (by omega)]; simp
  rw [this]
theorem replace_perm {l : List BT} {x : BT} (h : 0 < l.length) : (at_ l 0 :: su (l.set 0 x) 0).Perm (x :: l) := by
  have h1 := su_perm (l := l.set 0 x) (k := 0) (by simpa using h)
  cases l with
  | nil => simp at h
  | cons y l =>
    refine (List.Perm.cons _ h1).trans ?_
    simpa [at_] using List.Perm.swap x y l
theorem replace_heap {l : List BT} {x : BT} (H : HeapFrom l 0) (h : 0 < l.length) : HeapFrom (su (l.set 0 x) 0) 0 := by
  refine su_heap (by simpa using h) fun i h1 h2 h3 => ?_
  rw [List.length_set] at h2
  rw [at_set_ne (by omega), at_set_ne (by omega)]
  exact H i h1 h2 (by omega)
theorem pop_perm {p : List BT} {x : BT} : (p.getD 0 x :: (if p = [] then [] else su (p.set 0 x) 0)).Perm (p ++ [x]) := by
  cases p with
  | nil => simp
  | cons y p =>
    rw [if_neg (by simp)]
    refine (replace_perm (x := x) (l := y :: p) (by simp)).trans ?_
    exact (List.perm_append_singleton x (y :: p)).symm
theorem pop_heap {p : List BT} {x : BT} (H : HeapFrom (p ++ [x]) 0) : HeapFrom (if p = [] then [] else su (p.set 0 x) 0) 0 := by
  cases p with
  | nil => intro i h1 h2; simp at h2
  | cons y p =>
    rw [if_neg (by simp)]
    refine replace_heap (fun i h1 h2 h3 => ?_) (by simp)
    have := H i h1 (by simp at h2 ⊢; omega) h3
    have ha : ∀ i, i < (y :: p).length → at_ (y :: p ++ [x]) i = at_ (y :: p) i := by intro i hi; simp only [at_, List.getD, List.getElem?_append_left hi]
    rw [ha _ (by omega), ha _ h2] at this
    exact this

/-! the plain part: words and numbers -/
theorem lowL_succ (n k : Nat) : lowL n (k + 1) = lowL n k ++ [UInt8.ofNat (n / 256 ^ k % 256)] := by simp [lowL, List.range_succ]
theorem lowL_length (n k : Nat) : (lowL n k).length = k := by simp [lowL]
def hiL (n wd : Nat) : List UInt8 := (lowL n wd).reverse
theorem hiL_length (n k : Nat) : (hiL n k).length = k := by simp [hiL, lowL_length]
theorem hiL_succ (n k : Nat) : hiL n (k + 1) = UInt8.ofNat (n / 256 ^ k % 256) :: hiL n k := by simp [hiL, lowL_succ]
theorem wordOf_eq (wd n : Nat) : wordOf wd n = (hiL n wd).toArray := rfl
theorem dig_toNat (n k : Nat) : (UInt8.ofNat (n / 256 ^ k % 256)).toNat = n / 256 ^ k % 256 := by
  simp [UInt8.toNat_ofNat]
theorem hi_order : ∀ wd n m : Nat, ((hiL n wd).map UInt8.toNat < (hiL m wd).map UInt8.toNat) ↔ n % 256 ^ wd < m % 256 ^ wd
  | 0, n, m => by simp [hiL, lowL, Nat.mod_one]
  | k + 1, n, m => by
    rw [hiL_succ, hiL_succ, List.map_cons, List.map_cons, List.cons_lt_cons_iff, hi_order k n m, dig_toNat, dig_toNat, Nat.mod_pow_succ, Nat.mod_pow_succ]
    have h1 : n % 256 ^ k < 256 ^ k := Nat.mod_lt _ (Nat.pow_pos (by omega))
    have h2 : m % 256 ^ k < 256 ^ k := Nat.mod_lt _ (Nat.pow_pos (by omega))
    generalize n % 256 ^ k = a at *
    generalize m % 256 ^ k = b at *
    generalize n / 256 ^ k % 256 = c
    generalize m / 256 ^ k % 256 = d
    generalize 256 ^ k = e at *
    constructor
    · rintro (h | ⟨rfl, h⟩)
      · have : e * (c + 1) ≤ e * d := Nat.mul_le_mul_left _ h
        rw [Nat.mul_add, Nat.mul_one] at this
        omega
      · omega
    · intro h
      rcases Nat.lt_trichotomy c d with q | q | q
      · exact .inl q
      · subst q; exact .inr ⟨rfl, by omega⟩
      · exfalso
        have : e * (d + 1) ≤ e * c := Nat.mul_le_mul_left _ q
        rw [Nat.mul_add, Nat.mul_one] at this
        omega
/-- the order of words -/
def wle (a b : Array UInt8) : Prop := bytesKind.blt b.toList a.toList = false
theorem wle_antisymm {a b : Array UInt8} (h1 : wle a b) (h2 : wle b a) : a = b := Array.toList_inj.mp (KeyOrd.kle_antisymm (O := bytesKind.toKeyOrd) h1 h2)
theorem ble_wle {x y : BT} : ble x y ↔ wle x.1 y.1 := by unfold ble wle; rw [blt_kind]
theorem wle_word {wd n m : Nat} (hn : n < 256 ^ wd) (hm : m < 256 ^ wd) (h : n ≤ m) : wle (wordOf wd n) (wordOf wd m) := by
  unfold wle
  have := hi_order wd m n
  rw [Nat.mod_eq_of_lt hn, Nat.mod_eq_of_lt hm] at this
  show decide ((hiL m wd).map UInt8.toNat < (hiL n wd).map UInt8.toNat) = false
  rw [decide_eq_false_iff_not, this]; omega
theorem perm_uniq {α : Type} {R : α → α → Prop} (anti : ∀ a b, R a b → R b a → a = b) : ∀ {l l' : List α}, l.Perm l' → l.Pairwise R → l'.Pairwise R → l = l'
  | [], _, p, _, _ => p.nil_eq
  | x :: r, b, p, ha, hb => by
    cases b with
    | nil => exact absurd p.length_eq (by simp)
    | cons y t =>
      have e : x = y := by
        rcases List.mem_cons.mp (p.mem_iff.mp (.head _)) with h | h
        · exact h
        · rcases List.mem_cons.mp (p.mem_iff.mpr (.head _) : y ∈ x :: r) with h' | h'
          · exact h'.symm
          · exact anti _ _ ((List.pairwise_cons.mp ha).1 y h') ((List.pairwise_cons.mp hb).1 x h)
      subst e
      rw [perm_uniq anti (List.Perm.cons_inv p) (List.pairwise_cons.mp ha).2 (List.pairwise_cons.mp hb).2]
theorem words_rise {wd : Nat} {rl : List NT} (hs : (rl.map (·.1)).Pairwise (· ≤ ·)) (hb : ∀ p ∈ rl, p.1 < 256 ^ wd) : (rl.map fun p => wordOf wd p.1).Pairwise wle := by
  rw [List.pairwise_map] at hs ⊢
  refine hs.imp_of_mem fun ha hb' h => wle_word (hb _ ha) (hb _ hb') h
structure Inv (wd : Nat) (l : List BT) (rl : List NT) : Prop where
  heap : HeapFrom l 0
  words : (l.map (·.1)).Perm (rl.map fun p => wordOf wd p.1)
  rise : (rl.map (·.1)).Pairwise (· ≤ ·)
  small : ∀ p ∈ rl, p.1 < 256 ^ wd
theorem Inv.length {wd : Nat} {l : List BT} {rl : List NT} (I : Inv wd l rl) : l.length = rl.length := by simpa using I.words.length_eq
theorem Inv.stands1 {wd : Nat} {l : List BT} {rl : List NT} (I : Inv wd l rl) : ∀ l' : List BT, l'.Perm l → l'.Pairwise (fun a b => blt b a = false) → l'.map (·.1) = rl.map fun p => wordOf wd p.1 := by
  intro l' hp hs
  refine perm_uniq (R := wle) (fun a b h1 h2 => wle_antisymm h1 h2) ((hp.map _).trans I.words) ?_ (words_rise I.rise I.small)
  rw [List.pairwise_map]
  exact hs.imp fun h => ble_wle.mp h
theorem Inv.stands2 {wd : Nat} {l : List BT} {rl : List NT} (I : Inv wd l rl) : ∀ p, 1 ≤ p → p < l.length → blt (l.getD p d0) (l.getD ((p - 1) / 2) d0) = false :=
  fun p h1 h2 => I.heap p h1 h2 (Nat.zero_le _)
theorem take_least {wd : Nat} {v : BT} {l2 : List BT} {x : NT} {rl2 : List NT} (hp : ((v :: l2).map (·.1)).Perm ((x :: rl2).map fun p => wordOf wd p.1)) (hv : ∀ y ∈ l2, ble v y)
    (hs : ((x :: rl2).map (·.1)).Pairwise (· ≤ ·)) (hb : ∀ p ∈ x :: rl2, p.1 < 256 ^ wd) : v.1 = wordOf wd x.1 ∧ (l2.map (·.1)).Perm (rl2.map fun p => wordOf wd p.1) := by
  have e : v.1 = wordOf wd x.1 := by
    apply wle_antisymm
    · have : wordOf wd x.1 ∈ (v :: l2).map (·.1) := hp.mem_iff.mpr (by simp)
      obtain ⟨y, hy, e⟩ := List.mem_map.mp this
      rw [← e]
      rcases List.mem_cons.mp hy with rfl | hy
      · exact ble_wle.mp (ble_refl _)
      · exact ble_wle.mp (hv y hy)
    · have : v.1 ∈ (x :: rl2).map fun p => wordOf wd p.1 := hp.mem_iff.mp (by simp)
      obtain ⟨p, hp', e⟩ := List.mem_map.mp this
      rw [← e]
      refine wle_word (hb _ (.head _)) (hb _ hp') ?_
      rcases List.mem_cons.mp hp' with rfl | hp'
      · exact Nat.le_refl _
      · rw [List.map_cons, List.pairwise_cons] at hs
        exact hs.1 _ (List.mem_map_of_mem hp')
  refine ⟨e, ?_⟩
  rw [List.map_cons, List.map_cons, e] at hp
  exact hp.cons_inv

theorem mem_at {l : List BT} {y : BT} (h : y ∈ l) : ∃ i, i < l.length ∧ y = at_ l i := by
  obtain ⟨i, hi, e⟩ := List.mem_iff_getElem.mp h
  exact ⟨i, hi, by simp [at_, hi, e]⟩
theorem least_mem {l : List BT} (H : HeapFrom l 0) {y : BT} (h : y ∈ l) : ble (at_ l 0) y := by
  obtain ⟨i, hi, rfl⟩ := mem_at h
  exact least H i hi
theorem Inv.pop {wd : Nat} {p : List BT} {y : BT} {x : NT} {rl : List NT} (I : Inv wd (p ++ [y]) (x :: rl)) :
    (p.getD 0 y).1 = wordOf wd x.1 ∧ Inv wd (if p = [] then [] else su (p.set 0 y) 0) rl := by
  have pp := pop_perm (p := p) (x := y)
  have e0 : p.getD 0 y = at_ (p ++ [y]) 0 := by cases p <;> rfl
  obtain ⟨h1, h2⟩ := take_least (wd := wd) (x := x) (rl2 := rl) ((pp.map _).trans I.words) (fun z hz => by
    rw [e0]; exact least_mem I.heap (pp.mem_iff.mp (List.mem_cons_of_mem _ hz))) I.rise I.small
  refine ⟨h1, pop_heap I.heap, h2, ?_, fun q hq => I.small q (List.mem_cons_of_mem _ hq)⟩
  have := I.rise
  rw [List.map_cons, List.pairwise_cons] at this
  exact this.2
theorem small_of_perm {wd : Nat} {rl rl' : List NT} (hp : (rl'.map (·.1)).Perm (rl.map (·.1))) (hb : ∀ p ∈ rl, p.1 < 256 ^ wd) : ∀ p ∈ rl', p.1 < 256 ^ wd := by
  intro p hp'
  obtain ⟨q, hq, e⟩ := List.mem_map.mp (hp.mem_iff.mp (List.mem_map_of_mem hp' : p.1 ∈ rl'.map (·.1)))
  have := hb q hq
  omega
theorem words_of_perm {wd : Nat} {rl rl' : List NT} (hp : (rl'.map (·.1)).Perm (rl.map (·.1))) : (rl'.map fun p => wordOf wd p.1).Perm (rl.map fun p => wordOf wd p.1) := by
  have := hp.map (wordOf wd)
  simpa [List.map_map, Function.comp_def] using this
theorem Inv.push {wd : Nat} {l : List BT} {rl rl' : List NT} {nb : Nat} {t t' : Tok} {b : Array UInt8} (I : Inv wd l rl) (hb : b = wordOf wd nb) (hn : nb < 256 ^ wd)
    (hp : (rl'.map (·.1)).Perm ((rl ++ [(nb, t')]).map (·.1))) (hs : (rl'.map (·.1)).Pairwise (· ≤ ·)) : Inv wd (sd (l ++ [(b, t)]) (b, t) 0 l.length) rl' := by
  refine ⟨push_heap I.heap, ?_, hs, small_of_perm hp fun p hp' => ?_⟩
  · refine (push_perm.map _).trans (List.Perm.trans ?_ (words_of_perm hp).symm)
    rw [List.map_append, List.map_append]
    exact I.words.append (by simp [hb])
  · rcases List.mem_append.mp hp' with h | h
    · exact I.small p h
    · have : p = (nb, t') := by simpa using h
      subst this; exact hn
theorem Inv.rep {wd : Nat} {l : List BT} {x : NT} {rl rl' : List NT} {nb : Nat} {t t' : Tok} {b : Array UInt8} (I : Inv wd l (x :: rl)) (hb : b = wordOf wd nb) (hn : nb < 256 ^ wd)
    (hp : (rl'.map (·.1)).Perm ((rl ++ [(nb, t')]).map (·.1))) (hs : (rl'.map (·.1)).Pairwise (· ≤ ·)) :
    (l.getD 0 d0).1 = wordOf wd x.1 ∧ Inv wd (su (l.set 0 (b, t)) 0) rl' := by
  have hl : 0 < l.length := by rw [I.length]; simp
  have hr := replace_heap (x := (b, t)) I.heap hl
  have hq := replace_perm (x := (b, t)) hl
  cases l with
  | nil => simp at hl
  | cons y l =>
    obtain ⟨h1, h2⟩ := take_least (wd := wd) (v := y) (l2 := l) I.words (fun z hz => least_mem I.heap (List.mem_cons_of_mem _ hz)) I.rise I.small
    refine ⟨h1, hr, ?_, hs, small_of_perm hp fun p hp' => ?_⟩
    · have h3 : (su ((y :: l).set 0 (b, t)) 0).Perm ((b, t) :: l) := (hq.trans (List.Perm.swap _ _ _)).cons_inv
      refine (h3.map _).trans (List.Perm.trans ?_ (words_of_perm hp).symm)
      rw [List.map_cons, List.map_append]
      refine (List.Perm.cons _ h2).trans ?_
      simp only [hb]
      exact (List.perm_append_singleton _ _).symm
    · rcases List.mem_append.mp hp' with h | h
      · exact I.small p (List.mem_cons_of_mem _ h)
      · have : p = (nb, t') := by simpa using h
        subst this; exact hn
theorem Inv.pp {wd : Nat} {l : List BT} {rl rl' : List NT} {x' : NT} {nb : Nat} {t t' : Tok} {b : Array UInt8} (I : Inv wd l rl) (hb : b = wordOf wd nb) (hn : nb < 256 ^ wd)
    (hp : ((x' :: rl').map (·.1)).Perm ((rl ++ [(nb, t')]).map (·.1))) (hs : ((x' :: rl').map (·.1)).Pairwise (· ≤ ·)) :
    (if 0 < l.length ∧ blt (l.getD 0 d0) (b, t) = true then l.getD 0 d0 else (b, t)).1 = wordOf wd x'.1 ∧
      Inv wd (if 0 < l.length ∧ blt (l.getD 0 d0) (b, t) = true then su (l.set 0 (b, t)) 0 else l) rl' := by
  have hsm : ∀ p ∈ x' :: rl', p.1 < 256 ^ wd := small_of_perm hp fun p hp' => by
    rcases List.mem_append.mp hp' with h | h
    · exact I.small p h
    · have : p = (nb, t') := by simpa using h
      subst this; exact hn
  have hs' : (rl'.map (·.1)).Pairwise (· ≤ ·) := by rw [List.map_cons, List.pairwise_cons] at hs; exact hs.2
  have hw : (((b, t) :: l).map (·.1)).Perm ((x' :: rl').map fun p => wordOf wd p.1) := by
    refine List.Perm.trans ?_ (words_of_perm hp).symm
    rw [List.map_cons, List.map_append]
    simp only [hb]
    exact (List.Perm.cons _ I.words).trans (List.perm_append_singleton _ _).symm
  by_cases h : 0 < l.length ∧ blt (l.getD 0 d0) (b, t) = true
  · rw [if_pos h, if_pos h]
    have hq := replace_perm (x := (b, t)) h.1
    obtain ⟨h1, h2⟩ := take_least (wd := wd) (v := at_ l 0) ((hq.map _).trans hw) (fun z hz => by
      rcases List.mem_cons.mp (hq.mem_iff.mp (List.mem_cons_of_mem _ hz)) with e | hz
      · rw [e]; exact ble_of_blt h.2
      · exact least_mem I.heap hz) hs hsm
    exact ⟨h1, replace_heap I.heap h.1, h2, hs', fun p hp' => hsm p (List.mem_cons_of_mem _ hp')⟩
  · rw [if_neg h, if_neg h]
    obtain ⟨h1, h2⟩ := take_least (wd := wd) (v := (b, t)) hw (fun z hz => by
      have hl : 0 < l.length := List.length_pos_of_mem hz
      have : ¬ blt (l.getD 0 d0) (b, t) = true := fun q => h ⟨hl, q⟩
      exact ble_trans (ble_of_not this) (least_mem I.heap hz)) hs hsm
    exact ⟨h1, I.heap, h2, hs', fun p hp' => hsm p (List.mem_cons_of_mem _ hp')⟩
theorem Inv.empty {wd : Nat} {l : List BT} (I : Inv wd l []) : l = [] := by
  have := I.length; simpa using this
theorem Inv.make {wd : Nat} {l : List BT} {rl : List NT} (hw : (l.map (·.1)).Perm (rl.map fun p => wordOf wd p.1)) (hs : (rl.map (·.1)).Pairwise (· ≤ ·)) (hb : ∀ p ∈ rl, p.1 < 256 ^ wd) : Inv wd (hf l (l.length / 2)) rl :=
  ⟨hf_heap _ _ (by omega) (heapFrom_half l), ((hf_perm _ _ (by omega)).map _).trans hw, hs, hb⟩
theorem digs {d0 d1 : Nat} (h0 : d0 < 256) (h1 : d1 < 256) : (d0 * 256 + d1) % 256 = d1 ∧ (d0 * 256 + d1) / 256 % 256 = d0 := by omega
theorem other_small {n wd : Nat} (h1 : 2 ≤ wd) (h2 : wd ≤ 4) : other n wd < 256 ^ wd := by
  have a0 : n / 256 ^ 0 % 256 < 256 := Nat.mod_lt _ (by omega)
  have a1 : n / 256 ^ 1 % 256 < 256 := Nat.mod_lt _ (by omega)
  have a2 : n / 256 ^ 2 % 256 < 256 := Nat.mod_lt _ (by omega)
  have a3 : n / 256 ^ 3 % 256 < 256 := Nat.mod_lt _ (by omega)
  have : wd = 2 ∨ wd = 3 ∨ wd = 4 := by omega
  rcases this with rfl | rfl | rfl <;> simp [other, otherL, List.range_succ] at * <;> omega
theorem other_low {n wd : Nat} (h1 : 2 ≤ wd) (h2 : wd ≤ 4) : lowL (other n wd) wd = hiL n wd := by
  have a0 : n / 256 ^ 0 % 256 < 256 := Nat.mod_lt _ (by omega)
  have a1 : n / 256 ^ 1 % 256 < 256 := Nat.mod_lt _ (by omega)
  have a2 : n / 256 ^ 2 % 256 < 256 := Nat.mod_lt _ (by omega)
  have a3 : n / 256 ^ 3 % 256 < 256 := Nat.mod_lt _ (by omega)
  have : wd = 2 ∨ wd = 3 ∨ wd = 4 := by omega
  rcases this with rfl | rfl | rfl <;> simp only [hiL, lowL, other, otherL, List.range_succ, List.range_zero, List.nil_append, List.cons_append, List.map_cons, List.map_nil, List.sum_cons, List.sum_nil, List.reverse_cons, List.reverse_nil] <;>
    (generalize n / 256 ^ 0 % 256 = x0 at *; generalize n / 256 ^ 1 % 256 = x1 at *; (try generalize n / 256 ^ 2 % 256 = x2 at *); (try generalize n / 256 ^ 3 % 256 = x3 at *); refine List.cons_eq_cons.mpr ⟨congrArg UInt8.ofNat (by omega), ?_⟩; refine List.cons_eq_cons.mpr ⟨congrArg UInt8.ofNat (by omega), ?_⟩; first | rfl | (refine List.cons_eq_cons.mpr ⟨congrArg UInt8.ofNat (by omega), ?_⟩; first | rfl | (refine List.cons_eq_cons.mpr ⟨congrArg UInt8.ofNat (by omega), ?_⟩; rfl)))
theorem other_hi {n wd : Nat} (h1 : 2 ≤ wd) (h2 : wd ≤ 4) : hiL (other n wd) wd = lowL n wd := by
  have := other_low (n := n) h1 h2
  unfold hiL at *
  rw [this, List.reverse_reverse]

/-! the plain part: _byteswap of whole words -/
theorem swp_append {w r : List UInt8} {wd : Nat} (hw : w.length = wd) (h1 : 1 ≤ wd) : swp (w ++ r) wd = w.reverse ++ swp r wd := by
  unfold swp
  rw [List.length_append, hw, List.range_add, List.map_append, List.map_map]
  congr 1
  · apply List.ext_getElem (by simp [hw])
    intro p hp1 hp2
    have hp : p < wd := by simpa using hp1
    simp only [List.getElem_map, List.getElem_range, sv, Nat.div_eq_of_lt hp, Nat.mod_eq_of_lt hp, Nat.zero_mul, Nat.zero_add]
    rw [List.getElem_reverse]
    simp only [List.getD_eq_getElem?_getD]
    rw [List.getElem?_append_left (by omega), List.getElem?_eq_getElem (by omega)]
    simp only [Option.getD_some]
    congr 1; omega
  · apply List.map_congr_left
    intro q _
    simp only [Function.comp_apply, sv]
    have e1 : (wd + q) / wd = q / wd + 1 := by rw [Nat.add_div_left _ (by omega)]
    have e2 : (wd + q) % wd = q % wd := by rw [Nat.add_mod_left]
    rw [e1, e2, Nat.add_mul, Nat.one_mul]
    simp only [List.getD_eq_getElem?_getD]
    rw [List.getElem?_append_right (by omega)]
    congr 2; omega
theorem swp_nil (wd : Nat) : swp [] wd = [] := by simp [swp]
theorem swp_flatten {wd : Nat} (h1 : 1 ≤ wd) : ∀ ws : List (List UInt8), (∀ w ∈ ws, w.length = wd) → swp ws.flatten wd = (ws.map List.reverse).flatten
  | [], _ => by simp [swp_nil]
  | w :: ws, h => by
    rw [List.flatten_cons, swp_append (h w (.head _)) h1, swp_flatten h1 ws (fun w' h' => h w' (List.mem_cons_of_mem _ h')), List.map_cons, List.flatten_cons]
theorem swp_one {w : List UInt8} {wd : Nat} (hw : w.length = wd) (h1 : 1 ≤ wd) : swp w wd = w.reverse := by
  have := swp_append (r := []) hw h1
  simpa [swp_nil] using this
theorem flatten_length {wd : Nat} : ∀ ws : List (List UInt8), (∀ w ∈ ws, w.length = wd) → ws.flatten.length = ws.length * wd
  | [], _ => by simp
  | w :: ws, h => by
    rw [List.flatten_cons, List.length_append, flatten_length ws (fun w' h' => h w' (List.mem_cons_of_mem _ h')), h w (.head _), List.length_cons, Nat.add_mul]; omega
theorem cut_at {wd : Nat} : ∀ (ws : List (List UInt8)) (i : Nat) (h : i < ws.length), (∀ w ∈ ws, w.length = wd) → (ws.flatten.drop (i * wd)).take wd = ws[i]
  | w :: ws, 0, _, h => by
    have := h w (.head _)
    rw [List.flatten_cons, Nat.zero_mul, List.drop_zero, List.take_append_of_le_length (by omega), List.take_of_length_le (by omega)]; rfl
  | w :: ws, i + 1, hi, h => by
    have := h w (.head _)
    have e : (w ++ ws.flatten).drop ((i + 1) * wd) = ws.flatten.drop (i * wd) := by
      rw [List.drop_append, List.drop_of_length_le (by rw [this, Nat.add_mul]; omega), List.nil_append]
      congr 1; rw [this, Nat.add_mul]; omega
    rw [List.flatten_cons, e, cut_at ws i (by simpa using hi) (fun w' h' => h w' (List.mem_cons_of_mem _ h'))]
    rfl

section
variable {prog : Program} {w : World} {A : Around} {s : Shared} {env : Env} {E : Value → Shared → Prop}
theorem wpC_never {α : Type} {m : Sem α} {k : Value → Sem Unit} {Q : α → Shared → Prop} (h : wpC (model prog w) A m Q (fun _ _ => False) s) : wpC (model prog w) A (m.onRaise k) Q E s :=
  wpC_onRaise (wpC_mono h (fun _ _ q => q) fun _ _ q => q.elim)
theorem codeC_loop {c : Code} {R : Result → Shared → Prop} (hq : c.quiet = true) (hok : okCode c = true) (I : Nat → Shared → Prop)
    (turn : ∀ n s, I n s → wpC (model prog w) (A.under c) ((model prog w).den c)
      (fun fin s' => match fin with
        | .done f => R (.ok f) s'
        | .again c' => (c' = c ∧ ∃ m, m < n ∧ I m s') ∨ (c'.quiet = true ∧ codeC (model prog w) A c' R s')) (fun e s' => R (.error e) s') s)
    (n : Nat) (h : I n s) : codeC (model prog w) A c R s := by
  induction n using Nat.strongRecOn generalizing s with
  | ind n ih =>
    refine codeC_of_tree hok (wpC_mono (turn n s h) (fun fin s' hf => ?_) fun _ _ h' => h')
    cases fin with
    | done f => exact hf
    | again c' =>
      rcases hf with ⟨rfl, m, hm, hI⟩ | hf
      · exact ⟨hq, ih m hm hI⟩
      · exact hf
theorem codeC_block_nil {R : Result → Shared → Prop} (h : R (.ok .next) s) : codeC (model prog w) A (.block [] env) R s := by
  refine codeC_any (codeAny_block (wpAny_execs_nil h))
/-- a walk over a list that stays, over clean contexts; nothing is raised -/
theorem forC_lst {x : Str} {px : Pos} {body : List Stmt} {I l : Addr} {items : Array Value} {Q : Flow → Shared → Prop} (hh : A.handled = none) (J : Nat → Shared → Prop)
    (hit : ∀ i s', J i s' → s'.heap.IsListIter I l i ∧ s'.heap.IsList l items) (h0 : J 0 s)
    (turn : ∀ i s' v h₁, items[i]? = some v → J i s' → h₁.IsListIter I l (i + 1) → Heap.SameBut I s'.heap h₁ →
      wpAny (model prog w) A (storeName env x v) (fun _ s₂ => wpC (model prog w) A (execs body env) (fun f s₃ => match f with | .next => J (i + 1) s₃ | .cont => J (i + 1) s₃ | .brk => False | .ret v => Q (.ret v) s₃) (fun _ _ => False) s₂) (fun _ _ => False) { s' with heap := h₁ })
    (done : ∀ s' h₁, J items.size s' → Heap.ExtBut I s'.heap h₁ → Q .next { s' with heap := h₁ }) :
    codeC (model prog w) A (.forLoop (.Name x px) (.ref I) body [] env) (fun r s' => match r with | .ok f => Q f s' | .error _ => False) s := by
  refine codeC_loop rfl rfl (fun k s' => ∃ i, J i s' ∧ i ≤ items.size ∧ k = items.size + 1 - i) ?_ (items.size + 1) ⟨0, h0, Nat.zero_le _, rfl⟩
  rintro k s' ⟨i, hJ, hi, rfl⟩
  obtain ⟨h1, h2⟩ := hit i s' hJ
  show wpC _ A ((forTurn (.Name x px) (.ref I) body [] env).onRaise (fun x => do noteFrame x env; theTreesLotGoes x)) _ _ s'
  refine wpC_never ?_
  simp only [forTurn]
  refine wpC_bindA (wpAny_standAt (wpC_bind (wpC_never ?_)))
  by_cases hlt : i < items.size
  · refine wpC_any (wpAny_pyNext_list_item h1 h2 (x := items[i]) (by simp [hlt]) fun h₁ hi₁ hs₁ => ?_)
    dsimp only
    refine wpC_bindA (wpAny_of_eq (a := ()) rfl ?_)
    refine wpC_bindA (wpAny_assign_Name (wpAny_mono (turn i s' items[i] h₁ (by simp [hlt]) hJ hi₁ hs₁) (fun _ s₂ h₂ => wpC_bind (wpC_mono h₂ (fun f s₃ h₃ => ?_) fun _ _ q => q.elim)) fun _ _ q => q.elim))
    cases f with
    | next => exact wpC_pure (.inl ⟨rfl, _, by omega, i + 1, h₃, hlt, rfl⟩)
    | cont => exact wpC_pure (.inl ⟨rfl, _, by omega, i + 1, h₃, hlt, rfl⟩)
    | brk => exact h₃.elim
    | ret v => exact wpC_pure h₃
  · have e : i = items.size := by omega
    subst e
    refine wpC_any (wpAny_pyNext_list_end hh h1 h2 (by simp) fun h₁ he₁ => ?_)
    exact wpC_pure (.inr ⟨rfl, codeC_block_nil (done s' h₁ hJ he₁)⟩)
theorem wpC_For {x : Str} {px pos : Pos} {iter : Expr} {body : List Stmt} {Q : Flow → Shared → Prop}
    (h : wpAny (model prog w) A (eval iter env) (fun xv s₁ => wpAny (model prog w) A (pyIter xv) (fun it s₂ =>
      codeC (model prog w) A (.forLoop (.Name x px) it body [] env) (fun r s' => match r with | .ok f => Q f s' | .error _ => False) s₂) (fun _ _ => False) s₁) (fun _ _ => False) s)
    (hs : ∀ x, foldedSetIterable iter env x = pure x) : wpC (model prog w) A (exec (.For (.Name x px) iter body [] pos) env) Q (fun _ _ => False) s := by
  rw [exec_For]
  refine wpC_bindA (wpAny_standAt (wpC_bindA (wpAny_mono h (fun xv s₁ h₁ => wpC_bindA (wpAny_of_eq (hs xv) (wpC_bindA (wpAny_standAt (wpC_bindA (wpAny_holding (wpAny_mono h₁ (fun it s₂ h₂ => ?_) fun _ _ q => q))))))) fun _ _ q => q)))
  unfold runOwn
  refine wpC_never (wpC_run (codeC_mono h₂ fun r s' hr => ?_))
  cases r <;> exact hr
end

theorem ne_l0 {b I : Nat} (h : b < I) : b ≠ I := Nat.ne_of_lt h
theorem ne_l1 {b I : Nat} (h : b < I) : b ≠ I + 1 := Nat.ne_of_lt (Nat.lt_succ_of_lt h)
theorem ne_l2 {b I : Nat} (h : b < I) : b ≠ I + 2 := Nat.ne_of_lt (Nat.lt_succ_of_lt (Nat.lt_succ_of_lt h))
theorem ne_01 (I : Nat) : I ≠ I + 1 := Nat.ne_of_lt (Nat.lt_succ_self I)
theorem ne_02 (I : Nat) : I ≠ I + 2 := Nat.ne_of_lt (Nat.lt_succ_of_lt (Nat.lt_succ_self I))
theorem ne_12 (I : Nat) : I + 1 ≠ I + 2 := Nat.ne_of_lt (Nat.lt_succ_self (I + 1))
theorem addr_ne {b c : Addr} (h : @Ne Nat b c) : b ≠ c := h
theorem addr_lt {h : Heap} {b : Addr} {o : Obj} (e : h.get? b = some o) : @LT.lt Nat _ b h.objs.size := Heap.lt_size e
section
variable {prog : Program} {w : World} {A : Around} {E : Value → Shared → Prop} {env : Env}
/-- a list comprehension over a list, whose element writes into the one object a -/
theorem ListComp_mut {s : Shared} {elt iter : Expr} {x : Str} {px : Pos} {scope : Scope} {cl : List (Str × Addr)} {pos : Pos} {Q : Value → Shared → Prop} {a : Addr} (ob : Nat → Obj → Prop) (FF : Nat → Value → Prop)
    (hclos : closureFor scope env = pure cl) (hcell : ∀ y ∈ scope.names, y.2 ≠ .cell) (hkind : scope.kind = .function)
    (hnames : ∀ y ∈ scope.names, y.2 = .local → scope.names.lookup y.1 = some .local) (hx : scope.names.lookup x = some .local) (hh : A.handled = none)
    (h : wpAny (model prog w) A (eval iter env) (fun xv s₁ => ∃ ax items, xv = .ref ax ∧ s₁.heap.IsList ax items ∧ items.size ≤ sizeLine ∧ ax ≠ a ∧ (∃ o, s₁.heap.get? a = some o ∧ ob 0 o) ∧
      (∀ C i v s₃ m₃ o E', items[i]? = some v → s₁.heap.objs.size ≤ C → s₃.heap.Ns C m₃ → m₃ x = some v → (∀ b o, b ≠ a → s₁.heap.get? b = some o → s₃.heap.get? b = some o) → s₃.heap.get? a = some o → ob i o →
        wpAny (model prog w) A (eval elt (compEnvC scope cl C env)) (fun y s₄ => FF i y ∧ ∃ h' tk o', s₄ = { s₃ with heap := h', toks := tk } ∧ Ex [a] s₃.heap h' ∧ h'.get? a = some o' ∧ ob (i + 1) o') E' s₃) ∧
      (∀ D h' tk (ys : Array Value) k o', s₁.heap.get? D = none → h'.get? D = some (listOf ys k) → ys.size = items.size → (∀ (i : Nat) y, ys[i]? = some y → FF i y) → Ex [a] s₁.heap h' → h'.get? a = some o' → ob items.size o' → Q (.ref D) { s₁ with heap := h', toks := tk })) E s)
    (hs : ∀ x, foldedSetIterable iter env x = pure x) :
    wpAny (model prog w) A (eval (.ListComp elt [⟨.Name x px, iter, [], 0⟩] scope pos) env) Q E s := by
  rw [eval_ListComp]
  refine wpAny_comprehension_free (use := none) rfl hs hclos hkind hnames (wpAny_mono h (fun xv s₁ h₁ => ?_) fun _ _ e => e)
  obtain ⟨ax, items, rfl, hl, hsz, hax, ⟨oa, hoa, hob⟩, helt, hQ⟩ := h₁
  refine wpAny_pyIter_list hl ?_
  obtain ⟨ol, hol, hcl⟩ := _root_.id hl
  have hltx := addr_lt hol
  have hlta := addr_lt hoa
  refine wpAny_newObj_type (wpAny_newFunctionEnv hcell (by intro y hy; simp at hy) (fun h₁ hns₁ hsb₁ => ?_) hkind)
  dsimp only at hns₁ hsb₁ ⊢
  generalize hI : s₁.heap.objs.size = I at *
  generalize hH1 : s₁.heap.push _ = H1 at hns₁ hsb₁ ⊢
  have hD : H1.objs.size = I + 1 := by rw [← hH1, Heap.size_push, hI]
  generalize hH2 : H1.push _ = H2 at hns₁ hsb₁ ⊢
  have hC : H2.objs.size = I + 2 := by rw [← hH2, Heap.size_push, hD]
  have old : ∀ b o, s₁.heap.get? b = some o → h₁.get? b = some o := fun b o e => by
    have := addr_lt e
    refine hsb₁.extBut b o (addr_ne (by rw [hC]; first | exact ne_l0 (by assumption) | exact ne_l1 (by assumption) | exact ne_l2 (by assumption) | exact (ne_l0 (by assumption)).symm | exact (ne_l1 (by assumption)).symm | exact (ne_l2 (by assumption)).symm | exact ne_01 _ | exact ne_02 _ | exact ne_12 _ | exact (ne_01 _).symm | exact (ne_02 _).symm | exact (ne_12 _).symm | omega)) (Heap.get?_push_of_some _ (hH2 ▸ Heap.get?_push_of_some _ (hH1 ▸ Heap.get?_push_of_some _ e)))
  have hitI : h₁.IsListIter I ax 0 := by
    have e1 : H1.get? I = some { cls := .type "list_iterator", dict := none, data := .fields #[.ref ax, .int 0 0] } := by rw [← hH1, ← hI]; exact Heap.get?_push_size _ rfl
    exact ⟨_, hsb₁.extBut _ _ (addr_ne (by rw [hC]; first | exact ne_l0 (by assumption) | exact ne_l1 (by assumption) | exact ne_l2 (by assumption) | exact (ne_l0 (by assumption)).symm | exact (ne_l1 (by assumption)).symm | exact (ne_l2 (by assumption)).symm | exact ne_01 _ | exact ne_02 _ | exact ne_12 _ | exact (ne_01 _).symm | exact (ne_02 _).symm | exact (ne_12 _).symm | omega)) (Heap.get?_push_of_some _ (hH2 ▸ Heap.get?_push_of_some _ e1)), rfl, rfl⟩
  have hacc : h₁.PlainList (I + 1) #[] := ⟨0, hsb₁.extBut _ _ (addr_ne (by rw [hC]; first | exact ne_l0 (by assumption) | exact ne_l1 (by assumption) | exact ne_l2 (by assumption) | exact (ne_l0 (by assumption)).symm | exact (ne_l1 (by assumption)).symm | exact (ne_l2 (by assumption)).symm | exact ne_01 _ | exact ne_02 _ | exact ne_12 _ | exact (ne_01 _).symm | exact (ne_02 _).symm | exact (ne_12 _).symm | omega)) (Heap.get?_push_of_some _ (by rw [← hH2, ← hD]; exact Heap.get?_push_size _ rfl))⟩
  have loop : ∀ s₃ : Shared, s₃ = { s₁ with heap := h₁, toks := s₁.toks + ([] : List (Str × Value)).length } →
      codeAny (model prog w) A (.compLoop (.ListComp elt [⟨.Name x px, iter, [], 0⟩] scope pos) 0 (.ref I) (.ref (I + 1)) (compEnvC scope cl (I + 2) env))
        (compPost (model prog w) A E none Q (.ref (I + 1)) (I + 2)) s₃ := by
    rintro s₃ rfl
    refine codeAny_compLoop_list (fun k s' => ∃ h' tk m' ys o' i, s' = { s₁ with heap := h', toks := tk } ∧ h'.IsListIter I ax i ∧ h'.PlainList (I + 1) ys ∧ h'.Ns (I + 2) m' ∧ ys.size = i ∧ (∀ (j : Nat) y, ys[j]? = some y → FF j y) ∧
      i ≤ items.size ∧ k = items.size + 1 - i ∧ (∀ b o, b ≠ a → s₁.heap.get? b = some o → h'.get? b = some o) ∧ h'.get? a = some o' ∧ ob i o') ?_ (items.size + 1)
      ⟨h₁, _, _, #[], oa, 0, rfl, hitI, hacc, hC ▸ hns₁, rfl, by simp, Nat.zero_le _, rfl, fun b o _ e => old b o e, old a oa hoa, hob⟩
    rintro k s' ⟨H, tk, m', ys, o', i, rfl, hit', hacc', hn', hys, hF, hi, rfl, hk, ha', hob'⟩
    have hlx : H.IsList ax items := hl.at fun o e => hk ax o hax e
    by_cases hlt : i < items.size
    · refine wpAny_pyNext_list_item hit' hlx (x := items[i]) (by simp [hlt]) fun h₂ hit₂ hs₂ => ?_
      dsimp only
      refine wpAny_assign_Name (wpAny_storeName_local (env := compEnvC scope cl (I + 2) env) (lookup_relabel_local hx) (hn'.at' fun o e => hs₂.extBut _ o (addr_ne (by show @Ne Nat (I + 2) I; first | exact ne_l0 (by assumption) | exact ne_l1 (by assumption) | exact ne_l2 (by assumption) | exact (ne_l0 (by assumption)).symm | exact (ne_l1 (by assumption)).symm | exact (ne_l2 (by assumption)).symm | exact ne_01 _ | exact ne_02 _ | exact ne_12 _ | exact (ne_01 _).symm | exact (ne_02 _).symm | exact (ne_12 _).symm | omega)) e) (fun h₃ hn₃ hs₃ => ?_) (by simp [compEnvC, relabel, hkind]))
      have up₃ : ∀ b o, b ≠ I → b ≠ I + 2 → H.get? b = some o → h₃.get? b = some o := fun b o h1 h2 e => hs₃.extBut b o h2 (hs₂.extBut b o h1 e)
      refine wpAny_mono (helt (I + 2) i items[i] _ _ o' _ (by simp [hlt]) (by show @LE.le Nat _ _ (I + 2); omega) hn₃ (by simp) (fun b o hb e => ?_) (up₃ a o' (addr_ne (by first | exact ne_l0 (by assumption) | exact ne_l1 (by assumption) | exact ne_l2 (by assumption) | exact (ne_l0 (by assumption)).symm | exact (ne_l1 (by assumption)).symm | exact (ne_l2 (by assumption)).symm | exact ne_01 _ | exact ne_02 _ | exact ne_12 _ | exact (ne_01 _).symm | exact (ne_02 _).symm | exact (ne_12 _).symm | omega)) (addr_ne (by first | exact ne_l0 (by assumption) | exact ne_l1 (by assumption) | exact ne_l2 (by assumption) | exact (ne_l0 (by assumption)).symm | exact (ne_l1 (by assumption)).symm | exact (ne_l2 (by assumption)).symm | exact ne_01 _ | exact ne_02 _ | exact ne_12 _ | exact (ne_01 _).symm | exact (ne_02 _).symm | exact (ne_12 _).symm | omega)) ha') hob') (fun y s₄ h₄ => ?_) fun _ _ e => e
      · have := addr_lt e
        exact up₃ b o (addr_ne (by first | exact ne_l0 (by assumption) | exact ne_l1 (by assumption) | exact ne_l2 (by assumption) | exact (ne_l0 (by assumption)).symm | exact (ne_l1 (by assumption)).symm | exact (ne_l2 (by assumption)).symm | exact ne_01 _ | exact ne_02 _ | exact ne_12 _ | exact (ne_01 _).symm | exact (ne_02 _).symm | exact (ne_12 _).symm | omega)) (addr_ne (by first | exact ne_l0 (by assumption) | exact ne_l1 (by assumption) | exact ne_l2 (by assumption) | exact (ne_l0 (by assumption)).symm | exact (ne_l1 (by assumption)).symm | exact (ne_l2 (by assumption)).symm | exact ne_01 _ | exact ne_02 _ | exact ne_12 _ | exact (ne_01 _).symm | exact (ne_02 _).symm | exact (ne_12 _).symm | omega)) (hk b o hb e)
      obtain ⟨hFy, h₄, tk₄, o₄, rfl, hx₄, ha₄, hob₄⟩ := h₄
      have k4 : ∀ b o, b ≠ a → h₃.get? b = some o → h₄.get? b = some o := fun b o hb e => hx₄ b o (by simpa using hb) e
      refine wpAny_list_append_plain (hsz := by omega) ((hacc'.at fun o e => up₃ _ o (addr_ne (by first | exact ne_l0 (by assumption) | exact ne_l1 (by assumption) | exact ne_l2 (by assumption) | exact (ne_l0 (by assumption)).symm | exact (ne_l1 (by assumption)).symm | exact (ne_l2 (by assumption)).symm | exact ne_01 _ | exact ne_02 _ | exact ne_12 _ | exact (ne_01 _).symm | exact (ne_02 _).symm | exact (ne_12 _).symm | omega)) (addr_ne (by first | exact ne_l0 (by assumption) | exact ne_l1 (by assumption) | exact ne_l2 (by assumption) | exact (ne_l0 (by assumption)).symm | exact (ne_l1 (by assumption)).symm | exact (ne_l2 (by assumption)).symm | exact ne_01 _ | exact ne_02 _ | exact ne_12 _ | exact (ne_01 _).symm | exact (ne_02 _).symm | exact (ne_12 _).symm | omega)) e).at fun o e => k4 _ o (addr_ne (by first | exact ne_l0 (by assumption) | exact ne_l1 (by assumption) | exact ne_l2 (by assumption) | exact (ne_l0 (by assumption)).symm | exact (ne_l1 (by assumption)).symm | exact (ne_l2 (by assumption)).symm | exact ne_01 _ | exact ne_02 _ | exact ne_12 _ | exact (ne_01 _).symm | exact (ne_02 _).symm | exact (ne_12 _).symm | omega)) e) fun h₅ hl₅ hs₅ => ?_
      have hn₅ := (hn₃.at' fun o e => k4 _ o (addr_ne (by show @Ne Nat (I + 2) a; first | exact ne_l0 (by assumption) | exact ne_l1 (by assumption) | exact ne_l2 (by assumption) | exact (ne_l0 (by assumption)).symm | exact (ne_l1 (by assumption)).symm | exact (ne_l2 (by assumption)).symm | exact ne_01 _ | exact ne_02 _ | exact ne_12 _ | exact (ne_01 _).symm | exact (ne_02 _).symm | exact (ne_12 _).symm | omega)) e).sameBut hs₅ (addr_ne (by show @Ne Nat (I + 2) (I + 1); first | exact ne_l0 (by assumption) | exact ne_l1 (by assumption) | exact ne_l2 (by assumption) | exact (ne_l0 (by assumption)).symm | exact (ne_l1 (by assumption)).symm | exact (ne_l2 (by assumption)).symm | exact ne_01 _ | exact ne_02 _ | exact ne_12 _ | exact (ne_01 _).symm | exact (ne_02 _).symm | exact (ne_12 _).symm | omega))
      refine ⟨items.size + 1 - (i + 1), by omega, h₅, tk₄, _, ys.push y, o₄, i + 1, rfl, ?_, hl₅, hn₅, by simp [hys], ?_, hlt, rfl, fun b o hb e => ?_, hs₅.extBut a _ (addr_ne (by first | exact ne_l0 (by assumption) | exact ne_l1 (by assumption) | exact ne_l2 (by assumption) | exact (ne_l0 (by assumption)).symm | exact (ne_l1 (by assumption)).symm | exact (ne_l2 (by assumption)).symm | exact ne_01 _ | exact ne_02 _ | exact ne_12 _ | exact (ne_01 _).symm | exact (ne_02 _).symm | exact (ne_12 _).symm | omega)) ha₄, hob₄⟩
      · exact (hit₂.at fun o e => hs₃.extBut _ o (addr_ne (by show @Ne Nat I (I + 2); first | exact ne_l0 (by assumption) | exact ne_l1 (by assumption) | exact ne_l2 (by assumption) | exact (ne_l0 (by assumption)).symm | exact (ne_l1 (by assumption)).symm | exact (ne_l2 (by assumption)).symm | exact ne_01 _ | exact ne_02 _ | exact ne_12 _ | exact (ne_01 _).symm | exact (ne_02 _).symm | exact (ne_12 _).symm | omega)) e).at fun o e => hs₅.extBut _ o (addr_ne (by first | exact ne_l0 (by assumption) | exact ne_l1 (by assumption) | exact ne_l2 (by assumption) | exact (ne_l0 (by assumption)).symm | exact (ne_l1 (by assumption)).symm | exact (ne_l2 (by assumption)).symm | exact ne_01 _ | exact ne_02 _ | exact ne_12 _ | exact (ne_01 _).symm | exact (ne_02 _).symm | exact (ne_12 _).symm | omega)) (k4 _ o (addr_ne (by first | exact ne_l0 (by assumption) | exact ne_l1 (by assumption) | exact ne_l2 (by assumption) | exact (ne_l0 (by assumption)).symm | exact (ne_l1 (by assumption)).symm | exact (ne_l2 (by assumption)).symm | exact ne_01 _ | exact ne_02 _ | exact ne_12 _ | exact (ne_01 _).symm | exact (ne_02 _).symm | exact (ne_12 _).symm | omega)) e)
      · intro j z hj
        rcases Nat.lt_trichotomy j i with q | q | q
        · exact hF j z (by rw [Array.getElem?_push_lt (by omega)] at hj; simpa [hys, q] using hj)
        · subst q
          have : (ys.push y)[j]? = some y := by rw [← hys]; simp
          rw [this] at hj; cases hj; exact hFy
        · have : (ys.push y)[j]? = none := by simp; omega
          rw [this] at hj; cases hj
      · have := addr_lt e
        exact hs₅.extBut b o (addr_ne (by first | exact ne_l0 (by assumption) | exact ne_l1 (by assumption) | exact ne_l2 (by assumption) | exact (ne_l0 (by assumption)).symm | exact (ne_l1 (by assumption)).symm | exact (ne_l2 (by assumption)).symm | exact ne_01 _ | exact ne_02 _ | exact ne_12 _ | exact (ne_01 _).symm | exact (ne_02 _).symm | exact (ne_12 _).symm | omega)) (k4 b o hb (up₃ b o (addr_ne (by first | exact ne_l0 (by assumption) | exact ne_l1 (by assumption) | exact ne_l2 (by assumption) | exact (ne_l0 (by assumption)).symm | exact (ne_l1 (by assumption)).symm | exact (ne_l2 (by assumption)).symm | exact ne_01 _ | exact ne_02 _ | exact ne_12 _ | exact (ne_01 _).symm | exact (ne_02 _).symm | exact (ne_12 _).symm | omega)) (addr_ne (by first | exact ne_l0 (by assumption) | exact ne_l1 (by assumption) | exact ne_l2 (by assumption) | exact (ne_l0 (by assumption)).symm | exact (ne_l1 (by assumption)).symm | exact (ne_l2 (by assumption)).symm | exact ne_01 _ | exact ne_02 _ | exact ne_12 _ | exact (ne_01 _).symm | exact (ne_02 _).symm | exact (ne_12 _).symm | omega)) (hk b o hb e)))
    · have hie : i = items.size := by omega
      subst hie
      refine wpAny_pyNext_list_end hh hit' hlx (by simp) fun h₂ he₂ => ?_
      refine ⟨m', hn'.at' fun o e => he₂ _ o (addr_ne (by show @Ne Nat (I + 2) I; first | exact ne_l0 (by assumption) | exact ne_l1 (by assumption) | exact ne_l2 (by assumption) | exact (ne_l0 (by assumption)).symm | exact (ne_l1 (by assumption)).symm | exact (ne_l2 (by assumption)).symm | exact ne_01 _ | exact ne_02 _ | exact ne_12 _ | exact (ne_01 _).symm | exact (ne_02 _).symm | exact (ne_12 _).symm | omega)) e, fun h₃ hs₃ => ?_⟩
      obtain ⟨kk, hkk⟩ := hacc'
      refine hQ (I + 1) h₃ tk ys kk o' ?_ (hs₃.extBut _ _ (addr_ne (by first | exact ne_l0 (by assumption) | exact ne_l1 (by assumption) | exact ne_l2 (by assumption) | exact (ne_l0 (by assumption)).symm | exact (ne_l1 (by assumption)).symm | exact (ne_l2 (by assumption)).symm | exact ne_01 _ | exact ne_02 _ | exact ne_12 _ | exact (ne_01 _).symm | exact (ne_02 _).symm | exact (ne_12 _).symm | omega)) (he₂ _ _ (addr_ne (by first | exact ne_l0 (by assumption) | exact ne_l1 (by assumption) | exact ne_l2 (by assumption) | exact (ne_l0 (by assumption)).symm | exact (ne_l1 (by assumption)).symm | exact (ne_l2 (by assumption)).symm | exact ne_01 _ | exact ne_02 _ | exact ne_12 _ | exact (ne_01 _).symm | exact (ne_02 _).symm | exact (ne_12 _).symm | omega)) hkk)) hys hF (fun b o hb e => ?_) (hs₃.extBut _ _ (addr_ne (by first | exact ne_l0 (by assumption) | exact ne_l1 (by assumption) | exact ne_l2 (by assumption) | exact (ne_l0 (by assumption)).symm | exact (ne_l1 (by assumption)).symm | exact (ne_l2 (by assumption)).symm | exact ne_01 _ | exact ne_02 _ | exact ne_12 _ | exact (ne_01 _).symm | exact (ne_02 _).symm | exact (ne_12 _).symm | omega)) (he₂ _ _ (addr_ne (by first | exact ne_l0 (by assumption) | exact ne_l1 (by assumption) | exact ne_l2 (by assumption) | exact (ne_l0 (by assumption)).symm | exact (ne_l1 (by assumption)).symm | exact (ne_l2 (by assumption)).symm | exact ne_01 _ | exact ne_02 _ | exact ne_12 _ | exact (ne_01 _).symm | exact (ne_02 _).symm | exact (ne_12 _).symm | omega)) ha')) hob'
      · cases e : s₁.heap.get? (I + 1) with
        | none => rfl
        | some o => have := addr_lt e; omega
      · have := addr_lt e
        exact hs₃.extBut b o (addr_ne (by first | exact ne_l0 (by assumption) | exact ne_l1 (by assumption) | exact ne_l2 (by assumption) | exact (ne_l0 (by assumption)).symm | exact (ne_l1 (by assumption)).symm | exact (ne_l2 (by assumption)).symm | exact ne_01 _ | exact ne_02 _ | exact ne_12 _ | exact (ne_01 _).symm | exact (ne_02 _).symm | exact (ne_12 _).symm | omega)) (he₂ b o (addr_ne (by first | exact ne_l0 (by assumption) | exact ne_l1 (by assumption) | exact ne_l2 (by assumption) | exact (ne_l0 (by assumption)).symm | exact (ne_l1 (by assumption)).symm | exact (ne_l2 (by assumption)).symm | exact ne_01 _ | exact ne_02 _ | exact ne_12 _ | exact (ne_01 _).symm | exact (ne_02 _).symm | exact (ne_12 _).symm | omega)) (hk b o (by simpa using hb) e))
  have e2 : H2.objs.size = I + 2 := hC
  rw [hD, e2]
  exact codeAny_compStart_list (loop _ rfl) (wpAny_pyIter_listiter hitI (loop _ rfl))
end

section
variable {prog : Program} {w : World} {A : Around} {s : Shared} {env : Env} {E : Value → Shared → Prop}
  {elt iter : Expr} {x : Str} {px : Pos} {ifs : List Expr} {scope : Scope} {cl : List (Str × Addr)} {pos : Pos} {Q : Value → Shared → Prop} {pp : Value → Bool} {FF : Value → Value → Prop}
variable {K : Frag} {p : Program} {loose : List Str} {mean : ExcName → Option Value} {mg mb : Str → Option Value} {g : Heap} {L : Addr} {m : Str → Option Value} {news : List (Addr × Obj)}
theorem comp_tup {ax : Addr} {items : Array Value} (hl : s.heap.IsTuple ax items) (hn : items.size ≤ sizeLine) (hh : A.handled = none)
    (F : Fr g L s.heap m) (N : News g L s.heap news) (X : K.In g) (T : Top p loose mean mg mb g)
    (tests : ∀ g' C (i : Nat) v s₃ m₃ E', items[i]? = some v → K.In g' → Top p loose mean mg mb g' → (∀ b o, s.heap.get? b = some o → g'.get? b = some o) → Fr g' C s₃.heap m₃ → m₃ x = some v →
      wpAny (model prog w) A (forIn ifs true fun c r => if r = true then do let ok ← isTrue c (compEnvC scope cl C env) (eval c (compEnvC scope cl C env)); pure (ForInStep.yield ok) else pure (ForInStep.yield r)) (fun ok s₄ => Done (ok = pp v ∧ PySem.Keeps s₃ s₄)) E' s₃)
    (eltH : ∀ g' C (i : Nat) v s₃ m₃ E', items[i]? = some v → pp v = true → K.In g' → Top p loose mean mg mb g' → (∀ b o, s.heap.get? b = some o → g'.get? b = some o) → Fr g' C s₃.heap m₃ → m₃ x = some v →
      wpAny (model prog w) A (eval elt (compEnvC scope cl C env)) (fun y s₄ => Done (FF v y ∧ PySem.Keeps s₃ s₄)) E' s₃)
    (hQ : ∀ D h' tk ys k, Fr g L h' m → News g L h' ((D, listOf ys k) :: news) → (∀ q ∈ news, q.1 ≠ D) → Ex [] s.heap h' → Paired FF (items.toList.filter pp) ys.toList → Q (.ref D) { s with heap := h', toks := tk }) :
    wpAny (model prog w) A (pyIter (.ref ax)) (fun it s₂ => CompAt prog w A env scope cl x ifs elt pp FF Q it s₂) E s := by
  refine wpAny_pyIter_tuple hl ?_
  obtain ⟨ol, hol, hcl⟩ := id hl
  have hne : ax ≠ s.heap.objs.size := Nat.ne_of_lt (Heap.lt_size hol)
  refine comp_core F N X T _ (Walks.tuple hh s.heap.objs.size ax hne items) hn ⟨⟨_, Heap.get?_push_size _ rfl, rfl, rfl⟩, hl.at fun o e => Heap.get?_push_of_some _ e⟩ ?_ pp FF ?_ ?_ ?_
  · intro b hb
    have h1 := Heap.lt_size hol
    rcases List.mem_cons.mp hb with rfl | h
    · exact Nat.lt_succ_self _
    · rw [List.mem_singleton.mp h]; exact Nat.lt_succ_of_lt h1
  · intro g' C i v s₃ m₃ E' hv X3 T3 sg F3 hm
    exact tests g' C i v s₃ m₃ E' hv X3 T3 sg F3 hm
  · intro g' C i v s₃ m₃ E' hv hp X3 T3 sg F3 hm
    exact eltH g' C i v s₃ m₃ E' hv hp X3 T3 sg F3 hm
  · intro D h' tk ys vs k F4 N4 hD x4 hlen hP hF
    have e : vs = items.toList := by
      apply List.ext_getElem?
      intro j
      by_cases hj : j < vs.length
      · have := hP j vs[j] (by simp [hj])
        have e2 : items.toList[j]? = some vs[j] := by rw [Array.getElem?_toList]; exact this
        rw [e2]; simp [hj]
      · rw [List.getElem?_eq_none (by omega), List.getElem?_eq_none (by simp; omega)]
    subst e
    exact hQ D h' tk ys k F4 N4 hD x4 hF
end

theorem slot_join : Slot "bytes" "join" "bytes.join" :=
  .of (owner := "bytes") (n := "join") (by rw [typeLookup_type, builtinLookup_eq_fast]; kernel_rfl) (by decide +kernel) (by decide +kernel) (by decide +kernel)
    (by first | exact .inl (by decide +kernel) | exact .inr (by decide +kernel)) (by rw [isSubtype_type]; kernel_rfl)
theorem entry_join : entryFor table "bytes.join" = some Builtin.«bytes.join» := entryFor_of_tree (by kernel_rfl)
theorem args_join (a b : Value) : argsOk "bytes.join" ⟨[a, b], []⟩ := by
  unfold argsOk; rw [signature?_of (id := "bytes.join") (n := ['n', 'i', 'o', 'j']) (o := ['s', 'e', 't', 'y', 'b']) (by kernel_rfl) FB.owner_bytes]; kernel_rfl
theorem type_join : typeOf (.builtin "bytes.join") = pure (.type "method_descriptor") := by show builtinType _ = _; rw [builtinType_eq_fast]; kernel_rfl
theorem take_eq {b : Array UInt8} {t : Tok} {id : String} : Bytes.takeBufferQuiet? id (.bytes b t) 0 = pure (some (b, none)) := by
  unfold Bytes.takeBufferQuiet? Bytes.takeBuffer?
  rw [KBy.special_eq KBy.look_buffer, KBy.own_buffer]
  have e : Bytes.buffer? id (.bytes b t) (0 == Bytes.fullReadOnly) = pure (some b) := KBy.buffer_eq
  rw [e]
  rfl
theorem joined_go : ∀ (ps : List (Array UInt8)) (k : Nat) (out : Array UInt8), ((ps.zipIdx k).foldl (fun out x => (if x.2 > 0 then out ++ #[] else out) ++ x.1) out).toList = out.toList ++ (ps.map (·.toList)).flatten
  | [], k, out => by simp
  | p :: ps, k, out => by
    rw [List.zipIdx_cons, List.foldl_cons, joined_go ps (k + 1)]
    have : (if k > 0 then out ++ #[] else out) = out := by split <;> simp
    simp [this]
theorem joined_nil (ps : List (Array UInt8)) : Bytes.joined #[] ps = (ps.map (·.toList)).flatten.toArray := by
  apply Array.toList_inj.mp
  have := joined_go ps 0 #[]
  simpa [Bytes.joined] using this
theorem sizes_sum (ps : List (Array UInt8)) : ∀ k : Nat, ps.foldl (fun a b => a + b.size) k = k + (ps.map (·.toList)).flatten.length := by
  induction ps with
  | nil => intro k; simp
  | cons p ps ih => intro k; rw [List.foldl_cons, ih]; simp; omega
theorem wpAny_forIn_rng {M : Model} {A : Around} {E : Value → Shared → Prop} {s : Shared} {β : Type} {n : Nat} {b : β} {f : Nat → β → Sem (ForInStep β)} (J : Nat → β → Shared → Prop) {Q : β → Shared → Prop} (h0 : J 0 b s)
    (turn : ∀ i b s, i < n → J i b s → wpAny M A (f i b) (fun r s' => match r with | .yield b' => J (i + 1) b' s' | .done b' => Q b' s') E s)
    (fin : ∀ b s, J n b s → Q b s) : wpAny M A (forIn [:n] b f) Q E s := by
  rw [Std.Legacy.Range.forIn_eq_forIn_range']
  refine wpAny_forIn_list f (fun rest b s => ∃ i, i ≤ n ∧ rest = List.range' i (n - i) 1 ∧ J i b s) Q ?_ ?_ _ b ⟨0, Nat.zero_le _, by simp [Std.Legacy.Range.size], h0⟩
  · rintro x rest b s ⟨i, hi, e, hJ⟩
    have hlt : i < n := by
      rcases Nat.lt_or_ge i n with h | h
      · exact h
      · rw [show n - i = 0 by omega] at e; cases e
    rw [show n - i = (n - (i + 1)) + 1 by omega, List.range'_succ] at e
    injection e with e1 e2
    subst e1 e2
    refine wpAny_mono (turn x b s hlt hJ) (fun r s' hr => ?_) fun _ _ e => e
    cases r with
    | yield b' => exact ⟨x + 1, hlt, rfl, hr⟩
    | done b' => exact hr
  · rintro b s ⟨i, hi, e, hJ⟩
    have : i = n := by
      rcases Nat.lt_or_ge i n with h | h
      · rw [show n - i = (n - (i + 1)) + 1 by omega, List.range'_succ] at e; cases e
      · omega
    subst this
    exact fin b s hJ
section
variable {prog : Program} {w : World} {A : Around} {E : Value → Shared → Prop} {s : Shared}
theorem joinLet_b : ∀ (l : List BT) (keep : List Value) {M : Model} {A : Around} {E : Value → Shared → Prop} {s : Shared} {Q : Unit → Shared → Prop}, Q () s → wpAny M A (Bytes.joinLetGo (l.map fun p => (bv p, none)) keep) Q E s
  | [], keep, _, _, _, _, _, h => by
    rw [List.map_nil, Bytes.joinLetGo]; exact wpAny_pure h
  | p :: l, keep, _, _, _, _, _, h => by
    rw [List.map_cons, Bytes.joinLetGo]
    · exact wpAny_bind (wpAny_letGo (joinLet_b l keep h))
    · intro _ e; cases e
theorem join_b {a : Addr} {l : List BT} {n : Nat} {u : Tok} {Q : Value → Shared → Prop} (hl : s.heap.get? a = some (bl l n)) (hsz : (l.map (·.1.toList)).flatten.length ≤ 16777216)
    (h : ∀ t tk, Q (.bytes (l.map (·.1.toList)).flatten.toArray t) { s with toks := tk }) : wpAny (model prog w) A (call (.builtin "bytes.join") [.bytes #[] u, .ref a]) Q E s := by
  refine wpAny_call_entry slot_join (typeIs_bytes s #[] u) entry_join ?_ (args_join _ _)
  show wpAny _ _ (Bytes.joinM .bytes ⟨[.bytes #[] u, .ref a], []⟩) _ _ s
  unfold Bytes.joinM
  refine wpAny_bind (wpAny_of_eq (a := (Value.bytes #[] u, Value.ref a)) rfl ?_)
  show wpAny _ _ (Bytes.joinItems (.ref a) >>= _) _ _ s
  refine wpAny_bind ?_
  unfold Bytes.joinItems
  refine wpAny_bind (wpAny_typeOf (T := "list") ⟨_, hl, rfl⟩ ?_)
  rw [if_pos (by decide)]
  refine wpAny_pure ?_
  refine wpAny_bind (wpAny_seqItems hl rfl ?_)
  dsimp only
  split
  rotate_left
  · rename_i hx; exact absurd rfl hx
  by_cases h1 : ∃ p, l = [p]
  · obtain ⟨p, rfl⟩ := h1
    show wpAny _ _ (typeOf (bv p) >>= _) _ _ s
    refine wpAny_bind (wpAny_typeOf (typeIs_bytes s p.1 p.2) ?_)
    rw [if_pos (show (Value.type "bytes" == Value.type "bytes") = true from rfl)]
    refine wpAny_bind (wpAny_rule (wpAny_pure ⟨_, rfl, ?_⟩))
    have := h p.2 s.toks
    show Q (bv p) s
    simpa using this
  · rcases l with _ | ⟨x, _ | ⟨y, l⟩⟩
    rotate_left
    · exact absurd ⟨x, rfl⟩ h1
    rotate_left
    all_goals show wpAny _ _ (forIn [:_] _ _ >>= _) _ _ s
    · generalize hL : ([] : List BT) = L at h hl hsz ⊢
      refine wpAny_bind (wpAny_forIn_rng (fun i b s' => s' = s ∧ b = (((L.take i).map (·.1)).toArray, (L.take i).map fun p => (bv p, none))) ⟨rfl, by simp⟩ ?_ ?_)
      · rintro i b s' hi ⟨rfl, rfl⟩
        have hil : i < L.length := by simpa using hi
        have hg : (L.map bv).toArray.getD i Value.none = bv L[i] := by simp [hil]
        refine wpAny_bind (wpAny_seqItems hl rfl ?_)
        dsimp only
        rw [if_neg (by
          have : ((L.take i).map fun p => (bv p, (none : Option Value))).any (fun x => x.1.onHeap) = false := by
            rw [List.any_eq_false]; intro x hx; obtain ⟨p, _, rfl⟩ := List.mem_map.mp hx; intro q; cases q
          rw [this]; decide)]
        rw [hg]
        refine wpAny_bind (wpAny_holding (wpAny_of_eq take_eq ?_))
        dsimp only
        refine wpAny_bind (wpAny_seqItems hl rfl ?_)
        dsimp only
        rw [if_neg (by simp)]
        refine wpAny_pure ⟨rfl, ?_⟩
        have e2 : L.take (i + 1) = L.take i ++ [L[i]] := by rw [List.take_add_one, List.getElem?_eq_getElem hil]; rfl
        rw [e2, List.map_append, List.map_append]
        simp only [List.map_cons, List.map_nil, List.push_toArray]
      · rintro b s' ⟨rfl, rfl⟩
        have e1 : L.take (L.map bv).toArray.size = L := by simp
        rw [e1]
        dsimp only
        refine wpAny_bind (wpAny_of_eq (a := (#[] : Array UInt8)) rfl ?_)
        rw [if_neg (by
          rw [KBy.tooLong_not]
          · decide
          · rw [← Array.foldl_toList, sizes_sum]
            simp only [List.map_map]
            have : (List.map ((fun x : Array UInt8 => x.toList) ∘ fun x : BT => x.1) L).flatten.length ≤ 16777216 := hsz
            simpa using this)]
        rw [show Bytes.joined #[] (L.map (·.1)).toArray.toList = (L.map (·.1.toList)).flatten.toArray by rw [joined_nil]; simp [List.map_map, Function.comp_def]]
        refine wpAny_bind ?_
        show wpAny _ _ (mkBytes _) _ _ s'
        refine wpAny_mkBytes ?_ (by rw [sizeLine_eq]; simpa using hsz)
        refine wpAny_bind (wpAny_holding (wpAny_point ?_))
        refine wpAny_bind (joinLet_b _ _ ?_)
        exact wpAny_pure ⟨_, rfl, h _ _⟩
    · generalize hL : (x :: y :: l : List BT) = L at h hl hsz ⊢
      refine wpAny_bind (wpAny_forIn_rng (fun i b s' => s' = s ∧ b = (((L.take i).map (·.1)).toArray, (L.take i).map fun p => (bv p, none))) ⟨rfl, by simp⟩ ?_ ?_)
      · rintro i b s' hi ⟨rfl, rfl⟩
        have hil : i < L.length := by simpa using hi
        have hg : (L.map bv).toArray.getD i Value.none = bv L[i] := by simp [hil]
        refine wpAny_bind (wpAny_seqItems hl rfl ?_)
        dsimp only
        rw [if_neg (by
          have : ((L.take i).map fun p => (bv p, (none : Option Value))).any (fun x => x.1.onHeap) = false := by
            rw [List.any_eq_false]; intro x hx; obtain ⟨p, _, rfl⟩ := List.mem_map.mp hx; intro q; cases q
          rw [this]; decide)]
        rw [hg]
        refine wpAny_bind (wpAny_holding (wpAny_of_eq take_eq ?_))
        dsimp only
        refine wpAny_bind (wpAny_seqItems hl rfl ?_)
        dsimp only
        rw [if_neg (by simp)]
        refine wpAny_pure ⟨rfl, ?_⟩
        have e2 : L.take (i + 1) = L.take i ++ [L[i]] := by rw [List.take_add_one, List.getElem?_eq_getElem hil]; rfl
        rw [e2, List.map_append, List.map_append]
        simp only [List.map_cons, List.map_nil, List.push_toArray]
      · rintro b s' ⟨rfl, rfl⟩
        have e1 : L.take (L.map bv).toArray.size = L := by simp
        rw [e1]
        dsimp only
        refine wpAny_bind (wpAny_of_eq (a := (#[] : Array UInt8)) rfl ?_)
        rw [if_neg (by
          rw [KBy.tooLong_not]
          · decide
          · rw [← Array.foldl_toList, sizes_sum]
            simp only [List.map_map]
            have : (List.map ((fun x : Array UInt8 => x.toList) ∘ fun x : BT => x.1) L).flatten.length ≤ 16777216 := hsz
            simpa using this)]
        rw [show Bytes.joined #[] (L.map (·.1)).toArray.toList = (L.map (·.1.toList)).flatten.toArray by rw [joined_nil]; simp [List.map_map, Function.comp_def]]
        refine wpAny_bind ?_
        show wpAny _ _ (mkBytes _) _ _ s'
        refine wpAny_mkBytes ?_ (by rw [sizeLine_eq]; simpa using hsz)
        refine wpAny_bind (wpAny_holding (wpAny_point ?_))
        refine wpAny_bind (joinLet_b _ _ ?_)
        exact wpAny_pure ⟨_, rfl, h _ _⟩
end

section
variable {prog : Program} {w : World} {A : Around} {E : Value → Shared → Prop} {s : Shared}
theorem range_zero {a b : Int} {t u v : Tok} {Q : Value → Shared → Prop} (hh : A.handled = none)
    (hE : ∀ h' tk e, Heap.NewExc s.heap h' e "ValueError" → E (.ref e) { s with heap := h', toks := tk }) : wpAny (model prog w) A (call (.type "range") [.int a t, .int b u, .int 0 v]) Q E s :=
  callType_new F.called_range (by decide) (F.typeCall_range_3 _ _ _) (F.newCall_range_3 _ _ _) (fun obj => F.initArgs_range_3 obj _ _ _) F.entry_range_new
    (AutoRange.range___new___type_int_int_int_0 a b 0 t u v F.called_range.sub rfl) ⟨hh, hE⟩
end
section
variable {w : World} {A : Around} {s : Shared} {hb B : Heap} {outer : List Env} {mean : ExcName → Option Value} {mg mb : Str → Option Value} {E : Value → Shared → Prop} {Q : Value → Shared → Prop}
theorem byteswap_raises {t1 t2 : Tok}
    (X : (hd.heap_39 w.params).In hb) (T : Top hd.view_39 (looseW hd.view_39 []) mean mg mb hb) (st : ∀ b o, hb.get? b = some o → s.heap.get? b = some o)
    (hh : A.handled = none) (hroom : A.depth + 2 < recursionLimit)
    (hfr : A.frames = some outer) (hB : B.StaysIn s.heap) (hfs : s.heap.FunFrames B outer)
    (h : ∀ h' tk e a0, Heap.FlyingW B outer e (.type "ValueError") a0 h' → s.heap.UpToSlots h' → E (.ref e) { s with heap := h', toks := tk }) :
    wpC (model PySem.Challenge.rw_nq0033_01.row.prog w) A (call (.ref 70) [.bytes #[] t1, .int 0 t2]) Q E s := by
  refine' enterK X T st (news := []) (binds := [(Str.ofString "data", .bytes #[] t1), (Str.ofString "width", .int 0 t2)]) (fun _ h => nomatch h) ?k6 ?k7 (depth_lt hroom) ?k9 ?kB ?_ ?c2 ?c3 ?c4 ?c5
  case k6 => k_is
  case k7 => k_is
  case k9 => exact BindsTo.of_eq rfl
  case kB => exact locs rfl
  case c2 => exact rfl
  case c3 => exact rfl
  case c4 => exact rfl
  case c5 => decide
  intro g L h₁ F N X' T' xg stg
  have xg0 : ∀ b o, s.heap.get? b = some o → g.get? b = some o := fun b o e => xg b o (by simp) e
  have hBL : B.get? L = none := by
    cases q : B.get? L with
    | none => rfl
    | some o => exact absurd (Heap.lt_size (xg0 _ _ (hB _ _ q))) (Nat.not_lt.mpr F.above)
  refine wpC_execs_cons (wpC_Assign_Name (wpC_Call ?_) (by rfl))
  walk1
  refine wpC_CallT (wpC_any ?_)
  repeat walk1
  refine call_ba (n := 0) (by omega) ?_
  intro h2 hk2 ho2
  rename Fr _ _ _ _ => F
  rename News _ _ _ _ => N
  dsimp only at hk2 ho2
  have F2 := fr_keeps F hk2
  have N2 := news_new F N hk2 ho2
  clear F N
  try dsimp only
  generalize h₁.objs.size = ba at *
  iterate 1 walk1
  refine wpC_any ?_
  iterate 1 walk1
  refine wpAny_For ?_ (by intro _; rfl)
  repeat walk1
  rename Fr _ _ _ _ => F3
  refine range_zero hh ?_
  intro h6 tk6 e6 hx6
  dsimp only
  have kk : ∀ b o, s.heap.get? b = some o → _ := fun b o e => F3.keep b o (xg0 b o e)
  refine leave_first (B := B) (Around.frames_deeper hfr) rfl rfl F3.ns hx6 (fun b o q => kk b o (hB b o q)) hBL (funFrames_up hfs kk) (fun h' a0 z1 z2 => h h' _ e6 a0 z1 ((Heap.UpToSlots.of_keeps kk).trans z2))
end

section
variable {prog : Program} {w : World} {A : Around} {s : Shared} {env : Env} {E : Value → Shared → Prop}
theorem wpC_Try {body orelse : List Stmt} {h₀ : ExceptHandler} {hs : List ExceptHandler} {pos : Pos} {Q : Flow → Shared → Prop}
    (h : wpC (model prog w) A (execs body env) (fun f s₁ => match f with | .next => wpC (model prog w) A (execs orelse env) Q E s₁ | f => Q f s₁)
      (fun e s₁ => wpAny (model prog w) A (noteFrame e env) (fun _ s₂ => wpAny (model prog w) A (setFlight e none) (fun _ s₃ => wpAny (model prog w) A (handleBy e env (h₀ :: hs)) Q E s₃) E s₂) E s₁) s) :
    wpC (model prog w) A (exec (.Try body (h₀ :: hs) orelse [] pos) env) Q E s := by
  rw [arm_exec_Try]
  refine wpC_bindA (wpAny_standAt ?_)
  unfold tryStmt
  simp only [List.isEmpty_nil, if_true, List.isEmpty_cons, Bool.false_and, Bool.false_eq_true, if_false]
  refine wpC_bind (wpC_attempt (wpC_mono h (fun f s₁ h₁ => ?_) fun e s₁ h₁ => ?_))
  · cases f <;> first | exact h₁ | exact wpC_pure h₁
  · exact wpC_any (wpAny_bind (wpAny_mono h₁ (fun _ _ h₂ => wpAny_bind h₂) fun _ _ x => x))
end

section
variable {prog : Program} {w : World} {A : Around} {E : Value → Shared → Prop} {s : Shared} {g : Heap} {L a : Addr} {m : Str → Option Value} {news : List (Addr × Obj)} {l : List NT} {n : Nat}
theorem sorted_i {Q : Value → Shared → Prop} (F : Fr g L s.heap m) (N : News g L s.heap news) (hl : s.heap.get? a = some (il l n)) (h64 : l.length < 64)
    (h : ∀ h' D l' e, Fr g L h' m → News g L h' ((D, il l' e) :: news) → (∀ q ∈ news, q.1 ≠ D) → (l'.map (·.1)).Perm (l.map (·.1)) → (l'.map (·.1)).Pairwise (· ≤ ·) → Q (.ref D) { s with heap := h' }) :
    wpAny (model prog w) A (call (.builtin "sorted") [.ref a]) Q E s := by
  refine kso_sorted F N (isList_il hl) (ints_il l) (by simpa using h64) ?_
  intro D vs' ns' c h' F' N' lt' hi' _ hp' hs' _
  obtain ⟨l', rfl, e2, e3⟩ := il_after hi' hp' hs'
  exact h h' D l' c F' N' (fun q hq => Nat.ne_of_lt (lt' q hq)) e2 e3
end
theorem nums_of {f : Nat → Nat} {ks : List NT} {zs : List Value} (h : Paired (fun v y => ∃ (n : Nat) (t u : Tok), v = Value.int n t ∧ y = Value.int ((f n : Nat) : Int) u) (ks.map iv) zs) :
    ∃ yl : List NT, zs = yl.map iv ∧ yl.map (·.1) = ks.map fun p => f p.1 := by
  induction ks generalizing zs with
  | nil => cases h; exact ⟨[], rfl, rfl⟩
  | cons k ks ih =>
    cases h with
    | cons h1 h2 =>
      obtain ⟨n, t, u, e1, rfl⟩ := h1
      obtain ⟨yl, rfl, e2⟩ := ih h2
      have : k.1 = n := by injection e1 with e1 _; omega
      exact ⟨(f n, u) :: yl, rfl, by simp [e2, this]⟩
theorem words_of2 {f : Nat → Array UInt8} {ks : List NT} {zs : List Value} (h : Paired (fun v y => ∃ (n : Nat) (t u : Tok), v = Value.int n t ∧ y = Value.bytes (f n) u) (ks.map iv) zs) :
    ∃ yl : List BT, zs = yl.map bv ∧ yl.map (·.1) = ks.map fun p => f p.1 := by
  induction ks generalizing zs with
  | nil => cases h; exact ⟨[], rfl, rfl⟩
  | cons k ks ih =>
    cases h with
    | cons h1 h2 =>
      obtain ⟨n, t, u, e1, rfl⟩ := h1
      obtain ⟨yl, rfl, e2⟩ := ih h2
      have : k.1 = n := by injection e1 with e1 _; omega
      exact ⟨(f n, u) :: yl, rfl, by simp [e2, this]⟩

/-- what stands in law's frame beside its local names: the cells of size, words, flat; the queue at a, the row at r -/
structure St (g : Heap) (L : Addr) (h : Heap) (wd : Nat) (a : Addr) (l : List BT) (r : Addr) (rl : List NT) : Prop where
  cs : ∃ t o, h.get? (L + 1) = some o ∧ o.data = .cell (some (.int wd t))
  cw : ∃ o, h.get? (L + 2) = some o ∧ o.data = .cell (some (.ref a))
  cf : ∃ v o, h.get? (L + 3) = some o ∧ o.data = .cell v
  qa : ∃ n, h.get? a = some (bl l n)
  rr : ∃ k, h.get? r = some (il rl k)
  ga : g.get? a = none
  gr : g.get? r = none
  g1 : g.get? (L + 1) = none
  g2 : g.get? (L + 2) = none
  g3 : g.get? (L + 3) = none
  aL : a ≠ L
  rL : r ≠ L
  ar : a ≠ r
section
variable {g h h' : Heap} {L a r : Addr} {wd : Nat} {l l' : List BT} {rl rl' : List NT} {n k : Nat}
theorem ne_plus (L : Addr) (i : Nat) : L + (i + 1) ≠ L := addr_ne (by show @Ne Nat (L + (i + 1)) L; omega)
theorem St.news (S : St g L h wd a l r rl) : ∃ t v oS oW oF n k, News g L h [(L + 1, oS), (L + 2, oW), (L + 3, oF), (a, bl l n), (r, il rl k)] ∧ oS.data = .cell (some (.int wd t)) ∧ oW.data = .cell (some (.ref a)) ∧ oF.data = .cell v := by
  obtain ⟨t, oS, s1, s2⟩ := S.cs
  obtain ⟨oW, w1, w2⟩ := S.cw
  obtain ⟨v, oF, f1, f2⟩ := S.cf
  obtain ⟨n, q1⟩ := S.qa
  obtain ⟨k, r1⟩ := S.rr
  refine ⟨t, v, oS, oW, oF, n, k, fun p hp => ?_, s2, w2, f2⟩
  simp only [List.mem_cons, List.not_mem_nil, or_false] at hp
  rcases hp with rfl | rfl | rfl | rfl | rfl
  · exact ⟨s1, ne_plus L 0, S.g1⟩
  · exact ⟨w1, ne_plus L 1, S.g2⟩
  · exact ⟨f1, ne_plus L 2, S.g3⟩
  · exact ⟨q1, S.aL, S.ga⟩
  · exact ⟨r1, S.rL, S.gr⟩
theorem St.mk' {news : List (Addr × Obj)} {t : Tok} {v : Option Value} {oS oW oF : Obj} (N : News g L h news) (h1 : (L + 1, oS) ∈ news) (d1 : oS.data = .cell (some (.int wd t))) (h2 : (L + 2, oW) ∈ news) (d2 : oW.data = .cell (some (.ref a)))
    (h3 : (L + 3, oF) ∈ news) (d3 : oF.data = .cell v) (ha : (a, bl l n) ∈ news) (hr : (r, il rl k) ∈ news) (ar : a ≠ r) : St g L h wd a l r rl :=
  ⟨⟨t, oS, (N _ h1).1, d1⟩, ⟨oW, (N _ h2).1, d2⟩, ⟨v, oF, (N _ h3).1, d3⟩, ⟨n, (N _ ha).1⟩, ⟨k, (N _ hr).1⟩, (N _ ha).2.2, (N _ hr).2.2, (N _ h1).2.2, (N _ h2).2.2, (N _ h3).2.2, (N _ ha).2.1, (N _ hr).2.1, ar⟩
theorem cell_ne_seq {o : Obj} {b c : Addr} {v : Option Value} {xs : Array Value} {n : Nat} (h1 : h.get? b = some o) (d : o.data = .cell v) (h2 : h.get? c = some (listOf xs n)) : b ≠ c := fun e => by
  rw [e, h2] at h1; cases h1; cases d
/-- the queue changes -/
theorem St.exA (S : St g L h wd a l r rl) (x : Ex [a] h h') (ho : h'.get? a = some (bl l' n)) : St g L h' wd a l' r rl := by
  obtain ⟨t, oS, s1, s2⟩ := S.cs
  obtain ⟨oW, w1, w2⟩ := S.cw
  obtain ⟨v, oF, f1, f2⟩ := S.cf
  obtain ⟨n0, q1⟩ := S.qa
  obtain ⟨k, r1⟩ := S.rr
  exact ⟨⟨t, oS, x _ _ (by simpa using cell_ne_seq s1 s2 q1) s1, s2⟩, ⟨oW, x _ _ (by simpa using cell_ne_seq w1 w2 q1) w1, w2⟩, ⟨v, oF, x _ _ (by simpa using cell_ne_seq f1 f2 q1) f1, f2⟩, ⟨n, ho⟩, ⟨k, x _ _ (by simpa using S.ar.symm) r1⟩,
    S.ga, S.gr, S.g1, S.g2, S.g3, S.aL, S.rL, S.ar⟩
/-- the row changes -/
theorem St.exR (S : St g L h wd a l r rl) (x : Ex [r] h h') (ho : h'.get? r = some (il rl' k)) : St g L h' wd a l r rl' := by
  obtain ⟨t, oS, s1, s2⟩ := S.cs
  obtain ⟨oW, w1, w2⟩ := S.cw
  obtain ⟨v, oF, f1, f2⟩ := S.cf
  obtain ⟨n, q1⟩ := S.qa
  obtain ⟨k0, r1⟩ := S.rr
  exact ⟨⟨t, oS, x _ _ (by simpa using cell_ne_seq s1 s2 r1) s1, s2⟩, ⟨oW, x _ _ (by simpa using cell_ne_seq w1 w2 r1) w1, w2⟩, ⟨v, oF, x _ _ (by simpa using cell_ne_seq f1 f2 r1) f1, f2⟩, ⟨n, x _ _ (by simpa using S.ar) q1⟩, ⟨k, ho⟩,
    S.ga, S.gr, S.g1, S.g2, S.g3, S.aL, S.rL, S.ar⟩
theorem St.ex0 (S : St g L h wd a l r rl) (x : ∀ b o, b ≠ L → g.get? b = none → h.get? b = some o → h'.get? b = some o) : St g L h' wd a l r rl := by
  obtain ⟨t, oS, s1, s2⟩ := S.cs
  obtain ⟨oW, w1, w2⟩ := S.cw
  obtain ⟨v, oF, f1, f2⟩ := S.cf
  obtain ⟨n, q1⟩ := S.qa
  obtain ⟨k0, r1⟩ := S.rr
  exact ⟨⟨t, oS, x _ _ (ne_plus L 0) S.g1 s1, s2⟩, ⟨oW, x _ _ (ne_plus L 1) S.g2 w1, w2⟩, ⟨v, oF, x _ _ (ne_plus L 2) S.g3 f1, f2⟩, ⟨n, x _ _ S.aL S.ga q1⟩, ⟨k0, x _ _ S.rL S.gr r1⟩,
    S.ga, S.gr, S.g1, S.g2, S.g3, S.aL, S.rL, S.ar⟩
end
section
variable {prog : Program} {w : World} {A : Around} {E : Value → Shared → Prop} {s : Shared} {g : Heap} {L : Addr} {m : Str → Option Value} {news keep : List (Addr × Obj)} {env : Env}
/-- a store into a cell; only what is named is kept -/
theorem store_cell {x : Str} {c : Addr} {v : Value} {v₀ : Option Value} {o : Obj} {Q : Unit → Shared → Prop} (hk : env.scope.kind = .function) (hx : env.kindOf x = some .cell) (hc : env.cells.lookup x = some c)
    (F : Fr g L s.heap m) (N : News g L s.heap news) (hm : (c, o) ∈ news) (hd : o.data = .cell v₀) (hkeep : ∀ q ∈ keep, q ∈ news ∧ q.1 ≠ c)
    (h : ∀ h' o', Fr g L h' m → News g L h' ((c, o') :: keep) → o'.data = .cell (some v) → Q () { s with heap := h' }) : wpAny (model prog w) A (storeName env x v) Q E s := by
  have z := N _ hm
  refine wpAny_storeName_cell hk hx hc ⟨o, z.1, hd⟩ fun h' hv hs => ?_
  obtain ⟨o', ho', hd'⟩ := hv
  have kp : ∀ b o, b ≠ c → s.heap.get? b = some o → h'.get? b = some o := fun b o hb e => hs.extBut b o hb e
  refine h h' o' (sameBut_fr F kp z.2.1 z.2.2) (fun p hp => ?_) hd'
  rcases List.mem_cons.mp hp with rfl | hp
  · exact ⟨ho', z.2⟩
  · obtain ⟨q1, q2⟩ := hkeep p hp
    exact ⟨kp _ _ q2 (N _ q1).1, (N _ q1).2⟩
end

/-- law's frame within the loop: beside St the list that is walked, and its iterator -/
structure Sx (g : Heap) (L : Addr) (h : Heap) (wd : Nat) (a : Addr) (l : List BT) (r : Addr) (rl : List NT) (D : Addr) (oD : Obj) (J : Addr) (oJ : Obj) : Prop where
  st : St g L h wd a l r rl
  hD : h.get? D = some oD
  hJ : h.get? J = some oJ
  gD : g.get? D = none
  gJ : g.get? J = none
  DL : D ≠ L
  JL : J ≠ L
  Da : D ≠ a
  Dr : D ≠ r
  Ja : J ≠ a
  Jr : J ≠ r
section
variable {g h h' : Heap} {L a r D J : Addr} {oD oJ : Obj} {wd : Nat} {l l' : List BT} {rl rl' : List NT} {n k : Nat}
theorem Sx.news (S : Sx g L h wd a l r rl D oD J oJ) : ∃ t v oS oW oF n k, News g L h [(L + 1, oS), (L + 2, oW), (L + 3, oF), (a, bl l n), (r, il rl k), (D, oD), (J, oJ)] ∧ oS.data = .cell (some (.int wd t)) ∧ oW.data = .cell (some (.ref a)) ∧ oF.data = .cell v := by
  obtain ⟨t, v, oS, oW, oF, n, k, N, d1, d2, d3⟩ := S.st.news
  refine ⟨t, v, oS, oW, oF, n, k, fun p hp => ?_, d1, d2, d3⟩
  simp only [List.mem_cons, List.not_mem_nil, or_false] at hp
  rcases hp with rfl | rfl | rfl | rfl | rfl | rfl | rfl
  · exact N _ (by simp)
  · exact N _ (by simp)
  · exact N _ (by simp)
  · exact N _ (by simp)
  · exact N _ (by simp)
  · exact ⟨S.hD, S.DL, S.gD⟩
  · exact ⟨S.hJ, S.JL, S.gJ⟩
theorem Sx.exA (S : Sx g L h wd a l r rl D oD J oJ) (x : Ex [a] h h') (ho : h'.get? a = some (bl l' n)) : Sx g L h' wd a l' r rl D oD J oJ :=
  { S with st := S.st.exA x ho, hD := x _ _ (by simpa using S.Da) S.hD, hJ := x _ _ (by simpa using S.Ja) S.hJ }
theorem Sx.exR (S : Sx g L h wd a l r rl D oD J oJ) (x : Ex [r] h h') (ho : h'.get? r = some (il rl' k)) : Sx g L h' wd a l r rl' D oD J oJ :=
  { S with st := S.st.exR x ho, hD := x _ _ (by simpa using S.Dr) S.hD, hJ := x _ _ (by simpa using S.Jr) S.hJ }
theorem Sx.ex0 (S : Sx g L h wd a l r rl D oD J oJ) (x : ∀ b o, b ≠ L → g.get? b = none → h.get? b = some o → h'.get? b = some o) : Sx g L h' wd a l r rl D oD J oJ :=
  { S with st := S.st.ex0 x, hD := x _ _ S.DL S.gD S.hD, hJ := x _ _ S.JL S.gJ S.hJ }
theorem Sx.mk' {news : List (Addr × Obj)} {t : Tok} {v : Option Value} {oS oW oF : Obj} (N : News g L h news) (h1 : (L + 1, oS) ∈ news) (d1 : oS.data = .cell (some (.int wd t))) (h2 : (L + 2, oW) ∈ news) (d2 : oW.data = .cell (some (.ref a)))
    (h3 : (L + 3, oF) ∈ news) (d3 : oF.data = .cell v) (ha : (a, bl l n) ∈ news) (hr : (r, il rl k) ∈ news) (hD : (D, oD) ∈ news) (hJ : (J, oJ) ∈ news) (ar : a ≠ r) (Da : D ≠ a) (Dr : D ≠ r) (Ja : J ≠ a) (Jr : J ≠ r) : Sx g L h wd a l r rl D oD J oJ :=
  ⟨St.mk' N h1 d1 h2 d2 h3 d3 ha hr ar, (N _ hD).1, (N _ hJ).1, (N _ hD).2.2, (N _ hJ).2.2, (N _ hD).2.1, (N _ hJ).2.1, Da, Dr, Ja, Jr⟩
end

/-- law, as the head holds it -/
structure LawDef (w : World) where
  body : List Stmt
  scope : Scope
  oc : Value
  od : Option Addr
  name : Str
  qual : Str
  params : Arguments
  dV : Value
  kV : Value
  doc : Value
  pm : Value
  an : Option Addr
  cdv : Value
  ct : Value
  osl : Array (Option Value)
  h : (hd.heap_39 w.params).lookup 111 = some ⟨oc, od, .func (fnOf name qual params body scope dV kV doc pm an cdv ct), osl⟩
noncomputable def mkLaw {w : World} {body : List Stmt} {scope : Scope} {oc : Value} {od : Option Addr} {name qual : Str} {params : Arguments} {dV kV doc pm : Value} {an : Option Addr} {cdv ct : Value} {osl : Array (Option Value)}
    (h : (hd.heap_39 w.params).lookup 111 = some ⟨oc, od, .func (fnOf name qual params body scope dV kV doc pm an cdv ct), osl⟩) : LawDef w := ⟨_, _, _, _, _, _, _, _, _, _, _, _, _, _, _, h⟩
noncomputable def lawD (w : World) : LawDef w := by
  refine' mkLaw ?h
  case h => k_is

def forBody : Option Stmt → List Stmt
  | some (.For _ _ b _ _) => b
  | _ => []
noncomputable def loopB (w : World) : List Stmt := forBody ((lawD w).body[4]?)
noncomputable abbrev lawEnv (w : World) (L : Addr) : Env := envOfC (lawD w).qual (lawD w).scope L 111 (lawD w).cdv

/-- told and due are alike -/
def Alike (v u : Value) : Prop := (∃ b t t', v = .bytes b t ∧ u = .bytes b t') ∨ (v = .none ∧ u = .none) ∨ (∃ t t', v = .str (Str.ofString "nothing") t ∧ u = .str (Str.ofString "nothing") t')
noncomputable def checkB (w : World) : List Stmt := (loopB w).drop 2
theorem ne_alike {prog : Program} {w : World} {A : Around} {E : Value → Shared → Prop} {s : Shared} {v u : Value} {Q : Value → Shared → Prop} (al : Alike v u) (h : Q (.bool false) s) : wpAny (model prog w) A (compareOp .NotEq v u) Q E s := by
  rcases al with ⟨b, t, t', rfl, rfl⟩ | ⟨rfl, rfl⟩ | ⟨t, t', rfl, rfl⟩
  · refine ne_bytes ?_
    rw [bne_self_eq_false]
    exact h
  · walk1
    exact h
  · walk1
    exact h
section
variable {w : World} {A : Around} {s : Shared} {g : Heap} {mean : ExcName → Option Value} {mg mb : Str → Option Value} {E : Value → Shared → Prop} {Q : Flow → Shared → Prop}
theorem law_check {L a r : Addr} {m : Str → Option Value} {l : List BT} {rl : List NT} {wd : Nat} {v u : Value}
    (X : (hd.heap_39 w.params).In g) (T : Top hd.view_39 (looseW hd.view_39 []) mean mg mb g) (hh : A.handled = none) (hroom : A.depth + 10 < recursionLimit) (hu : A.units + 200 < cLine) (hw4 : wd ≤ 4)
    (F : Fr g L s.heap m) (hv : m (Str.ofString "told") = some v) (hd' : m (Str.ofString "due") = some u) (hp : m (Str.ofString "plain") = some (.ref r)) (al : Alike v u)
    (S : St g L s.heap wd a l r rl) (I : Inv wd l rl) (hlen : rl.length < 60)
    (h : ∀ h' tk, Ex [] s.heap h' → Q .next { s with heap := h', toks := tk }) :
    wpC (model PySem.Challenge.rw_nq0033_01.row.prog w) (A.deeper (lawEnv w L)) (execs (checkB w) (lawEnv w L)) Q (fun _ _ => False) s := by
  unfold checkB loopB lawEnv
  dsimp only [lawD, mkLaw, List.getElem?_cons_succ, List.getElem?_cons_zero, forBody, List.drop_succ_cons, List.drop_zero]
  have F := Fr.pins F (ps := [(Str.ofString "told", v), (Str.ofString "due", u), (Str.ofString "plain", .ref r)]) ⟨hv, hd', hp, trivial⟩
  obtain ⟨tS, vF, oS, oW, oF, nA, kR, NN, dS, dW, dF⟩ := S.news
  refine wpC_execs_consA ?_
  iterate 5 walk1
  refine ne_alike al ?_
  repeat walk1
  refine stands_call (hb := g) X T (fun b o e => F.keep b o e) (NN.get (by k_mem)) (NN.fresh (by k_mem)) (NN.get (by k_mem)) (NN.fresh (by k_mem)) S.ar hh (by first | exact deep_ok hroom | exact deep_lt hroom) (by units_room) hw4 (by rw [I.length]; omega) (by omega) I.stands1 I.stands2 ?_
  intro h13 tk13 x13
  repeat walk1
  exact wpC_any (wpAny_execs_nil (h _ _ x13))
end

def ifElse : Option Stmt → List Stmt
  | some (.If _ _ e _) => e
  | _ => []
noncomputable def dueB (w : World) : List Stmt := (ifElse ((loopB w)[1]?)).drop 1
section
variable {w : World} {A : Around} {s : Shared} {g : Heap} {mean : ExcName → Option Value} {mg mb : Str → Option Value} {Q Q' : Flow → Shared → Prop}
/-- within a turn: `due` is asked, and all is looked at -/
theorem law_tail {L a r D J : Addr} {oD oJ : Obj} {m : Str → Option Value} {l : List BT} {rl : List NT} {wd nb K : Nat} {x : Int} {t tf : Tok} {v : Value}
    (X : (hd.heap_39 w.params).In g) (T : Top hd.view_39 (looseW hd.view_39 []) mean mg mb g) (hh : A.handled = none) (hroom : A.depth + 10 < recursionLimit) (hu : A.units + 200 < cLine) (hw4 : wd ≤ 4) (hK : K < 60)
    (F : Fr g L s.heap m) (hx : m (Str.ofString "x") = some (.int x t)) (hp : m (Str.ofString "plain") = some (.ref r)) (hf : m (Str.ofString "fresh") = some (.int nb tf)) (ht : m (Str.ofString "told") = some v)
    (S : Sx g L s.heap wd a l r rl D oD J oJ)
    (hdue : ∀ (s' : Shared) (n : Nat) (t1 t2 t3 : Tok) (Q1 : Value → Shared → Prop), (∀ b o, g.get? b = some o → s'.heap.get? b = some o) → s'.heap.get? r = some (il rl n) → g.get? r = none →
      (∀ h' tk u rl' n', Ex [r] s'.heap h' → h'.get? r = some (il rl' n') → Alike v u → Inv wd l rl' → rl'.length ≤ K → Q1 u { s' with heap := h', toks := tk }) →
      wpAny (model PySem.Challenge.rw_nq0033_01.row.prog w) (A.deeper (lawEnv w L)) (call (.ref 101) [.ref r, .int (x.fmod 6) t1, .int nb t2, .int wd t3]) Q1 (fun _ _ => False) s')
    (hQ : ∀ s', wpC (model PySem.Challenge.rw_nq0033_01.row.prog w) (A.deeper (lawEnv w L)) (execs (checkB w) (lawEnv w L)) Q (fun _ _ => False) s' → Q' .next s')
    (h : ∀ h' tk m' rl', Fr g L h' m' → m' (Str.ofString "plain") = some (.ref r) → Sx g L h' wd a l r rl' D oD J oJ → Inv wd l rl' → rl'.length ≤ K → Q .next { s with heap := h', toks := tk }) :
    wpC (model PySem.Challenge.rw_nq0033_01.row.prog w) (A.deeper (lawEnv w L)) (execs (dueB w) (lawEnv w L)) Q' (fun _ _ => False) s := by
  unfold dueB loopB lawEnv
  dsimp only [lawD, mkLaw, List.getElem?_cons_succ, List.getElem?_cons_zero, forBody, ifElse, List.drop_succ_cons, List.drop_zero]
  have F := Fr.pins F (ps := [(Str.ofString "x", .int x t), (Str.ofString "plain", .ref r), (Str.ofString "fresh", .int nb tf), (Str.ofString "told", v)]) ⟨hx, hp, hf, ht, trivial⟩
  obtain ⟨tS6, vF6, oS6, oW6, oF6, nA6, kR6, NN6, dS6, dW6, dF6⟩ := S.news
  refine wpC_execs_consA ?_
  repeat walk1
  rename Fr _ _ _ _ => F7
  rename News _ _ _ _ => N7
  have S7 : Sx g L _ wd a _ r rl D oD J oJ := Sx.mk' N7 (by k_mem) dS6 (by k_mem) dW6 (by k_mem) dF6 (by k_mem) (by k_mem) (by k_mem) (by k_mem) S.st.ar S.Da S.Dr S.Ja S.Jr
  clear N7 dS6 dW6 dF6
  obtain ⟨nr, hra⟩ := S7.st.rr
  refine hdue _ _ _ _ _ _ (fun b o e => F7.keep b o e) hra S7.st.gr ?_
  intro h8 tk8 u8 rl8 n8 x8 hl8 al8 I8 k8
  have F8 := x8.fr F7 S7.st.rL S7.st.gr
  have S8 := S7.exR x8 hl8
  clear F7 S7 hra
  obtain ⟨tS9, vF9, oS9, oW9, oF9, nA9, kR9, NN9, dS9, dW9, dF9⟩ := S8.news
  repeat walk1
  rename Fr _ _ _ _ => F10
  rename News _ _ _ _ => N10
  have S10 : Sx g L _ wd a _ r rl8 D oD J oJ := Sx.mk' N10 (by k_mem) dS9 (by k_mem) dW9 (by k_mem) dF9 (by k_mem) (by k_mem) (by k_mem) (by k_mem) S8.st.ar S8.Da S8.Dr S8.Ja S8.Jr
  refine wpC_any (wpAny_execs_nil (hQ _ ?_))
  refine law_check (v := v) (u := u8) X T hh hroom hu hw4 F10 rfl rfl rfl al8 S10.st I8 (Nat.lt_of_le_of_lt k8 hK) ?_
  intro h11 tk11 x11
  exact h _ _ _ _ (Ex.fr0 F10 x11) rfl (S10.ex0 (fun b o _ _ e => x11 b o (by simp) e)) I8 k8
end

section
variable {M : Model} {A : Around} {E : Value → Shared → Prop} {s : Shared} {env : Env}
theorem wpC_arg {e : Expr} {rest : List Expr} {pos : Pos} {Q : List Value → Shared → Prop}
    (h : wpC M A (eval e env) (fun v s₁ => wpC M A (spliced (backTo pos (starEach rest env))) (fun vs s₂ => Q (v :: vs) s₂) E s₁) E s)
    (he : starEach (e :: rest) env = (false, eval e env) :: starEach rest env := by rfl) : wpC M A (spliced (backTo pos (starEach (e :: rest) env))) Q E s := by
  rw [he]; exact wpC_spliced_cons h
end
section
variable {w : World} {A : Around} {s : Shared} {g : Heap} {mean : ExcName → Option Value} {mg mb : Str → Option Value} {E : Value → Shared → Prop} {Q : Flow → Shared → Prop}
theorem fresh_nat (x : Int) (wd : Nat) : ∃ nb : Nat, (x.fdiv 6).fmod ((256 : Int) ^ ((wd : Nat) : Int).toNat) = (nb : Int) ∧ nb < 256 ^ wd := by
  have hpw : ((256 : Int) ^ ((wd : Nat) : Int).toNat) = ((256 ^ wd : Nat) : Int) := by rw [Int.toNat_natCast]; push_cast; rfl
  have hpz : 0 < 256 ^ wd := Nat.pow_pos (by omega)
  rw [hpw, Int.fmod_eq_emod_of_nonneg _ (by omega)]
  have h1 := Int.emod_nonneg (x.fdiv 6) (b := ((256 ^ wd : Nat) : Int)) (by omega)
  have h2 := Int.emod_lt_of_pos (x.fdiv 6) (b := ((256 ^ wd : Nat) : Int)) (by omega)
  exact ⟨((x.fdiv 6) % ((256 ^ wd : Nat) : Int)).toNat, by omega, by omega⟩
theorem law_turn_call {L a r D J : Addr} {oD oJ : Obj} {m : Str → Option Value} {l : List BT} {rl : List NT} {wd : Nat} {x : Int} {t : Tok}
    (X : (hd.heap_39 w.params).In g) (T : Top hd.view_39 (looseW hd.view_39 []) mean mg mb g) (hh : A.handled = none) (hfr : A.frames = some []) (hroom : A.depth + 10 < recursionLimit) (hu : A.units + 200 < cLine) (hw2 : 2 ≤ wd) (hw4 : wd ≤ 4)
    (F : Fr g L s.heap m) (hx : m (Str.ofString "x") = some (.int x t)) (hp : m (Str.ofString "plain") = some (.ref r))
    (S : Sx g L s.heap wd a l r rl D oD J oJ) (I : Inv wd l rl) (hlen : rl.length < 40) (h6 : x.fmod 6 ≠ 4)
    (h : ∀ h' tk m' l' rl', Fr g L h' m' → m' (Str.ofString "plain") = some (.ref r) → Sx g L h' wd a l' r rl' D oD J oJ → Inv wd l' rl' → rl'.length ≤ rl.length + 1 → Q .next { s with heap := h', toks := tk }) :
    wpC (model PySem.Challenge.rw_nq0033_01.row.prog w) (A.deeper (lawEnv w L)) (execs (loopB w) (lawEnv w L)) Q (fun _ _ => False) s := by
  obtain ⟨nb, enb, hnb⟩ := fresh_nat x wd
  have hpw : ((256 : Int) ^ ((wd : Nat) : Int).toNat) = ((256 ^ wd : Nat) : Int) := by rw [Int.toNat_natCast]; push_cast; rfl
  have hpz : 0 < 256 ^ wd := Nat.pow_pos (by omega)
  have hz1 : ((256 : Int) ^ ((wd : Nat) : Int).toNat) ≠ 0 := by rw [hpw]; omega
  unfold loopB lawEnv
  dsimp only [lawD, mkLaw, List.getElem?_cons_succ, List.getElem?_cons_zero, forBody]
  have F := Fr.pins F (ps := [(Str.ofString "x", .int x t), (Str.ofString "plain", .ref r)]) ⟨hx, hp, trivial⟩
  obtain ⟨tS, vF, oS, oW, oF, nA, kR, NN, dS, dW, dF⟩ := S.news
  refine wpC_execs_consA ?_
  repeat walk1
  rename Fr _ _ _ _ => F2
  rename News _ _ _ _ => N2
  rw [enb] at F2
  refine wpC_execs_cons (wpC_If (wpC_any ?_))
  repeat walk1
  · exact absurd (by assumption) h6
  rename_i h6'
  refine wpC_execs_cons (wpC_Assign_Name (wpC_Call ?_) (by rfl))
  walk1
  refine wpC_CallK (K := hd.heap_39 w.params) (by k_is) ?_ (by rfl) (by rfl)
  refine wpC_arg (wpC_any ?_) (by rfl)
  walk1
  refine wpC_arg (wpC_any ?_) (by rfl)
  repeat walk1
  refine wpC_arg ?_ (by rfl)
  refine wpC_Call ?_
  walk1
  refine wpC_CallK (K := hd.heap_39 w.params) (by k_is) ?_ (by rfl) (by rfl)
  refine wpC_arg (wpC_any ?_) (by rfl)
  repeat walk1
  rename Fr _ _ _ _ => F3
  rename News _ _ _ _ => N3
  refine low_call (hb := g) X T (fun b o e => F3.keep b o e) hh (by first | exact deep_ok hroom | exact deep_lt hroom) hw4 ?_
  intro h4 tk4 t4 x4
  have S3 : Sx g L _ wd a l r rl D oD J oJ := Sx.mk' N3 (by k_mem) dS (by k_mem) dW (by k_mem) dF (by k_mem) (by k_mem) (by k_mem) (by k_mem) S.st.ar S.Da S.Dr S.Ja S.Jr
  have F4 := Ex.fr0 F3 x4
  have S4 := S3.ex0 (h' := h4) (fun b o hb hg e => x4 b o (by simp) e)
  clear F3 N3 S3 dS dW dF
  obtain ⟨tS4, vF4, oS4, oW4, oF4, nA4, kR4, NN4, dS4, dW4, dF4⟩ := S4.news
  refine wpC_arg (wpC_any ?_) (by rfl)
  walk1
  refine wpC_any ?_
  walk1
  refine ⟨X.keeps (fun b o e => F4.keep b o e), ?_⟩
  refine byteswap_call (hb := g) (mm := 1) X T (fun b o e => F4.keep b o e) hh (by first | exact deep_ok hroom | exact deep_lt hroom) (by omega) (by omega) (by rw [lowL_length]; omega) (by rw [lowL_length]; omega) ?_
  intro h5 tk5 t5 x5
  rw [swp_one (lowL_length nb wd) (by omega)]
  have F5 := Ex.fr0 F4 x5
  have S5 := S4.ex0 (h' := h5) (fun b o hb hg e => x5 b o (by simp) e)
  clear F4 S4 NN4 dS4 dW4 dF4
  refine wpC_any ?_
  walk1
  refine ⟨X.keeps (fun b o e => F5.keep b o e), ?_⟩
  obtain ⟨nq, hqa⟩ := S5.st.qa
  have hlen2 : l.length = rl.length := I.length
  have h40 : 40 < 60 := by decide
  have hcs : x.fmod 6 = 0 ∨ x.fmod 6 = 1 ∨ x.fmod 6 = 2 ∨ x.fmod 6 = 3 ∨ x.fmod 6 = 5 := by
    have e : x.fmod 6 = x % 6 := Int.fmod_eq_emod_of_nonneg _ (by omega)
    rw [e] at h6 ⊢; omega
  rcases hcs with hc | hc | hc | hc | hc <;> rw [hc]
  · refine wpC_any (called_push0 (hb := g) (x := d0) X T (fun b o e => F5.keep b o e) hqa S5.st.ga hh (by first | exact deep_ok hroom | exact deep_lt hroom) (by omega) ?_)
    intro h6 tk6 x6 hl6
    have F6 := x6.fr F5 S5.st.aL S5.st.ga
    have S6 := S5.exA x6 hl6
    clear F5 S5 hqa
    obtain ⟨tS6, vF6, oS6, oW6, oF6, nA6, kR6, NN6, dS6, dW6, dF6⟩ := S6.news
    walk1
    rename Fr _ _ _ _ => F7
    rename News _ _ _ _ => N7
    have S7 : Sx g L _ wd a _ r rl D oD J oJ := Sx.mk' N7 (by k_mem) dS6 (by k_mem) dW6 (by k_mem) dF6 (by k_mem) (by k_mem) (by k_mem) (by k_mem) S6.st.ar S6.Da S6.Dr S6.Ja S6.Jr
    clear N7 S6 dS6 dW6 dF6
    refine law_tail (v := .none) (K := (rl).length + 1) X T hh hroom hu hw4 (Nat.lt_of_le_of_lt hlen h40) F7 rfl rfl rfl rfl S7 ?_ (fun _ z => z) fun h11 tk11 m11 rl11 F11 hp11 S11 I11 k11 => h _ _ _ _ _ F11 hp11 S11 I11 k11
    intro s' n' t1' t2' t3' Q1 st' hra' hgr' kk
    rw [hc]
    refine due_push0 (hb := g) X T st' hra' hgr' hh (by first | exact deep_ok hroom | exact deep_lt hroom) (by units_room) hw4 (by omega) ?_
    intro h8 tk8 n8 rl8 x8 hl8 p8 s8
    have I8 := I.push (t := t5) rfl hnb p8 s8
    exact kk _ _ _ _ _ x8 hl8 (.inr (.inl ⟨rfl, rfl⟩)) I8 (by have := p8.length_eq; simp at this ⊢; omega)
  · cases rl with
    | nil =>
      obtain rfl := I.empty
      have gB : ∀ b o, g.get? b = some o → (hideAll h5 [L]).get? b = some o := fun b o e => hideAll_get _ (F5.keep b o e) (by
        intro q; have : b = L := by simpa using q
        subst this; exact absurd (Heap.lt_size e) (Nat.not_lt.mpr F5.above))
      refine wpC_any (called_none1 (hb := g) (B := hideAll h5 [L]) X T (fun b o e => F5.keep b o e) hqa S5.st.ga hh (by first | exact deep_ok hroom | exact deep_lt hroom) (Around.frames_deeper hfr) (fun b o e => of_hideAll _ e) (Heap.FunFrames.cons (by intro q; cases q) rfl F5.ns (hideAll_none _ (by simp)) trivial) gB ?_)
      intro h6 tk6 t6 st6 up6
      have F6 : Fr g L h6 _ := ⟨up6.ns F5.ns, fun b o e => st6 b o (gB b o e), F5.above⟩
      have S6 := S5.ex0 (h' := h6) (fun b o hb _ e => st6 b o (hideAll_get _ e (by simpa using hb)))
      clear F5 S5 hqa
      obtain ⟨tS6, vF6, oS6, oW6, oF6, nA6, kR6, NN6, dS6, dW6, dF6⟩ := S6.news
      walk1
      rename Fr _ _ _ _ => F7
      rename News _ _ _ _ => N7
      have S7 : Sx g L _ wd a _ r [] D oD J oJ := Sx.mk' N7 (by k_mem) dS6 (by k_mem) dW6 (by k_mem) dF6 (by k_mem) (by k_mem) (by k_mem) (by k_mem) S6.st.ar S6.Da S6.Dr S6.Ja S6.Jr
      clear N7 S6 dS6 dW6 dF6
      refine law_tail (v := .str (Str.ofString "nothing") t6) (K := ([]).length + 1) X T hh hroom hu hw4 (Nat.lt_of_le_of_lt hlen h40) F7 rfl rfl rfl rfl S7 ?_ (fun _ z => z) fun h11 tk11 m11 rl11 F11 hp11 S11 I11 k11 => h _ _ _ _ _ F11 hp11 S11 I11 k11
      intro s' n' t1' t2' t3' Q1 st' hra' hgr' kk
      rw [hc]
      refine due_none1 (hb := g) X T st' hra' hgr' hh (by first | exact deep_ok hroom | exact deep_lt hroom) (by units_room) hw4 ?_
      intro h8 tk8 t8 x8 hl8
      exact kk _ _ _ _ _ x8 hl8 (.inr (.inr ⟨t6, t8, rfl, rfl⟩)) I (by simp)
    | cons y rl =>
      obtain ⟨p, z, rfl⟩ : ∃ p z, l = p ++ [z] := by
        rcases List.eq_nil_or_concat l with e | ⟨p, z, e⟩
        · rw [e] at hlen2; simp at hlen2
        · exact ⟨p, z, by simpa using e⟩
      refine wpC_any (called_pop (hb := g) X T (fun b o e => F5.keep b o e) hqa S5.st.ga hh (by first | exact deep_ok hroom | exact deep_lt hroom) (by simp at hlen2 hlen; omega) ?_)
      intro h6 tk6 x6 hl6
      have F6 := x6.fr F5 S5.st.aL S5.st.ga
      have S6 := S5.exA x6 hl6
      clear F5 S5 hqa
      obtain ⟨ev, I8⟩ := I.pop
      obtain ⟨tS6, vF6, oS6, oW6, oF6, nA6, kR6, NN6, dS6, dW6, dF6⟩ := S6.news
      walk1
      rename Fr _ _ _ _ => F7
      rename News _ _ _ _ => N7
      have S7 : Sx g L _ wd a _ r (y :: rl) D oD J oJ := Sx.mk' N7 (by k_mem) dS6 (by k_mem) dW6 (by k_mem) dF6 (by k_mem) (by k_mem) (by k_mem) (by k_mem) S6.st.ar S6.Da S6.Dr S6.Ja S6.Jr
      clear N7 S6 dS6 dW6 dF6
      refine law_tail (v := bv (p.getD 0 z)) (K := ((y :: rl)).length + 1) X T hh hroom hu hw4 (Nat.lt_of_le_of_lt hlen h40) F7 rfl rfl rfl rfl S7 ?_ (fun _ z => z) fun h11 tk11 m11 rl11 F11 hp11 S11 I11 k11 => h _ _ _ _ _ F11 hp11 S11 I11 k11
      intro s' n' t1' t2' t3' Q1 st' hra' hgr' kk
      rw [hc]
      refine due_pop (hb := g) X T st' hra' hgr' hh (by first | exact deep_ok hroom | exact deep_lt hroom) (by units_room) hw4 (by simp at hlen; omega) ?_
      intro h8 tk8 t8 n8 x8 hl8
      exact kk _ _ _ _ _ x8 hl8 (.inl ⟨_, _, _, congrArg (fun q => Value.bytes q _) ev, rfl⟩) I8 (by simp; omega)
  · cases rl with
    | nil =>
      obtain rfl := I.empty
      have gB : ∀ b o, g.get? b = some o → (hideAll h5 [L]).get? b = some o := fun b o e => hideAll_get _ (F5.keep b o e) (by
        intro q; have : b = L := by simpa using q
        subst this; exact absurd (Heap.lt_size e) (Nat.not_lt.mpr F5.above))
      refine wpC_any (called_none2 (hb := g) (B := hideAll h5 [L]) X T (fun b o e => F5.keep b o e) hqa S5.st.ga hh (by first | exact deep_ok hroom | exact deep_lt hroom) (Around.frames_deeper hfr) (fun b o e => of_hideAll _ e) (Heap.FunFrames.cons (by intro q; cases q) rfl F5.ns (hideAll_none _ (by simp)) trivial) gB ?_)
      intro h6 tk6 t6 st6 up6
      have F6 : Fr g L h6 _ := ⟨up6.ns F5.ns, fun b o e => st6 b o (gB b o e), F5.above⟩
      have S6 := S5.ex0 (h' := h6) (fun b o hb _ e => st6 b o (hideAll_get _ e (by simpa using hb)))
      clear F5 S5 hqa
      obtain ⟨tS6, vF6, oS6, oW6, oF6, nA6, kR6, NN6, dS6, dW6, dF6⟩ := S6.news
      walk1
      rename Fr _ _ _ _ => F7
      rename News _ _ _ _ => N7
      have S7 : Sx g L _ wd a _ r [] D oD J oJ := Sx.mk' N7 (by k_mem) dS6 (by k_mem) dW6 (by k_mem) dF6 (by k_mem) (by k_mem) (by k_mem) (by k_mem) S6.st.ar S6.Da S6.Dr S6.Ja S6.Jr
      clear N7 S6 dS6 dW6 dF6
      refine law_tail (v := .str (Str.ofString "nothing") t6) (K := ([]).length + 1) X T hh hroom hu hw4 (Nat.lt_of_le_of_lt hlen h40) F7 rfl rfl rfl rfl S7 ?_ (fun _ z => z) fun h11 tk11 m11 rl11 F11 hp11 S11 I11 k11 => h _ _ _ _ _ F11 hp11 S11 I11 k11
      intro s' n' t1' t2' t3' Q1 st' hra' hgr' kk
      rw [hc]
      refine due_none2 (hb := g) X T st' hra' hgr' hh (by first | exact deep_ok hroom | exact deep_lt hroom) (by units_room) hw4 ?_
      intro h8 tk8 t8 x8 hl8
      exact kk _ _ _ _ _ x8 hl8 (.inr (.inr ⟨t6, t8, rfl, rfl⟩)) I (by simp)
    | cons y rl =>
      refine wpC_any (called_rep (hb := g) (x := d0) X T (fun b o e => F5.keep b o e) hqa S5.st.ga hh (by first | exact deep_ok hroom | exact deep_lt hroom) (by simp at hlen2 hlen; omega) (by simp at hlen2; omega) ?_)
      intro h6 tk6 x6 hl6
      have F6 := x6.fr F5 S5.st.aL S5.st.ga
      have S6 := S5.exA x6 hl6
      clear F5 S5 hqa
      obtain ⟨tS6, vF6, oS6, oW6, oF6, nA6, kR6, NN6, dS6, dW6, dF6⟩ := S6.news
      walk1
      rename Fr _ _ _ _ => F7
      rename News _ _ _ _ => N7
      have S7 : Sx g L _ wd a _ r (y :: rl) D oD J oJ := Sx.mk' N7 (by k_mem) dS6 (by k_mem) dW6 (by k_mem) dF6 (by k_mem) (by k_mem) (by k_mem) (by k_mem) S6.st.ar S6.Da S6.Dr S6.Ja S6.Jr
      clear N7 S6 dS6 dW6 dF6
      refine law_tail (v := bv (l.getD 0 d0)) (K := ((y :: rl)).length + 1) X T hh hroom hu hw4 (Nat.lt_of_le_of_lt hlen h40) F7 rfl rfl rfl rfl S7 ?_ (fun _ z => z) fun h11 tk11 m11 rl11 F11 hp11 S11 I11 k11 => h _ _ _ _ _ F11 hp11 S11 I11 k11
      intro s' n' t1' t2' t3' Q1 st' hra' hgr' kk
      rw [hc]
      refine due_rep (hb := g) X T st' hra' hgr' hh (by first | exact deep_ok hroom | exact deep_lt hroom) (by units_room) hw4 (by simp at hlen; omega) ?_
      intro h8 tk8 t8 n8 rl8 x8 hl8 p8 s8
      obtain ⟨ev, I8⟩ := I.rep (t := t5) rfl hnb p8 s8
      exact kk _ _ _ _ _ x8 hl8 (.inl ⟨_, _, _, congrArg (fun q => Value.bytes q _) ev, rfl⟩) I8 (by have := p8.length_eq; simp at this ⊢; omega)
  · refine wpC_any (called_pp (hb := g) (x := d0) X T (fun b o e => F5.keep b o e) hqa S5.st.ga hh (by first | exact deep_ok hroom | exact deep_lt hroom) (by omega) ?_)
    intro h6 tk6 x6 hl6
    have F6 := x6.fr F5 S5.st.aL S5.st.ga
    have S6 := S5.exA x6 hl6
    clear F5 S5 hqa
    obtain ⟨tS6, vF6, oS6, oW6, oF6, nA6, kR6, NN6, dS6, dW6, dF6⟩ := S6.news
    walk1
    rename Fr _ _ _ _ => F7
    rename News _ _ _ _ => N7
    have S7 : Sx g L _ wd a _ r rl D oD J oJ := Sx.mk' N7 (by k_mem) dS6 (by k_mem) dW6 (by k_mem) dF6 (by k_mem) (by k_mem) (by k_mem) (by k_mem) S6.st.ar S6.Da S6.Dr S6.Ja S6.Jr
    clear N7 S6 dS6 dW6 dF6
    refine law_tail (v := bv (if 0 < l.length ∧ blt (l.getD 0 d0) ((lowL nb wd).reverse.toArray, t5) = true then l.getD 0 d0 else ((lowL nb wd).reverse.toArray, t5))) (K := (rl).length + 1) X T hh hroom hu hw4 (Nat.lt_of_le_of_lt hlen h40) F7 rfl rfl rfl rfl S7 ?_ (fun _ z => z) fun h11 tk11 m11 rl11 F11 hp11 S11 I11 k11 => h _ _ _ _ _ F11 hp11 S11 I11 k11
    intro s' n' t1' t2' t3' Q1 st' hra' hgr' kk
    rw [hc]
    refine due_pp (hb := g) X T st' hra' hgr' hh (by first | exact deep_ok hroom | exact deep_lt hroom) (by units_room) hw4 (by omega) ?_
    intro h8 tk8 t8 n8 rl8 z8 x8 hl8 p8 s8
    obtain ⟨ev, I8⟩ := I.pp (t := t5) rfl hnb p8 s8
    exact kk _ _ _ _ _ x8 hl8 (.inl ⟨_, _, _, congrArg (fun q => Value.bytes q _) ev, rfl⟩) I8 (by have := p8.length_eq; simp at this ⊢; omega)
  · refine wpC_any (called_push5 (hb := g) (x := d0) X T (fun b o e => F5.keep b o e) hqa S5.st.ga hh (by first | exact deep_ok hroom | exact deep_lt hroom) (by omega) ?_)
    intro h6 tk6 x6 hl6
    have F6 := x6.fr F5 S5.st.aL S5.st.ga
    have S6 := S5.exA x6 hl6
    clear F5 S5 hqa
    obtain ⟨tS6, vF6, oS6, oW6, oF6, nA6, kR6, NN6, dS6, dW6, dF6⟩ := S6.news
    walk1
    rename Fr _ _ _ _ => F7
    rename News _ _ _ _ => N7
    have S7 : Sx g L _ wd a _ r rl D oD J oJ := Sx.mk' N7 (by k_mem) dS6 (by k_mem) dW6 (by k_mem) dF6 (by k_mem) (by k_mem) (by k_mem) (by k_mem) S6.st.ar S6.Da S6.Dr S6.Ja S6.Jr
    clear N7 S6 dS6 dW6 dF6
    refine law_tail (v := .none) (K := (rl).length + 1) X T hh hroom hu hw4 (Nat.lt_of_le_of_lt hlen h40) F7 rfl rfl rfl rfl S7 ?_ (fun _ z => z) fun h11 tk11 m11 rl11 F11 hp11 S11 I11 k11 => h _ _ _ _ _ F11 hp11 S11 I11 k11
    intro s' n' t1' t2' t3' Q1 st' hra' hgr' kk
    rw [hc]
    refine due_push5 (hb := g) X T st' hra' hgr' hh (by first | exact deep_ok hroom | exact deep_lt hroom) (by units_room) hw4 (by omega) ?_
    intro h8 tk8 n8 rl8 x8 hl8 p8 s8
    have I8 := I.push (t := t5) rfl hnb p8 s8
    exact kk _ _ _ _ _ x8 hl8 (.inr (.inl ⟨rfl, rfl⟩)) I8 (by have := p8.length_eq; simp at this ⊢; omega)
end

/-! the plain part: the turn of all words -/
theorem paired_words_from {a c : Int} (hc : c ≠ 0) {f : Nat → Array UInt8} : ∀ {vs ys : List Value} (k : Nat), (∀ j v, vs[j]? = some v → ∃ t, v = Value.int (a + (k + j : Nat) * c) t) →
    Paired (fun v y => ∃ (i : Nat) (t u : Tok), v = Value.int (a + i * c) t ∧ y = Value.bytes (f i) u) vs ys → ∃ yl : List BT, ys = yl.map bv ∧ yl.map (·.1) = (List.range' k vs.length).map f
  | [], _, _, _, hp => by cases hp; exact ⟨[], rfl, rfl⟩
  | v :: vs, _, k, h, hp => by
    cases hp with
    | cons hf hr =>
      obtain ⟨i, t, u, e1, rfl⟩ := hf
      obtain ⟨t', e2⟩ := h 0 v rfl
      have : i = k := by
        rw [e2] at e1
        injection e1 with e1 _
        have e3 : ((i : Int) - k) * c = 0 := by
          have : (a + (k + 0 : Nat) * c) = a + i * c := e1
          rw [Int.sub_mul]; simp at this; omega
        rcases Int.mul_eq_zero.mp e3 with h1 | h1
        · omega
        · exact absurd h1 hc
      subst this
      obtain ⟨yl, rfl, e4⟩ := paired_words_from hc (i + 1) (fun j v hv => by
        obtain ⟨t, e⟩ := h (j + 1) v (by simpa using hv)
        exact ⟨t, by rw [e, show i + (j + 1) = i + 1 + j by omega]⟩) hr
      exact ⟨(f i, u) :: yl, rfl, by rw [List.length_cons, List.range'_succ, List.map_cons, List.map_cons, e4]⟩
theorem paired_words {a c : Int} (hc : c ≠ 0) {f : Nat → Array UInt8} {n : Nat} {vs ys : List Value} (hl : vs.length = n) (h : ∀ j v, vs[j]? = some v → ∃ t, v = Value.int (a + (j : Nat) * c) t)
    (hp : Paired (fun v y => ∃ (i : Nat) (t u : Tok), v = Value.int (a + i * c) t ∧ y = Value.bytes (f i) u) vs ys) : ∃ yl : List BT, ys = yl.map bv ∧ yl.map (·.1) = (List.range n).map f := by
  have := paired_words_from hc 0 (fun j v hv => by simpa using h j v hv) hp
  rw [hl, ← List.range_eq_range'] at this; exact this
abbrev revA (b : Array UInt8) : Array UInt8 := b.toList.reverse.toArray
theorem Inv.flip {wd : Nat} {l l2 : List BT} {rl rl' : List NT} (I : Inv wd l rl) (h1 : 2 ≤ wd) (h2 : wd ≤ 4) (hl : l2.map (·.1) = l.map fun p => revA p.1)
    (hp : (rl'.map (·.1)).Perm (rl.map fun p => other p.1 wd)) (hs : (rl'.map (·.1)).Pairwise (· ≤ ·)) : Inv wd (hf l2 (l2.length / 2)) rl' := by
  refine Inv.make ?_ hs ?_
  · have e1 : l2.map (·.1) = (l.map (·.1)).map revA := by rw [hl, List.map_map]; rfl
    rw [e1]
    refine (I.words.map revA).trans ?_
    have e2 : (rl.map fun p => wordOf wd p.1).map revA = (rl.map fun p => other p.1 wd).map (wordOf wd) := by
      rw [List.map_map, List.map_map]
      apply List.map_congr_left
      intro p _
      simp only [Function.comp_apply, wordOf_eq, revA, other_hi h1 h2]
      simp [hiL]
    rw [e2]
    have := (hp.map (wordOf wd)).symm
    simpa [List.map_map, Function.comp_def] using this
  · intro p hp'
    have : p.1 ∈ rl.map fun p => other p.1 wd := hp.mem_iff.mp (List.mem_map_of_mem hp')
    obtain ⟨q, _, e⟩ := List.mem_map.mp this
    rw [← e]; exact other_small h1 h2
theorem Inv.lens {wd : Nat} {l : List BT} {rl : List NT} (I : Inv wd l rl) : ∀ x ∈ l.map (·.1.toList), x.length = wd := by
  intro x hx
  obtain ⟨p, hp, rfl⟩ := List.mem_map.mp hx
  obtain ⟨q, _, e⟩ := List.mem_map.mp (I.words.mem_iff.mp (List.mem_map_of_mem hp : p.1 ∈ l.map (·.1)))
  rw [← e, wordOf_eq]
  simp [hiL_length]
theorem flip_flat {wd : Nat} {l : List BT} {rl : List NT} (I : Inv wd l rl) (h1 : 1 ≤ wd) : swp (l.map (·.1.toList)).flatten wd = (l.map fun p => p.1.toList.reverse).flatten := by
  rw [swp_flatten h1 _ I.lens, List.map_map]; rfl
theorem pick_word {ws : List (List UInt8)} {i wd : Nat} (hi : i < ws.length) (h : ∀ x ∈ ws, x.length = wd) : KBy.picked ws.flatten.toArray (some (0 + (i : Int) * wd)) (some (0 + (i : Int) * wd + wd)) = ws[i].toArray := by
  have e1 : (0 + (i : Int) * wd) = ((i * wd : Nat) : Int) := by push_cast; omega
  have e2 : (0 + (i : Int) * wd + wd) = ((i * wd + wd : Nat) : Int) := by push_cast; omega
  have hle : (i + 1) * wd ≤ ws.length * wd := Nat.mul_le_mul_right _ hi
  have hsz : ws.flatten.toArray.size = ws.length * wd := by rw [List.size_toArray, flatten_length ws h]
  rw [Nat.add_mul, Nat.one_mul] at hle
  rw [KBc.picked_eq, e2, e1]
  simp only [Option.elim, clipAt_nat, hsz]
  rw [Nat.min_eq_left (by omega), Nat.min_eq_left (by omega), show i * wd + wd - i * wd = wd by omega]
  congr 1
  exact cut_at ws i hi h
theorem getm_join {M : Model} {A : Around} {E : Value → Shared → Prop} {s : Shared} {b : Array UInt8} {t : Tok} {pl : Sem Bool} {Q : Value × List Value → Shared → Prop} (h : Q (.builtin "bytes.join", [.bytes b t]) s) :
    wpAny M A (getMethod (.bytes b t) (Str.ofString "join") pl) Q E s :=
  KBd.method_of (.bytes b t) (typeIs_bytes _ _ _) slot_join type_join KBd.noRef h
local macro_rules | `(tactic| walk_at "getMethod bytes") => `(tactic| refine getm_join ?_)

theorem cell_ne_obj {h : Heap} {o o' : Obj} {b c : Addr} {v : Option Value} (h1 : h.get? b = some o) (d : o.data = .cell v) (h2 : h.get? c = some o') (nc : ∀ v, o'.data ≠ .cell v) : b ≠ c := fun e => by
  rw [e, h2] at h1; cases h1; exact nc _ d
section
variable {prog : Program} {w : World} {A : Around} {E : Value → Shared → Prop} {s : Shared} {value slice : Expr} {b : Array UInt8} {t : Tok} {l u : Value} {lo hi : Option Int} {Q : Value → Shared → Prop}
theorem slice_W (hl : IsPart l lo) (hu : IsPart u hi) (hz : b.size ≤ 16777216)
    (h : ∀ t' k, Q (.bytes (KBy.picked b lo hi) t') { s with heap := s.heap.push { cls := .type "slice", data := .fields #[l, u, .none] }, toks := k })
    (hs : subscripted slice false (.bytes b t) (.ref s.heap.objs.size) = operate [.ref s.heap.objs.size, .bytes b t] (getItem (.bytes b t) (.ref s.heap.objs.size)) := by with_unfolding_all rfl)
    (ht : ∀ r, letTemporaryGo value (.bytes b t) r = pure () := by intro _; with_unfolding_all rfl) :
    wpAny (model prog w) A (subscriptTail value slice (.bytes b t) (.ref s.heap.objs.size)) Q E { s with heap := s.heap.push { cls := .type "slice", data := .fields #[l, u, .none] } } :=
  tail_of_ItemOn ⟨"bytes", _, FB.slot_bytes_getitem.lookup, typeIs_bytes _ _ _, getItem_meets (typeIs_bytes _ _ _) (by decide) FB.slot_bytes_getitem FB.entry_bytes_getitem (FB.args_bytes_getitem_2 _ _) (KBc.meets_slice2 b t _ hl hu)
    ⟨Heap.IsSliceOf.new _ _ _ _, Nat.le_trans (KBc.size_picked_le b lo hi) (by rw [sizeLine_eq]; exact hz), fun t' k => h t' k⟩⟩ hs ht
end
section
variable {w : World} {A : Around} {s : Shared} {g : Heap} {mean : ExcName → Option Value} {mg mb : Str → Option Value} {E : Value → Shared → Prop} {Q : Flow → Shared → Prop}
theorem law_turn_flip {L a r D J : Addr} {oD oJ : Obj} {m : Str → Option Value} {l : List BT} {rl : List NT} {wd : Nat} {x : Int} {t : Tok}
    (X : (hd.heap_39 w.params).In g) (T : Top hd.view_39 (looseW hd.view_39 []) mean mg mb g) (hh : A.handled = none) (hroom : A.depth + 10 < recursionLimit) (hu : A.units + 200 < cLine) (hw2 : 2 ≤ wd) (hw4 : wd ≤ 4)
    (F : Fr g L s.heap m) (hx : m (Str.ofString "x") = some (.int x t)) (hp : m (Str.ofString "plain") = some (.ref r)) (nD : ∀ v, oD.data ≠ .cell v) (nJ : ∀ v, oJ.data ≠ .cell v)
    (S : Sx g L s.heap wd a l r rl D oD J oJ) (I : Inv wd l rl) (hlen : rl.length < 40) (h6 : x.fmod 6 = 4)
    (h : ∀ h' tk m' a' r' l' rl', Fr g L h' m' → m' (Str.ofString "plain") = some (.ref r') → Sx g L h' wd a' l' r' rl' D oD J oJ → Inv wd l' rl' → rl'.length ≤ rl.length + 1 → Q .next { s with heap := h', toks := tk }) :
    wpC (model PySem.Challenge.rw_nq0033_01.row.prog w) (A.deeper (lawEnv w L)) (execs (loopB w) (lawEnv w L)) Q (fun _ _ => False) s := by
  have hpw : ((256 : Int) ^ ((wd : Nat) : Int).toNat) = ((256 ^ wd : Nat) : Int) := by rw [Int.toNat_natCast]; push_cast; rfl
  have hpz : 0 < 256 ^ wd := Nat.pow_pos (by omega)
  have hz1 : ((256 : Int) ^ ((wd : Nat) : Int).toNat) ≠ 0 := by rw [hpw]; omega
  have hlen2 : l.length = rl.length := I.length
  have hfl : (l.map (·.1.toList)).flatten.length = l.length * wd := by rw [flatten_length _ I.lens, List.length_map]
  have hfb : l.length * wd ≤ 40 * 4 := Nat.mul_le_mul (by omega) hw4
  unfold loopB lawEnv
  dsimp only [lawD, mkLaw, List.getElem?_cons_succ, List.getElem?_cons_zero, forBody]
  have F := Fr.pins F (ps := [(Str.ofString "x", .int x t), (Str.ofString "plain", .ref r)]) ⟨hx, hp, trivial⟩
  obtain ⟨tS, vF, oS, oW, oF, nA, kR, NN, dS, dW, dF⟩ := S.news
  refine wpC_execs_consA ?_
  repeat walk1
  rename Fr _ _ _ _ => F2
  rename News _ _ _ _ => N2
  refine wpC_execs_cons (wpC_If (wpC_any ?_))
  repeat walk1
  rotate_left
  · exact absurd h6 (by assumption)
  refine wpC_execs_cons (wpC_Assign_Name (wpC_Call ?_) (by rfl))
  walk1
  refine wpC_CallK (K := hd.heap_39 w.params) (by k_is) ?_ (by rfl) (by rfl)
  refine wpC_arg (wpC_any ?_) (by rfl)
  repeat walk1
  rename Fr _ _ _ _ => F3
  rename News _ _ _ _ => N3
  refine join_b (N3 (a, bl l nA) (by k_mem)).1 (by rw [hfl]; omega) ?_
  intro t4 tk4
  refine wpC_arg (wpC_any ?_) (by rfl)
  repeat walk1
  refine wpC_any ?_
  walk1
  refine ⟨X.keeps (fun b o e => F3.keep b o e), ?_⟩
  refine byteswap_call (hb := g) (mm := l.length) X T (fun b o e => F3.keep b o e) hh (by first | exact deep_ok hroom | exact deep_lt hroom) (by omega) (by omega) hfl (by rw [hfl]; omega) ?_
  intro h5 tk5 t5 x5
  rw [flip_flat I (by omega)]
  generalize hws : (l.map fun p => p.1.toList.reverse) = ws
  have hwl : ∀ x ∈ ws, x.length = wd := by
    intro x hx
    rw [← hws] at hx
    obtain ⟨p, hp, rfl⟩ := List.mem_map.mp hx
    rw [List.length_reverse]; exact I.lens _ (List.mem_map_of_mem hp)
  have hwn : ws.length = l.length := by rw [← hws, List.length_map]
  have hwf : ws.flatten.length = l.length * wd := by rw [flatten_length _ hwl, hwn]
  have F5 := Ex.fr0 F3 x5
  have S3 : Sx g L _ wd a l r rl D oD J oJ := Sx.mk' N3 (by k_mem) dS (by k_mem) dW (by k_mem) dF (by k_mem) (by k_mem) (by k_mem) (by k_mem) S.st.ar S.Da S.Dr S.Ja S.Jr
  have S5 := S3.ex0 (h' := h5) (fun b o hb hg e => x5 b o (by simp) e)
  clear F3 N3 S3 dS dW dF
  obtain ⟨tS5, vF5, oS5, oW5, oF5, nA5, kR5, N5, dS5, dW5, dF5⟩ := S5.news
  refine store_cell (c := L + 3) (keep := [(L + 1, oS5), (L + 2, oW5), (a, bl l nA5), (r, il rl kR5), (D, oD), (J, oJ)]) rfl rfl rfl F5 N5 (o := oF5) (by k_mem) dF5 ?_ ?_
  · intro q hq
    have zF : h5.get? (L + 3) = some oF5 := (N5 (L + 3, oF5) (by k_mem)).1
    simp only [List.mem_cons, List.not_mem_nil, or_false] at hq
    rcases hq with rfl | rfl | rfl | rfl | rfl | rfl
    · exact ⟨by k_mem, addr_ne (by show @Ne Nat (L + 1) (L + 3); omega)⟩
    · exact ⟨by k_mem, addr_ne (by show @Ne Nat (L + 2) (L + 3); omega)⟩
    · exact ⟨by k_mem, (cell_ne_seq zF dF5 (N5 (a, bl l nA5) (by k_mem)).1).symm⟩
    · exact ⟨by k_mem, (cell_ne_seq zF dF5 (N5 (r, il rl kR5) (by k_mem)).1).symm⟩
    · exact ⟨by k_mem, (cell_ne_obj zF dF5 (N5 (D, oD) (by k_mem)).1 nD).symm⟩
    · exact ⟨by k_mem, (cell_ne_obj zF dF5 (N5 (J, oJ) (by k_mem)).1 nJ).symm⟩
  intro h6 oF6 F6 N6 dF6
  clear F5 N5 S5
  refine wpC_execs_cons (wpC_Assign_Name (wpC_any ?_) (by rfl))
  refine ListComp_W (fun _ => true) (fun v y => ∃ (i : Nat) (t u : Tok), v = Value.int (0 + i * (wd : Int)) t ∧ y = Value.bytes (ws.getD i []).toArray u) (cl := [(Str.ofString "size", L + 1), (Str.ofString "flat", L + 3)]) rfl (by decide) rfl (by decide) rfl ?_ (by intro _; rfl)
  repeat walk1

  rename IsRange _ _ _ _ _ _ _ _ => hr
  rename Fr _ _ _ _ => F7
  rename News _ _ _ _ => N7
  refine comp_rng (n := l.length) hr (small_up (by simp [hwf]; omega) (by simp [hwf]; omega) (by omega) (by omega) _ (by omega) (by omega)) (by simp only [List.size_toArray, hwf]; exact rs_mul _ _ (by omega)) (by simp [sizeLine]; omega) hh F7 N7 X T (fun _ _ _ _ _ _ _ _ _ _ _ _ _ => tests_nil) ?_ ?_
  · intro g' C i t s₃ m₃ E' hi _ X3 T3 sg F3 hm
    have F3 := Fr.pins F3 (ps := [(Str.ofString "k", _)]) ⟨hm, trivial⟩
    have hc1 : g'.IsCell (L + 1) (some (.int wd tS5)) := ⟨_, sg _ _ (N7 (L + 1, oS5) (by k_mem)).1, dS5⟩
    have hc2 : g'.IsCell (L + 3) (some (.bytes ws.flatten.toArray t5)) := ⟨_, sg _ _ (N7 (L + 3, oF6) (by k_mem)).1, dF6⟩
    clear F7 N7 hr
    have N3 : News g' C s₃.heap [] := News.nil
    iterate 11 walk1
    refine slice_W (s := ⟨_, _, _, _, _⟩) (by constructor) (by constructor) (by rw [List.size_toArray, hwf]; omega) ?_ (by with_unfolding_all rfl) (by intro _; with_unfolding_all rfl)
    intro t4 k4
    rw [pick_word (by omega) hwl]
    have e4 : ws[i]'(by omega) = ws.getD i [] := by rw [List.getD_eq_getElem?_getD, List.getElem?_eq_getElem (by omega)]; rfl
    rw [e4]
    exact And.intro ⟨i, _, _, rfl, rfl⟩ ⟨_, _, rfl, fun b o e => Heap.get?_push_of_some _ e⟩
  · intro D8 h8 tk8 ys vs k8 F8 N8 nd8 x8 hlen8 hP8 hF8
    rw [filter_tt] at hF8
    obtain ⟨l2, e2, hl2⟩ := paired_words (by omega) hlen8 hP8 hF8
    obtain rfl : ys = (l2.map bv).toArray := by rw [← e2, Array.toArray_toList]
    have hl3 : l2.map (·.1) = l.map fun p => revA p.1 := by
      rw [hl2]
      apply List.ext_getElem (by simp)
      intro i h1 h2
      have hi : i < l.length := by simpa using h2
      have : ws.getD i [] = l[i].1.toList.reverse := by
        rw [← hws, List.getD_eq_getElem?_getD, List.getElem?_map, List.getElem?_eq_getElem hi]; rfl
      simp only [List.getElem_map, List.getElem_range]; rw [this]
    have hl2l : l2.length = l.length := by have := congrArg List.length hl3; simpa using this
    clear F7 N7 hF8 hP8 e2 hl2 hr
    refine store_cell (c := L + 2) (keep := [(L + 1, oS5), (L + 3, oF6), (D8, bl l2 k8), (r, il rl kR5), (D, oD), (J, oJ)]) rfl rfl rfl F8 N8 (o := oW5) (by k_mem) dW5 ?_ ?_
    · intro q hq
      have zW : h8.get? (L + 2) = some oW5 := (N8 (L + 2, oW5) (by k_mem)).1
      simp only [List.mem_cons, List.not_mem_nil, or_false] at hq
      rcases hq with rfl | rfl | rfl | rfl | rfl | rfl
      · exact ⟨by k_mem, addr_ne (by show @Ne Nat (L + 1) (L + 2); omega)⟩
      · exact ⟨by k_mem, addr_ne (by show @Ne Nat (L + 3) (L + 2); omega)⟩
      · exact ⟨by k_mem, (cell_ne_seq zW dW5 (N8 (D8, bl l2 k8) (by k_mem)).1).symm⟩
      · exact ⟨by k_mem, (cell_ne_seq zW dW5 (N8 (r, il rl kR5) (by k_mem)).1).symm⟩
      · exact ⟨by k_mem, (cell_ne_obj zW dW5 (N8 (D, oD) (by k_mem)).1 nD).symm⟩
      · exact ⟨by k_mem, (cell_ne_obj zW dW5 (N8 (J, oJ) (by k_mem)).1 nJ).symm⟩
    intro h9 oW9 F9 N9 dW9
    have S9 : Sx g L h9 wd D8 l2 r rl D oD J oJ := Sx.mk' N9 (by k_mem) dS5 (by k_mem) dW9 (by k_mem) dF6 (by k_mem) (by k_mem) (by k_mem) (by k_mem)
      (nd8 (r, il rl kR5) (by k_mem)).symm (nd8 (D, oD) (by k_mem)) S.Dr (nd8 (J, oJ) (by k_mem)) S.Jr
    clear N9 F8 N8 nd8 dW5 dF5 dS5 dF6 dW9
    refine wpC_execs_consA ?_
    obtain ⟨tSa, vFa, oSa, oWa, oFa, nAa, kRa, Na, dSa, dWa, dFa⟩ := S9.news
    repeat walk1
    refine heapify_call (hb := g) X T (fun b o e => F9.keep b o e) (Na (D8, bl l2 nAa) (by k_mem)).1 (Na.fresh (by k_mem)) hh (by first | exact deep_ok hroom | exact deep_lt hroom) (by omega) ?_
    intro h10 tk10 x10 hl10
    have F10 := x10.fr F9 S9.st.aL S9.st.ga
    have S10 := S9.exA x10 hl10
    clear F9 Na S9 dSa dWa dFa
    obtain ⟨tSb, vFb, oSb, oWb, oFb, nAb, kRb, Nb, dSb, dWb, dFb⟩ := S10.news
    repeat walk1
    rename Fr _ _ _ _ => Fc
    rename News _ _ _ _ => Nc
    refine unpackItemsN_ Fc Nc (News.isTup Nc (.head _)) hh rfl ?_
    intro h11 F11 N11
    clear Fc Nc
    repeat walk1
    refine wpC_execs_consA ?_
    iterate 5 walk1
    rename Fr _ _ _ _ => F12
    rename News _ _ _ _ => N12
    have S12 : Sx g L _ wd D8 _ r rl D oD J oJ := Sx.mk' N12 (by k_mem) dSb (by k_mem) dWb (by k_mem) dFb (by k_mem) (by k_mem) (by k_mem) (by k_mem) S10.st.ar S10.Da S10.Dr S10.Ja S10.Jr
    clear N12 S10 dSb dWb dFb
    obtain ⟨tSc, vFc, oSc, oWc, oFc, nAc, kRc, N12, dSc, dWc, dFc⟩ := S12.news
    refine ListComp_W (fun _ => true) (fun v y => ∃ (n : Nat) (t u : Tok), v = Value.int n t ∧ y = Value.int ((other n wd : Nat) : Int) u) (cl := [(Str.ofString "size", L + 1)]) rfl (by decide) rfl (by decide) rfl ?_ (by intro _; rfl)
    repeat walk1
    refine comp_lst (items := (rl.map iv).toArray) (isList_il (N12 (r, il rl kRc) (by k_mem)).1) (by simp [sizeLine]; omega) hh F12 N12 X T (fun _ _ _ _ _ _ _ _ _ _ _ _ _ => tests_nil) ?_ ?_
    · intro g' C i v s₃ m₃ E' hi _ X4 T4 sg F4 hm
      obtain ⟨p, _, rfl⟩ : ∃ p ∈ rl, iv p = v := by
        have := List.mem_of_getElem? (by simpa using hi : (rl.map iv)[i]? = some v)
        simpa using this
      have F4 := Fr.pins F4 (ps := [(Str.ofString "y", _)]) ⟨hm, trivial⟩
      have hc2 : g'.IsCell (L + 1) (some (.int wd tSc)) := ⟨_, sg _ _ (N12 (L + 1, oSc) (by k_mem)).1, dSc⟩
      clear F12 N12
      have N4 : News g' C s₃.heap [] := News.nil
      repeat walk1
      refine other_call (n := p.1) (hb := g') X4 T4 (fun b o e => F4.keep b o e) hh (by first | exact deep_ok hroom | exact deep_lt hroom) hw4 ?_
      intro h5 tk5 t5 x5
      k_unfold
      (try dsimp only)
      exact And.intro ⟨p.1, _, _, rfl, rfl⟩ (keeps_ex x5)
    · intro Dd hd' tkd ysd kd Fd Nd ndd xd hFd
      rw [filter_tt] at hFd
      obtain ⟨l0, e0, hl0⟩ := nums_of (f := fun n => other n wd) (ks := rl) (by simpa using hFd)
      obtain rfl : ysd = (l0.map iv).toArray := by rw [← e0, Array.toArray_toList]
      have hl0l : l0.length = rl.length := by have := congrArg List.length hl0; simpa using this
      clear F12 N12 hFd e0
      iterate 1 walk1
      refine sorted_i Fd Nd (l := l0) (n := kd) (a := Dd) (Nd (Dd, il l0 kd) (by k_mem)).1 (by omega) ?_
      intro he Re rle ee Fe Ne nde pe se
      have Ie := I.flip (l2 := l2) (rl' := rle) hw2 hw4 hl3 (by rw [← hl0]; exact pe) se
      have hrle : rle.length = rl.length := by have := pe.length_eq; simpa [hl0l] using this
      have Se : Sx g L he wd D8 _ Re rle D oD J oJ := Sx.mk' Ne (by k_mem) dSc (by k_mem) dWc (by k_mem) dFc (by k_mem) (by k_mem) (by k_mem) (by k_mem)
        (nde (D8, bl (hf l2 (l2.length / 2)) nAc) (by k_mem)) S12.Da (nde (D, oD) (by k_mem)) S12.Ja (nde (J, oJ) (by k_mem))
      clear Fd Nd Ne dSc dWc dFc
      obtain ⟨tSf, vFf, oSf, oWf, oFf, nAf, kRf, Nf, dSf, dWf, dFf⟩ := Se.news
      repeat walk1
      rename Fr _ _ _ _ => Fg
      rename News _ _ _ _ => Ng
      have Sg : Sx g L _ wd D8 _ Re rle D oD J oJ := Sx.mk' Ng (by k_mem) dSf (by k_mem) dWf (by k_mem) dFf (by k_mem) (by k_mem) (by k_mem) (by k_mem) Se.st.ar Se.Da Se.Dr Se.Ja Se.Jr
      refine wpC_any (wpAny_execs_nil ?_)
      refine law_check (v := .none) (u := .none) X T hh hroom hu hw4 Fg rfl rfl rfl (.inr (.inl ⟨rfl, rfl⟩)) Sg.st Ie (by omega) ?_
      intro h20 tk20 x20
      exact h _ _ _ _ _ _ _ (Ex.fr0 Fg x20) rfl (Sg.ex0 (fun b o _ _ e => x20 b o (by simp) e)) Ie (by omega)
end

/-- the words of the row, joined -/
def upL (wd : Nat) (rl : List NT) : List UInt8 := (rl.map fun p => hiL p.1 wd).flatten
noncomputable def post8 (w : World) : List Stmt := (lawD w).body.drop 8
section
variable {w : World} {A : Around} {s : Shared} {g : Heap} {mean : ExcName → Option Value} {mg mb : Str → Option Value} {E : Value → Shared → Prop} {Q : Flow → Shared → Prop}
theorem law_post8_none {L a r : Addr} {m : Str → Option Value} {wd : Nat} {tu : Tok}
    (X : (hd.heap_39 w.params).In g) (T : Top hd.view_39 (looseW hd.view_39 []) mean mg mb g) (hh : A.handled = none) (hfr : A.frames = some []) (hroom : A.depth + 10 < recursionLimit) (hu : A.units + 200 < cLine)
    (F : Fr g L s.heap m) (hup : m (Str.ofString "up") = some (.bytes #[] tu)) (hp : m (Str.ofString "plain") = some (.ref r))
    (S : St g L s.heap wd a [] r [])
    (h : ∀ h' tk m', Fr g L h' m' → Q (.ret (.bool true)) { s with heap := h', toks := tk }) :
    wpC (model PySem.Challenge.rw_nq0033_01.row.prog w) (A.deeper (lawEnv w L)) (execs (post8 w) (lawEnv w L)) Q (fun _ _ => False) s := by
  unfold post8 lawEnv
  dsimp only [lawD, mkLaw, List.drop_succ_cons, List.drop_zero]
  have F := Fr.pins F (ps := [(Str.ofString "up", .bytes #[] tu), (Str.ofString "plain", .ref r)]) ⟨hup, hp, trivial⟩
  obtain ⟨tS, vF, oS, oW, oF, nA, kR, NN, dS, dW, dF⟩ := S.news
  refine wpC_execs_cons (wpC_Try ?_)
  refine wpC_execs_cons (wpC_Assign_Name (wpC_Call ?_) (by rfl))
  walk1
  refine wpC_CallK (K := hd.heap_39 w.params) (by k_is) ?_ (by rfl) (by rfl)
  refine wpC_arg (wpC_Call ?_) (by rfl)
  walk1
  refine wpC_CallK (K := hd.heap_39 w.params) (by k_is) ?_ (by rfl) (by rfl)
  refine wpC_arg (wpC_any ?_) (by rfl)
  walk1
  refine wpC_arg (wpC_any ?_) (by rfl)
  repeat walk1
  refine wpC_any ?_
  walk1
  refine ⟨X.keeps (fun b o e => F.keep b o e), ?_⟩
  have gB : ∀ b o, g.get? b = some o → (hideAll s.heap [L]).get? b = some o := fun b o e => hideAll_get _ (F.keep b o e) (by
    intro q; have : b = L := by simpa using q
    subst this; exact absurd (Heap.lt_size e) (Nat.not_lt.mpr F.above))
  refine byteswap_raises (hb := g) (B := hideAll s.heap [L]) X T (fun b o e => F.keep b o e) hh (by first | exact deep_ok hroom | exact deep_lt hroom) (Around.frames_deeper hfr) (fun b o e => of_hideAll _ e) (Heap.FunFrames.cons (by intro q; cases q) rfl F.ns (hideAll_none _ (by simp)) trivial) ?_
  intro h4 tk4 e a0 fl4 up4
  dsimp only
  refine wpAny_looks_onW (Around.frames_deeper hfr) rfl fl4 fun h5 he5 up5 => ?_
  refine wpAny_landsW he5 fun h6 fl6 up6 => ?_
  have F6 : Fr g L h6 _ := ⟨((up4.trans up5).trans up6).ns F.ns, fun b o q => fl6.1 b o (gB b o q), F.above⟩
  obtain ⟨ob, hob, hobc⟩ := fl6.there
  refine wpAny_handleBy_builtin (X := "ValueError") (T := "ValueError") (b := true) (by rw [isSubtype_type]; kernel_rfl) (by rw [isSubtype_type]; kernel_rfl) (by rw [isSubtype_type]; kernel_rfl) ?_
  refine' name_built F6 X T ?ne (v := .type "ValueError") ?nv ?nn ?_ rfl rfl rfl rfl ?nd
  case ne => k_is
  case nv => boot_fast
  case nn => decide
  case nd => decide
  refine ⟨rfl, ⟨ob, hob, hobc⟩, ?_⟩
  rw [if_pos rfl]
  refine lands_againW fl6 fun h7 fl7 up7 => ?_
  have F7 : Fr g L h7 _ := ⟨(((up4.trans up5).trans up6).trans up7).ns F.ns, fun b o q => fl7.1 b o (gB b o q), F.above⟩
  have S7 := S.ex0 (h' := h7) (fun b o hb _ e => fl7.1 b o (hideAll_get _ e (by simpa using hb)))
  clear F F6 NN dS dW dF
  obtain ⟨tS7, vF7, oS7, oW7, oF7, nA7, kR7, NN7, dS7, dW7, dF7⟩ := S7.news
  repeat walk1
  rename Fr _ _ _ _ => F8
  exact h _ _ _ F8
end

theorem upL_lens {wd : Nat} {rl : List NT} : ∀ x ∈ rl.map (fun p => hiL p.1 wd), x.length = wd := by
  intro x hx
  obtain ⟨p, _, rfl⟩ := List.mem_map.mp hx
  exact hiL_length _ _
theorem upL_length (wd : Nat) (rl : List NT) : (upL wd rl).length = rl.length * wd := by
  unfold upL
  rw [flatten_length _ upL_lens, List.length_map]
theorem join_up {wd : Nat} {rl : List NT} {l : List BT} (h : l.map (·.1) = rl.map fun p => wordOf wd p.1) : (l.map (·.1.toList)).flatten = upL wd rl := by
  unfold upL
  have e : l.map (·.1.toList) = (l.map (·.1)).map (·.toList) := by rw [List.map_map]; rfl
  rw [e, h, List.map_map]; rfl
theorem upL_turn {wd : Nat} (rl : List NT) (h1 : 1 ≤ wd) : swp (upL wd rl).reverse wd = upL wd rl.reverse := by
  unfold upL
  rw [List.reverse_flatten, swp_flatten h1]
  · rw [← List.map_reverse, ← List.map_reverse, List.map_map, List.map_map]
    congr 1
    apply List.map_congr_left
    intro p _
    simp
  · intro x hx
    rw [List.mem_reverse] at hx
    obtain ⟨y, hy, rfl⟩ := List.mem_map.mp hx
    rw [List.length_reverse]
    exact upL_lens y hy
section
variable {w : World} {A : Around} {s : Shared} {g : Heap} {mean : ExcName → Option Value} {mg mb : Str → Option Value} {E : Value → Shared → Prop} {Q : Flow → Shared → Prop}
theorem law_post8_some {L a r : Addr} {m : Str → Option Value} {wd : Nat} {tu : Tok} {rl : List NT}
    (X : (hd.heap_39 w.params).In g) (T : Top hd.view_39 (looseW hd.view_39 []) mean mg mb g) (hh : A.handled = none) (hroom : A.depth + 10 < recursionLimit) (hu : A.units + 200 < cLine) (hw2 : 2 ≤ wd) (hw4 : wd ≤ 4)
    (F : Fr g L s.heap m) (hup : m (Str.ofString "up") = some (.bytes (upL wd rl).toArray tu)) (hp : m (Str.ofString "plain") = some (.ref r)) (hne : 0 < rl.length) (hlen : rl.length < 60)
    (S : St g L s.heap wd a [] r rl)
    (h : ∀ h' tk m', Fr g L h' m' → Q (.ret (.bool true)) { s with heap := h', toks := tk }) :
    wpC (model PySem.Challenge.rw_nq0033_01.row.prog w) (A.deeper (lawEnv w L)) (execs (post8 w) (lawEnv w L)) Q (fun _ _ => False) s := by
  have hul := upL_length wd rl
  have hub : rl.length * wd ≤ 60 * 4 := Nat.mul_le_mul (by omega) hw4
  have hun : 1 * 1 ≤ rl.length * wd := Nat.mul_le_mul (by omega) (by omega)
  unfold post8 lawEnv
  dsimp only [lawD, mkLaw, List.drop_succ_cons, List.drop_zero]
  have F := Fr.pins F (ps := [(Str.ofString "up", .bytes (upL wd rl).toArray tu), (Str.ofString "plain", .ref r)]) ⟨hup, hp, trivial⟩
  obtain ⟨tS, vF, oS, oW, oF, nA, kR, NN, dS, dW, dF⟩ := S.news
  refine wpC_execs_cons (wpC_Try ?_)
  refine wpC_execs_cons (wpC_Assign_Name (wpC_Call ?_) (by rfl))
  walk1
  refine wpC_CallK (K := hd.heap_39 w.params) (by k_is) ?_ (by rfl) (by rfl)
  refine wpC_arg (wpC_Call ?_) (by rfl)
  walk1
  refine wpC_CallK (K := hd.heap_39 w.params) (by k_is) ?_ (by rfl) (by rfl)
  refine wpC_arg (wpC_any ?_) (by rfl)
  walk1
  refine wpC_arg (wpC_any ?_) (by rfl)
  repeat walk1
  refine wpC_any ?_
  walk1
  refine ⟨X.keeps (fun b o e => F.keep b o e), ?_⟩
  rw [show (upL wd rl).toArray.size = (upL wd rl).length from rfl]
  refine byteswap_call (hb := g) (mm := 1) X T (fun b o e => F.keep b o e) hh (by first | exact deep_ok hroom | exact deep_lt hroom) (by omega) (by omega) (by omega) (by omega) ?_
  intro h5 tk5 t5 x5
  rw [swp_one rfl (by omega)]
  have F5 := Ex.fr0 F x5
  have S5 := S.ex0 (h' := h5) (fun b o hb hg e => x5 b o (by simp) e)
  clear F NN dS dW dF
  obtain ⟨tS5, vF5, oS5, oW5, oF5, nA5, kR5, N5, dS5, dW5, dF5⟩ := S5.news
  refine wpC_arg (wpC_any ?_) (by rfl)
  walk1
  refine wpC_any ?_
  walk1
  refine ⟨X.keeps (fun b o e => F5.keep b o e), ?_⟩
  refine byteswap_call (hb := g) (mm := rl.length) X T (fun b o e => F5.keep b o e) hh (by first | exact deep_ok hroom | exact deep_lt hroom) (by omega) (by omega) (by rw [List.length_reverse]; exact hul) (by rw [List.length_reverse]; omega) ?_
  intro h6 tk6 t6 x6
  rw [upL_turn rl (by omega)]
  have F6 := Ex.fr0 F5 x6
  have S6 := S5.ex0 (h' := h6) (fun b o hb hg e => x6 b o (by simp) e)
  clear F5 N5 dS5 dW5 dF5
  obtain ⟨tS6, vF6, oS6, oW6, oF6, nA6, kR6, N6, dS6, dW6, dF6⟩ := S6.news
  repeat walk1
  refine wpC_any (wpAny_execs_nil ?_)
  refine wpC_any (wpAny_execs_nil ?_)
  refine wpC_execs_consA ?_
  rename Fr _ _ _ _ => F7
  rename News _ _ _ _ => N7
  iterate 7 walk1
  rename News _ _ _ _ => N8
  refine ne_il (N8 (r, il rl kR6) (by k_mem)).1 (N8 _ (.head _)).1 (by units_room) ?_
  have hb : (!rl.isEmpty) = true := by cases rl with | nil => simp at hne | cons _ _ => rfl
  rw [hb]
  iterate 10 walk1
  refine ListComp_W (fun _ => true) (fun v y => ∃ (n : Nat) (t u : Tok), v = Value.int n t ∧ y = Value.bytes (wordOf wd n) u) (cl := [(Str.ofString "size", L + 1)]) rfl (by decide) rfl (by decide) rfl ?_ (by intro _; rfl)
  repeat walk1
  rename Fr _ _ _ _ => F9
  rename News _ _ _ _ => N9
  have er : slicePick (rl.map iv).toArray none none (some (-1)) = (rl.reverse.map iv).toArray := by rw [krv_pick]; simp
  rw [er] at N9
  refine comp_lst (items := (rl.reverse.map iv).toArray) (PySem.IsL.isList (n := 0) (N9 _ (.head _)).1) (by simp [sizeLine]; omega) hh F9 N9 X T (fun _ _ _ _ _ _ _ _ _ _ _ _ _ => tests_nil) ?_ ?_
  · intro g' C i v s₃ m₃ E' hi _ X4 T4 sg F4 hm
    obtain ⟨p, _, rfl⟩ : ∃ p ∈ rl.reverse, iv p = v := by
      have := List.mem_of_getElem? (by simpa only [List.getElem?_toArray] using hi : (rl.reverse.map iv)[i]? = some v)
      exact List.mem_map.mp this
    have F4 := Fr.pins F4 (ps := [(Str.ofString "y", _)]) ⟨hm, trivial⟩
    have hc2 : g'.IsCell (L + 1) (some (.int wd tS6)) := ⟨_, sg _ _ (N9 (L + 1, oS6) (by k_mem)).1, dS6⟩
    clear F9 N9 N8
    have N4 : News g' C s₃.heap [] := News.nil
    repeat walk1
    refine high_call (n := p.1) (hb := g') X4 T4 (fun b o e => F4.keep b o e) hh (by first | exact deep_ok hroom | exact deep_lt hroom) hw4 ?_
    intro h5 tk5 t5 x5
    k_unfold
    (try dsimp only)
    exact And.intro ⟨p.1, _, _, rfl, rfl⟩ (keeps_ex x5)
  · intro D10 h10 tk10 ys k10 F10 N10 nd10 x10 hF10
    rw [filter_tt] at hF10
    obtain ⟨l1, e1, hl1⟩ := words_of2 (f := fun n => wordOf wd n) (ks := rl.reverse) (by simpa only [List.toList_toArray] using hF10)
    obtain rfl : ys = (l1.map bv).toArray := by rw [← e1, Array.toArray_toList]
    clear F9 N9 N8 hF10 e1
    have hj := join_up hl1
    have hjl := upL_length wd rl.reverse
    rw [List.length_reverse] at hjl
    iterate 1 walk1
    refine join_b (l := l1) (n := k10) (N10 _ (.head _)).1 (by rw [hj, hjl]; omega) ?_
    intro t11 tk11
    rw [hj]
    repeat walk1
    rw [beq_self_eq_true]
    exact h _ _ _ F10
/-- the end of law: the turn as one word -/
theorem law_post8 {L a r : Addr} {m : Str → Option Value} {wd : Nat} {tu : Tok} {rl : List NT}
    (X : (hd.heap_39 w.params).In g) (T : Top hd.view_39 (looseW hd.view_39 []) mean mg mb g) (hh : A.handled = none) (hfr : A.frames = some []) (hroom : A.depth + 10 < recursionLimit) (hu : A.units + 200 < cLine) (hw2 : 2 ≤ wd) (hw4 : wd ≤ 4)
    (F : Fr g L s.heap m) (hup : m (Str.ofString "up") = some (.bytes (upL wd rl).toArray tu)) (hp : m (Str.ofString "plain") = some (.ref r)) (hlen : rl.length < 60)
    (S : St g L s.heap wd a [] r rl)
    (h : ∀ h' tk m', Fr g L h' m' → Q (.ret (.bool true)) { s with heap := h', toks := tk }) :
    wpC (model PySem.Challenge.rw_nq0033_01.row.prog w) (A.deeper (lawEnv w L)) (execs (post8 w) (lawEnv w L)) Q (fun _ _ => False) s := by
  cases rl with
  | nil => exact law_post8_none X T hh hfr hroom hu F hup hp S h
  | cons y rl => exact law_post8_some X T hh hroom hu hw2 hw4 F hup hp (by simp) hlen S h
end

noncomputable def post7 (w : World) : List Stmt := (lawD w).body.drop 7
/-- the numbers of the row, laid lowest byte first, joined -/
def lowsL (wd : Nat) (rl : List NT) : List UInt8 := (rl.map fun p => lowL p.1 wd).flatten
theorem lowsL_length (wd : Nat) (rl : List NT) : (lowsL wd rl).length = rl.length * wd := by
  unfold lowsL
  rw [flatten_length (wd := wd), List.length_map]
  intro x hx
  obtain ⟨p, _, rfl⟩ := List.mem_map.mp hx
  exact lowL_length _ _
theorem upL_lows {wd : Nat} (rl : List NT) (h1 : 1 ≤ wd) : swp (upL wd rl) wd = lowsL wd rl := by
  unfold upL lowsL
  rw [swp_flatten h1 _ upL_lens, List.map_map]
  congr 1
  apply List.map_congr_left
  intro p _
  simp [hiL]
theorem join_lows {wd : Nat} {rl : List NT} {l : List BT} (h : l.map (·.1) = rl.map fun p => (lowL p.1 wd).toArray) : (l.map (·.1.toList)).flatten = lowsL wd rl := by
  unfold lowsL
  have e : l.map (·.1.toList) = (l.map (·.1)).map (·.toList) := by rw [List.map_map]; rfl
  rw [e, h, List.map_map]; rfl
section
variable {w : World} {A : Around} {s : Shared} {g : Heap} {mean : ExcName → Option Value} {mg mb : Str → Option Value} {E : Value → Shared → Prop} {Q : Flow → Shared → Prop}
theorem law_post7 {L a r : Addr} {m : Str → Option Value} {wd : Nat} {tu : Tok} {rl : List NT}
    (X : (hd.heap_39 w.params).In g) (T : Top hd.view_39 (looseW hd.view_39 []) mean mg mb g) (hh : A.handled = none) (hfr : A.frames = some []) (hroom : A.depth + 10 < recursionLimit) (hu : A.units + 200 < cLine) (hw2 : 2 ≤ wd) (hw4 : wd ≤ 4)
    (F : Fr g L s.heap m) (hup : m (Str.ofString "up") = some (.bytes (upL wd rl).toArray tu)) (hp : m (Str.ofString "plain") = some (.ref r)) (hlen : rl.length < 60)
    (S : St g L s.heap wd a [] r rl)
    (h : ∀ h' tk m', Fr g L h' m' → Q (.ret (.bool true)) { s with heap := h', toks := tk }) :
    wpC (model PySem.Challenge.rw_nq0033_01.row.prog w) (A.deeper (lawEnv w L)) (execs (post7 w) (lawEnv w L)) Q (fun _ _ => False) s := by
  have hul := upL_length wd rl
  have hll := lowsL_length wd rl
  have hub : rl.length * wd ≤ 60 * 4 := Nat.mul_le_mul (by omega) hw4
  unfold post7 lawEnv
  dsimp only [lawD, mkLaw, List.drop_succ_cons, List.drop_zero]
  have F := Fr.pins F (ps := [(Str.ofString "up", .bytes (upL wd rl).toArray tu), (Str.ofString "plain", .ref r)]) ⟨hup, hp, trivial⟩
  obtain ⟨tS, vF, oS, oW, oF, nA, kR, NN, dS, dW, dF⟩ := S.news
  refine wpC_execs_cons (wpC_If (wpC_isTrue_Compare1 (wpC_Call ?_) (by with_unfolding_all rfl)))
  walk1
  refine wpC_CallK (K := hd.heap_39 w.params) (by k_is) ?_ (by rfl) (by rfl)
  refine wpC_arg (wpC_any ?_) (by rfl)
  walk1
  refine wpC_arg (wpC_any ?_) (by rfl)
  walk1
  refine wpC_any ?_
  walk1
  refine ⟨X.keeps (fun b o e => F.keep b o e), ?_⟩
  refine byteswap_call (hb := g) (mm := rl.length) X T (fun b o e => F.keep b o e) hh (by first | exact deep_ok hroom | exact deep_lt hroom) (by omega) (by omega) hul (by omega) ?_
  intro h5 tk5 t5 x5
  rw [upL_lows rl (by omega)]
  have F5 := Ex.fr0 F x5
  have S5 := S.ex0 (h' := h5) (fun b o hb hg e => x5 b o (by simp) e)
  clear F NN dS dW dF
  obtain ⟨tS6, vF6, oS6, oW6, oF6, nA6, kR6, N6, dS6, dW6, dF6⟩ := S5.news
  iterate 5 walk1
  refine ListComp_W (fun _ => true) (fun v y => ∃ (n : Nat) (t u : Tok), v = Value.int n t ∧ y = Value.bytes (lowL n wd).toArray u) (cl := [(Str.ofString "size", L + 1)]) rfl (by decide) rfl (by decide) rfl ?_ (by intro _; rfl)
  repeat walk1
  refine comp_lst (items := (rl.map iv).toArray) (isList_il (N6 (r, il rl kR6) (by k_mem)).1) (by simp [sizeLine]; omega) hh F5 N6 X T (fun _ _ _ _ _ _ _ _ _ _ _ _ _ => tests_nil) ?_ ?_
  · intro g' C i v s₃ m₃ E' hi _ X4 T4 sg F4 hm
    obtain ⟨p, _, rfl⟩ : ∃ p ∈ rl, iv p = v := by
      have := List.mem_of_getElem? (by simpa using hi : (rl.map iv)[i]? = some v)
      simpa using this
    have F4 := Fr.pins F4 (ps := [(Str.ofString "y", _)]) ⟨hm, trivial⟩
    have hc2 : g'.IsCell (L + 1) (some (.int wd tS6)) := ⟨_, sg _ _ (N6 (L + 1, oS6) (by k_mem)).1, dS6⟩
    clear F5 N6
    have N4 : News g' C s₃.heap [] := News.nil
    repeat walk1
    refine low_call (n := p.1) (hb := g') X4 T4 (fun b o e => F4.keep b o e) hh (by first | exact deep_ok hroom | exact deep_lt hroom) hw4 ?_
    intro h5 tk5 t5 x5
    k_unfold
    (try dsimp only)
    exact And.intro ⟨p.1, _, _, rfl, rfl⟩ (keeps_ex x5)
  · intro D10 h10 tk10 ys k10 F10 N10 nd10 x10 hF10
    rw [filter_tt] at hF10
    obtain ⟨l1, e1, hl1⟩ := words_of2 (f := fun n => (lowL n wd).toArray) (ks := rl) (by simpa using hF10)
    obtain rfl : ys = (l1.map bv).toArray := by rw [← e1, Array.toArray_toList]
    have S10 := S5.ex0 (h' := h10) (fun b o hb hg e => x10 b o (by simp) e)
    clear F5 N6 hF10 e1
    have hj := join_lows hl1
    iterate 1 walk1
    refine join_b (l := l1) (n := k10) (N10 _ (.head _)).1 (by rw [hj, hll]; omega) ?_
    intro t11 tk11
    rw [hj]
    refine ne_bytes ?_
    rw [bne_self_eq_false]
    repeat walk1
    refine wpC_any (wpAny_execs_nil ?_)
    refine law_post8 X T hh hfr hroom hu hw2 hw4 F10 rfl rfl hlen S10 ?_
    intro h20 tk20 m20 F20
    exact h _ _ _ F20
end

noncomputable def post5 (w : World) : List Stmt := (lawD w).body.drop 5
theorem words_idx {f : NT → Array UInt8} : ∀ {rl : List NT} {ys : List Value}, ys.length = rl.length → (∀ (i : Nat) y, ys[i]? = some y → ∃ u, y = Value.bytes (f (rl.getD i (0, 0))) u) → ∃ l : List BT, ys = l.map bv ∧ l.map (·.1) = rl.map f
  | [], [], _, _ => ⟨[], rfl, rfl⟩
  | p :: rl, y :: ys, hl, h => by
    obtain ⟨u, rfl⟩ := h 0 y rfl
    obtain ⟨l, rfl, e⟩ := words_idx (rl := rl) (ys := ys) (by simpa using hl) (fun i y hy => h (i + 1) y (by simpa using hy))
    exact ⟨(f p, u) :: l, rfl, by rw [List.map_cons, List.map_cons, e]⟩
section
variable {w : World} {A : Around} {s : Shared} {g : Heap} {mean : ExcName → Option Value} {mg mb : Str → Option Value} {E : Value → Shared → Prop} {Q : Flow → Shared → Prop}
theorem law_post5 {L a r : Addr} {m : Str → Option Value} {wd : Nat} {l : List BT} {rl : List NT}
    (X : (hd.heap_39 w.params).In g) (T : Top hd.view_39 (looseW hd.view_39 []) mean mg mb g) (hh : A.handled = none) (hfr : A.frames = some []) (hroom : A.depth + 10 < recursionLimit) (hu : A.units + 200 < cLine) (hw2 : 2 ≤ wd) (hw4 : wd ≤ 4)
    (F : Fr g L s.heap m) (hp : m (Str.ofString "plain") = some (.ref r)) (hlen : rl.length < 60)
    (S : St g L s.heap wd a l r rl) (I : Inv wd l rl)
    (h : ∀ h' tk m', Fr g L h' m' → Q (.ret (.bool true)) { s with heap := h', toks := tk }) :
    wpC (model PySem.Challenge.rw_nq0033_01.row.prog w) (A.deeper (lawEnv w L)) (execs (post5 w) (lawEnv w L)) Q (fun _ _ => False) s := by
  have hul := upL_length wd rl
  have hub : rl.length * wd ≤ 60 * 4 := Nat.mul_le_mul (by omega) hw4
  unfold post5 lawEnv
  dsimp only [lawD, mkLaw, List.drop_succ_cons, List.drop_zero]
  have F := Fr.pins F (ps := [(Str.ofString "plain", .ref r)]) ⟨hp, trivial⟩
  obtain ⟨tS, vF, oS, oW, oF, nA, kR, NN, dS, dW, dF⟩ := S.news
  refine wpC_execs_consA ?_
  iterate 6 walk1
  refine ListComp_mut (a := a) (fun i o => ∃ l' n, o = bl l' n ∧ Inv wd l' (rl.drop i)) (fun i y => ∃ u, y = Value.bytes (wordOf wd (rl.getD i (0, 0)).1) u) (cl := [(Str.ofString "words", L + 2)]) rfl (by decide) rfl (by decide) rfl hh ?_ (by intro _; rfl)
  walk1
  have zr : s.heap.get? r = some (il rl kR) := (NN (r, il rl kR) (by k_mem)).1
  have za : s.heap.get? a = some (bl l nA) := (NN (a, bl l nA) (by k_mem)).1
  have zW : s.heap.get? (L + 2) = some oW := (NN (L + 2, oW) (by k_mem)).1
  refine ⟨r, (rl.map iv).toArray, rfl, isList_il zr, by simp [sizeLine]; omega, S.ar.symm, ⟨_, za, l, nA, rfl, by simpa using I⟩, ?_, ?_⟩
  · intro C i v s₃ m₃ o E' hi hC hns hm hk ha ho
    obtain ⟨l', n', rfl, I'⟩ := ho
    have hil : i < rl.length := by
      have := (Array.getElem?_eq_some_iff.mp hi).1; simpa using this
    have hWa : L + 2 ≠ a := cell_ne_seq zW dW za
    have F3 : Fr g C s₃.heap m₃ := ⟨hns, fun b o e => hk b o (fun q => by subst q; rw [S.ga] at e; cases e) (F.keep b o e), by
      have h1 := F.above
      have h2 := addr_lt zW
      have h3 : s.heap.objs.size ≤ C := hC
      show @LE.le Nat _ _ C
      have : @LE.le Nat _ g.objs.size L := h1
      have : @LT.lt Nat _ (L + 2) s.heap.objs.size := h2
      have : @LE.le Nat _ s.heap.objs.size C := h3
      omega⟩
    have N3 : News g C s₃.heap [(L + 2, oW), (a, bl l' n')] := by
      have h3 : @LE.le Nat _ s.heap.objs.size C := hC
      have h2 : @LT.lt Nat _ (L + 2) s.heap.objs.size := addr_lt zW
      have h4 : @LT.lt Nat _ a s.heap.objs.size := addr_lt za
      intro p hp
      simp only [List.mem_cons, List.not_mem_nil, or_false] at hp
      rcases hp with rfl | rfl
      · exact ⟨hk _ _ hWa zW, addr_ne (by show @Ne Nat (L + 2) C; omega), S.g2⟩
      · exact ⟨ha, addr_ne (by show @Ne Nat a C; omega), S.ga⟩
    have F3 := Fr.pins F3 (ps := [(Str.ofString "y", _)]) ⟨hm, trivial⟩
    have hdr : rl.drop i = rl[i] :: rl.drop (i + 1) := List.drop_eq_getElem_cons hil
    rw [hdr] at I'
    have hle : l'.length = (rl.drop (i + 1)).length + 1 := by rw [I'.length]; rfl
    have hdl : (rl.drop (i + 1)).length ≤ rl.length := by rw [List.length_drop]; omega
    obtain ⟨p, z, rfl⟩ : ∃ p z, l' = p ++ [z] := by
      rcases List.eq_nil_or_concat l' with e | ⟨p, z, e⟩
      · rw [e] at hle; simp at hle
      · exact ⟨p, z, by simpa using e⟩
    obtain ⟨ev, I2⟩ := I'.pop
    clear NN F
    repeat walk1
    refine heappop_call (hb := g) X T (fun b o e => F3.keep b o e) ha S.ga (by first | exact deep_ok hroom | exact deep_lt hroom) (by simp at hle; omega) ?_
    intro h5 tk5 x5 hl5
    k_unfold
    (try dsimp only)
    refine ⟨⟨(p.getD 0 z).2, ?_⟩, h5, tk5, _, rfl, x5, hl5, _, _, rfl, I2⟩
    have e2 : rl.getD i (0, 0) = rl[i] := by rw [List.getD_eq_getElem?_getD, List.getElem?_eq_getElem hil]; rfl
    rw [e2, ← ev]
  · intro D h' tk ys k o' hD0 hD hys hFF x' ha' ho'
    obtain ⟨l', n', rfl, I'⟩ := ho'
    have e0 : (rl.map iv).toArray.size = rl.length := by simp
    rw [e0, List.drop_length] at I'
    obtain rfl := I'.empty
    obtain ⟨l1, e1, hl1⟩ := words_idx (f := fun p => wordOf wd p.1) (rl := rl) (ys := ys.toList) (by rw [Array.length_toList, hys, e0]) (fun i y hy => hFF i y (by rw [Array.getElem?_toList] at hy; exact hy))
    obtain rfl : ys = (l1.map bv).toArray := by rw [← e1, Array.toArray_toList]
    have F2 := x'.fr F S.aL S.ga
    have S2 := S.exA x' ha'
    clear NN F dS dW dF
    obtain ⟨tS2, vF2, oS2, oW2, oF2, nA2, kR2, N2, dS2, dW2, dF2⟩ := S2.news
    have hj := join_up hl1
    iterate 1 walk1
    refine join_b (l := l1) (n := k) hD (by rw [hj, hul]; omega) ?_
    intro t3 tk3
    rw [hj]
    repeat walk1
    refine wpC_execs_consA ?_
    rename Fr _ _ _ _ => F4
    rename News _ _ _ _ => N4
    have S4 : St g L _ wd a [] r rl := St.mk' N4 (by k_mem) dS2 (by k_mem) dW2 (by k_mem) dF2 (by k_mem) (by k_mem) S2.ar
    iterate 7 walk1
    rename News _ _ _ _ => N5
    rename Fr _ _ _ _ => F5
    refine ne_bl (l := []) (l' := []) (n' := 0) (N5 (a, bl [] nA2) (by k_mem)).1 (N5 _ (.head _)).1 (by units_room) rfl ?_
    iterate 10 walk1
    refine ListComp_W (fun _ => true) (fun v y => ∃ (n : Nat) (t u : Tok), v = Value.int n t ∧ y = Value.bytes (wordOf wd n) u) (cl := [(Str.ofString "size", L + 1)]) rfl (by decide) rfl (by decide) rfl ?_ (by intro _; rfl)
    repeat walk1
    refine comp_lst (items := (rl.map iv).toArray) (isList_il (N5 (r, il rl kR2) (by k_mem)).1) (by simp [sizeLine]; omega) hh F5 N5 X T (fun _ _ _ _ _ _ _ _ _ _ _ _ _ => tests_nil) ?_ ?_
    · intro g' C i v s₃ m₃ E' hi _ X4 T4 sg F4 hm
      obtain ⟨p, _, rfl⟩ : ∃ p ∈ rl, iv p = v := by
        have := List.mem_of_getElem? (by simpa using hi : (rl.map iv)[i]? = some v)
        simpa using this
      have F4 := Fr.pins F4 (ps := [(Str.ofString "y", _)]) ⟨hm, trivial⟩
      have hc2 : g'.IsCell (L + 1) (some (.int wd tS2)) := ⟨_, sg _ _ (N5 (L + 1, oS2) (by k_mem)).1, dS2⟩
      clear F5 N5
      have N4 : News g' C s₃.heap [] := News.nil
      repeat walk1
      refine high_call (n := p.1) (hb := g') X4 T4 (fun b o e => F4.keep b o e) hh (by first | exact deep_ok hroom | exact deep_lt hroom) hw4 ?_
      intro h5 tk5 t5 x5
      k_unfold
      (try dsimp only)
      exact And.intro ⟨p.1, _, _, rfl, rfl⟩ (keeps_ex x5)
    · intro D10 h10 tk10 ys k10 F10 N10 nd10 x10 hF10
      rw [filter_tt] at hF10
      obtain ⟨l2, e2, hl2⟩ := words_of2 (f := fun n => wordOf wd n) (ks := rl) (by simpa using hF10)
      obtain rfl : ys = (l2.map bv).toArray := by rw [← e2, Array.toArray_toList]
      have S10 : St g L h10 wd a [] r rl := St.mk' N10 (by k_mem) dS2 (by k_mem) dW2 (by k_mem) dF2 (by k_mem) (by k_mem) S2.ar
      clear F5 N5 hF10 e2
      have hj2 := join_up hl2
      iterate 1 walk1
      refine join_b (l := l2) (n := k10) (N10 _ (.head _)).1 (by rw [hj2, hul]; omega) ?_
      intro t11 tk11
      rw [hj2]
      refine ne_bytes ?_
      rw [bne_self_eq_false]
      repeat walk1
      refine law_post7 X T hh hfr hroom hu hw2 hw4 F10 rfl rfl hlen S10 ?_
      intro h20 tk20 m20 F20
      exact h _ _ _ F20
end

section
variable {g h h' : Heap} {L a r D J : Addr} {oD oJ oJ' : Obj} {wd : Nat} {l : List BT} {rl : List NT}
/-- the iterator moves on -/
theorem Sx.exJ (S : Sx g L h wd a l r rl D oD J oJ) (nJ : ∀ v, oJ.data ≠ .cell v) (DJ : D ≠ J) (x : ∀ b o, b ≠ J → h.get? b = some o → h'.get? b = some o) (hJ' : h'.get? J = some oJ') : Sx g L h' wd a l r rl D oD J oJ' := by
  obtain ⟨t, oS, s1, s2⟩ := S.st.cs
  obtain ⟨oW, w1, w2⟩ := S.st.cw
  obtain ⟨v, oF, f1, f2⟩ := S.st.cf
  obtain ⟨n, q1⟩ := S.st.qa
  obtain ⟨k, r1⟩ := S.st.rr
  exact ⟨⟨⟨t, oS, x _ _ (cell_ne_obj s1 s2 S.hJ nJ) s1, s2⟩, ⟨oW, x _ _ (cell_ne_obj w1 w2 S.hJ nJ) w1, w2⟩, ⟨v, oF, x _ _ (cell_ne_obj f1 f2 S.hJ nJ) f1, f2⟩, ⟨n, x _ _ S.Ja.symm q1⟩, ⟨k, x _ _ S.Jr.symm r1⟩,
    S.st.ga, S.st.gr, S.st.g1, S.st.g2, S.st.g3, S.st.aL, S.st.rL, S.st.ar⟩, x _ _ DJ S.hD, hJ', S.gD, S.gJ, S.DL, S.JL, S.Da, S.Dr, S.Ja, S.Jr⟩
/-- the loop is over: its iterator may go -/
theorem Sx.exEnd (S : Sx g L h wd a l r rl D oD J oJ) (nJ : ∀ v, oJ.data ≠ .cell v) (x : ∀ b o, b ≠ J → h.get? b = some o → h'.get? b = some o) : St g L h' wd a l r rl := by
  obtain ⟨t, oS, s1, s2⟩ := S.st.cs
  obtain ⟨oW, w1, w2⟩ := S.st.cw
  obtain ⟨v, oF, f1, f2⟩ := S.st.cf
  obtain ⟨n, q1⟩ := S.st.qa
  obtain ⟨k, r1⟩ := S.st.rr
  exact ⟨⟨t, oS, x _ _ (cell_ne_obj s1 s2 S.hJ nJ) s1, s2⟩, ⟨oW, x _ _ (cell_ne_obj w1 w2 S.hJ nJ) w1, w2⟩, ⟨v, oF, x _ _ (cell_ne_obj f1 f2 S.hJ nJ) f1, f2⟩, ⟨n, x _ _ S.Ja.symm q1⟩, ⟨k, x _ _ S.Jr.symm r1⟩,
    S.st.ga, S.st.gr, S.st.g1, S.st.g2, S.st.g3, S.st.aL, S.st.rL, S.st.ar⟩
end
abbrev iterO (D : Addr) (i : Nat) : Obj := { cls := .type "list_iterator", data := .fields #[.ref D, .int i 0] }
section
variable {w : World} {A : Around} {s : Shared} {g : Heap} {mean : ExcName → Option Value} {mg mb : Str → Option Value} {E : Value → Shared → Prop} {Q : Flow → Shared → Prop}
/-- law's loop -/
theorem law_loop {L a r D J : Addr} {oD oJ : Obj} {m : Str → Option Value} {l : List BT} {rl : List NT} {wd : Nat} {ws : List Value} {ns : List Int} {px : Pos}
    (X : (hd.heap_39 w.params).In g) (T : Top hd.view_39 (looseW hd.view_39 []) mean mg mb g) (hh : A.handled = none) (hfr : A.frames = some []) (hroom : A.depth + 10 < recursionLimit) (hu : A.units + 200 < cLine) (hw2 : 2 ≤ wd) (hw4 : wd ≤ 4)
    (F : Fr g L s.heap m) (hp : m (Str.ofString "plain") = some (.ref r)) (nD : ∀ v, oD.data ≠ .cell v) (hDl : oD.cls = .type "list" ∧ ∃ n, oD.data = .seq ws.toArray n) (DJ : D ≠ J)
    (S : Sx g L s.heap wd a l r rl D oD J oJ) (hJ0 : oJ.cls = .type "list_iterator" ∧ oJ.data = .fields #[.ref D, .int 0 0]) (I : Inv wd l rl) (hlen : rl.length ≤ 3) (hi : IntsAre ws ns) (hn : ns.length ≤ 12)
    (h : ∀ h' tk m' a' r' l' rl', Fr g L h' m' → m' (Str.ofString "plain") = some (.ref r') → St g L h' wd a' l' r' rl' → Inv wd l' rl' → rl'.length < 40 → Q .next { s with heap := h', toks := tk }) :
    codeC (model PySem.Challenge.rw_nq0033_01.row.prog w) (A.deeper (lawEnv w L)) (.forLoop (.Name (Str.ofString "x") px) (.ref J) (loopB w) [] (lawEnv w L)) (fun r s' => match r with | .ok f => Q f s' | .error _ => False) s := by
  have hwn : ws.length = ns.length := hi.length
  refine forC_lst (l := D) (items := ws.toArray) hh (fun i s' => ∃ h' tk m' a' r' l' rl' oJ', s' = { s with heap := h', toks := tk } ∧ Fr g L h' m' ∧ m' (Str.ofString "plain") = some (.ref r') ∧ Sx g L h' wd a' l' r' rl' D oD J oJ' ∧
    (oJ'.cls = .type "list_iterator" ∧ oJ'.data = .fields #[.ref D, .int i 0]) ∧ Inv wd l' rl' ∧ rl'.length ≤ 3 + i) ?_ ⟨s.heap, s.toks, m, a, r, l, rl, oJ, rfl, F, hp, S, hJ0, I, by omega⟩ ?_ ?_
  · rintro i s' ⟨h', tk, m', a', r', l', rl', oJ', rfl, F', hp', S', hJ', I', hl'⟩
    exact ⟨⟨oJ', S'.hJ, hJ'⟩, ⟨oD, S'.hD, hDl⟩⟩
  · rintro i s' v h₁ hv ⟨h', tk, m', a', r', l', rl', oJ', rfl, F', hp', S', hJ', I', hl'⟩ hit hs
    have hil : i < ws.length := by
      have := (Array.getElem?_eq_some_iff.mp hv).1; simpa using this
    obtain ⟨x, t, rfl, _⟩ := hi.at i v (by simpa using hv)
    obtain ⟨oK, hK, hK2⟩ := hit
    have nJ' : ∀ v, oJ'.data ≠ .cell v := fun v e => by rw [hJ'.2] at e; cases e
    have nK : ∀ v, oK.data ≠ .cell v := fun v e => by rw [hK2.2] at e; cases e
    have kp : ∀ b o, b ≠ J → h'.get? b = some o → h₁.get? b = some o := fun b o hb e => hs.extBut b o hb e
    have F1 := sameBut_fr F' kp S'.JL S'.gJ
    have S1 := S'.exJ nJ' DJ kp hK
    clear F' S'
    obtain ⟨tS, vF, oS, oW, oF, nA, kR, NN, dS, dW, dF⟩ := S1.news
    unfold lawEnv
    dsimp only [lawD, mkLaw]
    walk1
    rename Fr _ _ _ _ => F2
    rename News _ _ _ _ => N2
    have S2 : Sx g L _ wd a' l' r' rl' D oD J oK := Sx.mk' N2 (by k_mem) dS (by k_mem) dW (by k_mem) dF (by k_mem) (by k_mem) (by k_mem) (by k_mem) S1.st.ar S1.Da S1.Dr S1.Ja S1.Jr
    clear N2 dS dW dF
    by_cases h6 : x.fmod 6 = 4
    · refine law_turn_flip X T hh hroom hu hw2 hw4 F2 rfl hp' nD nK S2 I' (by omega) h6 ?_
      intro h3 tk3 m3 a3 r3 l3 rl3 F3 hp3 S3 I3 hl3
      exact ⟨h3, tk3, m3, a3, r3, l3, rl3, oK, rfl, F3, hp3, S3, hK2, I3, by omega⟩
    · refine law_turn_call X T hh hfr hroom hu hw2 hw4 F2 rfl hp' S2 I' (by omega) h6 ?_
      intro h3 tk3 m3 l3 rl3 F3 hp3 S3 I3 hl3
      exact ⟨h3, tk3, m3, a', r', l3, rl3, oK, rfl, F3, hp3, S3, hK2, I3, by omega⟩
  · rintro s' h₁ ⟨h', tk, m', a', r', l', rl', oJ', rfl, F', hp', S', hJ', I', hl'⟩ he
    have nJ' : ∀ v, oJ'.data ≠ .cell v := fun v e => by rw [hJ'.2] at e; cases e
    have hl2 : rl'.length ≤ 3 + ws.length := by simpa using hl'
    exact h _ _ _ _ _ _ _ (sameBut_fr F' (fun b o hb e => he b o hb e) S'.JL S'.gJ) hp' (S'.exEnd nJ' fun b o hb e => he b o hb e) I' (by omega)
end

/-- a call of a def with captured names, over clean contexts; nothing is raised out of it -/
theorem enterKC {prog : Program} {w : World} {A : Around} {s : Shared} {hb : Heap} {K : Frag} {p : Program} {loose : List Str} {mean : ExcName → Option Value} {mg mb : Str → Option Value}
    {Q : Value → Shared → Prop} {E : Value → Shared → Prop} {name qual : Str} {params : Arguments} {body : List Stmt} {scope : Scope} {dV kV doc pm cdv ct oc : Value} {an od : Option Addr} {osl : Array (Option Value)} {f : Addr} {vals : List Value} {binds : List (Str × Value)}
    (X : K.In hb) (T : Top p loose mean mg mb hb) (st : ∀ b o, hb.get? b = some o → s.heap.get? b = some o)
    (ho : K.lookup f = some ⟨oc, od, .func (fnOf name qual params body scope dV kV doc pm an cdv ct), osl⟩) (hcd : codeIn K cdv qual = true) (hroom : A.depth < recursionLimit)
    (hbind : BindsTo s (fnOf name qual params body scope dV kV doc pm an cdv ct) ⟨vals, []⟩ binds) (hkind : (binds.all fun y => scope.names.lookup y.1 == some .local || scope.names.lookup y.1 == some .cell) = true)
    (hnd : ((cellsFrom 0 scope.names []).map (·.1)).Nodup)
    (h : ∀ g L h₁ tk cells, Fr g L h₁ (bindL (envOfC qual scope L f cdv).kindOf binds fun _ => none) → News g L h₁ cells →
      CellsAre (bindC (envOfC qual scope L f cdv).kindOf binds fun _ => none) (cellsFrom (L + 1) scope.names []) cells → K.In g → Top p loose mean mg mb g → (∀ b o, s.heap.get? b = some o → g.get? b = some o) →
      wpC (model prog w) (A.deeper (envOfC qual scope L f cdv)) (execs body (envOfC qual scope L f cdv))
        (fun fl s' => Q (match fl with | .ret v => v | _ => .none) s') (fun _ _ => False) { s with heap := h₁, toks := tk })
    (hco : scope.isCoroutine = false) (hgen : scope.isGenerator = false) (hk : scope.kind = .function) : wpC (model prog w) A (call (.ref f) vals) Q E s := by
  have X' := X.keeps st
  refine wpC_call (codeC_call_function hroom (X' _ _ ho) rfl hco hgen rfl (codeRec_of X' hcd) (hbind _ _ _ _ ?_))
  refine wpAny_newFunctionEnv_cells hk (kindsX hkind _) fun env' he s' x => ?_
  subst he
  refine ⟨(T.nolimit.keeps st).keeps x.toInCall.keep, codeC_func ?_⟩
  obtain ⟨h₁, tk, rfl, _⟩ := x.done
  have hk₁ := x.toInCall.keep
  obtain ⟨cells, NC, Y⟩ := Cl.news (h₀ := s.heap) (Nat.le_refl _) fun n c hm => ⟨x.cell n c (lookup_of_mem_nodup (cellsFrom_names scope.names 0 (s.heap.objs.size + 1) [] [] rfl ▸ hnd) hm), x.above n c hm⟩
  exact wpC_mono (h s.heap s.heap.objs.size h₁ tk cells ⟨x.toInCall.ns, hk₁, Nat.le_refl _⟩ NC Y X' (T.keeps st) (fun _ _ e => e)) (fun fl s' hl => hl) fun _ _ y => y.elim
section
variable {w : World} {A : Around} {s : Shared} {hb : Heap} {mean : ExcName → Option Value} {mg mb : Str → Option Value} {E : Value → Shared → Prop} {Q : Value → Shared → Prop}
theorem law_call {a : Addr} {vs : List Value} {ns : List Int}
    (X : (hd.heap_39 w.params).In hb) (T : Top hd.view_39 (looseW hd.view_39 []) mean mg mb hb) (st : ∀ b o, hb.get? b = some o → s.heap.get? b = some o)
    (hl : s.heap.IsList a vs.toArray) (hi : IntsAre vs ns) (hlen : ns.length ≤ 63) (hh : A.handled = none) (hfr : A.frames = some []) (hroom : A.depth + 10 < recursionLimit) (hu : A.units + 200 < cLine)
    (h : ∀ h' tk, (∀ b o, s.heap.get? b = some o → h'.get? b = some o) → Q (.bool true) { s with heap := h', toks := tk }) :
    wpC (model PySem.Challenge.rw_nq0033_01.row.prog w) A (call (.ref 111) [.ref a]) Q E s := by
  refine' enterKC X T st (binds := [(Str.ofString "script", .ref a)]) ?k6 ?k7 (depth_lt hroom) ?k9 ?kB ?kD ?_ ?c2 ?c3 ?c4
  case k6 => k_is
  case k7 => k_is
  case k9 => exact BindsTo.of_eq rfl
  case kB => exact rfl
  case kD => decide +kernel
  case c2 => exact rfl
  case c3 => exact rfl
  case c4 => exact rfl
  intro g L h₁ tk cells F N Y X' T' xg
  have hlg : g.IsList a vs.toArray := hl.at fun o e => xg _ o e
  obtain ⟨o3, o2, o1, rfl, d3, d2, d1⟩ := CellsAre.three Y
  clear Y
  have d3 : o3.data = .cell none := d3
  have d2 : o2.data = .cell none := d2
  have d1 : o1.data = .cell none := d1
  refine wpC_execs_consA ?_
  repeat walk1
  refine' LSm.sum_ints ?k2 ?k3 ?k1 ?k4 ?k5 ?_
  case k1 => exact hh
  case k2 => exact F
  case k3 => exact N
  case k4 => exact hlg.at fun o e => F.keep _ o e
  case k5 => exact hi
  intro h2 tk2 t2 F2 N2
  clear F N
  repeat walk1
  rename_i ts tks h3 o4 F3 N3 d4
  obtain ⟨wd, ewd, hw2, hw4⟩ : ∃ wd : Nat, (2 + ns.sum.fmod 3 : Int) = (wd : Int) ∧ 2 ≤ wd ∧ wd ≤ 4 := by
    have e : ns.sum.fmod 3 = ns.sum % 3 := Int.fmod_eq_emod_of_nonneg _ (by omega)
    exact ⟨(2 + ns.sum % 3).toNat, by rw [e]; omega, by omega, by omega⟩
  rw [ewd] at d4
  clear d1
  refine wpC_execs_consA ?_
  iterate 5 walk1
  have hpw : ((256 : Int) ^ ((wd : Nat) : Int).toNat) = ((256 ^ wd : Nat) : Int) := by rw [Int.toNat_natCast]; push_cast; rfl
  have hpz : 0 < 256 ^ wd := Nat.pow_pos (by omega)
  have hz1 : ((256 : Int) ^ ((wd : Nat) : Int).toNat) ≠ 0 := by rw [hpw]; omega
  refine ListComp_W (fun _ => true) (fun v y => ∃ (n : Nat) (t u : Tok), v = Value.int n t ∧ y = Value.int ((n % 256 ^ wd : Nat) : Int) u) (cl := [(Str.ofString "size", L + 1)]) rfl (by decide) rfl (by decide) rfl ?_ (by intro _; rfl)
  repeat walk1
  rename_i D5 h5 F5 N5 lt5
  have hk5 : ∀ {t1 t2 t3 : Tok}, #[Value.int 258 t1, Value.int 3 t2, Value.int 65537 t3] = (([(258, t1), (3, t2), (65537, t3)] : List NT).map iv).toArray := fun {t1 t2 t3} => rfl
  rw [hk5] at N5
  generalize eks : ([(258, _), (3, _), (65537, _)] : List NT) = ks at N5
  have hks : ks.map (·.1) = [258, 3, 65537] := by rw [← eks]; rfl
  have hkl : ks.length = 3 := by rw [← eks]; rfl
  clear hk5 eks
  refine comp_tup (items := (ks.map iv).toArray) ⟨_, N5.get (.head _), rfl, _, rfl⟩ (by simp [sizeLine]; omega) hh F5 N5 X' T' (fun _ _ _ _ _ _ _ _ _ _ _ _ _ => tests_nil) ?_ ?_
  · intro g' C i v s₃ m₃ E' hi _ X4 T4 sg F4 hm
    obtain ⟨p, hp, rfl⟩ : ∃ p ∈ ks, iv p = v := by
      have := List.mem_of_getElem? (by simpa using hi : (ks.map iv)[i]? = some v)
      simpa using this
    have F4 := Fr.pins F4 (ps := [(Str.ofString "x", _)]) ⟨hm, trivial⟩
    have hc2 : g'.IsCell (L + 1) (some (.int wd ts)) := ⟨_, sg _ _ (N5.get (by k_mem)), d4⟩
    clear F5 N5 X' T'
    have N4 : News g' C s₃.heap [] := News.nil
    repeat walk1
    have e : ((p.1 : Nat) : Int).fmod (256 ^ ((wd : Nat) : Int).toNat) = ((p.1 % 256 ^ wd : Nat) : Int) := by
      rw [hpw, Int.fmod_eq_emod_of_nonneg _ (by omega)]; rfl
    rw [e]
    exact And.intro ⟨p.1, _, _, rfl, rfl⟩ (keeps_toks _ _)
  · intro D6 h6 tk6 ys k6 F6 N6 nd6 x6 hF6
    rw [filter_tt] at hF6
    obtain ⟨l0, e0, hl0⟩ := nums_of (f := fun n => n % 256 ^ wd) (ks := ks) (by simpa using hF6)
    obtain rfl : ys = (l0.map iv).toArray := by rw [← e0, Array.toArray_toList]
    have hl0l : l0.length = 3 := by have := congrArg List.length hl0; simpa [hkl] using this
    clear F5 N5
    iterate 1 walk1
    refine sorted_i F6 N6 (N6.get (by k_mem)) (by omega) ?_
    intro h7 R7 rl7 e7 F7 N7 nd7 p7 s7
    clear F6 N6
    repeat walk1
    rename Fr _ _ _ _ => F8
    rename News _ _ _ _ => N8
    refine wpC_execs_cons (wpC_Assign_Name (wpC_any ?_) (by rfl))
    refine ListComp_W (fun _ => true) (fun v y => ∃ (n : Nat) (t u : Tok), v = Value.int n t ∧ y = Value.bytes (wordOf wd (n % 256 ^ wd)) u) (cl := [(Str.ofString "size", L + 1)]) rfl (by decide) rfl (by decide) rfl ?_ (by intro _; rfl)
    repeat walk1
    rename_i D9 h9 F9 N9 lt9
    have hk9 : ∀ {t1 t2 t3 : Tok}, #[Value.int 258 t1, Value.int 3 t2, Value.int 65537 t3] = (([(258, t1), (3, t2), (65537, t3)] : List NT).map iv).toArray := fun {t1 t2 t3} => rfl
    rw [hk9] at N9
    generalize eks9 : ([(258, _), (3, _), (65537, _)] : List NT) = ks9 at N9
    have hks9 : ks9.map (·.1) = [258, 3, 65537] := by rw [← eks9]; rfl
    have hkl9 : ks9.length = 3 := by rw [← eks9]; rfl
    clear hk9 eks9
    refine comp_tup (items := (ks9.map iv).toArray) ⟨_, N9.get (.head _), rfl, _, rfl⟩ (by simp [sizeLine]; omega) hh F9 N9 X' T' (fun _ _ _ _ _ _ _ _ _ _ _ _ _ => tests_nil) ?_ ?_
    · intro g' C i v s₃ m₃ E' hi _ X4 T4 sg F4 hm
      obtain ⟨p, hp, rfl⟩ : ∃ p ∈ ks9, iv p = v := by
        have := List.mem_of_getElem? (by simpa using hi : (ks9.map iv)[i]? = some v)
        simpa using this
      have F4 := Fr.pins F4 (ps := [(Str.ofString "x", _)]) ⟨hm, trivial⟩
      have hc2 : g'.IsCell (L + 1) (some (.int wd ts)) := ⟨_, sg _ _ (N9.get (by k_mem)), d4⟩
      clear F9 N9 X' T'
      have N4 : News g' C s₃.heap [] := News.nil
      repeat walk1
      have e : ((p.1 : Nat) : Int).fmod (256 ^ ((wd : Nat) : Int).toNat) = ((p.1 % 256 ^ wd : Nat) : Int) := by
        rw [hpw, Int.fmod_eq_emod_of_nonneg _ (by omega)]; rfl
      rw [e]
      refine high_call (hb := g') X4 T4 (fun b o e => F4.keep b o e) hh (by first | exact deep_ok hroom | exact deep_lt hroom) hw4 ?_
      intro h5 tk5 t5 x5
      k_unfold
      (try dsimp only)
      exact And.intro ⟨p.1, _, _, rfl, rfl⟩ (keeps_ex x5)
    · intro D10 h10 tk10 ys10 k10 F10 N10 nd10 x10 hF10
      rw [filter_tt] at hF10
      obtain ⟨l1, e1, hl1⟩ := words_of2 (f := fun n => wordOf wd (n % 256 ^ wd)) (ks := ks9) (by simpa using hF10)
      obtain rfl : ys10 = (l1.map bv).toArray := by rw [← e1, Array.toArray_toList]
      have hl1l : l1.length = 3 := by have := congrArg List.length hl1; simpa [hkl9] using this
      clear F9 N9
      refine store_cell (c := L + 2) (keep := [(L + 1, o4), (L + 3, o3), (D10, bl l1 k10), (R7, il rl7 e7)]) rfl rfl rfl F10 N10 (o := o2) (by k_mem) d2 ?_ ?_
      · intro q hq
        simp only [List.mem_cons, List.not_mem_nil, or_false] at hq
        rcases hq with rfl | rfl | rfl | rfl
        · exact ⟨by k_mem, addr_ne (by show @Ne Nat (L + 1) (L + 2); omega)⟩
        · exact ⟨by k_mem, addr_ne (by show @Ne Nat (L + 3) (L + 2); omega)⟩
        · exact ⟨by k_mem, (cell_ne_seq (N10.get (by k_mem) : h10.get? (L + 2) = some o2) d2 (N10.get (by k_mem) : h10.get? D10 = some (bl l1 k10))).symm⟩
        · exact ⟨by k_mem, (cell_ne_seq (N10.get (by k_mem) : h10.get? (L + 2) = some o2) d2 (N10.get (by k_mem) : h10.get? R7 = some (il rl7 e7))).symm⟩
      intro h11 oW F11 N11 dW
      have hDR : D10 ≠ R7 := (nd10 (R7, il rl7 e7) (by k_mem)).symm
      have S11 : St g L h11 wd D10 l1 R7 rl7 := St.mk' N11 (by k_mem) d4 (by k_mem) dW (by k_mem) d3 (by k_mem) (by k_mem) hDR
      have rs7 : ∀ p ∈ rl7, p.1 < 256 ^ wd := by
        intro p hp
        have : p.1 ∈ l0.map (·.1) := p7.mem_iff.mp (List.mem_map_of_mem hp)
        rw [hl0] at this
        obtain ⟨q, _, e⟩ := List.mem_map.mp this
        rw [← e]; exact Nat.mod_lt _ hpz
      have w11 : (l1.map (·.1)).Perm (rl7.map fun p => wordOf wd p.1) := by
        have e1 : l1.map (·.1) = (l0.map (·.1)).map (wordOf wd) := by
          rw [hl1, hl0, List.map_map]
          have : ks9.map (·.1) = ks.map (·.1) := by rw [hks9, hks]
          have e2 : ∀ kk : List NT, (kk.map fun p => wordOf wd (p.1 % 256 ^ wd)) = (kk.map (·.1)).map fun n => wordOf wd (n % 256 ^ wd) := by intro kk; rw [List.map_map]; rfl
          rw [e2, this, List.map_map]; rfl
        rw [e1]
        have e3 : (rl7.map fun p => wordOf wd p.1) = (rl7.map (·.1)).map (wordOf wd) := by rw [List.map_map]; rfl
        rw [e3]
        exact (p7.map _).symm
      have hrl7 : rl7.length = 3 := by have := p7.length_eq; simpa [hl0l] using this
      clear N10 F10 nd10 nd7 nd6 N11 x10 hF10 hF6
      refine wpC_execs_consA ?_
      obtain ⟨tS, vF, oS', oW', oF', nA, kR, NN, dS', dW', dF'⟩ := S11.news
      repeat walk1
      refine heapify_call (hb := g) X' T' (fun b o e => F11.keep b o e) (NN.get (by k_mem)) (NN.fresh (by k_mem)) hh (by first | exact deep_ok hroom | exact deep_lt hroom) (by omega) ?_
      intro h12 tk12 x12 hl12
      have za := NN (D10, bl l1 nA) (by k_mem)
      have F12 := x12.fr F11 za.2.1 za.2.2
      have S12 := S11.exA x12 hl12
      have I12 := Inv.make (wd := wd) w11 s7 rs7
      clear F11 NN S11 za
      obtain ⟨tS2, vF2, oS2, oW2, oF2, nA2, kR2, NN2, dS2, dW2, dF2⟩ := S12.news
      clear dS' dW' dF' d2
      repeat walk1
      refine stands_call (hb := g) X' T' (fun b o e => F12.keep b o e) (NN2.get (by k_mem)) (NN2.fresh (by k_mem)) (NN2.get (by k_mem)) (NN2.fresh (by k_mem)) hDR hh (by first | exact deep_ok hroom | exact deep_lt hroom) (by units_room) hw4 (by rw [I12.length]; omega) (by omega) I12.stands1 I12.stands2 ?_
      intro h13 tk13 x13
      have F13 := Ex.fr0 F12 x13
      have S13 := S12.ex0 (h' := h13) (fun b o _ _ e => x13 b o (by simp) e)
      clear F12 NN2 S12
      repeat walk1
      refine wpC_execs_cons (wpC_For ?_ (by intro _; rfl))
      obtain ⟨tS3, vF3, oS3, oW3, oF3, nA3, kR3, NN3, dS3, dW3, dF3⟩ := S13.news
      repeat walk1
      rename_i D14 ws14 h14 F14 N14 hi14 hc14 hl14 lt14
      have nD14 := N14 _ (.head _)
      refine wpAny_pyIter_list (PySem.IsL.isList (n := 0) nD14.1) ?_
      have F15 := F14.push { cls := .type "list_iterator", data := .fields #[.ref D14, .int 0 0] }
      have N15 := News.pushKeep N14 { cls := .type "list_iterator", data := .fields #[.ref D14, .int 0 0] }
      have hJ : (h14.push { cls := .type "list_iterator", data := .fields #[.ref D14, .int 0 0] }).get? h14.objs.size = some { cls := .type "list_iterator", data := .fields #[.ref D14, .int 0 0] } := Heap.get?_push_size _ rfl
      have gJ : g.get? h14.objs.size = none := by
        cases q : g.get? h14.objs.size with
        | none => rfl
        | some o => exact absurd (Heap.lt_size (F14.keep _ _ q)) (Nat.lt_irrefl _)
      have JL : h14.objs.size ≠ L := by
        obtain ⟨oL, _, _, hL, _⟩ := F14.ns
        exact Nat.ne_of_gt (Heap.lt_size hL)
      have ltJ : ∀ {b : Addr} {o : Obj}, h14.get? b = some o → h14.objs.size ≠ b := fun e => Nat.ne_of_gt (Heap.lt_size e)
      have S15 : Sx g L _ wd D10 (hf l1 (l1.length / 2)) R7 rl7 D14 (listOf ws14.toArray 0) h14.objs.size { cls := .type "list_iterator", data := .fields #[.ref D14, .int 0 0] } :=
        ⟨St.mk' N15 (by k_mem) dS3 (by k_mem) dW3 (by k_mem) dF3 (by k_mem) (by k_mem) hDR, (N15 _ (.head _)).1, hJ, nD14.2.2, gJ, nD14.2.1, JL, Nat.ne_of_gt lt14.2.2.2.1, Nat.ne_of_gt lt14.2.2.2.2,
          ltJ (N14 (D10, bl (hf l1 (l1.length / 2)) nA3) (by k_mem)).1, ltJ (N14 (R7, il rl7 kR3) (by k_mem)).1⟩
      refine law_loop X' T' hh hfr hroom hu hw2 hw4 F15 rfl (fun v e => by cases e) ⟨rfl, _, rfl⟩ (ltJ nD14.1).symm S15 ⟨rfl, rfl⟩ I12 (by omega) hi14 (by omega) ?_
      intro h20 tk20 m20 a20 r20 l20 rl20 F20 hp20 S20 I20 hl20
      refine law_post5 X' T' hh hfr hroom hu hw2 hw4 F20 hp20 (by omega) S20 I20 ?_
      intro h21 tk21 m21 F21
      exact h _ _ (fun b o e => F21.keep b o (xg b o e))
end

end Mine
set_option maxRecDepth 100000 in
set_option maxHeartbeats 8000000 in
theorem PySem.Challenge.cw_nq0033_01_holds : PySem.Challenge.rw_nq0033_01.Holds := by
  refine Mine.hd ?_
  k_fill
  intro w s₀ s₁ mg mb G Y fa o pm cd doc dV kV ho hd hcd hD hmg hg args vals as hpre hlay hrd hwl hlo
  have KX := kIn_of Y
  refine Ground.open G ?_
  intro T B D TE TW
  wrow_args hpre hlay hrd hwl hlo
  x_fa T KX hmg
  rename IntsAre _ _ => hI
  rename Heap.IsList _ _ _ => hL
  rename ¬ _ => hc
  refine Mine.law_call (hb := s₁.heap) KX T (fun _ _ e => e) hL hI (by omega) rfl rfl (by decide +kernel) (by decide +kernel) ?_
  intro h' tk hk
  refine ⟨.inl ⟨.bool true, .bool true, [], rfl, raisesW_false (by wrow_none_raised), ReadsW.bool _, ?_, fun _ => ⟨List.nodup_nil, fun a ha => nomatch ha⟩⟩, .of_keep hk, rfl, .of_eq hg⟩
  wrow_post
