import PyProof.Rows.All
import Wide.All
import OpenK.AllK
import Wide.FinOn
import PySem.Challenge.RW_op0017_01
set_option Elab.async false
set_option rowWalk.seconds 0
set_option compiler.extract_closed false

/-! ## Head -/
section
open PySem PySem.W PySem.Spec PySem.Calls PyProof.Rows
set_option Elab.async false
set_option maxRecDepth 100000
set_option maxHeartbeats 8000000
namespace Mine

/-- The frames that `exported` looks for. -/
def decIds : List String := ["bytearray.__contains__", "bytearray.__mod__", "bytearray.__rmod__", "_struct.pack_into.held", "bytearray.find.held"] ++ Builtin.Bytes.decodersThatHold
def isDec : Code → Bool
  | .builtin id _ => decIds.contains id
  | _ => false
def okBelow (l : List (Code × Pos)) : Prop := ∀ x ∈ l, isDec x.1 = false

/-- wpAny; where b is true, of stacks that hold no such frame. -/
def wpB {α : Type} (b : Bool) (M : Model) (A : Around) (t : Sem α) (Q : α → Shared → Prop) (E : Value → Shared → Prop) (s : Shared) : Prop :=
  ∀ Γ p, Γ.In A → (b = true → isDec Γ.code = false ∧ okBelow Γ.below) → Sem.wp M Γ t (fun a _ s' => Q a s') (fun e _ s' => E e s') p s
def codeB (b : Bool) (M : Model) (A : Around) (c : Code) (R : Result → Shared → Prop) (s : Shared) : Prop :=
  ∀ Γ p, Γ.code = c → Γ.Below A → (b = true → okBelow Γ.below) → wpCode M Γ R p s
abbrev wpN {α : Type} (M : Model) (A : Around) (t : Sem α) (Q : α → Shared → Prop) (E : Value → Shared → Prop) (s : Shared) : Prop := wpB true M A t Q E s
abbrev codeN (M : Model) (A : Around) (c : Code) (R : Result → Shared → Prop) (s : Shared) : Prop := codeB true M A c R s
section
variable {α β : Type} {b : Bool} {M : Model} {A : Around} {E : Value → Shared → Prop} {s : Shared}
theorem wpN_of {t : Sem α} {Q : α → Shared → Prop} (h : wpAny M A t Q E s) : wpB b M A t Q E s := fun Γ p hΓ _ => h Γ p hΓ
theorem codeN_of {c : Code} {R : Result → Shared → Prop} (h : codeAny M A c R s) : codeB b M A c R s := fun Γ p hc hΓ _ => h Γ p hc hΓ
theorem any_of {t : Sem α} {Q : α → Shared → Prop} (h : wpB false M A t Q E s) : wpAny M A t Q E s := fun Γ p hΓ => h Γ p hΓ fun e => nomatch e
theorem wpN_pure {a : α} {Q : α → Shared → Prop} (h : Q a s) : wpB b M A (pure a) Q E s := fun _ _ _ _ => h
theorem wpN_mono {t : Sem α} {Q Q' : α → Shared → Prop} {E' : Value → Shared → Prop} (h : wpB b M A t Q E s)
    (hQ : ∀ a s, Q a s → Q' a s) (hE : ∀ e s, E e s → E' e s) : wpB b M A t Q' E' s :=
  fun Γ p hΓ h1 => Sem.wp_mono M Γ t (fun a _ s => hQ a s) (fun e _ s => hE e s) p s (h Γ p hΓ h1)
theorem wpN_bind {m : Sem α} {f : α → Sem β} {Q : β → Shared → Prop} (h : wpB b M A m (fun a s' => wpB b M A (f a) Q E s') E s) :
    wpB b M A (m >>= f) Q E s := fun Γ p hΓ h1 => by
  rw [Sem.wp_bind']
  exact Sem.wp_mono M Γ m (fun a p' s' h' => h' Γ p' hΓ h1) (fun _ _ _ h' => h') p s (h Γ p hΓ h1)
/-- a step that the library's rules serve, then the rest -/
theorem wpN_then {m : Sem α} {f : α → Sem β} {Q : β → Shared → Prop} (h : wpAny M A m (fun a s' => wpB b M A (f a) Q E s') E s) :
    wpB b M A (m >>= f) Q E s := wpN_bind (wpN_of h)
theorem wpN_holding {vs : List Value} {m : Sem α} {Q : α → Shared → Prop} (h : wpB b M A m Q E s) : wpB b M A (holding vs m) Q E s :=
  fun Γ p hΓ h1 => by rw [Sem.wp_holding]; exact h Γ p hΓ h1
theorem wpN_onRaise {m : Sem α} {k : Value → Sem Unit} {Q : α → Shared → Prop}
    (h : wpB b M A m Q (fun _ _ => False) s) : wpB b M A (m.onRaise k) Q E s := fun Γ p hΓ h1 => by
  rw [Sem.wp_onRaise]
  exact Sem.wp_mono M Γ m (fun _ _ _ h' => h') (fun e p' s' h' => h'.elim) p s (h Γ p hΓ h1)
theorem wpN_attempt {m : Sem α} {Q : Except Value α → Shared → Prop} (h : wpB b M A m (fun a => Q (.ok a)) (fun e => Q (.error e)) s) :
    wpB b M A m.attempt Q E s := fun Γ p hΓ h1 => by rw [Sem.wp_attempt]; exact h Γ p hΓ h1
theorem wpN_keep {vs : List Value} {m : Sem α} {Q : α → Shared → Prop} (h : wpB b M A m Q E s) : wpB b M A (m.keep vs) Q E s :=
  fun Γ p hΓ h1 => by rw [Sem.wp_keep]; exact h Γ p hΓ h1
theorem okBelow_cons {c : Code} {p : Pos} {l : List (Code × Pos)} (h1 : isDec c = false) (h2 : okBelow l) : okBelow ((c, p) :: l) := fun x hx => by
  rcases List.mem_cons.mp hx with rfl | hx
  · exact h1
  · exact h2 x hx
theorem wpN_run {c : Code} {h : Option Value} {Q : Flow → Shared → Prop}
    (hc : codeB b M (A.mark h) c (fun r s' => match r with | .ok f => Q f s' | .error e => E e s') s) (hnb : h ≠ some byPass := by intro x; cases x) :
    wpB b M A (run c h) Q E s :=
  fun Γ p hΓ h1 => by rw [Sem.wp_run]; exact hc _ p rfl (hΓ.enter c h p hnb) (fun e => okBelow_cons (h1 e).1 (h1 e).2)
theorem wpN_runValue {c : Code} {Q : Value → Shared → Prop}
    (hc : codeB b M A c (fun r s' => match r with | .ok (.ret v) => Q v s' | .ok _ => False | .error e => E e s') s) :
    wpB b M A (runValue c) Q E s := fun Γ p hΓ h1 => by rw [Sem.wp_runValue]; exact hc _ p rfl (hΓ.enter c none p (by intro x; cases x)) (fun e => okBelow_cons (h1 e).1 (h1 e).2)
theorem wpN_call {f : Value} {pos : List Value} {kw : List (PySem.Str × Value)} {Q : Value → Shared → Prop}
    (hc : codeB b M A (.call f ⟨pos, kw⟩) (fun r s' => match r with | .ok (.ret v) => Q v s' | .ok _ => False | .error e => E e s') s) :
    wpB b M A (call f pos kw) Q E s := wpN_runValue hc
theorem codeN_mono {c : Code} {R R' : Result → Shared → Prop} (h : codeB b M A c R s) (hR : ∀ r s, R r s → R' r s) : codeB b M A c R' s :=
  fun Γ p hc hΓ h2 => wpCode_mono hR (h Γ p hc hΓ h2)
theorem codeN_of_tree {c : Code} {R : Result → Shared → Prop} (hd : isDec c = false)
    (h : wpB b M (A.under c) (M.den c) (fun fin s' => match fin with | .done f => R (.ok f) s' | .again c' => c'.quiet = true ∧ codeB b M A c' R s')
      (fun e s' => R (.error e) s') s) : codeB b M A c R s := fun Γ p hc hΓ h2 => by
  rw [wpCode_iff_wp, hc]
  refine Sem.wp_mono M Γ _ (fun fin p' s' h' => ?_) (fun _ _ _ h' => h') p s (h Γ p (hc ▸ hΓ.in) (fun e => ⟨hc ▸ hd, h2 e⟩))
  cases fin with
  | done f => exact h'
  | again c' => exact ⟨h'.1, h'.2 (Γ.goto c') p' rfl (hΓ.goto c') h2⟩
/-- the stack, as it is known here -/
theorem wpN_stack {Q : List (Code × Pos) → Shared → Prop} (h : ∀ st, okBelow st → Q st s) : wpN M A stack Q E s := fun Γ p _ h1 => by
  show Q ((Γ.code, p) :: Γ.below) s
  exact h _ (okBelow_cons (h1 rfl).1 (h1 rfl).2)
end

theorem isDec_caller : isDec (.builtin "claim.caller" {}) = false := by decide +kernel

/-- A claim's call, by wpN at its start. -/
theorem callFromN {c : ClaimW} {tree : List Value → Sem Fin} {w : World} {s : Shared} {free : Addr → Prop} {gens : Prop} {kept : Heap → Prop} (hz : s.asleep) (hgens : s.gens = #[])
    (hspec : ∀ args, c.pre args = true → WData.layableAll args = true →
      ∀ ord : List DictEntry → List DictEntry, (∀ l, (ord l).Perm l) →
      ∃ vs s₁, layAllW c.records (classAt s.heap) w.params ord args s = some (vs, s₁) ∧
        wpN (model c.prog w) callerA (tree vs) (fun fin s' => ∃ f, fin = .done f ∧ (c.Ends s args vs s₁ (.ok f) s' ∧ s'.os = s.os ∧ AllBare s'.gens ∧ kept s'.heap))
          (fun e s' => c.Ends s args vs s₁ (.error e) s' ∧ s'.os = s.os ∧ AllBare s'.gens ∧ kept s'.heap) s₁) :
    c.CallFrom (fun vs => ⟨tree vs, .builtin "claim.caller" {}, default, []⟩) w free gens kept s := by
  intro args hpre hlay ord hord
  obtain ⟨vs, s₁, hlaid, hcode⟩ := hspec args hpre hlay ord hord
  have hal := layAllW_rest _ _ _ hlaid
  have hw := hcode ⟨.builtin "claim.caller" {}, none, none, [], none⟩ default caller_in (fun _ => ⟨isDec_caller, fun _ h => nomatch h⟩)
  obtain ⟨k, r, s', s'', hsched, hrun, hfo, ⟨hcase, hos, hkp⟩⟩ := wp_halts_full (M := model c.prog w)
    (R := fun r s' => c.Ends s args vs s₁ r s' ∧ s'.os = s.os ∧ kept s'.heap) (Shared.asleep_of_life hal.2.2.2 hz)
    (Sem.wp_mono _ _ _ (fun fin p' s' h => by
      obtain ⟨f, rfl, h1, h2, h3, h4⟩ := h
      show ((_ ∧ _ ∧ _) ∧ _)
      exact ⟨⟨h1, h2, h4⟩, leftWithCleanup_false_of_bare h3⟩) (fun e p' s' h => by
      obtain ⟨h1, h2, h3, h4⟩ := h
      exact ⟨⟨h1, h2, h4⟩, leftWithCleanup_false_of_bare h3⟩) _ _ hw)
  obtain ⟨eh, _, _, eo, _⟩ := Shared.forget_eq hfo
  have hcase := hcase.congr eh
  have hkp : kept s''.heap := by rw [eh]; exact hkp
  rw [← eo] at hos
  have hlife : s''.heap.life = s.heap.life := (runN_life _ _ _ hrun).trans hal.2.2.2
  refine ⟨vs, s₁, hlaid, k, _, s'', hsched, ?_, (fun _ i x hx => by rw [hgens] at hx; simp at hx), hkp, by rw [hlife], Shared.rest_eq hos⟩
  rcases hcase with ⟨v, rfl, d1, d2, d3, d4, d5⟩ | ⟨e, ob, cls, rfl, d1, d2, d3, d4, d5⟩
  · exact .inl ⟨v, rfl, d1, d2, d3, fun b o y _ => d4 b o y, d5⟩
  · exact .inr ⟨e, ob, cls, rfl, d1, d2, d3, d4, fun b o y _ => d5 b o y⟩
end Mine
end

/-! ## Head2 -/
section
open PySem PySem.W PySem.Spec PySem.Calls PyProof.Rows
set_option Elab.async false
set_option maxRecDepth 100000
set_option maxHeartbeats 8000000
namespace Mine

/-- What is asked of the call: as the library's WalkO, but by wpN. -/
abbrev WalkQ (q : Program) (loose : List PySem.Str) (XP : (PySem.Str → Option Value) → Heap → Prop) (YP : World → Heap → Prop) (r : RowW) (d : DefRec) (kwd : List (PySem.Str × Expr)) : Prop :=
  ∀ (w : World) (s₀ s₁ : Shared) (mg mb : PySem.Str → Option Value), Ground q loose r.records XP w s₀ mg mb s₁.heap → YP w s₁.heap → ∀ (a : Addr) (o : Obj) (pm cd doc dV kV : Value), s₁.heap.get? a = some o →
    o.data = .func { docDef d.name d.params d.body d.scope pm cd doc with defaults := dV, kwdefaults := kV } → s₁.heap.CodeRec cd d.name → Dflts mg s₁.heap d.params kwd dV kV → mg d.name = some (.ref a) → s₁.gens = #[] →
    ∀ (args : List WData) (vals : List Value) (as : List Addr), r.claim.pre args = true → WData.layableAll args = true → ReadsAllW r.records (classAt s₀.heap) s₁.heap vals args as → WellAll w.params s₁.heap vals args → (∀ a ∈ as, (a == sysModules) = false) →
      wpN (model r.prog w) callerA (call (.ref a) vals) (fun v s' => GoodWG r.claim (classAt s₀.heap) (ExcName.means s₀.heap) args s₁ (.ok (.ret v)) s')
        (fun e s' => GoodWG r.claim (classAt s₀.heap) (ExcName.means s₀.heap) args s₁ (.error e) s') s₁

theorem PySem.W.holds_open {r : OpenRow} {q : Program} {loose : List PySem.Str} {Xt : Shared → Bool} {XP : (PySem.Str → Option Value) → Heap → Prop} {α : Type} {Yf : Shared → α} {Ya : World → α} {YP : World → Heap → Prop} {d : DefRec} {kwd : List (PySem.Str × Expr)} {N : Nat}
    (left : LeftO r.prog q loose Xt Yf Ya N) (hY : ∀ w s, Yf s = Ya w → YP w s.heap) (hYk : ∀ w h h', YP w h → (∀ b o, h.get? b = some o → h'.get? b = some o) → YP w h')
    (hX : ∀ s, Xt s = true → XP (s.heap.nsMap mainGlobals) s.heap) (hXk : ∀ mg h h', XP mg h → (∀ b o, h.get? b = some o → h'.get? b = some o) → XP mg h')
    (hdef : defOf q r.name = some (d, kwd)) (hp : r.prog.theDef r.name = some (d.params, d.body, d.scope)) (hk : kwWritten? d.params.kwonlyargs d.params.kw_defaults = some kwd) (hRf : ∀ s, Xt s = true → RecFacts r.records s.heap) (hwr : (!r.writes || r.records.isEmpty) = true)
    (k1 : r.wellSaid = true) (ok : (chainsOk q && opensWell r.prog && (frees r.toRowW && r.within.isEmpty)) = true) (hb : r.prog.bare) (hw : r.toRowW.promised)
    (call : WalkQ q loose XP YP r.toRowW d kwd) : r.Holds := by
  refine ⟨k1, hw, ?_⟩
  obtain ⟨ok, k5⟩ := Bool.and_eq_true_iff.mp ok
  obtain ⟨hch, o1⟩ := Bool.and_eq_true_iff.mp ok
  obtain ⟨k5, k6⟩ := Bool.and_eq_true_iff.mp k5
  obtain ⟨hsame, hu, ha, hap, hm⟩ := frees_parts k5
  have hi := ident_freeW hu ha hap
  have hwi : r.toRowW.claim.within = [] := List.isEmpty_iff.mp k6
  refine ⟨⟨hb, o1, by show r.makers.map _ = []; rw [hm]; rfl⟩, hw.witness, fun w => ⟨(left.behind hX hch w).1, fun s' hs' => ?_⟩⟩
  obtain ⟨s₀, hf, hg0, s, hT, hz, hgens, hg, G00, y⟩ := (left.behind (XP := fun mg h => XP mg h ∧ RecFacts r.records h) (fun s hs => ⟨hX s hs, hRf s hs⟩) hch w).2 s' hs'
  have G0 : Ground q loose [] XP w s (s.heap.nsMap mainGlobals) (s.heap.nsMap builtinsNs) s.heap := ⟨G00.T, G00.B, G00.D, G00.TE, G00.TD, G00.W, G00.X.1, G00.cls, G00.has, G00.apart, G00.once, G00.K⟩
  have RF := G00.X.2
  have hT' := hT
  refine ⟨s₀, hf, hg0, s, hT, fun n hn => ?_, RF.1, RF.2.1, ?_⟩
  · obtain rfl : n = r.name := by split at hn <;> simp_all
    exact pinned_of_view hg G0 hdef hp hk
  have hgens : s.gens = #[] := Array.eq_empty_of_size_eq_zero (beq_iff_eq.mp hgens)
  have G : Ground q loose r.records XP w s _ _ s.heap := RF.ground G0
  refine callFromN (c := r.toRowW.claim) (tree := fun vs => do match ← nsGet mainNs r.name with
      | some f => do ret (← PySem.call f vs)
      | none => unsupported "claim.caller:no-such-global") hz hgens fun args hpre hlay ord hord => ?_
  obtain ⟨⟨vs, s₁⟩, hlaid⟩ := Option.isSome_iff_exists.mp (layAllW_isSome (P := w.params) (ord := ord) G.has args r.args s (pre_splitW hpre).1)
  have keeps := layAllW_keeps _ _ _ hlaid
  have hal := layAllW_rest _ _ _ hlaid
  obtain ⟨as, hrd, hin, hold⟩ := reads_layAllW hord _ _ _ hlaid hlay s₁.heap (fun _ _ e => e)
  have L : Laid r.records w s s₁ args vs as := ⟨⟨ord, hord, hlaid⟩, hrd, hin, hold, keeps, hal.1.trans hgens, hal.2.2.1⟩
  have G₁ := G.keeps hXk keeps
  obtain ⟨a, o, pm, cd, doc, dV, kV, h1, h2, h3, h4, h5⟩ := G₁.fn hdef
  have h := call w s s₁ _ _ G₁ (hYk _ _ _ (hY w s y) keeps) a o pm cd doc dV kV h2 h3 h4 h5 (defOf_name hdef ▸ h1) L.gens args vs as hpre hlay L.reads L.well (L.low G.low)
  refine ⟨vs, s₁, hlaid, ?_⟩
  refine wpN_then (wpAny_nsGet G₁.T.g ?_)
  rw [h1]
  refine wpN_bind (wpN_mono h (fun v s' g => wpN_pure ⟨_, rfl, have z := g.laid (c := r.toRowW.claim) hsame hwi hi L; ⟨z.1, z.2.1, z.2.2, fun q => ⟨namesKept_of hT' hg _ keeps g.2.1.old, noTable hwr q⟩⟩⟩)
    fun e s' g => have z := g.laid (c := r.toRowW.claim) hsame hwi hi L; ⟨z.1, z.2.1, z.2.2, fun q => ⟨namesKept_of hT' hg _ keeps g.2.1.old, noTable hwr q⟩⟩)

end Mine
end

/-! ## Top1 -/
section
open PySem PySem.W PyProof.Rows
set_option Elab.async false
set_option maxRecDepth 100000
set_option maxHeartbeats 8000000
namespace Mine
open_top hd for PySem.Challenge.rw_op0017_01
end Mine
end

/-! ## Base -/
section
open PySem PySem.W PySem.Spec PySem.Calls PyProof.Rows
set_option Elab.async false
set_option maxRecDepth 100000
set_option maxHeartbeats 8000000
namespace Mine

abbrev AA (dp un : Nat) (fr : Option (List Env)) (gd : Option (List Code)) : Around := { handled := none, depth := dp, frames := fr, guards := gd, units := un }

section
variable {prog : Program} {w : World} {A : Around} {s : Shared} {K : Frag} {h₀ : Heap} {mg mb : PySem.Str → Option Value} {news : List (Addr × Obj)} {p : Program} {loose : List PySem.Str} {mean : ExcName → Option Value}
  {R : Result → Shared → Prop} {name qual : PySem.Str} {params : Arguments} {body : List Stmt} {scope : Scope} {dV kV doc pm cdv ct oc : Value} {an od : Option Addr} {osl : Array (Option Value)} {f : Addr} {args : Args} {binds : List (PySem.Str × Value)}

theorem enter (X₀ : K.In h₀) (T : Top p loose mean mg mb h₀) (hk₀ : ∀ b o, h₀.get? b = some o → s.heap.get? b = some o)
    (hN : ∀ q ∈ news, s.heap.get? q.1 = some q.2 ∧ h₀.get? q.1 = none)
    (ho : K.lookup f = some ⟨oc, od, .func (fnOf name qual params body scope dV kV doc pm an cdv ct), osl⟩) (hcd : codeIn K cdv qual = true) (hroom : A.depth < recursionLimit)
    (hbind : BindsTo s (fnOf name qual params body scope dV kV doc pm an cdv ct) args binds) (hloc : ∀ y ∈ binds, scope.names.lookup y.1 = some .local)
    (h : ∀ g L' h₁, (∀ b o, s.heap.get? b = some o → b ∉ news.map (·.1) → g.get? b = some o) → (∀ b o, g.get? b = some o → s.heap.get? b = some o) →
      Fr g L' h₁ (fun y => binds.reverse.lookup y) → News g L' h₁ news → K.In g → Top p loose mean mg mb g → (∀ q ∈ news, q.1 < L') →
      wpAny (model prog w) (A.deeper (envOf qual scope L' f cdv)) (execs body (envOf qual scope L' f cdv))
        (fun fl s' => R (.ok (.ret (match fl with | .ret v => v | _ => .none))) s') (fun _ _ => False)
        { s with heap := h₁, toks := s.toks + binds.length })
    (hco : scope.isCoroutine = false) (hgen : scope.isGenerator = false) (hk : scope.kind = .function)
    (hcell : ∀ x ∈ scope.names, x.2 ≠ .cell) : codeAny (model prog w) A (.call (.ref f) args) R s := by
  have X := X₀.keeps hk₀
  have nm : ∀ b o, h₀.get? b = some o → b ∉ news.map (·.1) := fun b o e q => by
    obtain ⟨p, hp, rfl⟩ := List.mem_map.mp q
    rw [(hN p hp).2] at e; cases e
  have st : ∀ b o, h₀.get? b = some o → (hideAll s.heap (news.map (·.1))).get? b = some o := fun b o e => hideAll_get _ (hk₀ b o e) (nm b o e)
  refine codeAny_call_def (fd := fnOf name qual params body scope dV kV doc pm an cdv ct) (body := body) (binds := binds) hroom (X _ _ ho) rfl (T.nolimit.keeps hk₀) (codeRec_of X hcd) rfl hbind hcell hloc (fun h₁ hns hk₁ => ?_) hco hgen hk
  exact wpAny_mono (h (hideAll s.heap (news.map (·.1))) s.heap.objs.size h₁ (fun b o e n => hideAll_get _ e n) (fun b o e => of_hideAll _ e) ⟨hns, fun b o e => hk₁ b o (of_hideAll _ e), Nat.le_of_eq (hideAll_size _ _)⟩
    (fun p hp => ⟨hk₁ _ _ (hN p hp).1, Nat.ne_of_lt (Heap.lt_size (hN p hp).1), hideAll_none _ (List.mem_map_of_mem hp)⟩) (X₀.keeps st) (T.keeps st) (fun p hp => Heap.lt_size (hN p hp).1)) (fun fl s' hl => hl) fun _ _ y => y.elim

theorem enterC (X₀ : K.In h₀) (T : Top p loose mean mg mb h₀) (hk₀ : ∀ b o, h₀.get? b = some o → s.heap.get? b = some o)
    (hN : ∀ q ∈ news, s.heap.get? q.1 = some q.2 ∧ h₀.get? q.1 = none)
    (ho : K.lookup f = some ⟨oc, od, .func (fnOf name qual params body scope dV kV doc pm an cdv ct), osl⟩) (hcd : codeIn K cdv qual = true) (hroom : A.depth < recursionLimit)
    (hbind : BindsTo s (fnOf name qual params body scope dV kV doc pm an cdv ct) args binds)
    (hkind : (binds.all fun y => scope.names.lookup y.1 == some .local || scope.names.lookup y.1 == some .cell) = true)
    (hnd : ((cellsFrom 0 scope.names []).map (·.1)).Nodup)
    (h : ∀ g L' h₁ tk cells, (∀ b o, s.heap.get? b = some o → b ∉ news.map (·.1) → g.get? b = some o) → (∀ b o, g.get? b = some o → s.heap.get? b = some o) →
      Fr g L' h₁ (bindL (envOfC qual scope L' f cdv).kindOf binds fun _ => none) → News g L' h₁ (cells ++ news) →
      CellsAre (bindC (envOfC qual scope L' f cdv).kindOf binds fun _ => none) (cellsFrom (L' + 1) scope.names []) cells → K.In g → Top p loose mean mg mb g → (∀ q ∈ news, q.1 < L') →
      wpAny (model prog w) (A.deeper (envOfC qual scope L' f cdv)) (execs body (envOfC qual scope L' f cdv))
        (fun fl s' => R (.ok (.ret (match fl with | .ret v => v | _ => .none))) s') (fun _ _ => False)
        { s with heap := h₁, toks := tk })
    (hco : scope.isCoroutine = false) (hgen : scope.isGenerator = false) (hk : scope.kind = .function) : codeAny (model prog w) A (.call (.ref f) args) R s := by
  have X := X₀.keeps hk₀
  have nm : ∀ b o, h₀.get? b = some o → b ∉ news.map (·.1) := fun b o e q => by
    obtain ⟨p, hp, rfl⟩ := List.mem_map.mp q
    rw [(hN p hp).2] at e; cases e
  have st : ∀ b o, h₀.get? b = some o → (hideAll s.heap (news.map (·.1))).get? b = some o := fun b o e => hideAll_get _ (hk₀ b o e) (nm b o e)
  refine codeAny_call_function (fd := fnOf name qual params body scope dV kV doc pm an cdv ct) hroom (X _ _ ho) rfl hco hgen rfl (codeRec_of X hcd) (hbind _ _ _ _ ?_)
  refine wpAny_newFunctionEnv_cells hk (kindsX hkind _) fun env' he s' x => ?_
  subst he
  refine ⟨(T.nolimit.keeps hk₀).keeps x.toInCall.keep, codeAny_func ?_⟩
  obtain ⟨h₁, tk, rfl, _⟩ := x.done
  have hk₁ := x.toInCall.keep
  obtain ⟨cells, NC, Y⟩ := Cl.news (h₀ := s.heap) (Nat.le_refl _) fun n c hm => ⟨x.cell n c (lookup_of_mem_nodup (cellsFrom_names scope.names 0 (s.heap.objs.size + 1) [] [] rfl ▸ hnd) hm), x.above n c hm⟩
  refine wpAny_mono (h (hideAll s.heap (news.map (·.1))) s.heap.objs.size h₁ tk cells (fun b o e n => hideAll_get _ e n) (fun b o e => of_hideAll _ e) ⟨x.toInCall.ns, fun b o e => hk₁ b o (of_hideAll _ e), Nat.le_of_eq (hideAll_size _ _)⟩ (fun p hp => ?_) Y (X₀.keeps st) (T.keeps st) (fun p hp => Heap.lt_size (hN p hp).1)) (fun fl s' hl => hl) fun _ _ y => y.elim
  rcases List.mem_append.mp hp with hp | hp
  · refine ⟨(NC p hp).1, (NC p hp).2.1, ?_⟩
    cases q : (hideAll s.heap (news.map (·.1))).get? p.1 with
    | none => rfl
    | some o => have := of_hideAll _ q; rw [(NC p hp).2.2] at this; cases this
  · exact ⟨hk₁ _ _ (hN p hp).1, Nat.ne_of_lt (Heap.lt_size (hN p hp).1), hideAll_none _ (List.mem_map_of_mem hp)⟩
end
end Mine
end

/-! ## BA -/
section
open PySem PySem.W PySem.Spec PySem.Calls PyProof.Rows
set_option Elab.async false
set_option maxRecDepth 100000
set_option maxHeartbeats 8000000
namespace Mine
section
variable {b : Bool} {prog : Program} {w : World} {A : Around} {s : Shared} {R : Result → Shared → Prop} {E : Value → Shared → Prop}
theorem codeN_builtin {id : String} {args : Args} {bi : Builtin} (hb : entryFor table id = some bi) (hd : decIds.contains id = false)
    (h : wpB b (model prog w) (A.under (.builtin id args)) (bi args)
      (fun fin s' => match fin with | .done f => R (.ok f) s' | .again c' => c'.quiet = true ∧ codeB b (model prog w) A c' R s') (fun e s' => R (.error e) s') s) :
    codeB b (model prog w) A (.builtin id args) R s := by
  refine codeN_of_tree hd ?_
  show wpB b _ _ (match entryFor table id with | some b => b args | none => unsupported ((withoutEnding? id "#data").getD id)) _ _ s
  rw [hb]; exact h
end

theorem ba_mro : mroOf (.type "bytearray") = pure [.type "bytearray", .type "object"] := by rw [mroOf_type]; kernel_rfl
theorem ba_lookup_new : typeLookup (.type "bytearray") "__new__" = pure (some (.builtin "bytearray.__new__")) := by rw [typeLookup_type, builtinLookup_eq_fast]; kernel_rfl
theorem ba_slot_init : Slot "bytearray" "__init__" "bytearray.__init__" :=
  .of (owner := "bytearray") (n := "__init__") (by rw [typeLookup_type, builtinLookup_eq_fast]; kernel_rfl) (by decide +kernel) (by decide +kernel) (by decide +kernel)
    (by first | exact .inl (by decide +kernel) | exact .inr (by decide +kernel)) (by rw [isSubtype_type]; kernel_rfl)
theorem ba_called : TypeCalled "bytearray" "bytearray.__new__" "bytearray.__init__" :=
  ⟨by decide +kernel, by decide +kernel, ⟨_, _, ba_mro⟩, madeBy_type ba_mro ba_lookup_new (by decide +kernel), by decide +kernel, by rw [isSubtype_type]; kernel_rfl, ba_slot_init⟩
theorem ba_typeCall (a : Value) : checkTypeCall "bytearray" ⟨[a], []⟩ = pure () := by kernel_rfl
theorem ba_newCall (a : Value) : checkBuiltinCall "bytearray.__new__" ⟨[.type "bytearray", a], []⟩ = pure () := by kernel_rfl
theorem ba_plain_new : plainId "bytearray.__new__" = true := by decide +kernel
theorem ba_entry_new : entryFor table "bytearray.__new__" = some Builtin.«list.__new__» :=
  entryFor_alias (id' := "list.__new__") (by kernel_rfl) (by first | rfl | decide +kernel) (by decide +kernel) (by kernel_rfl)
theorem ba_entry_init : entryFor table "bytearray.__init__" = some Builtin.«bytearray.__init__» := by first | exact entryFor_of_fast (by kernel_rfl) | exact entryFor_of_tree (by kernel_rfl)
theorem ba_bind (v : Value) : Builtin.Bytes.bindOptional "bytearray.__init__" "bytearray" ["source", "encoding", "errors"] [v] [] = pure [some v, none, none] := by kernel_rfl
theorem ba_sub : isSubtype (.type "bytearray") (.type "bytearray") = pure true := by rw [isSubtype_type]; kernel_rfl
theorem owner_bytearray : Manifest.owners.lookup (String.ofList ['y','a','r','r','a','e','t','y','b'].reverse) = some Manifest.sig_bytearray := by kernel_rfl
theorem ba_args_init (a b : Value) : argsOk "bytearray.__init__" ⟨[a, b], []⟩ := by
  unfold argsOk; rw [signature?_of (id := "bytearray.__init__") (n := ['_', '_', 't', 'i', 'n', 'i', '_', '_']) (o := ['y','a','r','r','a','e','t','y','b']) (by kernel_rfl) owner_bytearray]; kernel_rfl
theorem ba_release : typeLookup (.type "bytearray") "__release_buffer__" = pure (some (.builtin "bytearray.__release_buffer__")) := by rw [typeLookup_type, builtinLookup_eq_fast]; kernel_rfl
theorem ba_dec_type_call : decIds.contains "type.__call__" = false := by decide +kernel
theorem ba_dec_init : decIds.contains "bytearray.__init__" = false := by decide +kernel
set_option maxRecDepth 1000000 in
set_option maxHeartbeats 4000000 in
theorem ba_owner : ("bytearray.__new__".splitOn ".__new__").headD "" = "bytearray" := by simp +decide [String.splitOn, String.splitOnAux]

section
variable {prog : Program} {w : World} {A : Around} {E : Value → Shared → Prop} {s : Shared}
theorem ba_code_new (a : Value) {Q₁ : Value → Shared → Prop}
    (h : Q₁ (.ref s.heap.objs.size) { s with heap := s.heap.push { cls := .type "bytearray", data := .bytearray #[] } }) :
    codeAny (model prog w) A (.call (.builtin "bytearray.__new__") ⟨[.type "bytearray", a], []⟩) (wants Q₁ E) s := by
  refine codeAny_of_tree ?_
  show wpAny _ A.in1 (do checkBuiltinCall "bytearray.__new__" ⟨[.type "bytearray", a], []⟩; again (.builtin "bytearray.__new__" ⟨[.type "bytearray", a], []⟩)) _ _ s
  refine wpAny_bind (wpAny_of_eq (ba_newCall a) (wpAny_pure ⟨plainId_quiet ba_plain_new _, codeAny_builtin_stack ba_entry_new rfl fun p st => ?_⟩))
  rw [Around.under_plainId ba_plain_new _]
  have hsub := ba_sub
  have hown := ba_owner
  obtain ⟨hp, g, d, tk, os⟩ := s
  simp only [hown]
  wp_walk
  exact h
end
end Mine
end

/-! ## BA2 -/
section
open PySem PySem.W PySem.Spec PySem.Calls PyProof.Rows
set_option Elab.async false
set_option maxRecDepth 100000
set_option maxHeartbeats 8000000
namespace Mine
theorem ba_rel1 : (!"bytearray.__release_buffer__".endsWith ("." ++ "__release_buffer__")) = false := by decide +kernel
theorem ba_rel2 : "bytearray.__release_buffer__".dropRight ("__release_buffer__".length + 1) = "bytearray" := by decide +kernel
section
variable {prog : Program} {w : World} {A : Around} {E : Value → Shared → Prop} {s : Shared}
theorem wpN_exported {self : Value} {Q : Bool → Shared → Prop} (h : Q false s) : wpN (model prog w) A (Builtin.Bytes.exported self) Q E s := by
  unfold Builtin.Bytes.exported
  refine wpN_bind (wpN_stack fun st hst => wpN_pure ?_)
  rw [List.any_eq_false.mpr fun x hx => ?_]
  · exact h
  have hd := hst x hx
  obtain ⟨c, p⟩ := x
  dsimp only at hd
  cases c with
  | builtin id args =>
    have no : ∀ l : String, decIds.contains l = true → id ≠ l := fun l hl e => by
      subst e
      exact Bool.false_ne_true (hd.symm.trans hl)
    delta PySem.Builtin.Bytes.exported.match_1
    dsimp only
    with_unfolding_all show ¬ (dite (id = "bytearray.__contains__") _ fun _ => dite (id = "bytearray.__mod__") _ fun _ => dite (id = "bytearray.__rmod__") _ fun _ => dite (id = "_struct.pack_into.held") _ fun _ => dite (id = "bytearray.find.held") _ fun _ => _) = true
    rw [dif_neg (no _ (by decide +kernel)), dif_neg (no _ (by decide +kernel)), dif_neg (no _ (by decide +kernel)), dif_neg (no _ (by decide +kernel)), dif_neg (no _ (by decide +kernel))]
    obtain ⟨pos, kw⟩ := args
    cases pos with
    | nil => exact Bool.false_ne_true
    | cons v tail =>
      intro h2
      have h3 := (Bool.and_eq_true_iff.mp h2).2
      exact no id (List.contains_iff_mem.mpr (List.mem_append_right _ (List.contains_iff_mem.mp h3))) rfl
  | _ => exact Bool.false_ne_true

theorem ba_write {a : Addr} {b : Array UInt8} {f : Array UInt8 → Array UInt8} {Q : Unit → Shared → Prop} (ho : s.heap.get? a = some { cls := .type "bytearray", data := .bytearray b })
    (hz : (f b).size ≤ sizeLine)
    (h : ∀ h', Heap.SameBut a s.heap h' → h'.get? a = some { cls := .type "bytearray", data := .bytearray (f b) } → Q () { s with heap := h' }) :
    wpAny (model prog w) A (Builtin.Bytes.write (.ref a) f) Q E s := by
  show wpAny _ _ (updateBytearray a f) _ _ _
  unfold updateBytearray
  refine wpAny_bind (wpAny_load ho ?_)
  show wpAny _ _ (update a (Obj.mapBytearray f) >>= fun _ => lookBehind a) _ _ _
  refine wpAny_bind (wpAny_update ho ?_)
  have ho₂ : (s.heap.update a (Obj.mapBytearray f)).get? a = some { cls := .type "bytearray", data := .bytearray (f b) } := Heap.get?_update_self (Obj.mapBytearray f) ho rfl
  refine wpAny_lookBehind ho₂ ?_ (h _ (Heap.SameBut.update ..) ho₂)
  show (if (f b).size > sizeLine then some "bytearray:memory" else none) = none
  rw [if_neg (Nat.not_lt.mpr hz)]

theorem ba_ownRelease {a : Addr} {Q : Bool → Shared → Prop} (hT : s.TypeIs (.ref a) "bytearray") (h : Q false s) : wpAny (model prog w) A (Builtin.Bytes.ownRelease (.ref a)) Q E s := by
  unfold Builtin.Bytes.ownRelease Builtin.Bytes.slotIsOwn
  refine wpAny_bind (wpAny_bind (wpAny_specialOf hT ba_release ?_))
  dsimp only
  rw [ba_rel1, ba_rel2]
  refine bm_if_false rfl ?_
  exact wpAny_isInstance hT ba_sub (wpAny_pure h)

theorem ba_init {D : Addr} {n : Int} {t : Tok} {Q : Fin → Shared → Prop} {E' : Value → Shared → Prop} (hS : s.heap.get? D = some { cls := .type "bytearray", data := .bytearray #[] }) (h0 : 0 < n) (h1 : n ≤ 4096)
    (h : ∀ h', Heap.SameBut D s.heap h' → h'.get? D = some { cls := .type "bytearray", data := .bytearray (Array.replicate n.toNat 0) } → Q (.done (.ret .none)) { s with heap := h' }) :
    wpN (model prog w) A (Builtin.«bytearray.__init__» ⟨[.ref D, .int n t], []⟩) Q E' s := by
  have hT : s.TypeIs (.ref D) "bytearray" := ⟨_, hS, rfl⟩
  unfold Builtin.«bytearray.__init__»
  dsimp only
  refine wpN_then (ba_ownRelease hT ?_)
  simp only [ba_bind, pure_bind, Bool.false_eq_true, if_false]
  refine wpN_then (wpAny_of_eq (a := ()) rfl ?_)
  refine wpN_then (wpAny_of_eq (a := ()) rfl ?_)
  refine wpN_bind ?_
  unfold orM
  refine wpN_bind (wpN_exported ?_)
  dsimp only [toBool]
  unfold Builtin.Bytes.exportsOf
  refine wpN_of (wpAny_bind (wpAny_bind (wpAny_load hS (wpAny_pure (wpAny_pure ?_)))))
  refine wpN_of ?_
  refine bm_if_false (by decide) ?_
  refine wpAny_bind (ba_write hS (Nat.zero_le _) fun h₁ hs₁ hS₁ => ?_)
  refine wpAny_bind (wpAny_of_eq (a := none) rfl ?_)
  refine bm_if_false rfl ?_
  refine wpAny_bind ?_
  refine bm_if_false rfl ?_
  refine bm_if_false rfl ?_
  refine wpAny_pure ?_
  refine wpAny_bind (wpAny_specialOf (typeIs_int _ _ _) (show typeLookup (.type "int") (PySem.Str.ofString "__index__") = pure (some (.builtin "int.__index__")) from by rw [typeLookup_type, builtinLookup_eq_fast]; kernel_rfl) ?_)
  refine bm_if_true rfl ?_
  refine wpAny_bind (wpAny_attempt (wpAny_of_eq (a := n) rfl ?_))
  dsimp only
  refine bm_if_false (by simp only [Builtin.Bytes.fitsIndex, Bool.not_eq_false', Bool.and_eq_true, decide_eq_true_eq]; omega) ?_
  refine wpAny_ite ?_
  rw [if_neg (by omega)]
  refine bm_if_false (by rw [beq_eq_false_iff_ne]; omega) ?_
  refine bm_if_false (by unfold Builtin.Bytes.tooLong; rw [decide_eq_false_iff_not, sizeLine_eq]; omega) ?_
  refine wpAny_bind (wpAny_rule ?_)
  refine wpAny_ite ?_
  rw [if_pos (by omega)]
  refine wpAny_bind (ba_write hS₁ (by rw [Array.size_replicate, sizeLine_eq]; omega) fun h₂ hs₂ hS₂ => ?_)
  exact wpAny_pure (h h₂ ⟨hs₂.1.trans hs₁.1, fun b hb => (hs₂.2 b hb).trans (hs₁.2 b hb)⟩ hS₂)

theorem ba_new {n : Int} {t : Tok} {Q : Value → Shared → Prop} {h₀ : Heap} {L : Addr} {m : PySem.Str → Option Value} {news : List (Addr × Obj)} (F : Fr h₀ L s.heap m) (N : News h₀ L s.heap news) (h0 : 0 < n) (h1 : n ≤ 4096)
    (h : ∀ D h', Fr h₀ L h' m → News h₀ L h' ((D, { cls := .type "bytearray", data := .bytearray (Array.replicate n.toNat 0) }) :: news) → (∀ q ∈ news, q.1 < D) → Q (.ref D) { s with heap := h' }) :
    wpN (model prog w) A (call (.type "bytearray") [.int n t]) Q E s := by
  refine wpN_call (codeN_of_tree rfl ?_)
  show wpN _ _ (callAny (.type "bytearray") _) _ _ _
  refine wpN_pure ⟨Code.quiet_builtin _ (by decide +kernel), codeN_builtin PySem.F.entry_type_call ba_dec_type_call ?_⟩
  rw [Around.under_plain (weight_type_call_type "bytearray" [.int n t] []) rfl]
  have e1 := ba_called.notType
  have e2 := ba_called.canCreate
  have e3 := ba_called.made
  have e4 := ba_typeCall (.int n t)
  have e5 := ba_mro
  unfold Builtin.«type.__call__»
  simp only [e1, e2, e3, e4, e5, pure_bind, Bool.false_eq_true, if_false, List.isEmpty_cons]
  refine wpN_then (wpAny_holding (wpAny_call (ba_code_new _ ?_)))
  have hS : (s.heap.push { cls := .type "bytearray", data := .bytearray #[] }).get? s.heap.objs.size = some { cls := .type "bytearray", data := .bytearray #[] } := Heap.get?_push_size _ rfl
  have hT : ({ s with heap := s.heap.push { cls := .type "bytearray", data := .bytearray #[] } } : Shared).TypeIs (.ref s.heap.objs.size) "bytearray" := ⟨_, hS, rfl⟩
  refine wpN_then (wpAny_isInstance hT ba_sub ?_)
  simp only [Bool.not_true, Bool.false_eq_true, if_false]
  refine wpN_bind (wpN_holding ?_)
  unfold callSpecial?
  refine wpN_then (wpAny_specialOf hT ba_slot_init.lookup ?_)
  simp only [ba_slot_init.bind, pure_bind]
  refine wpN_holding (wpN_bind (wpN_call (codeN_of_tree rfl ?_)))
  show wpN _ _ (do checkBuiltinCall "bytearray.__init__" ⟨[.ref s.heap.objs.size, .int n t], []⟩; again (.builtin "bytearray.__init__" ⟨[.ref s.heap.objs.size, .int n t], []⟩)) _ _ _
  refine wpN_then (ba_slot_init.check _ _ _ _ _ _ _ _ hT (ba_args_init _ _) (wpN_pure ⟨plainId_quiet ba_slot_init.plain _, codeN_builtin ba_entry_init ba_dec_init ?_⟩))
  refine ba_init hS h0 h1 fun h' hs' hS' => ?_
  refine wpN_pure ?_
  dsimp only
  have hk : ∀ b o, s.heap.get? b = some o → h'.get? b = some o := fun b o e => (hs'.2 b (Nat.ne_of_lt (Heap.lt_size e))).trans (Heap.get?_push_of_some _ e)
  exact wpN_pure (h _ h' (F.keeps hk) (news_pushed F N hk hS' rfl) fun q hq => Heap.lt_size (N q hq).1)
end
end Mine
end

/-! ## BA3 -/
section
open PySem PySem.W PySem.Spec PySem.Calls PyProof.Rows
set_option Elab.async false
set_option maxRecDepth 100000
set_option maxHeartbeats 8000000
namespace Mine
theorem ba_slot_setitem : Slot "bytearray" "__setitem__" "bytearray.__setitem__" :=
  .of (owner := "bytearray") (n := "__setitem__") (by rw [typeLookup_type, builtinLookup_eq_fast]; kernel_rfl) (by decide +kernel) (by decide +kernel) (by decide +kernel)
    (by first | exact .inl (by decide +kernel) | exact .inr (by decide +kernel)) (by rw [isSubtype_type]; kernel_rfl)
theorem ba_entry_setitem : entryFor table "bytearray.__setitem__" = some Builtin.«bytearray.__setitem__» := by first | exact entryFor_of_fast (by kernel_rfl) | exact entryFor_of_tree (by kernel_rfl)
theorem ba_args_setitem (a b c : Value) : argsOk "bytearray.__setitem__" ⟨[a, b, c], []⟩ := by
  unfold argsOk; rw [signature?_of (id := "bytearray.__setitem__") (n := ['_', '_', 'm', 'e', 't', 'i', 't', 'e', 's', '_', '_']) (o := ['y','a','r','r','a','e','t','y','b']) (by kernel_rfl) owner_bytearray]; kernel_rfl
theorem idx_int' : typeLookup (.type "int") (PySem.Str.ofString "__index__") = pure (some (.builtin "int.__index__")) := by rw [typeLookup_type, builtinLookup_eq_fast]; kernel_rfl
theorem ba_no_bytes : typeLookup (.type "bytearray") "__bytes__" = pure none := by rw [typeLookup_type, builtinLookup_eq_fast]; kernel_rfl
theorem ba_no_index : typeLookup (.type "bytearray") "__index__" = pure none := by rw [typeLookup_type, builtinLookup_eq_fast]; kernel_rfl
theorem ba_buffer : typeLookup (.type "bytearray") "__buffer__" = pure (some (.builtin "bytearray.__buffer__")) := by rw [typeLookup_type, builtinLookup_eq_fast]; kernel_rfl
theorem ba_buf1 : (!"bytearray.__buffer__".endsWith ("." ++ "__buffer__")) = false := by decide +kernel
theorem ba_buf2 : "bytearray.__buffer__".dropRight ("__buffer__".length + 1) = "bytearray" := by decide +kernel

section
variable {prog : Program} {w : World} {A : Around} {E : Value → Shared → Prop} {s : Shared}
theorem ba_setItem {D : Addr} {b : Array UInt8} {k v : Int} {t u : Tok} {Q : Unit → Shared → Prop} (hS : s.heap.get? D = some { cls := .type "bytearray", data := .bytearray b })
    (h0 : 0 ≤ k) (hn : k < b.size) (hz : b.size ≤ 4096) (hv0 : 0 ≤ v) (hv1 : v < 256)
    (hQ : ∀ h', Heap.SameBut D s.heap h' → h'.get? D = some { cls := .type "bytearray", data := .bytearray (b.setIfInBounds k.toNat v.toNat.toUInt8) } → Q () { s with heap := h' }) :
    wpAny (model prog w) A (setItem (.ref D) (.int k t) (.int v u)) Q E s := by
  have hT : s.TypeIs (.ref D) "bytearray" := ⟨_, hS, rfl⟩
  unfold setItem
  try with_reducible refine wpAny_holding ?_
  first | refine wpAny_bind (wpAny_pure ?_) | skip
  refine wpAny_bind (wpAny_sequenceKey hT (by decide) ?_)
  refine wpAny_bind (wpAny_callSpecial?_slot (name := PySem.Str.ofString "__setitem__") hT ba_slot_setitem
    (wpAny_call_entry ba_slot_setitem hT ba_entry_setitem ?_ (ba_args_setitem _ _ _)))
  show wpAny _ _ (Builtin.Bytes.subscript? (.int k t) >>= _) _ _ s
  refine wpAny_bind ?_
  unfold Builtin.Bytes.subscript?
  refine wpAny_bind (wpAny_specialOf (typeIs_int _ _ _) idx_int' ?_)
  refine bm_if_false rfl ?_
  refine wpAny_bind (wpAny_of_eq (a := k) rfl ?_)
  refine bm_if_false (by simp only [Builtin.Bytes.fitsIndex, Bool.not_eq_false', Bool.and_eq_true, decide_eq_true_eq]; omega) ?_
  refine wpAny_pure ?_
  dsimp only
  refine wpAny_bind ?_
  unfold Builtin.Bytes.byteValue
  refine wpAny_bind (wpAny_of_eq (a := v) rfl ?_)
  refine bm_if_false (by simp only [Bool.or_eq_false_iff, decide_eq_false_iff_not]; omega) ?_
  refine wpAny_pure ?_
  refine wpAny_bind ?_
  unfold Builtin.Bytes.payload Builtin.Bytes.payload?
  refine wpAny_bind (wpAny_bind (wpAny_load hS (wpAny_pure (wpAny_pure ?_))))
  have hk : seqIndex? k b.size = some k.toNat := by
    unfold seqIndex?
    simp only [h0, hn, show ¬ k < 0 by omega, if_false, if_true, decide_true, Bool.and_self]
    try rfl
  rw [hk]
  dsimp only
  refine wpAny_bind (ba_write hS (by rw [Array.size_setIfInBounds, sizeLine_eq]; omega) fun h' hs' hS' => ?_)
  exact wpAny_pure ⟨_, rfl, wpAny_pure (hQ h' hs' hS')⟩

theorem ba_bytes_new {D : Addr} {b : Array UInt8} {Q : Value → Shared → Prop} (hS : s.heap.get? D = some { cls := .type "bytearray", data := .bytearray b }) (hz : b.size ≤ 4096)
    (hQ : ∀ t k, Q (.bytes b t) { s with toks := k }) :
    codeAny (model prog w) A (.call (.builtin "bytes.__new__") ⟨[.type "bytes", .ref D], []⟩) (wants Q E) s := by
  have hT : s.TypeIs (.ref D) "bytearray" := ⟨_, hS, rfl⟩
  refine codeAny_of_tree ?_
  show wpAny _ A.in1 (do checkBuiltinCall "bytes.__new__" ⟨[.type "bytes", .ref D], []⟩; again (.builtin "bytes.__new__" ⟨[.type "bytes", .ref D], []⟩)) _ _ s
  refine wpAny_bind (wpAny_of_eq (PySem.F.bm_newCall _) (wpAny_pure ⟨plainId_quiet PySem.F.bm_plain _, codeAny_builtin PySem.F.bm_entry ?_⟩))
  rw [Around.under_plainId PySem.F.bm_plain _]
  unfold Builtin.«bytes.__new__»
  refine wpAny_bind (wpAny_of_eq (a := true) rfl ?_)
  refine bm_if_false rfl ?_
  refine wpAny_bind (wpAny_of_eq PySem.F.bm_sub ?_)
  refine bm_if_false rfl ?_
  refine wpAny_bind (wpAny_of_eq (PySem.F.bm_bind _) ?_)
  refine wpAny_bind (wpAny_of_eq (a := ()) rfl ?_)
  refine wpAny_bind (wpAny_of_eq (a := ()) rfl ?_)
  refine bm_if_false rfl ?_
  refine wpAny_bind (wpAny_specialOf hT ba_no_bytes ?_)
  refine wpAny_bind (wpAny_bind ?_)
  show wpAny _ _ (load D >>= _) _ _ _
  refine wpAny_bind (wpAny_load hS ?_)
  refine wpAny_pure (wpAny_pure ?_)
  refine bm_if_false rfl ?_
  refine wpAny_bind (wpAny_specialOf hT ba_no_index ?_)
  refine bm_if_true rfl ?_
  first
    | show wpAny _ _ (Builtin.Bytes.buffer? "bytes.__new__" (.ref D) true >>= _) _ _ _
    | (refine wpAny_bind ?_; show wpAny _ _ (Builtin.Bytes.buffer? "bytes.__new__" (.ref D) true >>= _) _ _ _)
  refine wpAny_bind ?_
  unfold Builtin.Bytes.buffer?
  refine wpAny_bind (wpAny_specialOf hT ba_buffer ?_)
  dsimp only
  refine wpAny_bind ?_
  unfold Builtin.Bytes.slotIsOwn
  refine wpAny_bind (wpAny_specialOf hT ba_buffer ?_)
  dsimp only
  rw [ba_buf1, ba_buf2]
  refine bm_if_false rfl ?_
  refine wpAny_isInstance hT ba_sub ?_
  refine bm_if_false rfl ?_
  refine wpAny_bind (wpAny_specialOf hT ba_buffer ?_)
  refine wpAny_bind (ba_ownRelease hT ?_)
  refine bm_if_false rfl ?_
  refine wpAny_bind ?_
  unfold Builtin.Bytes.payload Builtin.Bytes.payload?
  refine wpAny_bind (wpAny_bind (wpAny_load hS (wpAny_pure (wpAny_pure ?_))))
  refine wpAny_pure ?_
  refine wpAny_bind (wpAny_rule ?_)
  refine wpAny_bind (wpAny_mkBytes ?_ (by rw [sizeLine_eq]; omega))
  show wpAny _ _ (if (Value.type "bytes" == Value.type "bytes") = true then _ else _) _ _ _
  refine bm_if_true (by decide) ?_
  first
    | exact wpAny_pure (hQ _ _)
    | exact wpAny_bind (wpAny_pure (wpAny_pure (hQ _ _)))

theorem ba_bytes {D : Addr} {b : Array UInt8} {Q : Value → Shared → Prop} (hS : s.heap.get? D = some { cls := .type "bytearray", data := .bytearray b }) (hz : b.size ≤ 4096)
    (hQ : ∀ t k, Q (.bytes b t) { s with toks := k }) : wpAny (model prog w) A (call (.type "bytes") [.ref D]) Q E s := by
  refine callType_codes (Q₁ := fun obj s₁ => s₁.TypeIs obj "bytes" ∧ Q obj s₁) PySem.F.bm_called (PySem.F.bm_typeCall _) PySem.F.entry_object_init
    (ba_bytes_new hS hz fun t k => ⟨PySem.W.typeIs_bytes _ _ _, hQ t k⟩) fun obj s₁ h₁ => ?_
  exact ⟨h₁.1, PySem.F.args_object_init_2 obj _, object_init_meets PySem.F.bm_called.init.lookup PySem.F.bm_called.made (by decide) prog w A.in1 _ s₁ ⟨h₁.1, rfl, h₁.2⟩⟩
end
end Mine
end

/-! ## BaseN -/
section
open PySem PySem.W PySem.Spec PySem.Calls PyProof.Rows
set_option Elab.async false
set_option maxRecDepth 100000
set_option maxHeartbeats 8000000
namespace Mine
section
variable {b : Bool} {prog : Program} {w : World} {A : Around} {s : Shared} {R : Result → Shared → Prop}
theorem codeN_func {body : List Stmt} {env : Env}
    (h : wpB b (model prog w) (A.deeper env) (execs body env) (fun f s' => R (.ok (.ret (match f with | .ret v => v | _ => .none))) s') (fun _ _ => False) s) :
    codeB b (model prog w) A (.func body env) R s := by
  refine codeN_of_tree rfl ?_
  show wpB b _ (A.deeper env) (do point; match ← (execs body env).onRaise (leaving env) with | .ret v => ret v | _ => ret .none) _ _ s
  refine wpN_then (wpAny_point (wpN_bind (wpN_onRaise (wpN_mono h (fun f s' h' => ?_) fun _ _ h' => h'))))
  cases f <;> exact wpN_pure h'
theorem codeN_call_function {a : Addr} {args : Args} {o : Obj} {fd : FuncData} {body : List Stmt} (hroom : A.depth < recursionLimit)
    (ho : s.heap.get? a = some o)
    (hd' : o.data = .func fd) (hco : fd.scope.isCoroutine = false) (hgen : fd.scope.isGenerator = false) (hbody : fd.body = .stmts body) (hcd : s.heap.CodeRec fd.code fd.qualname)
    (h : wpAny (model prog w) A.in1 (bindArgs fd args) (fun binds s₁ =>
      wpAny (model prog w) A.in1 (newFunctionEnv fd.scope fd.globals fd.closure binds (fd.qualname ++ ".<locals>.") (some a) fd.code none fd.builtins)
        (fun env s₂ => s₂.heap.NoLimit ∧ codeB b (model prog w) A (.func body env) R s₂) (fun e s' => R (.error e) s') s₁) (fun e s' => R (.error e) s') s) :
    codeB b (model prog w) A (.call (.ref a) args) R s := by
  refine codeN_of_tree rfl (wpN_of ?_)
  show wpAny _ A.in1 (callAny (.ref a) args) _ _ s
  simp only [callAny]
  refine wpAny_bind (wpAny_load ho ?_)
  obtain ⟨c, oc, vs, tq, hc, hoc, hdc, hq⟩ := hcd
  simp only [hd', callFunction, hco, hgen, hbody, hc]
  rw [hc] at h
  refine wpAny_bind (m := field (.ref c) 1) (wpAny_field hoc hdc hq (wpAny_bind (wpAny_pure ?_)))
  exact wpAny_bind (wpAny_mono h (fun binds s₁ h₁ => wpAny_bind (wpAny_mono h₁ (fun env s₂ h₂ => wpAny_bind (wpAny_enterFrame h₂.1 hroom
    (wpAny_pure (And.intro rfl h₂.2)))) fun _ _ h' => h')) fun _ _ h' => h')
end
section
variable {b : Bool} {prog : Program} {w : World} {A : Around} {s : Shared} {K : Frag} {h₀ : Heap} {mg mb : PySem.Str → Option Value} {news : List (Addr × Obj)} {p : Program} {loose : List PySem.Str} {mean : ExcName → Option Value}
  {R : Result → Shared → Prop} {name qual : PySem.Str} {params : Arguments} {body : List Stmt} {scope : Scope} {dV kV doc pm cdv ct oc : Value} {an od : Option Addr} {osl : Array (Option Value)} {f : Addr} {args : Args} {binds : List (PySem.Str × Value)}

theorem enterN (X₀ : K.In h₀) (T : Top p loose mean mg mb h₀) (hk₀ : ∀ b o, h₀.get? b = some o → s.heap.get? b = some o)
    (hN : ∀ q ∈ news, s.heap.get? q.1 = some q.2 ∧ h₀.get? q.1 = none)
    (ho : K.lookup f = some ⟨oc, od, .func (fnOf name qual params body scope dV kV doc pm an cdv ct), osl⟩) (hcd : codeIn K cdv qual = true) (hroom : A.depth < recursionLimit)
    (hbind : BindsTo s (fnOf name qual params body scope dV kV doc pm an cdv ct) args binds) (hloc : ∀ y ∈ binds, scope.names.lookup y.1 = some .local)
    (h : ∀ g L' h₁, (∀ b o, s.heap.get? b = some o → b ∉ news.map (·.1) → g.get? b = some o) → (∀ b o, g.get? b = some o → s.heap.get? b = some o) →
      Fr g L' h₁ (fun y => binds.reverse.lookup y) → News g L' h₁ news → K.In g → Top p loose mean mg mb g → (∀ q ∈ news, q.1 < L') →
      wpB b (model prog w) (A.deeper (envOf qual scope L' f cdv)) (execs body (envOf qual scope L' f cdv))
        (fun fl s' => R (.ok (.ret (match fl with | .ret v => v | _ => .none))) s') (fun _ _ => False)
        { s with heap := h₁, toks := s.toks + binds.length })
    (hco : scope.isCoroutine = false) (hgen : scope.isGenerator = false) (hk : scope.kind = .function)
    (hcell : ∀ x ∈ scope.names, x.2 ≠ .cell) : codeB b (model prog w) A (.call (.ref f) args) R s := by
  have X := X₀.keeps hk₀
  have nm : ∀ b o, h₀.get? b = some o → b ∉ news.map (·.1) := fun b o e q => by
    obtain ⟨p, hp, rfl⟩ := List.mem_map.mp q
    rw [(hN p hp).2] at e; cases e
  have st : ∀ b o, h₀.get? b = some o → (hideAll s.heap (news.map (·.1))).get? b = some o := fun b o e => hideAll_get _ (hk₀ b o e) (nm b o e)
  refine codeN_call_function (fd := fnOf name qual params body scope dV kV doc pm an cdv ct) hroom (X _ _ ho) rfl hco hgen rfl (codeRec_of X hcd) (hbind _ _ _ _ ?_)
  refine wpAny_newFunctionEnv hcell hloc (fun h₁ hns hsb₀ => ⟨(T.nolimit.keeps hk₀).fresh _ hsb₀, codeN_func ?_⟩) hk
  have hk₁ : ∀ b o, s.heap.get? b = some o → h₁.get? b = some o := fun b o e => hsb₀.extBut b o (Nat.ne_of_lt (Heap.lt_size e)) (Heap.get?_push_of_some _ e)
  exact wpN_mono (h (hideAll s.heap (news.map (·.1))) s.heap.objs.size h₁ (fun b o e n => hideAll_get _ e n) (fun b o e => of_hideAll _ e) ⟨hns, fun b o e => hk₁ b o (of_hideAll _ e), Nat.le_of_eq (hideAll_size _ _)⟩
    (fun p hp => ⟨hk₁ _ _ (hN p hp).1, Nat.ne_of_lt (Heap.lt_size (hN p hp).1), hideAll_none _ (List.mem_map_of_mem hp)⟩) (X₀.keeps st) (T.keeps st) (fun p hp => Heap.lt_size (hN p hp).1)) (fun fl s' hl => hl) fun _ _ y => y.elim

theorem enterCN (X₀ : K.In h₀) (T : Top p loose mean mg mb h₀) (hk₀ : ∀ b o, h₀.get? b = some o → s.heap.get? b = some o)
    (hN : ∀ q ∈ news, s.heap.get? q.1 = some q.2 ∧ h₀.get? q.1 = none)
    (ho : K.lookup f = some ⟨oc, od, .func (fnOf name qual params body scope dV kV doc pm an cdv ct), osl⟩) (hcd : codeIn K cdv qual = true) (hroom : A.depth < recursionLimit)
    (hbind : BindsTo s (fnOf name qual params body scope dV kV doc pm an cdv ct) args binds)
    (hkind : (binds.all fun y => scope.names.lookup y.1 == some .local || scope.names.lookup y.1 == some .cell) = true)
    (hnd : ((cellsFrom 0 scope.names []).map (·.1)).Nodup)
    (h : ∀ g L' h₁ tk cells, (∀ b o, s.heap.get? b = some o → b ∉ news.map (·.1) → g.get? b = some o) → (∀ b o, g.get? b = some o → s.heap.get? b = some o) →
      Fr g L' h₁ (bindL (envOfC qual scope L' f cdv).kindOf binds fun _ => none) → News g L' h₁ (cells ++ news) →
      CellsAre (bindC (envOfC qual scope L' f cdv).kindOf binds fun _ => none) (cellsFrom (L' + 1) scope.names []) cells → K.In g → Top p loose mean mg mb g → (∀ q ∈ news, q.1 < L') →
      wpB b (model prog w) (A.deeper (envOfC qual scope L' f cdv)) (execs body (envOfC qual scope L' f cdv))
        (fun fl s' => R (.ok (.ret (match fl with | .ret v => v | _ => .none))) s') (fun _ _ => False)
        { s with heap := h₁, toks := tk })
    (hco : scope.isCoroutine = false) (hgen : scope.isGenerator = false) (hk : scope.kind = .function) : codeB b (model prog w) A (.call (.ref f) args) R s := by
  have X := X₀.keeps hk₀
  have nm : ∀ b o, h₀.get? b = some o → b ∉ news.map (·.1) := fun b o e q => by
    obtain ⟨p, hp, rfl⟩ := List.mem_map.mp q
    rw [(hN p hp).2] at e; cases e
  have st : ∀ b o, h₀.get? b = some o → (hideAll s.heap (news.map (·.1))).get? b = some o := fun b o e => hideAll_get _ (hk₀ b o e) (nm b o e)
  refine codeN_call_function (fd := fnOf name qual params body scope dV kV doc pm an cdv ct) hroom (X _ _ ho) rfl hco hgen rfl (codeRec_of X hcd) (hbind _ _ _ _ ?_)
  refine wpAny_newFunctionEnv_cells hk (kindsX hkind _) fun env' he s' x => ?_
  subst he
  refine ⟨(T.nolimit.keeps hk₀).keeps x.toInCall.keep, codeN_func ?_⟩
  obtain ⟨h₁, tk, rfl, _⟩ := x.done
  have hk₁ := x.toInCall.keep
  obtain ⟨cells, NC, Y⟩ := Cl.news (h₀ := s.heap) (Nat.le_refl _) fun n c hm => ⟨x.cell n c (lookup_of_mem_nodup (cellsFrom_names scope.names 0 (s.heap.objs.size + 1) [] [] rfl ▸ hnd) hm), x.above n c hm⟩
  refine wpN_mono (h (hideAll s.heap (news.map (·.1))) s.heap.objs.size h₁ tk cells (fun b o e n => hideAll_get _ e n) (fun b o e => of_hideAll _ e) ⟨x.toInCall.ns, fun b o e => hk₁ b o (of_hideAll _ e), Nat.le_of_eq (hideAll_size _ _)⟩ (fun p hp => ?_) Y (X₀.keeps st) (T.keeps st) (fun p hp => Heap.lt_size (hN p hp).1)) (fun fl s' hl => hl) fun _ _ y => y.elim
  rcases List.mem_append.mp hp with hp | hp
  · refine ⟨(NC p hp).1, (NC p hp).2.1, ?_⟩
    cases q : (hideAll s.heap (news.map (·.1))).get? p.1 with
    | none => rfl
    | some o => have := of_hideAll _ q; rw [(NC p hp).2.2] at this; cases this
  · exact ⟨hk₁ _ _ (hN p hp).1, Nat.ne_of_lt (Heap.lt_size (hN p hp).1), hideAll_none _ (List.mem_map_of_mem hp)⟩
end
end Mine
end

/-! ## PathN -/
section
open PySem PySem.W PySem.Spec PySem.Calls PyProof.Rows
set_option Elab.async false
set_option maxRecDepth 100000
set_option maxHeartbeats 8000000
namespace Mine
section
variable {b : Bool} {M : Model} {A : Around} {E : Value → Shared → Prop} {s : Shared} {env : Env}
theorem wpN_execs_cons {st : Stmt} {rest : List Stmt} {Q : Flow → Shared → Prop}
    (h : wpB b M A (exec st env) (fun f s' => match f with | .next => wpB b M A (execs rest env) Q E s' | f => Q f s') E s) :
    wpB b M A (execs (st :: rest) env) Q E s := fun Γ p hΓ h1 => by
  rw [execs_cons, Sem.wp_bind']
  refine Sem.wp_mono M Γ _ (fun f p' s' h' => ?_) (fun _ _ _ h' => h') _ _ (h Γ p hΓ h1)
  cases f <;> first | exact h' Γ p' hΓ h1 | exact h'
theorem wpN_Assign_Name {x : PySem.Str} {pos' : Pos} {value : Expr} {pos : Pos} {Q : Flow → Shared → Prop}
    (h : wpB b M A (eval value env) (fun v s₁ => wpAny M A (storeName env x v) (fun _ => Q .next) E s₁) E s)
    (hs : swapsWith value (some (.Name x pos')) pos.line env = pure false := by rfl) :
    wpB b M A (exec (.Assign [.Name x pos'] value pos) env) Q E s := fun Γ p hΓ h1 => by
  simp only [exec_Assign_Name env x pos' value pos hs, Sem.wp_bind', Sem.wp_cmd_standAt, Sem.wp_bindName, Sem.wp_pure']
  exact Sem.wp_mono M Γ _ (fun v _ s₁ h₁ => h₁ Γ _ hΓ) (fun _ _ _ h' => h') _ _ (h Γ _ hΓ h1)
theorem wpN_Return_some {e : Expr} {pos : Pos} {Q : Flow → Shared → Prop} (h : wpB b M A (eval e env) (fun v => Q (.ret v)) E s) :
    wpB b M A (exec (.Return (some e) pos) env) Q E s := fun Γ p hΓ h1 => by
  simp only [exec_Return_some, Sem.wp_bind', Sem.wp_cmd_standAt, Sem.wp_pure']; exact h Γ _ hΓ h1
theorem wpN_runOwn {c : Code} {h : Option Value} {Q : Flow → Shared → Prop}
    (hc : codeB b M (A.mark h) c (fun r s' => match r with | .ok f => Q f s' | .error _ => False) s) (hnb : h ≠ some byPass := by intro x; cases x) :
    wpB b M A (runOwn c env h) Q E s := by
  unfold runOwn
  exact wpN_onRaise (wpN_run hc hnb)
theorem wpN_For {target iter : Expr} {body orelse : List Stmt} {pos : Pos} {Q : Flow → Shared → Prop}
    (h : wpAny M A (eval iter env) (fun x s₁ => wpAny M A (pyIter x) (fun it s₂ =>
      codeB b M A (.forLoop target it body orelse env) (fun r s' => match r with | .ok f => Q f s' | .error _ => False) s₂) E s₁) E s)
    (hs : ∀ x, foldedSetIterable iter env x = pure x := by intro _; rfl) :
    wpB b M A (exec (.For target iter body orelse pos) env) Q E s := by
  rw [exec_For]
  refine wpN_then (wpAny_standAt (wpN_then (wpAny_mono h (fun x s₁ h₁ => ?_) fun _ _ h' => h')))
  rw [hs x]
  refine wpN_then (wpAny_pure (wpN_then (wpAny_standAt (wpN_then (wpAny_holding (wpAny_mono h₁ (fun it s₂ h₂ => ?_) fun _ _ h' => h'))))))
  exact wpN_runOwn h₂
theorem CallN_ {func : Expr} {args : List Expr} {pos : Pos} {Q : Value → Shared → Prop}
    (h : wpAny M A (eval func env) (fun f s₁ => wpB b M A (callWith pos f [] (backTo pos (starEach args env)) []) Q E s₁) E s)
    (he : eval (.Call func args [] pos) env = (do callWith pos (← eval func env) [] (backTo pos (starEach args env)) (backToKw pos (keywordEach [] env))) := by rfl) :
    wpB b M A (eval (.Call func args [] pos) env) Q E s := by
  rw [he]; exact wpN_then h
theorem callWithN_of {pos : Pos} {f : Value} {first : List Value} {Q : Value → Shared → Prop} {P : Heap → Prop} {args : List (Bool × Sem Value)} {keywords : List (Option PySem.Str × Sem Value)} (hplain : (args.any (·.1) || keywords.any (·.1.isNone)) = false)
    (hk : ∀ h, P h → ∃ k, (k = Keeper.frame ∨ k = Keeper.machine ∨ k = Keeper.boundFrame) ∧ Looks M h (keeperOf f) k)
    (h : wpAny M A (evalArgs f true args keywords) (fun a s₁ => P s₁.heap ∧ wpB b M A (call f (first ++ a.pos) a.kw) Q E s₁) E s) : wpB b M A (callWith pos f first args keywords) Q E s := by
  unfold callWith
  refine wpN_then (wpAny_holding (wpAny_mono h (fun a s₁ h₁ => wpN_then (wpAny_standAt ?_)) fun _ _ x => x))
  obtain ⟨k, hk', L⟩ := hk _ h₁.1
  simp only [hplain]
  refine wpN_then (L.here ?_)
  have tail : ∀ {t : Sem Value}, wpB b M A t Q E s₁ → wpB b M A (t >>= fun r => holding [r] point >>= fun _ => pure r) Q E s₁ :=
    fun ht => wpN_bind (wpN_mono ht (fun r s₂ hr => wpN_of (wpAny_bind (wpAny_holding (wpAny_point (wpAny_pure hr))))) fun _ _ x => x)
  have marked (mk : Value) : wpB b M A (callMarked mk f (first ++ a.pos) a.kw) Q E s₁ := by unfold callMarked; exact wpN_keep h₁.2
  rcases hk' with rfl | rfl | rfl <;> dsimp only <;> first | exact tail h₁.2 | (split <;> first | exact tail h₁.2 | exact tail (marked _))
theorem callWithN_K {K : Frag} {pos : Pos} {f : Value} {first : List Value} {Q : Value → Shared → Prop} {e : Expr} {rest : List Expr} (hk : keepIn K f = true) (h : wpAny M A (spliced (backTo pos (starEach (e :: rest) env))) (fun vs s₁ => K.In s₁.heap ∧ wpB b M A (call f (first ++ vs)) Q E s₁) E s)
    (he : starEach (e :: rest) env = (false, eval e env) :: starEach rest env := by rfl) (hplain : (backTo pos (starEach rest env)).any (·.1) = false := by rfl) :
    wpB b M A (callWith pos f first (backTo pos (starEach (e :: rest) env)) []) Q E s := by
  rw [he] at h ⊢
  exact callWithN_of (by show ((false || (backTo pos (starEach rest env)).any (·.1)) || false) = false; rw [hplain]; rfl) (keeps_K hk) (evalArgs_plain h)
theorem callWithN_type {T : String} {pos : Pos} {first : List Value} {Q : Value → Shared → Prop} {e : Expr} {rest : List Expr} (h : wpAny M A (spliced (backTo pos (starEach (e :: rest) env))) (fun vs s₁ => wpB b M A (call (.type T) (first ++ vs)) Q E s₁) E s)
    (he : starEach (e :: rest) env = (false, eval e env) :: starEach rest env := by rfl) (hplain : (backTo pos (starEach rest env)).any (·.1) = false := by rfl) :
    wpB b M A (callWith pos (.type T) first (backTo pos (starEach (e :: rest) env)) []) Q E s := by
  rw [he] at h ⊢
  exact callWithN_of (P := fun _ => True) (by show ((false || (backTo pos (starEach rest env)).any (·.1)) || false) = false; rw [hplain]; rfl) (fun _ _ => ⟨.machine, .inr (.inl rfl), Looks.of_pure rfl⟩) (evalArgs_plain (wpAny_mono h (fun _ _ x => ⟨trivial, x⟩) fun _ _ x => x))
end
end Mine
end

/-! ## Red -/
section
open PySem PySem.W PySem.Spec PySem.Calls PyProof.Rows
set_option Elab.async false
set_option maxRecDepth 100000
set_option maxHeartbeats 8000000
namespace Mine

def ItAt (o : Obj) (l : Addr) (i : Nat) : Prop := o.cls = .type "list_iterator" ∧ o.data = .fields #[.ref l, .int i 0]
abbrev Keep (h h' : Heap) : Prop := ∀ b o, h.get? b = some o → h'.get? b = some o

section
variable {prog : Program} {w : World} {A : Around} {E : Value → Shared → Prop} {s : Shared} {h₀ : Heap} {L l it : Addr} {m : PySem.Str → Option Value} {news : List (Addr × Obj)} {items : Array Value} {x : Value} {i : Nat} {o : Obj}
theorem iter_list {Q : Value → Shared → Prop} (F : Fr h₀ L s.heap m) (N : News h₀ L s.heap news) (hl : s.heap.IsList l items)
    (h : ∀ I oI h', Fr h₀ L h' m → News h₀ L h' ((I, oI) :: news) → (∀ p ∈ news, p.1 < I) → ItAt oI l 0 → Q (.ref I) { s with heap := h' }) :
    wpAny (model prog w) A (call (.builtin "iter") [.ref l]) Q E s := by
  refine call_function_entry (by decide +kernel) (by decide +kernel) kdk_entry_iter (kdk_args_iter _) ?_
  unfold Builtin.«iter»
  refine wpAny_bind (m := someArgs "iter" 1 2 _) (wpAny_of_eq (a := [Value.ref l]) (by first | rfl | kernel_rfl!) ?_)
  show wpAny _ _ (pyIter (.ref l) >>= _) _ _ _
  refine wpAny_bind (wpAny_pyIter_list hl ?_)
  exact wpAny_pure ⟨_, rfl, h _ _ _ (F.push _) (News.push F N _ rfl) (fun q hq => Heap.lt_size (N q hq).1) ⟨rfl, rfl⟩⟩
theorem next_special {Q : Option Value → Shared → Prop} (hit : s.heap.IsListIter it l i) (hl : s.heap.IsList l items) (hx : items[i]? = some x)
    (hQ : ∀ h', h'.IsListIter it l (i + 1) → Heap.SameBut it s.heap h' → Q (some x) { s with heap := h' }) :
    wpAny (model prog w) A (callSpecial? (.ref it) (PySem.Str.ofString "__next__")) Q E s := by
  obtain ⟨o, ho, hc, hd⟩ := id hit
  obtain ⟨ol, hol, _, nl, hdl⟩ := hl
  refine wpAny_callSpecial?_slot (name := PySem.Str.ofString "__next__") hit.typeIs slot_listiter_next
    (wpAny_call_entry slot_listiter_next hit.typeIs entry_listiter_next ?_ (args_listiter_next _))
  show wpAny _ _ (field (.ref it) 0 >>= _) _ _ s
  refine wpAny_bind (wpAny_field ho hd (x := .ref l) rfl ?_)
  show wpAny _ _ (if (Value.ref l == Value.none) = true then _ else _) _ _ s
  rw [if_neg (show ¬ ((Value.ref l == Value.none) = true) from Bool.false_ne_true)]
  show wpAny _ _ (field (.ref it) 1 >>= _) _ _ s
  refine wpAny_bind (wpAny_field ho hd (x := .int i 0) rfl ?_)
  show wpAny _ _ (seqItems? (.ref l) >>= _) _ _ s
  refine wpAny_bind (wpAny_seqItems hol hdl ?_)
  simp only [Int.toNat_natCast, hx]
  refine wpAny_bind (wpAny_setField ho hd (by simp) (wpAny_pure ⟨x, rfl, hQ _ ?_ (Heap.SameBut.update ..)⟩))
  exact ⟨_, Heap.get?_update_self _ ho (Obj.isFreed_of_fields (Obj.data_mapFields hd _)), (Obj.cls_mapFields ..).trans hc, by
    rw [Obj.data_mapFields hd]; simp [rawInt]⟩
theorem next_list {Q : Value → Shared → Prop} (F : Fr h₀ L s.heap m) (N : News h₀ L s.heap [(it, o)]) (hi : ItAt o l i) (hl : s.heap.IsList l items) (hx : items[i]? = some x)
    (h : ∀ h' o', Fr h₀ L h' m → News h₀ L h' [(it, o')] → ItAt o' l (i + 1) → Q x { s with heap := h' }) :
    wpAny (model prog w) A (call (.builtin "next") [.ref it]) Q E s := by
  have hm := N (it, o) (.head _)
  have hit : s.heap.IsListIter it l i := ⟨o, hm.1, hi.1, hi.2⟩
  refine call_function_entry (by decide +kernel) (by decide +kernel) kdk_entry_next (kdk_args_next _) ?_
  unfold Builtin.«next»
  refine wpAny_bind (m := someArgs "next" 1 2 _) (wpAny_of_eq (a := [Value.ref it]) (by first | rfl | kernel_rfl!) ?_)
  dsimp only
  refine wpAny_bind (wpAny_specialOf (name := PySem.Str.ofString "__next__") hit.typeIs slot_listiter_next.lookup ?_)
  refine wpAny_ite_split (fun hab => absurd hab (by decide)) (fun _ => ?_)
  refine wpAny_bind (next_special hit hl hx fun h' hit' hs => ?_)
  obtain ⟨o', ho', hc', hd'⟩ := hit'
  exact wpAny_pure ⟨_, rfl, h h' o' (F.change hs hm.2.1 hm.2.2) (N.setHead (fun _ hp => nomatch hp) hs ho') ⟨hc', hd'⟩⟩
end

section
variable {b : Bool} {prog : Program} {w : World} {A : Around} {s : Shared} {K : Frag} {g : Heap} {l I fa : Addr} {items : Array Value} {env : Env} {R : Result → Shared → Prop} {pe pv pv2 pe2 pf pc pa : Pos}
theorem red_loop (hsc : env.scope.kind = .function) (k1 : env.kindOf "value" = some .local) (k2 : env.kindOf "element" = some .local) (k3 : env.kindOf "function" = some .local) (hh : A.handled = none)
    (hkeep : keepIn K (.ref fa) = true) (X : K.In g) (hl : g.IsList l items) (P : Nat → Value → Heap → Prop)
    (Pk : ∀ i v h h', P i v h → (∀ r o, v = .ref r → h.get? r = some o → h'.get? r = some o) → P i v h')
    (step : ∀ i x v (s' : Shared), items[i]? = some x → P i v s'.heap → Keep g s'.heap → ∀ Q', (∀ v' h' tk, Keep s'.heap h' → P (i + 1) v' h' → (∀ r, v' = .ref r → s'.heap.get? r = none) → Q' v' { s' with heap := h', toks := tk }) → wpB b (model prog w) A (call (.ref fa) [v, x]) Q' (fun _ _ => False) s')
    (done : ∀ v' h' tk' m', Fr g env.locals h' m' → m' "value" = some v' → P items.size v' h' → R (.ok .next) { s with heap := h', toks := tk' }) :
    ∀ n i v (h : Heap) (tk : Nat) (m : PySem.Str → Option Value) (o : Obj), items.size - i = n → i ≤ items.size → Fr g env.locals h m → News g env.locals h [(I, o)] → ItAt o l i → m "function" = some (.ref fa) → m "value" = some v → P i v h → v ≠ .ref env.locals → v ≠ .ref I →
      codeB b (model prog w) A (.forLoop (.Name "element" pe) (.ref I) [.Assign [.Name "value" pv] (.Call (.Name "function" pf) [.Name "value" pv2, .Name "element" pe2] [] pc) pa] [] env) R { s with heap := h, toks := tk } := by
  have hp : (env.scope.kind == .class || (env.scope.kind == .module && env.locals != env.globals)) = false := by rw [hsc]; rfl
  intro n
  induction n with
  | zero =>
    intro i v h tk m o hn hi F N hit hf hv hP hvL hvI
    have hin : i = items.size := by omega
    subst hin
    have hm := N (I, o) (.head _)
    refine codeN_of_tree rfl ?_
    show wpB b _ _ ((forTurn _ _ _ _ _).onRaise _) _ _ _
    refine wpN_onRaise ?_
    unfold forTurn
    refine wpN_of ?_
    refine wpAny_bind (wpAny_standAt (wpAny_bind (wpAny_onRaise (wpAny_pyNext_list_end (l := l) (items := items) (i := items.size) hh ⟨o, hm.1, hit.1, hit.2⟩ (F.lst hl) (by simp) fun h' he => ?_))))
    refine wpAny_pure ⟨rfl, codeN_of (codeAny_of_tree ?_)⟩
    show wpAny _ _ (do return Fin.done (← (execs [] env).onRaise _)) _ _ _
    refine wpAny_bind (wpAny_onRaise (wpAny_execs_nil (wpAny_pure ?_)))
    have hIL : I ≠ env.locals := hm.2.1
    refine done v h' tk m ⟨?_, fun b o e => ?_, F.above⟩ hv (Pk _ _ _ _ hP fun r o e e' => he r o (fun q => hvI (by rw [e, q])) e')
    · obtain ⟨oL, a1, a2, hL, a3⟩ := F.ns
      exact ⟨oL, a1, a2, he _ _ (Ne.symm hIL) hL, a3⟩
    · refine he b o (fun q => ?_) (F.keep b o e)
      rw [q, hm.2.2] at e; cases e
  | succ n ih =>
    intro i v h tk m o hn hi F N hit hf hv hP hvL hvI
    have hlt : i < items.size := by omega
    obtain ⟨x, hx⟩ : ∃ x, items[i]? = some x := ⟨items[i], Array.getElem?_eq_getElem hlt⟩
    have hm := N (I, o) (.head _)
    refine codeN_of_tree rfl ?_
    show wpB b _ (A.under _) ((forTurn _ _ _ _ _).onRaise _) _ _ _
    rw [Around.under_of_weight rfl]
    refine wpN_onRaise ?_
    unfold forTurn
    refine wpN_then (wpAny_standAt (wpN_then (wpAny_onRaise (wpAny_pyNext_list_item (l := l) (items := items) (i := i) ⟨o, hm.1, hit.1, hit.2⟩ (F.lst hl) hx fun h₁ hit₁ hs₁ => ?_))))
    obtain ⟨o₁, ho₁, hc₁, hd₁⟩ := hit₁
    have F₁ := F.change hs₁ hm.2.1 hm.2.2
    have N₁ := N.setHead (fun _ hp => nomatch hp) hs₁ ho₁
    refine wpN_then (wpAny_of_eq (a := ()) rfl ?_)
    refine wpN_then (wpAny_assign_Name (wpAny_storeName_local k2 F₁.ns (fun h₂ hn₂ hs₂ => ?_) hp))
    have F₂ := F₁.set hn₂ hs₂
    have N₂ := N₁.set hs₂
    have hP₂ : P i v h₂ := Pk _ _ _ _ hP fun r o e e' => (hs₂.2 r fun q => hvL (by rw [e, q])).trans ((hs₁.2 r fun q => hvI (by rw [e, q])).trans e')
    refine wpN_bind (wpN_execs_cons (wpN_Assign_Name (CallN_ (wpAny_Name (wpAny_loadName_local hsc k3 F₂.ns (v := .ref fa) (by rw [if_neg (by decide)]; exact hf) ?_)))))
    refine callWithN_K hkeep (args_cons (wpAny_Name (wpAny_loadName_local hsc k1 F₂.ns (v := v) (by rw [if_neg (by decide)]; exact hv) (args_cons (wpAny_Name (wpAny_loadName_local hsc k2 F₂.ns (v := x) (by rw [if_pos rfl]) (args_nil ⟨X.keeps F₂.keep, ?_⟩)))))))
    refine wpN_mono (step i x v _ hx hP₂ F₂.keep _ fun v' h₃ tk₃ hk₃ hP₃ hfr => ?_) (fun _ _ x => x) (fun _ _ x => x.elim)
    have F₃ := F₂.keeps hk₃
    have N₃ := N₂.keeps hk₃
    refine wpAny_storeName_local k1 F₃.ns (fun h₄ hn₄ hs₄ => ?_) hp
    have F₄ := F₃.set hn₄ hs₄
    have N₄ := N₃.set hs₄
    have hL₂ : ∃ oL, h₂.get? env.locals = some oL := let ⟨oL, _, _, hL, _⟩ := F₂.ns; ⟨oL, hL⟩
    have n1 : v' ≠ .ref env.locals := fun q => by obtain ⟨oL, e⟩ := hL₂; have := hfr _ q; rw [show h₂.get? env.locals = none from this] at e; cases e
    have n2 : v' ≠ .ref I := fun q => by have e := (N₂ _ (.head _)).1; have := hfr _ q; rw [show h₂.get? I = none from this] at e; cases e
    dsimp only
    refine wpN_of (wpAny_execs_nil ?_)
    show wpB b _ _ (again _) _ _ _
    refine wpN_pure ⟨rfl, ?_⟩
    refine ih (i + 1) v' h₄ _ _ o₁ (by omega) (by omega) F₄ N₄ ⟨hc₁, hd₁⟩ (by rw [if_neg (by decide), if_neg (by decide)]; exact hf) (by rw [if_pos rfl]) (Pk _ _ _ _ hP₃ fun r o e e' => (hs₄.2 r fun q => n1 (by rw [e, q])).trans e') n1 n2
end
end Mine
end

/-! ## Red2 -/
section
open PySem PySem.W PySem.Spec PySem.Calls PyProof.Rows
set_option Elab.async false
set_option maxRecDepth 100000
set_option maxHeartbeats 8000000
namespace Mine
example : True := by
  w_top off
  trivial
example (w : World) : Mine.hd.heap_39 w.params = Mine.hd.heap_39 w.params ∧ PySem.Challenge.rw_op0017_01.prog = PySem.Challenge.rw_op0017_01.prog := by
  k_fill
  exact ⟨rfl, rfl⟩
section
variable {prog : Program} {w : World} {A : Around} {E : Value → Shared → Prop} {s : Shared} {x : Array UInt8} {t : Tok} {a r : Addr} {Q : Value → Shared → Prop}
theorem is_bytes_ref (h : Q (.bool false) s) : wpAny (model prog w) A (compareOp .Is (.bytes x t) (.ref a)) Q E s :=
  wpAny_bind (wpAny_of_eq (a := false) rfl (wpAny_pure h))
theorem is_ref_self (h : Q (.bool true) s) : wpAny (model prog w) A (compareOp .Is (.ref a) (.ref a)) Q E s := by
  refine wpAny_bind ?_
  show wpAny _ _ (isSame (.ref a) (.ref a)) _ _ _
  unfold isSame
  dsimp only
  rw [if_pos (beq_self_eq_true a)]
  exact wpAny_pure (wpAny_pure h)
theorem is_list_ref {o o' : Obj} (hr : s.heap.get? r = some o) (hc : o.cls = .type "list") (ha : s.heap.get? a = some o') (hne : r ≠ a) (h : Q (.bool false) s) : wpAny (model prog w) A (compareOp .Is (.ref r) (.ref a)) Q E s := by
  refine wpAny_bind ?_
  show wpAny _ _ (isSame (.ref r) (.ref a)) _ _ _
  unfold isSame
  dsimp only
  rw [if_neg (by rw [beq_iff_eq]; exact hne)]
  refine wpAny_bind (wpAny_load hr (wpAny_bind (wpAny_load ha ?_)))
  rw [hc]
  exact wpAny_pure (wpAny_pure h)
end
section
variable {b : Bool} {prog : Program} {w : World} {mean : ExcName → Option Value} {mg mb : PySem.Str → Option Value}
   {dp un : Nat} {fr : Option (List Env)} {gd : Option (List Code)} {h₀ : Heap} {s : Shared} {Q E : Value → Shared → Prop}
   (X : (Mine.hd.heap_39 w.params).In h₀) (T : Top Mine.hd.view_39 (looseW Mine.hd.view_39 [PySem.Str.ofString "_initial_missing", PySem.Str.ofString "reduce"]) mean mg mb h₀)
   (hk : ∀ b o, h₀.get? b = some o → s.heap.get? b = some o)
include X T hk
theorem red3_c (hd : dp < recursionLimit) {l fa : Addr} {v₀ : Value} {n : Nat} {items : Array Value} (hl : s.heap.get? l = some (listOf items n)) (hkeep : keepIn (Mine.hd.heap_39 w.params) (.ref fa) = true)
   (P : Nat → Value → Heap → Prop) (Pk : ∀ i v h h', P i v h → (∀ r o, v = .ref r → h.get? r = some o → h'.get? r = some o) → P i v h') (hP : P 0 v₀ s.heap) (hv₀ : ∀ r, v₀ = .ref r → ∃ o, s.heap.get? r = some o)
   (hmiss : ∀ (A : Around) (s' : Shared) (Q : Value → Shared → Prop) (E : Value → Shared → Prop), Keep s.heap s'.heap → Q (.bool false) s' → wpAny (model prog w) A (compareOp .Is v₀ (.ref 15)) Q E s')
   (step : ∀ i x v (s' : Shared) fr', items[i]? = some x → P i v s'.heap → Keep s.heap s'.heap → ∀ Q', (∀ v' h' tk, Keep s'.heap h' → P (i + 1) v' h' → (∀ r, v' = .ref r → s'.heap.get? r = none) → Q' v' { s' with heap := h', toks := tk }) → wpB b (model prog w) (AA (dp + 1) (un + 3) fr' gd) (call (.ref fa) [v, x]) Q' (fun _ _ => False) s')
   (hret : ∀ v h' tk', Keep s.heap h' → P items.size v h' → Q v { s with heap := h', toks := tk' }) :
   wpB b (model prog w) (AA dp un fr gd) (call (.ref 23) [.ref fa, .ref l, v₀]) Q E s := by
  refine wpN_call ?_
  k_dflt (refine' enterN (news := []) X T hk (fun _ h => nomatch h) ?k6 ?k7 ?k8 ?k9 ?kB ?_ ?c2 ?c3 ?c4 ?c5; (case k6 => k_is); (case k7 => k_is); (case k8 => exact hd); (case k9 => first | exact BindsTo.of_eq rfl | exact binds_K (Frag.In.keeps X hk) rfl (by k_is) rfl rfl rfl); (case kB => exact locs rfl); (case c5 => decide); (case c2 => exact rfl); (case c3 => exact rfl); (case c4 => exact rfl))
  intro g L' h₁ hg hg' F N X' T' hl'
  have hkg : Keep s.heap g := fun b o e => hg b o e (by simp)
  have hL : g.IsList l items := ⟨_, hkg _ _ hl, rfl, _, rfl⟩
  refine wpN_execs_cons (wpN_of ?_)
  (try dsimp only)
  (try k_fold)
  k_steps
  refine iter_list (by k_asm) (by k_asm) (Fr.lst (by k_asm) hL) ?_
  intro I oI h₂ F₂ N₂ hl₂ hit₂
  k_steps
  rename_i h₃ F₃ N₃
  refine wpN_execs_cons (wpN_of ?_)
  k_steps
  refine hmiss _ _ _ _ (fun b o e => F₃.keep b o (hkg b o e)) ?_
  k_steps
  dsimp only
  rename_i h₄ F₄ N₄
  refine wpN_execs_cons (wpN_For ?_)
  k_steps
  refine wpAny_pyIter_listiter (l := l) (i := 0) ⟨_, (N₄ _ (.head _)).1, hit₂.1, hit₂.2⟩ ?_
  have hIg : g.get? I = none := (N₄ _ (.head _)).2.2
  refine red_loop (K := Mine.hd.heap_39 w.params) (g := g) (l := l) (fa := fa) (items := items) rfl rfl rfl rfl rfl hkeep X' hL P Pk (fun i x v s' hx hp hks Q' hQ' => step i x v s' _ hx hp (fun b o e => hks b o (hkg b o e)) Q' hQ') (fun v' h' tk' m' F' hm' hp' => ?_) _ 0 v₀ _ _ _ oI rfl (Nat.zero_le _) F₄ N₄ hit₂ rfl rfl ?_ ?_ ?_
  · dsimp only
    refine wpN_of (wpAny_execs_cons (wpAny_Return_some (ld F' hm' ?_)))
    exact hret _ _ _ (fun b o e => F'.keep b o (hkg b o e)) hp'
  · refine Pk _ _ _ _ hP fun r o e e' => F₄.keep r o (hkg r o e')
  · intro q
    obtain ⟨o, e⟩ := hv₀ _ q
    exact absurd (Heap.lt_size (hkg _ _ e)) (Nat.not_lt.mpr F₄.above)
  · intro q
    obtain ⟨o, e⟩ := hv₀ _ q
    rw [hkg _ _ e] at hIg; cases hIg
theorem red2_c (hd : dp < recursionLimit) {l fa : Addr} {v₀ : Value} {n : Nat} {items : Array Value} (hl : s.heap.get? l = some (listOf items n)) (hkeep : keepIn (Mine.hd.heap_39 w.params) (.ref fa) = true)
   (P : Nat → Value → Heap → Prop) (Pk : ∀ i v h h', P i v h → (∀ r o, v = .ref r → h.get? r = some o → h'.get? r = some o) → P i v h') (h0 : items[0]? = some v₀) (hP : P 1 v₀ s.heap) (hv₀ : ∀ r, v₀ = .ref r → ∃ o, s.heap.get? r = some o)
   (step : ∀ i x v (s' : Shared) fr', items[i]? = some x → P i v s'.heap → Keep s.heap s'.heap → ∀ Q', (∀ v' h' tk, Keep s'.heap h' → P (i + 1) v' h' → (∀ r, v' = .ref r → s'.heap.get? r = none) → Q' v' { s' with heap := h', toks := tk }) → wpB b (model prog w) (AA (dp + 1) (un + 3) fr' gd) (call (.ref fa) [v, x]) Q' (fun _ _ => False) s')
   (hret : ∀ v h' tk', Keep s.heap h' → P items.size v h' → Q v { s with heap := h', toks := tk' }) :
   wpB b (model prog w) (AA dp un fr gd) (call (.ref 23) [.ref fa, .ref l]) Q E s := by
  refine wpN_call ?_
  k_dflt (refine' enterN (news := []) X T hk (fun _ h => nomatch h) ?k6 ?k7 ?k8 ?k9 ?kB ?_ ?c2 ?c3 ?c4 ?c5; (case k6 => k_is); (case k7 => k_is); (case k8 => exact hd); (case k9 => first | exact BindsTo.of_eq rfl | exact binds_K (Frag.In.keeps X hk) rfl (by k_is) rfl rfl rfl); (case kB => exact locs rfl); (case c5 => decide); (case c2 => exact rfl); (case c3 => exact rfl); (case c4 => exact rfl))
  intro g L' h₁ hg hg' F N X' T' hl'
  have hkg : Keep s.heap g := fun b o e => hg b o e (by simp)
  have hL : g.IsList l items := ⟨_, hkg _ _ hl, rfl, _, rfl⟩
  refine wpN_execs_cons (wpN_of ?_)
  (try dsimp only)
  (try k_fold)
  k_steps
  refine iter_list (by k_asm) (by k_asm) (Fr.lst (by k_asm) hL) ?_
  intro I oI h₂ F₂ N₂ hl₂ hit₂
  k_steps
  rename_i h₃ F₃ N₃
  refine wpN_execs_cons (wpN_of ?_)
  k_steps
  refine next_list (by k_asm) (by k_asm) hit₂ (Fr.lst (by k_asm) hL) h0 ?_
  intro h₄ o₄ F₄ N₄ hit₄
  k_steps
  dsimp only
  rename_i h₅ F₅ N₅
  refine wpN_execs_cons (wpN_For ?_)
  k_steps
  refine wpAny_pyIter_listiter (l := l) (i := 1) ⟨_, (N₅ _ (.head _)).1, hit₄.1, hit₄.2⟩ ?_
  have hIg : g.get? I = none := (N₅ _ (.head _)).2.2
  have h1 : 1 ≤ items.size := by
    cases hz : items.size with
    | zero => simp [Array.eq_empty_of_size_eq_zero hz] at h0
    | succ n => omega
  refine red_loop (K := Mine.hd.heap_39 w.params) (g := g) (l := l) (fa := fa) (items := items) rfl rfl rfl rfl rfl hkeep X' hL P Pk (fun i x v s' hx hp hks Q' hQ' => step i x v s' _ hx hp (fun b o e => hks b o (hkg b o e)) Q' hQ') (fun v' h' tk' m' F' hm' hp' => ?_) _ 1 v₀ _ _ _ o₄ rfl h1 F₅ N₅ hit₄ rfl rfl ?_ ?_ ?_
  · dsimp only
    refine wpN_of (wpAny_execs_cons (wpAny_Return_some (ld F' hm' ?_)))
    exact hret _ _ _ (fun b o e => F'.keep b o (hkg b o e)) hp'
  · refine Pk _ _ _ _ hP fun r o e e' => F₅.keep r o (hkg r o e')
  · intro q
    obtain ⟨o, e⟩ := hv₀ _ q
    exact absurd (Heap.lt_size (hkg _ _ e)) (Nat.not_lt.mpr F₅.above)
  · intro q
    obtain ⟨o, e⟩ := hv₀ _ q
    rw [hkg _ _ e] at hIg; cases hIg
end
end Mine
end

/-! ## Com -/
section
open PySem PySem.W PySem.Spec PySem.Calls PyProof.Rows
set_option Elab.async false
set_option maxRecDepth 100000
set_option maxHeartbeats 8000000
namespace Mine
/-- a call that hands back a new list of ints -/
abbrev RetL (s : Shared) (Q : Value → Shared → Prop) (R : List Int) : Prop :=
  ∀ y ys h' tk', Keep s.heap h' → IntsAre ys R → h'.get? y = some (LCg.lst ys) → s.heap.get? y = none → Q (.ref y) { s with heap := h', toks := tk' }
/-- a list of ints of the heap -/
def IL (h : Heap) (l : Addr) (row : List Int) : Prop := ∃ vs n, h.get? l = some (listOf vs.toArray n) ∧ IntsAre vs row
theorem IL.keep {h h' : Heap} {l : Addr} {row : List Int} (x : IL h l row) (k : Keep h h') : IL h' l row := let ⟨vs, n, e, i⟩ := x; ⟨vs, n, k _ _ e, i⟩
theorem IL.of {h : Heap} {l : Addr} {ys : List Value} {row : List Int} (e : h.get? l = some (LCg.lst ys)) (i : IntsAre ys row) : IL h l row := ⟨ys, _, e, i⟩

theorem bx8 (a b : Nat) (ha : a < 8) (hb : b < 8) : Builtin.bitXor (a : Int) (b : Int) = ((a ^^^ b : Nat) : Int) ∧ a ^^^ b < 8 := by
  have h : ∀ a : Nat, a < 8 → ∀ b : Nat, b < 8 → Builtin.bitXor (a : Int) (b : Int) = ((a ^^^ b : Nat) : Int) ∧ a ^^^ b < 8 := by decide +kernel
  exact h a ha b hb
theorem x8 {a b : Int} (a0 : 0 ≤ a) (a1 : a < 8) (b0 : 0 ≤ b) (b1 : b < 8) : 0 ≤ Builtin.bitXor a b ∧ Builtin.bitXor a b < 8 := by
  obtain ⟨m, rfl⟩ := Int.eq_ofNat_of_zero_le a0
  obtain ⟨n, rfl⟩ := Int.eq_ofNat_of_zero_le b0
  have := bx8 m n (by omega) (by omega)
  rw [this.1]; omega

theorem fresh_of {h g : Heap} {y : Addr} (k : Keep h g) (e : g.get? y = none) : h.get? y = none := by
  cases q : h.get? y with
  | none => rfl
  | some o => rw [k _ _ q] at e; cases e
theorem mulOk {a b : Int} (h : a.natAbs < 4096) : IntMulOk a b := by
  refine IntMulOk.of_left ?_
  unfold Builtin.Int.intBits
  have h2 : a.natAbs < 2 ^ 63 := by omega
  have h3 : a.natAbs.log2 ≤ 62 := by
    rcases Nat.eq_zero_or_pos a.natAbs with h0 | h0
    · rw [h0]; decide
    · have := (Nat.log2_lt (by omega)).mpr h2; omega
  first | omega | (split <;> omega)
theorem uncons {α : Type} {l : List α} {n : Nat} (h : l.length = n + 1) : ∃ a t, l = a :: t ∧ t.length = n := by
  cases l with
  | nil => cases h
  | cons a t => exact ⟨a, t, rfl, Nat.succ.inj h⟩
theorem n8 : ∀ i : Nat, i < 8 → i = 0 ∨ i = 1 ∨ i = 2 ∨ i = 3 ∨ i = 4 ∨ i = 5 ∨ i = 6 ∨ i = 7 := by decide +kernel
/-- the row moved by k -/
def mv (k : Int) (row : List Int) : List Int := [0, 1, 2, 3, 4, 5, 6, 7].map fun p => row.getD (Builtin.bitXor p k).toNat 0

section
variable {prog : Program} {w : World} {A : Around} {E : Value → Shared → Prop} {s : Shared} {h₀ : Heap} {L l : Addr} {m : PySem.Str → Option Value} {news : List (Addr × Obj)} {row : List Int} {value slice : PySem.Expr} {i : Int} {u t : Tok}
theorem item_row {Q : Value → Shared → Prop} (F : Fr h₀ L s.heap m) (hl : IL h₀ l row) (h8 : row.length = 8) (h0 : 0 ≤ i) (h1 : i < 8) (h : ∀ t, Q (.int (row.getD i.toNat 0) t) s)
    (hs : subscripted slice false (.ref l) (.int i u) = operate [.ref l, .int i u] (getItem (.ref l) (.int i u)) := by with_unfolding_all rfl) :
    wpAny (model prog w) A (subscriptTail value slice (.ref l) (.int i u)) Q E s := by
  obtain ⟨vs, n, e, hi⟩ := hl
  exact item_anyK (PySem.IsL.isList (n := n) (F.keep _ _ e)) hi h0 (by rw [h8]; exact h1) (by omega) h hs
theorem item_brow {b : Array UInt8} {Q : Value → Shared → Prop} (hb : KBw.bInts b = row) (h8 : row.length = 8) (h0 : 0 ≤ i) (h1 : i < 8) (h : ∀ t' k, Q (.int (row.getD i.toNat 0) t') { s with toks := k })
    (hs : subscripted slice false (.bytes b t) (.int i u) = operate [.bytes b t, .int i u] (getItem (.bytes b t) (.int i u)) := by with_unfolding_all rfl)
    (ht : ∀ r, letTemporaryGo value (.bytes b t) r = pure () := by intro _; with_unfolding_all rfl) : wpAny (model prog w) A (subscriptTail value slice (.bytes b t) (.int i u)) Q E s :=
  KBw.item_K hb (by rw [h8]; decide) h0 (by rw [h8]; exact h1) (fun t' k _ _ => h t' k) hs ht
theorem mul_row {i : Nat} {b : Int} {Q : Value → Shared → Prop} (hb : ∀ i, (row.getD i 0).natAbs < 4096) (h : Q (.int (row.getD i 0 * b) s.toks) { s with toks := s.toks + 1 }) :
    wpAny (model prog w) A (binaryOp .Mult (.int (row.getD i 0) t) (.int b u)) Q E s := mul_int h (mulOk (hb i))
end
/-- products, place by place -/
def pr (row row2 : List Int) : List Int := [0, 1, 2, 3, 4, 5, 6, 7].map fun p : Nat => row.getD p 0 * row2.getD p 0
/-- one turn of the butterflies -/
def sp (gap : Nat) (row : List Int) : List Int := [0, 1, 2, 3, 4, 5, 6, 7].map fun p : Nat => if p &&& gap ≠ 0 then row.getD (p - gap) 0 - row.getD p 0 else row.getD p 0 + row.getD (p + gap) 0
theorem off1_of {D : Addr} : ∀ {l : List (Addr × Obj)}, (∀ p ∈ l, p.1 ≠ D) → LCg.Off1 D l
  | [], _ => trivial
  | _ :: _, h => ⟨h _ List.mem_cons_self, off1_of fun p hp => h p (List.mem_cons_of_mem _ hp)⟩
theorem newsK {g h h' : Heap} {L y : Addr} {m : PySem.Str → Option Value} {news : List (Addr × Obj)} {o : Obj} (F : Fr g L h m) (N : News g L h news) (k : Keep h h') (hy : h'.get? y = some o) (hf : h.get? y = none) :
    News g L h' ((y, o) :: news) ∧ LCg.Off1 y news := by
  obtain ⟨oL, _, _, hL, _⟩ := F.ns
  refine ⟨fun p hp => ?_, off1_of fun p hp q => ?_⟩
  · rcases List.mem_cons.mp hp with rfl | hp
    · exact ⟨hy, (fun q => by rw [show y = L from q, hL] at hf; cases hf), fresh_of F.keep hf⟩
    · exact ⟨k _ _ (N p hp).1, (N p hp).2⟩
  · have := (N p hp).1; rw [q, hf] at this; cases this
/-- a result, onto the ledger -/
theorem retK {g : Heap} {L : Addr} {m : PySem.Str → Option Value} {news : List (Addr × Obj)} {s : Shared} {Q : Value → Shared → Prop} {R : List Int} (F : Fr g L s.heap m) (N : News g L s.heap news)
    (h : ∀ y ys h' tk', Fr g L h' m → News g L h' ((y, LCg.lst ys) :: news) → LCg.Off1 y news → IntsAre ys R → Q (.ref y) { s with heap := h', toks := tk' }) : RetL s Q R :=
  fun y ys h' tk' k hi hy hf => h y ys h' tk' (F.keeps k) (newsK F N k hy hf).1 (newsK F N k hy hf).2 hi
theorem IL.news {g h : Heap} {L l : Addr} {news : List (Addr × Obj)} {vs : List Value} {n : Nat} {row : List Int} (N : News g L h news) (hm : (l, listOf vs.toArray n) ∈ news) (hi : IntsAre vs row) : IL h l row := ⟨vs, n, (N _ hm).1, hi⟩
theorem sp_len (g : Nat) (row : List Int) : (sp g row).length = 8 := rfl
theorem mv_len (k : Int) (row : List Int) : (mv k row).length = 8 := rfl
theorem pr_len (a b : List Int) : (pr a b).length = 8 := rfl
end Mine
end

/-! ## Odd -/
section
open PySem PySem.W PySem.Spec PySem.Calls PyProof.Rows
set_option Elab.async false
set_option maxRecDepth 100000
set_option maxHeartbeats 8000000
namespace Mine
example : True := by
  w_top off
  trivial
example (w : World) : Mine.hd.heap_39 w.params = Mine.hd.heap_39 w.params ∧ PySem.Challenge.rw_op0017_01.prog = PySem.Challenge.rw_op0017_01.prog := by
  k_fill
  exact ⟨rfl, rfl⟩
def odd (x : Int) : Int := (x + x.fdiv 2 + x.fdiv 4).fmod 2
theorem odd_lo (x : Int) : 0 ≤ odd x := Int.fmod_nonneg_of_pos _ (by decide)
theorem odd_hi (x : Int) : odd x < 2 := Int.fmod_lt_of_pos _ (by decide)
/-- an int, the ledger as it was -/
theorem retI {g : Heap} {L : Addr} {m : PySem.Str → Option Value} {news : List (Addr × Obj)} {s : Shared} {Q : Value → Shared → Prop} {f : Tok → Value} (F : Fr g L s.heap m) (N : News g L s.heap news)
    (h : ∀ t h' tk', Fr g L h' m → News g L h' news → Q (f t) { s with heap := h', toks := tk' }) : ∀ t h' tk', Keep s.heap h' → Q (f t) { s with heap := h', toks := tk' } :=
  fun t h' tk' k => h t h' tk' (F.keeps k) (N.keeps k)
theorem retO {g : Heap} {L : Addr} {m : PySem.Str → Option Value} {news : List (Addr × Obj)} {s : Shared} {Q : Value → Shared → Prop} {x : Int} (F : Fr g L s.heap m) (N : News g L s.heap news)
    (h : ∀ t h' tk', 0 ≤ odd x → odd x < 2 → Fr g L h' m → News g L h' news → Q (.int (odd x) t) { s with heap := h', toks := tk' }) : ∀ t h' tk', Keep s.heap h' → Q (.int (odd x) t) { s with heap := h', toks := tk' } :=
  fun t h' tk' k => h t h' tk' (odd_lo x) (odd_hi x) (F.keeps k) (N.keeps k)
section
variable {b : Bool} {prog : Program} {w : World} {mean : ExcName → Option Value} {mg mb : PySem.Str → Option Value}
   {dp un : Nat} {fr : Option (List Env)} {gd : Option (List Code)} {h₀ : Heap} {s : Shared} {Q E : Value → Shared → Prop}
   (X : (Mine.hd.heap_39 w.params).In h₀) (T : Top Mine.hd.view_39 (looseW Mine.hd.view_39 [PySem.Str.ofString "_initial_missing", PySem.Str.ofString "reduce"]) mean mg mb h₀)
   (hk : ∀ b o, h₀.get? b = some o → s.heap.get? b = some o)
include X T hk
theorem odd_c (hd : dp < recursionLimit) {x : Int} {t : Tok}
   (hret : ∀ t h' tk', Keep s.heap h' → Q (.int (odd x) t) { s with heap := h', toks := tk' }) :
   wpAny (model prog w) (AA dp un fr gd) (call (.ref 70) [.int x t]) Q E s := by
  refine wpAny_call ?_
  k_dflt (refine' enter (news := []) X T hk (fun _ h => nomatch h) ?k6 ?k7 ?k8 ?k9 ?kB ?_ ?c2 ?c3 ?c4 ?c5; (case k6 => k_is); (case k7 => k_is); (case k8 => exact hd); (case k9 => first | exact BindsTo.of_eq rfl | exact binds_K (Frag.In.keeps X hk) rfl (by k_is) rfl rfl rfl); (case kB => exact locs rfl); (case c5 => decide); (case c2 => exact rfl); (case c3 => exact rfl); (case c4 => exact rfl))
  intro g L' h₁ hg hg' F N X' T' hl'
  have hkg : Keep s.heap g := fun b o e => hg b o e (by simp)
  (try dsimp only)
  (try k_fold)
  k_steps
  exact hret _ _ _ fun b o e => F.keep b o (hkg b o e)
end
end Mine
end

/-! ## ForR -/
section
open PySem PySem.W PySem.Spec PySem.Calls PyProof.Rows
set_option Elab.async false
set_option maxRecDepth 100000
set_option maxHeartbeats 8000000
namespace Mine
section
variable {prog : Program} {w : World} {A : Around} {s : Shared} {I : Addr} {env : Env} {R : Result → Shared → Prop} {x : PySem.Str} {px : Pos} {body : List Stmt}
/-- for x in range(a, _, c), of n turns, by what holds between the turns -/
theorem for_rangeC (hh : A.handled = none) (a c : Int) (n : Nat) (Inv : Nat → Heap → Prop)
    (hI : ∀ i h h', Inv i h → (∀ b o, b ≠ I → h.get? b = some o → h'.get? b = some o) → Inv i h')
    (turn : ∀ i h tk t oI, i < n → Inv i h → h.get? I = some oI → wpAny (model prog w) A (storeName env x (.int (a + (i : Int) * c) t)) (fun _ s₁ => wpAny (model prog w) A (execs body env)
      (fun f s' => f = .next ∧ ∃ h' tk', s' = { s with heap := h', toks := tk' } ∧ Inv (i + 1) h' ∧ h'.get? I = some oI) (fun _ _ => False) s₁) (fun _ _ => False) { s with heap := h, toks := tk })
    (done : ∀ h tk, Inv n h → R (.ok .next) { s with heap := h, toks := tk }) :
    ∀ k i h tk, n - i = k → i ≤ n → IsRangeIter h I (a + (i : Nat) * c) ((n : Int) - (i : Nat)) c → Inv i h →
      codeAny (model prog w) A (.forLoop (.Name x px) (.ref I) body [] env) R { s with heap := h, toks := tk } := by
  have W := (Walks.range (prog := prog) (w := w) hh I a c n).bound
  intro k
  induction k with
  | zero =>
    intro i h tk hk hi hst hinv
    have hin : i = n := by omega
    subst hin
    refine codeAny_of_tree ?_
    show wpAny _ _ ((forTurn _ _ _ _ _).onRaise _) _ _ _
    rw [Around.under_of_weight rfl]
    refine wpAny_onRaise ?_
    unfold forTurn
    refine wpAny_bind (wpAny_standAt (wpAny_bind (wpAny_onRaise (W.done _ _ _ hst fun h' tk' he => ?_))))
    refine wpAny_pure ⟨rfl, codeAny_of_tree ?_⟩
    show wpAny _ _ (do return Fin.done (← (execs [] env).onRaise _)) _ _ _
    refine wpAny_bind (wpAny_onRaise (wpAny_execs_nil (wpAny_pure ?_)))
    exact done _ _ (hI _ _ _ hinv fun b o hb e => he b o (by simpa using hb) e)
  | succ k ih =>
    intro i h tk hk hi hst hinv
    have hlt : i < n := by omega
    refine codeAny_of_tree ?_
    show wpAny _ _ ((forTurn _ _ _ _ _).onRaise _) _ _ _
    rw [Around.under_of_weight rfl]
    refine wpAny_onRaise (wpAny_mono (E := fun _ _ => False) ?_ (fun _ _ x => x) fun _ _ x => x.elim)
    unfold forTurn
    refine wpAny_bind (wpAny_standAt (wpAny_bind (wpAny_onRaise (W.item i _ _ _ hlt hst fun v h' tk' hv hst' he => ?_))))
    obtain ⟨-, t, rfl⟩ := hv
    refine wpAny_bind (wpAny_of_eq (a := ()) rfl ?_)
    refine wpAny_bind (wpAny_assign_Name (wpAny_mono (turn i h' tk' t _ hlt (hI _ _ _ hinv fun b o hb e => he b o (by simpa using hb) e) hst') (fun _ s₁ h₁ => ?_) fun _ _ x => x))
    refine wpAny_bind (wpAny_mono h₁ (fun f s₂ h₂ => ?_) fun _ _ x => x)
    obtain ⟨rfl, h₂, tk₂, rfl, hinv₂, hI₂⟩ := h₂
    show wpAny _ _ (again _) _ _ _
    exact wpAny_pure ⟨rfl, ih (i + 1) h₂ tk₂ (by omega) hlt hI₂ hinv₂⟩
/-- for x in range(n) -/
theorem for_range (hh : A.handled = none) (n : Nat) (Inv : Nat → Heap → Prop)
    (hI : ∀ i h h', Inv i h → (∀ b o, b ≠ I → h.get? b = some o → h'.get? b = some o) → Inv i h')
    (turn : ∀ i h tk t oI, i < n → Inv i h → h.get? I = some oI → wpAny (model prog w) A (storeName env x (.int (0 + (i : Int)) t)) (fun _ s₁ => wpAny (model prog w) A (execs body env)
      (fun f s' => f = .next ∧ ∃ h' tk', s' = { s with heap := h', toks := tk' } ∧ Inv (i + 1) h' ∧ h'.get? I = some oI) (fun _ _ => False) s₁) (fun _ _ => False) { s with heap := h, toks := tk })
    (done : ∀ h tk, Inv n h → R (.ok .next) { s with heap := h, toks := tk }) :
    ∀ k i h tk, n - i = k → i ≤ n → IsRangeIter h I (0 + (i : Nat) * 1) ((n : Int) - (i : Nat)) 1 → Inv i h →
      codeAny (model prog w) A (.forLoop (.Name x px) (.ref I) body [] env) R { s with heap := h, toks := tk } :=
  for_rangeC hh 0 1 n Inv hI (fun i h tk t oI a b c => by rw [Int.mul_one]; exact turn i h tk t oI a b c) done
end
theorem ints_snoc {v : Int} {t : Tok} : ∀ {vs : List Value} {ns : List Int}, IntsAre vs ns → IntsAre (vs ++ [.int v t]) (ns ++ [v])
  | _, _, .nil => .cons v t .nil
  | _, _, .cons i u h => .cons i u (ints_snoc h)
end Mine
end

/-! ## Rest -/
section
open PySem PySem.W PySem.Spec PySem.Calls PyProof.Rows
set_option Elab.async false
set_option maxRecDepth 100000
set_option maxHeartbeats 8000000
namespace Mine
theorem ints_of {e : Nat → Int} : ∀ {ys : List Value} {n : Nat}, ys.length = n → (∀ i y, ys[i]? = some y → ∃ t, y = Value.int (e i) t) → IntsAre ys ((List.range n).map e) := by
  intro ys n hl h
  induction n generalizing ys with
  | zero => rw [List.length_eq_zero_iff.mp hl]; exact .nil
  | succ n ih =>
    obtain ⟨zs, z, rfl⟩ : ∃ zs z, ys = zs ++ [z] := by
      have hne : ys ≠ [] := by intro q; rw [q] at hl; cases hl
      exact ⟨ys.dropLast, ys.getLast hne, (List.dropLast_concat_getLast hne).symm⟩
    have hz : zs.length = n := by simpa using hl
    rw [List.range_succ, List.map_append]
    obtain ⟨t, ht⟩ := h n z (by rw [List.getElem?_append_right (by omega), hz]; simp)
    subst ht
    exact ints_snoc (ih hz fun i y hy => h i y (by
      rw [List.getElem?_append_left]
      · exact hy
      · rcases Nat.lt_or_ge i zs.length with q | q
        · exact q
        · rw [List.getElem?_eq_none q] at hy; cases hy))
section
variable {prog : Program} {w : World} {A : Around} {s : Shared} {h₀ : Heap} {L : Addr} {m : PySem.Str → Option Value} {env : Env} {elt ct : Expr} {x : PySem.Str} {scope : Scope} {cl : List (PySem.Str × Addr)} {S : List (Addr × Obj) → Prop} {P : Nat → Value → Prop} {Fin : List Value → List (Addr × Obj) → Prop} {news : List (Addr × Obj)}
theorem compEnd_mono {I C D : Addr} {oI oC oD : Obj} {s₁ s₂ : Shared} {y : Value} {r r' : Value → List (Addr × Obj) → Prop} (h : LCg.CompEnd h₀ L m s₁ I oI C oC D oD S r y s₂) (k : ∀ nw, r y nw → r' y nw) : LCg.CompEnd h₀ L m s₁ I oI C oC D oD S r' y s₂ := by
  obtain ⟨h', tk, nw, e, F, N, o, hS, hr⟩ := h
  exact ⟨h', tk, nw, e, F, N, o, hS, k nw hr⟩
/-- a comprehension of any number of turns, by one turn; the ledger ahead of it stays -/
theorem restU (n : Nat) (R : Nat → Value → Prop)
    (turn : ∀ i v I oI C oC D m₂ h tk (E' : Value → Shared → Prop) ys, i < n → P i v → LCg.NsObj oC m₂ → m₂ x = some v → Fr h₀ L h m → News h₀ L h ((I, oI) :: (C, oC) :: (D, LCg.lst ys) :: news) → LCg.Off3 I C D news → ((@Ne Nat I C) ∧ (@Ne Nat I D) ∧ (@Ne Nat C D)) →
      wpAny (model prog w) A (eval elt (compEnvC scope cl C env)) (LCg.CompEnd h₀ L m { s with heap := h, toks := tk } I oI C oC D (LCg.lst ys) S (fun y nw => nw = news ∧ R i y)) E' { s with heap := h, toks := tk })
    (fin : ∀ ys : List Value, ys.length = n → (∀ i y, ys[i]? = some y → R i y) → Fin ys news) :
    ∀ k i ys, i + k = n → ys.length = i → (∀ j y, ys[j]? = some y → R j y) → LCg.CompRest prog w A h₀ L m env elt x scope cl s S P Fin k i ys news := by
  intro k
  induction k with
  | zero => intro i ys hk hl hR; exact LCg.CompRest.zero (fin ys (by omega) hR)
  | succ k ih =>
    intro i ys hk hl hR
    refine LCg.CompRest.succ fun v I oI C oC D m₂ h tk E' hv hC hx F N off ne => ?_
    refine wpAny_mono (turn i v I oI C oC D m₂ h tk E' ys (by omega) hv hC hx F N off ne) (fun y s' he => compEnd_mono he fun nw hr => ?_) fun _ _ z => z
    obtain ⟨rfl, hr⟩ := hr
    refine ih (i + 1) (ys ++ [y]) (by omega) (by rw [List.length_append, hl]; rfl) fun j z hz => ?_
    rw [List.getElem?_append] at hz
    split at hz
    · exact hR j z hz
    · have : j = i := by
        cases q : j - ys.length with
        | zero => omega
        | succ m => rw [q] at hz; simp at hz
      subst this
      rw [hl, Nat.sub_self] at hz
      cases hz
      exact hr
/-- the same with one test, whose answer at turn i is c i; the element is kept where it is true -/
theorem restT (n : Nat) (c : Nat → Bool) (e : Nat → Int)
    (turn : ∀ i v I oI C oC D m₂ h tk (E' : Value → Shared → Prop) ys, i < n → P i v → LCg.NsObj oC m₂ → m₂ x = some v → Fr h₀ L h m → News h₀ L h ((I, oI) :: (C, oC) :: (D, LCg.lst ys) :: news) → LCg.Off3 I C D news → ((@Ne Nat I C) ∧ (@Ne Nat I D) ∧ (@Ne Nat C D)) →
      wpAny (model prog w) A (isTrue ct (compEnvC scope cl C env) (eval ct (compEnvC scope cl C env))) (fun ok s' => ok = c i ∧ (ok = true → wpAny (model prog w) A (eval elt (compEnvC scope cl C env)) (LCg.CompEnd h₀ L m { s with heap := h, toks := tk } I oI C oC D (LCg.lst ys) S (fun y nw => nw = news ∧ ∃ t, y = .int (e i) t)) E' s') ∧
        (ok = false → LCg.CompEnd h₀ L m { s with heap := h, toks := tk } I oI C oC D (LCg.lst ys) S (fun _ nw => nw = news) Value.none s')) E' { s with heap := h, toks := tk })
    (fin : ∀ ys : List Value, IntsAre ys (((List.range n).filter c).map e) → Fin ys news) :
    ∀ k i ys, i + k = n → IntsAre ys (((List.range i).filter c).map e) → LCt.CompRestT prog w A h₀ L m env ct elt x scope cl s S P Fin k i ys news := by
  intro k
  induction k with
  | zero => intro i ys hk hR; have : i = n := by omega
            subst this; exact LCt.CompRestT.zero (fin ys hR)
  | succ k ih =>
    intro i ys hk hR
    refine LCt.CompRestT.succ fun v I oI C oC D m₂ h tk E' hv hC hx F N off ne => ?_
    refine wpAny_mono (turn i v I oI C oC D m₂ h tk E' ys (by omega) hv hC hx F N off ne) (fun ok s' hok => ?_) fun _ _ z => z
    obtain ⟨hc, ht, hf⟩ := hok
    cases ok with
    | true =>
      simp only [if_true]
      refine wpAny_mono (ht rfl) (fun y s'' he => compEnd_mono he fun nw hr => ?_) fun _ _ z => z
      obtain ⟨rfl, t, rfl⟩ := hr
      refine ih (i + 1) (ys ++ [_]) (by omega) ?_
      rw [List.range_succ, List.filter_append, List.map_append]
      have : ([i].filter c).map e = [e i] := by simp [← hc]
      rw [this]
      exact ints_snoc hR
    | false =>
      simp only [Bool.false_eq_true, if_false]
      refine compEnd_mono (hf rfl) fun nw hr => ?_
      subst hr
      refine ih (i + 1) ys (by omega) ?_
      rw [List.range_succ, List.filter_append, List.map_append]
      have : ([i].filter c).map e = [] := by simp [← hc]
      rw [this, List.append_nil]
      exact hR
end
end Mine
end

/-! ## Plain1 -/
section
open PySem PySem.W PySem.Spec PySem.Calls PyProof.Rows
set_option Elab.async false
set_option maxRecDepth 100000
set_option maxHeartbeats 8000000
namespace Mine
theorem ext8 {a b : List Int} (ha : a.length = 8) (hb : b.length = 8) (h : ∀ i, i < 8 → a.getD i 0 = b.getD i 0) : a = b := by
  apply List.ext_getElem (by rw [ha, hb])
  intro i h1 h2
  have := h i (ha ▸ h1)
  rw [List.getD_eq_getElem?_getD, List.getD_eq_getElem?_getD, List.getElem?_eq_getElem h1, List.getElem?_eq_getElem h2] at this
  exact this
theorem ex8 {row : List Int} (h : row.length = 8) : ∃ r0 r1 r2 r3 r4 r5 r6 r7, row = [r0, r1, r2, r3, r4, r5, r6, r7] := by
  refine ⟨row.getD 0 0, row.getD 1 0, row.getD 2 0, row.getD 3 0, row.getD 4 0, row.getD 5 0, row.getD 6 0, row.getD 7 0, ext8 h rfl fun i hi => ?_⟩
  rcases n8 i hi with rfl | rfl | rfl | rfl | rfl | rfl | rfl | rfl <;> rfl
theorem k8 {k : Int} (h0 : 0 ≤ k) (h1 : k < 8) : k = 0 ∨ k = 1 ∨ k = 2 ∨ k = 3 ∨ k = 4 ∨ k = 5 ∨ k = 6 ∨ k = 7 := by
  obtain ⟨n, rfl⟩ := Int.eq_ofNat_of_zero_le h0
  have : ∀ i : Nat, i < 8 → (i : Int) = 0 ∨ (i : Int) = 1 ∨ (i : Int) = 2 ∨ (i : Int) = 3 ∨ (i : Int) = 4 ∨ (i : Int) = 5 ∨ (i : Int) = 6 ∨ (i : Int) = 7 := by decide +kernel
  exact this n (Int.ofNat_lt.mp h1)
/-- a width -/
def isW (x : Int) : Prop := x = 1 ∨ x = 2 ∨ x = 4 ∨ x = 8
/-- the widths laid on each other -/
def lay (ws : List Int) : Int := ws.foldl (fun a x => Builtin.bitXor a (x - 1)) 0
theorem lay_in : ∀ (ws : List Int) (a : Int), 0 ≤ a → a < 8 → (∀ x ∈ ws, isW x) → 0 ≤ ws.foldl (fun a x => Builtin.bitXor a (x - 1)) a ∧ ws.foldl (fun a x => Builtin.bitXor a (x - 1)) a < 8
  | [], a, h0, h1, _ => ⟨h0, h1⟩
  | x :: r, a, h0, h1, hw => by
    have hx : 0 ≤ x - 1 ∧ x - 1 < 8 := by rcases hw x List.mem_cons_self with e | e | e | e <;> omega
    have := x8 h0 h1 hx.1 hx.2
    exact lay_in r _ this.1 this.2 fun y hy => hw y (List.mem_cons_of_mem _ hy)
theorem mv0 {row : List Int} (h : row.length = 8) : mv 0 row = row := by
  obtain ⟨r0, r1, r2, r3, r4, r5, r6, r7, rfl⟩ := ex8 h
  rfl
theorem mv_at (row : List Int) (k : Int) {q : Nat} (h : q < 8) : (mv k row).getD q 0 = row.getD (Builtin.bitXor (q : Int) k).toNat 0 := by
  rcases n8 q h with rfl | rfl | rfl | rfl | rfl | rfl | rfl | rfl <;> rfl
theorem mv_n (row : List Int) {k q : Nat} (hk : k < 8) (h : q < 8) : (mv (k : Int) row).getD q 0 = row.getD (q ^^^ k) 0 := by
  rw [mv_at row k h, (bx8 q k h hk).1]; rfl
theorem mv_mv {row : List Int} (_h : row.length = 8) {k a : Int} (h0 : 0 ≤ k) (h1 : k < 8) (a0 : 0 ≤ a) (a1 : a < 8) : mv a (mv k row) = mv (Builtin.bitXor k a) row := by
  obtain ⟨k, rfl⟩ := Int.eq_ofNat_of_zero_le h0
  obtain ⟨a, rfl⟩ := Int.eq_ofNat_of_zero_le a0
  have hk := Int.ofNat_lt.mp h1
  have ha := Int.ofNat_lt.mp a1
  have x := bx8 k a hk ha
  rw [x.1]
  refine ext8 rfl rfl fun p hp => ?_
  rw [mv_n _ ha hp, mv_n _ hk (bx8 p a hp ha).2, mv_n _ x.2 hp, Nat.xor_assoc, Nat.xor_comm a k]
end Mine
end

/-! ## Swap -/
section
open PySem PySem.W PySem.Spec PySem.Calls PyProof.Rows
set_option Elab.async false
set_option maxRecDepth 100000
set_option maxHeartbeats 8000000
namespace Mine
example : True := by
  w_top off
  trivial
example (w : World) : Mine.hd.heap_39 w.params = Mine.hd.heap_39 w.params ∧ PySem.Challenge.rw_op0017_01.prog = PySem.Challenge.rw_op0017_01.prog := by
  k_fill
  exact ⟨rfl, rfl⟩
section
variable {prog : Program} {w : World} {A : Around} {E : Value → Shared → Prop} {s : Shared} {h₀ : Heap} {L D : Addr} {m : PySem.Str → Option Value} {news news' : List (Addr × Obj)} {b : Array UInt8} {k v : Int} {t u : Tok}
theorem ba_setK {Q : Unit → Shared → Prop} (F : Fr h₀ L s.heap m) (N : News h₀ L s.heap news) (U : Upd D { cls := .type "bytearray", data := .bytearray b } { cls := .type "bytearray", data := .bytearray (b.setIfInBounds k.toNat v.toNat.toUInt8) } news news')
    (h0 : 0 ≤ k) (hn : k < b.size) (hz : b.size ≤ 4096) (hv0 : 0 ≤ v) (hv1 : v < 256)
    (h : ∀ h', Fr h₀ L h' m → News h₀ L h' news' → Q () { s with heap := h' }) :
    wpAny (model prog w) A (setItem (.ref D) (.int k t) (.int v u)) Q E s := by
  obtain ⟨pre, post, rfl, rfl, a, c⟩ := U.split
  have z := N (D, { cls := .type "bytearray", data := .bytearray b }) (List.mem_append.mpr (.inr (.head _)))
  exact ba_setItem z.1 h0 hn hz hv0 hv1 fun h' hs ho => h h' (F.change hs z.2.1 z.2.2) (N.setAt a c hs ho)
theorem ba_bytesK {Q : Value → Shared → Prop} (N : News h₀ L s.heap news) (hm : (D, { cls := .type "bytearray", data := .bytearray b }) ∈ news) (hz : b.size ≤ 4096)
    (hQ : ∀ t k, Q (.bytes b t) { s with toks := k }) : wpAny (model prog w) A (call (.type "bytes") [.ref D]) Q E s := ba_bytes (N _ hm).1 hz hQ
end
theorem b8 {r : Int} (h0 : 0 ≤ r) (h1 : r < 256) : (((r.toNat.toUInt8).toNat : Nat) : Int) = r := by
  have : r.toNat.toUInt8.toNat = r.toNat % 256 := by simp
  omega
/-- where the octet of step t goes, by groups of wd -/
noncomputable def dst (wd t : Nat) : Nat := t / wd * wd + wd - 1 - t % wd
/-- what the octets are after t steps -/
noncomputable def cont (wd : Nat) (row : List Int) : Nat → Array UInt8
  | 0 => Array.replicate 8 0
  | t + 1 => (cont wd row t).setIfInBounds (dst wd t) (row.getD t 0).toNat.toUInt8
theorem cont_size (wd : Nat) (row : List Int) : ∀ t, (cont wd row t).size = 8
  | 0 => rfl
  | t + 1 => by rw [cont, Array.size_setIfInBounds]; exact cont_size wd row t
/-- wd octets in a group, n groups -/
def W8 (wd n : Nat) : Prop := (wd = 1 ∧ n = 8) ∨ (wd = 2 ∧ n = 4) ∨ (wd = 4 ∧ n = 2) ∨ (wd = 8 ∧ n = 1)
theorem dst_eq {wd n i j : Nat} (h : W8 wd n) (hi : i < n) (hj : j < wd) :
    i * wd + j < 8 ∧ (0 : Int) ≤ 0 + (i : Int) * (wd : Int) + (wd : Int) - 1 - (0 + (j : Int)) ∧ 0 + (i : Int) * (wd : Int) + (wd : Int) - 1 - (0 + (j : Int)) < 8 ∧ (0 + (i : Int) * (wd : Int) + (wd : Int) - 1 - (0 + (j : Int))).toNat = dst wd (i * wd + j) ∧
    (0 : Int) ≤ 0 + (i : Int) * (wd : Int) + (0 + (j : Int)) ∧ 0 + (i : Int) * (wd : Int) + (0 + (j : Int)) < 8 ∧ (0 + (i : Int) * (wd : Int) + (0 + (j : Int))).toNat = i * wd + j := by
  have H : ∀ p ∈ ([(1, 8), (2, 4), (4, 2), (8, 1)] : List (Nat × Nat)), ∀ i, i < p.2 → ∀ j, j < p.1 →
      i * p.1 + j < 8 ∧ (0 : Int) ≤ 0 + (i : Int) * (p.1 : Int) + (p.1 : Int) - 1 - (0 + (j : Int)) ∧ 0 + (i : Int) * (p.1 : Int) + (p.1 : Int) - 1 - (0 + (j : Int)) < 8 ∧ (0 + (i : Int) * (p.1 : Int) + (p.1 : Int) - 1 - (0 + (j : Int))).toNat = dst p.1 (i * p.1 + j) ∧
      (0 : Int) ≤ 0 + (i : Int) * (p.1 : Int) + (0 + (j : Int)) ∧ 0 + (i : Int) * (p.1 : Int) + (0 + (j : Int)) < 8 ∧ (0 + (i : Int) * (p.1 : Int) + (0 + (j : Int))).toNat = i * p.1 + j := by decide +kernel
  exact H (wd, n) (by rcases h with ⟨rfl, rfl⟩ | ⟨rfl, rfl⟩ | ⟨rfl, rfl⟩ | ⟨rfl, rfl⟩ <;> simp) i hi j hj
theorem oct_at {x : Array UInt8} {row : List Int} (hx : KBw.bInts x = row) (i : Nat) : 0 ≤ row.getD i 0 ∧ row.getD i 0 < 256 := by
  rw [List.getD_eq_getElem?_getD]
  cases q : row[i]? with
  | none => exact ⟨by decide, by decide⟩
  | some r => exact KBw.ints_in (b := x) (hx ▸ List.mem_of_getElem? q)
theorem cont_end {x : Array UInt8} {row : List Int} {wd n : Nat} (h : W8 wd n) (hx : KBw.bInts x = row) (h8 : row.length = 8) : KBw.bInts (cont wd row (n * wd)) = mv ((wd : Int) - 1) row := by
  have hg := oct_at hx
  have e : KBw.bInts (cont wd row (n * wd)) = (mv ((wd : Int) - 1) row).map fun r => (((r.toNat.toUInt8).toNat : Nat) : Int) := by
    clear hg hx
    obtain ⟨r0, r1, r2, r3, r4, r5, r6, r7, rfl⟩ := ex8 h8
    rcases h with ⟨rfl, rfl⟩ | ⟨rfl, rfl⟩ | ⟨rfl, rfl⟩ | ⟨rfl, rfl⟩ <;> kernel_rfl
  refine e.trans ((List.map_congr_left (g := id) fun r hr => ?_).trans (List.map_id _))
  obtain ⟨p, -, rfl⟩ := List.mem_map.mp hr
  exact b8 (hg _).1 (hg _).2
theorem len8 {prog : Program} {w : World} {A : Around} {E : Value → Shared → Prop} {s : Shared} {x : Array UInt8} {t : Tok} {row : List Int} {Q : Value → Shared → Prop} (hx : KBw.bInts x = row) (h8 : row.length = 8)
    (h : ∀ t k, Q (.int 8 t) { s with toks := k }) : wpAny (model prog w) A (call (.builtin "len") [.bytes x t]) Q E s := by
  obtain ⟨r0, r1, r2, r3, r4, r5, r6, r7, rfl⟩ := ex8 h8
  exact KBw.len_K hx (by show (8 : Nat) ≤ 1099511627776; decide) (h _ _)
theorem fr_eq {g h : Heap} {L : Addr} {m m' : PySem.Str → Option Value} (F : Fr g L h m) (e : ∀ y, m y = m' y) : Fr g L h m' := by
  obtain rfl : m = m' := funext e
  exact F
abbrev mOf' {g h : Heap} {L : Addr} {m : PySem.Str → Option Value} (_ : Fr g L h m) : PySem.Str → Option Value := m
abbrev baO (b : Array UInt8) : Obj := { cls := .type "bytearray", data := .bytearray b }
section
variable {prog : Program} {w : World} {mean : ExcName → Option Value} {mg mb : PySem.Str → Option Value}
   {dp un : Nat} {fr : Option (List Env)} {gd : Option (List Code)} {h₀ : Heap} {s : Shared} {Q E : Value → Shared → Prop}
   (X : (Mine.hd.heap_39 w.params).In h₀) (T : Top Mine.hd.view_39 (looseW Mine.hd.view_39 [PySem.Str.ofString "_initial_missing", PySem.Str.ofString "reduce"]) mean mg mb h₀)
   (hk : ∀ b o, h₀.get? b = some o → s.heap.get? b = some o)
include X T hk
theorem swapW_c (hd : dp < recursionLimit) {x : Array UInt8} {row : List Int} {wd n : Nat} {t u : Tok} (hw : W8 wd n) (hx : KBw.bInts x = row) (h8 : row.length = 8)
   (hret : ∀ y t' h' tk', KBw.bInts y = mv ((wd : Int) - 1) row → Keep s.heap h' → Q (.bytes y t') { s with heap := h', toks := tk' }) :
   wpN (model prog w) (AA dp un fr gd) (call (.ref 58) [.bytes x t, .int (wd : Int) u]) Q E s := by
  have hg8 := oct_at hx
  have hwp : 1 ≤ wd ∧ wd ≤ 8 := by rcases hw with ⟨rfl, rfl⟩ | ⟨rfl, rfl⟩ | ⟨rfl, rfl⟩ | ⟨rfl, rfl⟩ <;> decide
  have hsm : Builtin.Range.small 0 8 (wd : Int) = true := by rcases hw with ⟨rfl, rfl⟩ | ⟨rfl, rfl⟩ | ⟨rfl, rfl⟩ | ⟨rfl, rfl⟩ <;> decide
  have hrs : Builtin.Range.rangeSize 0 8 (wd : Int) = (n : Int) := by rcases hw with ⟨rfl, rfl⟩ | ⟨rfl, rfl⟩ | ⟨rfl, rfl⟩ | ⟨rfl, rfl⟩ <;> decide
  have hsm1 : Builtin.Range.small 0 (wd : Int) 1 = true := by rcases hw with ⟨rfl, rfl⟩ | ⟨rfl, rfl⟩ | ⟨rfl, rfl⟩ | ⟨rfl, rfl⟩ <;> decide
  have hrs1 : Builtin.Range.rangeSize 0 (wd : Int) 1 = (wd : Int) := by rcases hw with ⟨rfl, rfl⟩ | ⟨rfl, rfl⟩ | ⟨rfl, rfl⟩ | ⟨rfl, rfl⟩ <;> decide
  refine wpN_call ?_
  k_dflt (refine' enterN (news := []) X T hk (fun _ h => nomatch h) ?k6 ?k7 ?k8 ?k9 ?kB ?_ ?c2 ?c3 ?c4 ?c5; (case k6 => k_is); (case k7 => k_is); (case k8 => exact hd); (case k9 => exact BindsTo.of_eq rfl); (case kB => exact locs rfl); (case c5 => decide); (case c2 => exact rfl); (case c3 => exact rfl); (case c4 => exact rfl))
  intro g L' h₁ hg hg' F N X' T' hl
  have hkg : Keep s.heap g := fun b o e => hg b o e (by simp)
  refine wpN_execs_cons (wpN_Assign_Name (CallN_ ?_))
  k_steps
  refine callWithN_type ?_
  repeat' (first | (k_unfold; (try dsimp only)) | (k_end; wrow_close) | ((with_reducible show wpAny _ _ (call (Value.builtin "len") [Value.bytes _ _]) _ _ _); (with_reducible refine len8 hx h8 ?_); intro _ _) | walk1 | (dsimp only; walk1) | (leave1; (try dsimp only)))
  refine ba_new (n := 8) (by k_asm) (by k_asm) (by decide) (by decide) ?_
  intro D h₂ F₂ N₂ hl₂
  repeat' (first | (k_unfold; (try dsimp only)) | (k_end; wrow_close) | walk1 | (dsimp only; walk1) | (leave1; (try dsimp only)))
  dsimp only
  refine wpN_of ?_
  repeat' ((fail_if_success (with_reducible show wpAny _ _ (exec (Stmt.For ..) _) _ _ _)); first | (k_unfold; (try dsimp only)) | (k_end; wrow_close) | walk1 | (dsimp only; walk1) | (leave1; (try dsimp only)))
  refine wpAny_For ?_
  repeat' ((fail_if_success (with_reducible show wpAny _ _ (pyIter _) _ _ _)); first | (k_unfold; (try dsimp only)) | ((with_reducible show wpAny _ _ (call (Value.builtin "len") [Value.bytes _ _]) _ _ _); (with_reducible refine len8 hx h8 ?_); intro _ _) | walk1 | (dsimp only; first | ((with_reducible show wpAny _ _ (call (Value.builtin "len") [Value.bytes _ _]) _ _ _); (with_reducible refine len8 hx h8 ?_); intro _ _) | walk1) | (leave1; (try dsimp only)))
  refine wpAny_pyIter_range (by assumption) hsm ?_
  rename_i hz _ _ _ _ _ Fz Nz _
  have hI0 : g.get? hz.objs.size = none := fresh_of Fz.keep (by
    cases q : hz.get? hz.objs.size with
    | none => rfl
    | some o => exact absurd (Heap.lt_size q) (Nat.lt_irrefl _))
  have hIL : hz.objs.size ≠ L' := Nat.ne_of_gt Fz.ns.lt
  have hID : D ≠ hz.objs.size := Nat.ne_of_lt (Heap.lt_size (Nz _ (.head _)).1)
  have hDL := (Nz _ (.head _)).2.1
  have hD0 := (Nz _ (.head _)).2.2
  refine for_rangeC (s := s) (I := hz.objs.size) rfl 0 wd n (fun i h => ∃ iv jv, Fr g L' h (fun y => if y = (PySem.Str.ofString "j") then jv else if y = (PySem.Str.ofString "i") then iv else mOf' Fz y) ∧ h.get? D = some (baO (cont wd row (i * wd)))) ?hI ?turn ?done n 0 _ _ rfl (Nat.zero_le _) ?st ?inv
  case hI =>
    rintro i h h' ⟨iv, jv, Fi, Ni⟩ he
    exact ⟨iv, jv, LCg.fr_but Fi (fun b o hb e => he b o (by simpa using hb) e) (Ne.symm hIL) hI0, he _ _ hID Ni⟩
  case st =>
    show IsRangeIter _ _ _ _ _
    rw [← hrs]
    simpa using Heap.get?_push_size _ rfl
  case inv =>
    refine ⟨none, none, ?_, Heap.get?_push_of_some _ (by rw [Nat.zero_mul]; exact (Nz _ (.head _)).1)⟩
    refine fr_eq (Fz.push _) fun y => ?_
    by_cases e1 : y = (PySem.Str.ofString "j")
    · subst e1; rfl
    · by_cases e2 : y = (PySem.Str.ofString "i")
      · subst e2; rfl
      · rw [if_neg e1, if_neg e2]
  case turn =>
    rintro i h tk9 t9 oI hi ⟨iv, jv, Fi, Ni⟩ eI
    have N1 : News g L' h ((hz.objs.size, oI) :: (D, baO (cont wd row (i * wd))) :: []) := fun p hp => by
      rcases List.mem_cons.mp hp with rfl | hp
      · exact ⟨eI, hIL, hI0⟩
      · rw [List.mem_singleton.mp hp]; exact ⟨Ni, hDL, hD0⟩
    dsimp only [mOf'] at Fi
    clear Nz Ni hret
    repeat' ((fail_if_success (with_reducible show wpAny _ _ (exec (Stmt.For ..) _) _ _ _)); first | (k_unfold; (try dsimp only)) | walk1 | (dsimp only; walk1) | (leave1; (try dsimp only)))
    rename_i h5 F5 N5
    have F6 : Fr g L' h5 (fun y => if y = (PySem.Str.ofString "j") then jv else if y = (PySem.Str.ofString "i") then some (.int (0 + (i : Int) * (wd : Int)) t9) else mOf' Fz y) := fr_eq F5 fun y => by
      by_cases e1 : y = (PySem.Str.ofString "j")
      · subst e1; rfl
      · by_cases e2 : y = (PySem.Str.ofString "i")
        · subst e2; rfl
        · simp only [if_neg e1, if_neg e2, mOf']
    dsimp only [mOf'] at F6
    clear F5
    refine wpAny_For ?_
    repeat' ((fail_if_success (with_reducible show wpAny _ _ (pyIter _) _ _ _)); first | (k_unfold; (try dsimp only)) | walk1 | (dsimp only; walk1) | (leave1; (try dsimp only)))
    refine wpAny_pyIter_range (by assumption) hsm1 ?_
    rename_i hy _ _ _ _ _ Fy Ny _
    have hJ0 : g.get? hy.objs.size = none := fresh_of Fy.keep (by
      cases q : hy.get? hy.objs.size with
      | none => rfl
      | some o => exact absurd (Heap.lt_size q) (Nat.lt_irrefl _))
    have hJL : hy.objs.size ≠ L' := Nat.ne_of_gt Fy.ns.lt
    have hJI : hz.objs.size ≠ hy.objs.size := Nat.ne_of_lt (Heap.lt_size (Ny _ (.head _)).1)
    have hJD : D ≠ hy.objs.size := Nat.ne_of_lt (Heap.lt_size (Ny _ (.tail _ (.head _))).1)
    (try clear F6 N5)
    refine for_range (s := s) (I := hy.objs.size) rfl wd (fun j h => ∃ jv, Fr g L' h (fun y => if y = (PySem.Str.ofString "j") then jv else if y = (PySem.Str.ofString "i") then some (.int (0 + (i : Int) * (wd : Int)) t9) else mOf' Fz y) ∧ h.get? D = some (baO (cont wd row (i * wd + j))) ∧ h.get? hz.objs.size = some oI) ?hI2 ?turn2 ?done2 wd 0 _ _ rfl (Nat.zero_le _) ?st2 ?inv2
    case hI2 =>
      rintro j h h' ⟨jv, Fj, Nj, Oj⟩ he
      exact ⟨jv, LCg.fr_but Fj (fun b o hb e => he b o (by simpa using hb) e) (Ne.symm hJL) hJ0, he _ _ hJD Nj, he _ _ hJI Oj⟩
    case st2 =>
      show IsRangeIter _ _ _ _ _
      refine (Heap.get?_push_size _ rfl).trans ?_
      rw [hrs1]
      simp
    case inv2 =>
      exact ⟨jv, Fy.push _, Heap.get?_push_of_some _ (Ny _ (.tail _ (.head _))).1, Heap.get?_push_of_some _ (Ny _ (.head _)).1⟩
    case turn2 =>
      rintro j h tk8 t8 oJ hj ⟨jv2, Fj, Nj, Oj⟩ eJ
      have N1 : News g L' h ((hy.objs.size, oJ) :: (hz.objs.size, oI) :: (D, baO (cont wd row (i * wd + j))) :: []) := fun p hp => by
        rcases List.mem_cons.mp hp with rfl | hp
        · exact ⟨eJ, hJL, hJ0⟩
        · rcases List.mem_cons.mp hp with rfl | hp
          · exact ⟨Oj, hIL, hI0⟩
          · rw [List.mem_singleton.mp hp]; exact ⟨Nj, hDL, hD0⟩
      dsimp only [mOf'] at Fj
      clear Ny Nj Oj eJ
      obtain ⟨d1, d2, d3, d4, d5, d6, d7⟩ := dst_eq hw hi hj
      repeat' ((fail_if_success (with_reducible show wpAny _ _ (subscriptTail _ _ _ _) _ _ _)); (fail_if_success (with_reducible show wpAny _ _ (setItem _ _ _) _ _ _)); (fail_if_success (with_reducible show _ ∧ ∃ _, _)); first | (k_unfold; (try dsimp only)) | walk1 | (dsimp only; walk1) | (leave1; (try dsimp only)))
      refine item_brow hx h8 d5 d6 ?_
      intro t6 k6
      repeat' ((fail_if_success (with_reducible show wpAny _ _ (subscriptTail _ _ _ _) _ _ _)); (fail_if_success (with_reducible show wpAny _ _ (setItem _ _ _) _ _ _)); (fail_if_success (with_reducible show _ ∧ ∃ _, _)); first | (k_unfold; (try dsimp only)) | walk1 | (dsimp only; walk1) | (leave1; (try dsimp only)))
      refine ba_setK (by k_asm) (by k_asm) (.tail (Ne.symm hJD) (.tail (Ne.symm hID) (.head (List.forall_mem_nil _)))) d2 (by rw [cont_size]; exact d3) (by rw [cont_size]; decide) (hg8 _).1 (hg8 _).2 ?_
      intro h7 F7 N7
      repeat' ((fail_if_success (with_reducible show wpAny _ _ (subscriptTail _ _ _ _) _ _ _)); (fail_if_success (with_reducible show wpAny _ _ (setItem _ _ _) _ _ _)); (fail_if_success (with_reducible show _ ∧ ∃ _, _)); first | (k_unfold; (try dsimp only)) | walk1 | (dsimp only; walk1) | (leave1; (try dsimp only)))
      have e7 := (N7 _ (.tail _ (.tail _ (.head _)))).1
      rw [d4, d7] at e7
      refine ⟨rfl, h7, _, rfl, ⟨some (.int (0 + (j : Int)) t8), fr_eq F7 fun y => ?_, e7, (N7 _ (.tail _ (.head _))).1⟩, (N7 _ (.head _)).1⟩
      by_cases e1 : y = (PySem.Str.ofString "j")
      · subst e1; rfl
      · simp only [if_neg e1, mOf']
    case done2 =>
      rintro h tk8 ⟨jv2, Fj, Nj, Oj⟩
      dsimp only [mOf'] at Fj
      clear Ny Fy
      repeat' ((fail_if_success (with_reducible show _ ∧ ∃ _, _)); first | (k_unfold; (try dsimp only)) | walk1 | (dsimp only; walk1) | (leave1; (try dsimp only)))
      refine ⟨rfl, h, _, rfl, ⟨_, _, Fj, ?_⟩, Oj⟩
      rw [Nat.add_mul, Nat.one_mul]; exact Nj
  case done =>
    rintro h tk9 ⟨iv, jv, Fi, Ni⟩
    have N1 : News g L' h ((D, baO (cont wd row (n * wd))) :: []) := fun p hp => by
      rw [List.mem_singleton.mp hp]; exact ⟨Ni, hDL, hD0⟩
    dsimp only [mOf'] at Fi
    clear Nz Fz
    repeat' ((fail_if_success (with_reducible show wpAny _ _ (call (Value.type "bytes") _) _ _ _)); first | (k_unfold; (try dsimp only)) | walk1 | (dsimp only; walk1) | (leave1; (try dsimp only)))
    refine ba_bytesK N1 (.head _) (by rw [cont_size]; decide) ?_
    intro t6 k6
    repeat' ((fail_if_success (with_reducible show Q _ _)); first | (k_unfold; (try dsimp only)) | walk1 | (dsimp only; walk1) | (leave1; (try dsimp only)))
    exact hret _ _ _ _ (cont_end hw hx h8) fun b o e => Fi.keep b o (hkg b o e)
end
end Mine
end

/-! ## Mv -/
section
open PySem PySem.W PySem.Spec PySem.Calls PyProof.Rows
set_option Elab.async false
set_option maxRecDepth 100000
set_option maxHeartbeats 8000000
namespace Mine
example : True := by
  w_top off
  trivial
example (w : World) : Mine.hd.heap_39 w.params = Mine.hd.heap_39 w.params ∧ PySem.Challenge.rw_op0017_01.prog = PySem.Challenge.rw_op0017_01.prog := by
  k_fill
  exact ⟨rfl, rfl⟩
section
variable {b : Bool} {prog : Program} {w : World} {mean : ExcName → Option Value} {mg mb : PySem.Str → Option Value}
   {dp un : Nat} {fr : Option (List Env)} {gd : Option (List Code)} {h₀ : Heap} {s : Shared} {Q E : Value → Shared → Prop}
   (X : (Mine.hd.heap_39 w.params).In h₀) (T : Top Mine.hd.view_39 (looseW Mine.hd.view_39 [PySem.Str.ofString "_initial_missing", PySem.Str.ofString "reduce"]) mean mg mb h₀)
   (hk : ∀ b o, h₀.get? b = some o → s.heap.get? b = some o)
include X T hk
theorem moved_c (hd : dp < recursionLimit) {l : Addr} {row : List Int} {k : Int} {u : Tok} (hl : IL s.heap l row) (h8 : row.length = 8) (hk0 : 0 ≤ k) (hk1 : k < 8)
   (hret : RetL s Q (mv k row)) :
   wpAny (model prog w) (AA dp un fr gd) (call (.ref 92) [.ref l, .int k u]) Q E s := by
  refine wpAny_call ?_
  k_dflt (refine' enterC (news := []) X T hk (fun _ h => nomatch h) ?k6 ?k7 ?k8 ?k9 ?kB ?kD ?_ ?c2 ?c3 ?c4; (case k6 => k_is); (case k7 => k_is); (case k8 => exact hd); (case k9 => first | exact BindsTo.of_eq rfl | exact binds_K (Frag.In.keeps X hk) rfl (by k_is) rfl rfl rfl); (case kB => exact rfl); (case kD => decide +kernel); (case c2 => exact rfl); (case c3 => exact rfl); (case c4 => exact rfl))
  intro g L' h₁ tk cells hg hg' F N Y X' T' hl'
  k_cells Y
  (try simp only [List.cons_append, List.nil_append] at N)
  have hkg : Keep s.heap g := fun b o e => hg b o e (by simp)
  have hL := hl.keep hkg
  (try dsimp only)
  (try k_fold)
  repeat' ((fail_if_success (with_reducible show Q _ _)); (fail_if_success (with_reducible show LCg.CompRest _ _ _ _ _ _ _ _ _ _ _ _ _ _ _ _ _ _ _)); first | (k_unfold; (try dsimp only)) | ((with_reducible show wpAny _ _ (subscriptTail _ _ (Value.bytes _ _) (Value.int _ _)) _ _ _); (refine item_brow (by assumption) (by assumption) (by first | omega | exact (x8 (by omega) (by omega) (by omega) (by omega)).1) (by first | omega | exact (x8 (by omega) (by omega) (by omega) (by omega)).2) ?_); intro _ _) | ((with_reducible show wpAny _ _ (subscriptTail _ _ (Value.ref _) (Value.int _ _)) _ _ _); (refine item_row (by k_asm) (by assumption) (by assumption) (by first | omega | exact (x8 (by omega) (by omega) (by omega) (by omega)).1) (by first | omega | exact (x8 (by omega) (by omega) (by omega) (by omega)).2) ?_); intro _) | ((with_reducible show LCg.CompSrc ..); k_dflt (refine LCg.CompSrc.range (n := 8) (by rfl) (by k_asm) (by k_asm) (by assumption) (by first | decide | rfl) (by first | rfl | decide) (by first | size_fits | exact Nat.le_of_ble_eq_true rfl) ?_; intro g')) | walk1 | (dsimp only; first | ((with_reducible show wpAny _ _ (subscriptTail _ _ (Value.bytes _ _) (Value.int _ _)) _ _ _); (refine item_brow (by assumption) (by assumption) (by first | omega | exact (x8 (by omega) (by omega) (by omega) (by omega)).1) (by first | omega | exact (x8 (by omega) (by omega) (by omega) (by omega)).2) ?_); intro _ _) | ((with_reducible show wpAny _ _ (subscriptTail _ _ (Value.ref _) (Value.int _ _)) _ _ _); (refine item_row (by k_asm) (by assumption) (by assumption) (by first | omega | exact (x8 (by omega) (by omega) (by omega) (by omega)).1) (by first | omega | exact (x8 (by omega) (by omega) (by omega) (by omega)).2) ?_); intro _) | ((with_reducible show LCg.CompSrc ..); k_dflt (refine LCg.CompSrc.range (n := 8) (by rfl) (by k_asm) (by k_asm) (by assumption) (by first | decide | rfl) (by first | rfl | decide) (by first | size_fits | exact Nat.le_of_ble_eq_true rfl) ?_; intro g')) | walk1) | (leave1; (try dsimp only)))
  refine restU 8 (fun i y => ∃ t, y = Value.int (row.getD (Builtin.bitXor (i : Int) k).toNat 0) t) ?turn ?fin _ 0 [] rfl rfl (fun i y h => by simp at h)
  case turn =>
    rintro i v I oI C oC D m₂ h tk E' ys hi ⟨t9, rfl⟩ hC hx F2 N2 off ne
    repeat' ((fail_if_success (with_reducible show Q _ _)); (fail_if_success (with_reducible show LCg.CompEnd _ _ _ _ _ _ _ _ _ _ _ _ _ _)); first | (k_unfold; (try dsimp only)) | ((with_reducible show wpAny _ _ (subscriptTail _ _ (Value.bytes _ _) (Value.int _ _)) _ _ _); (refine item_brow (by assumption) (by assumption) (by first | omega | exact (x8 (by omega) (by omega) (by omega) (by omega)).1) (by first | omega | exact (x8 (by omega) (by omega) (by omega) (by omega)).2) ?_); intro _ _) | ((with_reducible show wpAny _ _ (subscriptTail _ _ (Value.ref _) (Value.int _ _)) _ _ _); (refine item_row (by k_asm) (by assumption) (by assumption) (by first | omega | exact (x8 (by omega) (by omega) (by omega) (by omega)).1) (by first | omega | exact (x8 (by omega) (by omega) (by omega) (by omega)).2) ?_); intro _) | ((with_reducible show LCg.CompSrc ..); k_dflt (refine LCg.CompSrc.range (n := 8) (by rfl) (by k_asm) (by k_asm) (by assumption) (by first | decide | rfl) (by first | rfl | decide) (by first | size_fits | exact Nat.le_of_ble_eq_true rfl) ?_; intro g')) | walk1 | (dsimp only; first | ((with_reducible show wpAny _ _ (subscriptTail _ _ (Value.bytes _ _) (Value.int _ _)) _ _ _); (refine item_brow (by assumption) (by assumption) (by first | omega | exact (x8 (by omega) (by omega) (by omega) (by omega)).1) (by first | omega | exact (x8 (by omega) (by omega) (by omega) (by omega)).2) ?_); intro _ _) | ((with_reducible show wpAny _ _ (subscriptTail _ _ (Value.ref _) (Value.int _ _)) _ _ _); (refine item_row (by k_asm) (by assumption) (by assumption) (by first | omega | exact (x8 (by omega) (by omega) (by omega) (by omega)).1) (by first | omega | exact (x8 (by omega) (by omega) (by omega) (by omega)).2) ?_); intro _) | ((with_reducible show LCg.CompSrc ..); k_dflt (refine LCg.CompSrc.range (n := 8) (by rfl) (by k_asm) (by k_asm) (by assumption) (by first | decide | rfl) (by first | rfl | decide) (by first | size_fits | exact Nat.le_of_ble_eq_true rfl) ?_; intro g')) | walk1) | (leave1; (try dsimp only)))
    exact LCg.CompEnd.intro F2 N2 _ (fun _ hp => hp) off trivial ⟨rfl, _, congrArg (fun z => Value.int z _) (by simp only [Int.zero_add])⟩
  case fin =>
    intro ys hl9 hR9 D h5 tk5 F6 N6 O6
    repeat' ((fail_if_success (with_reducible show Q _ _)); first | (k_unfold; (try dsimp only)) | ((with_reducible show wpAny _ _ (subscriptTail _ _ (Value.bytes _ _) (Value.int _ _)) _ _ _); (refine item_brow (by assumption) (by assumption) (by first | omega | exact (x8 (by omega) (by omega) (by omega) (by omega)).1) (by first | omega | exact (x8 (by omega) (by omega) (by omega) (by omega)).2) ?_); intro _ _) | ((with_reducible show wpAny _ _ (subscriptTail _ _ (Value.ref _) (Value.int _ _)) _ _ _); (refine item_row (by k_asm) (by assumption) (by assumption) (by first | omega | exact (x8 (by omega) (by omega) (by omega) (by omega)).1) (by first | omega | exact (x8 (by omega) (by omega) (by omega) (by omega)).2) ?_); intro _) | ((with_reducible show LCg.CompSrc ..); k_dflt (refine LCg.CompSrc.range (n := 8) (by rfl) (by k_asm) (by k_asm) (by assumption) (by first | decide | rfl) (by first | rfl | decide) (by first | size_fits | exact Nat.le_of_ble_eq_true rfl) ?_; intro g')) | walk1 | (dsimp only; first | ((with_reducible show wpAny _ _ (subscriptTail _ _ (Value.bytes _ _) (Value.int _ _)) _ _ _); (refine item_brow (by assumption) (by assumption) (by first | omega | exact (x8 (by omega) (by omega) (by omega) (by omega)).1) (by first | omega | exact (x8 (by omega) (by omega) (by omega) (by omega)).2) ?_); intro _ _) | ((with_reducible show wpAny _ _ (subscriptTail _ _ (Value.ref _) (Value.int _ _)) _ _ _); (refine item_row (by k_asm) (by assumption) (by assumption) (by first | omega | exact (x8 (by omega) (by omega) (by omega) (by omega)).1) (by first | omega | exact (x8 (by omega) (by omega) (by omega) (by omega)).2) ?_); intro _) | ((with_reducible show LCg.CompSrc ..); k_dflt (refine LCg.CompSrc.range (n := 8) (by rfl) (by k_asm) (by k_asm) (by assumption) (by first | decide | rfl) (by first | rfl | decide) (by first | size_fits | exact Nat.le_of_ble_eq_true rfl) ?_; intro g')) | walk1) | (leave1; (try dsimp only)))
    have hints := ints_of hl9 hR9
    exact hret _ _ _ _ (fun b o e => F6.keep b o (hkg b o e)) hints (N6 _ (.head _)).1 (fresh_of hkg (N6 _ (.head _)).2.2)
theorem movedb_c (hd : dp < recursionLimit) {x : Array UInt8} {row : List Int} {k : Int} {t u : Tok} (hx : KBw.bInts x = row) (h8 : row.length = 8) (hk0 : 0 ≤ k) (hk1 : k < 8)
   (hret : RetL s Q (mv k row)) :
   wpAny (model prog w) (AA dp un fr gd) (call (.ref 92) [.bytes x t, .int k u]) Q E s := by
  refine wpAny_call ?_
  k_dflt (refine' enterC (news := []) X T hk (fun _ h => nomatch h) ?k6 ?k7 ?k8 ?k9 ?kB ?kD ?_ ?c2 ?c3 ?c4; (case k6 => k_is); (case k7 => k_is); (case k8 => exact hd); (case k9 => first | exact BindsTo.of_eq rfl | exact binds_K (Frag.In.keeps X hk) rfl (by k_is) rfl rfl rfl); (case kB => exact rfl); (case kD => decide +kernel); (case c2 => exact rfl); (case c3 => exact rfl); (case c4 => exact rfl))
  intro g L' h₁ tk cells hg hg' F N Y X' T' hl'
  k_cells Y
  (try simp only [List.cons_append, List.nil_append] at N)
  have hkg : Keep s.heap g := fun b o e => hg b o e (by simp)
  (try dsimp only)
  (try k_fold)
  repeat' ((fail_if_success (with_reducible show Q _ _)); (fail_if_success (with_reducible show LCg.CompRest _ _ _ _ _ _ _ _ _ _ _ _ _ _ _ _ _ _ _)); first | (k_unfold; (try dsimp only)) | ((with_reducible show wpAny _ _ (subscriptTail _ _ (Value.bytes _ _) (Value.int _ _)) _ _ _); (refine item_brow (by assumption) (by assumption) (by first | omega | exact (x8 (by omega) (by omega) (by omega) (by omega)).1) (by first | omega | exact (x8 (by omega) (by omega) (by omega) (by omega)).2) ?_); intro _ _) | ((with_reducible show wpAny _ _ (subscriptTail _ _ (Value.ref _) (Value.int _ _)) _ _ _); (refine item_row (by k_asm) (by assumption) (by assumption) (by first | omega | exact (x8 (by omega) (by omega) (by omega) (by omega)).1) (by first | omega | exact (x8 (by omega) (by omega) (by omega) (by omega)).2) ?_); intro _) | ((with_reducible show LCg.CompSrc ..); k_dflt (refine LCg.CompSrc.range (n := 8) (by rfl) (by k_asm) (by k_asm) (by assumption) (by first | decide | rfl) (by first | rfl | decide) (by first | size_fits | exact Nat.le_of_ble_eq_true rfl) ?_; intro g')) | walk1 | (dsimp only; first | ((with_reducible show wpAny _ _ (subscriptTail _ _ (Value.bytes _ _) (Value.int _ _)) _ _ _); (refine item_brow (by assumption) (by assumption) (by first | omega | exact (x8 (by omega) (by omega) (by omega) (by omega)).1) (by first | omega | exact (x8 (by omega) (by omega) (by omega) (by omega)).2) ?_); intro _ _) | ((with_reducible show wpAny _ _ (subscriptTail _ _ (Value.ref _) (Value.int _ _)) _ _ _); (refine item_row (by k_asm) (by assumption) (by assumption) (by first | omega | exact (x8 (by omega) (by omega) (by omega) (by omega)).1) (by first | omega | exact (x8 (by omega) (by omega) (by omega) (by omega)).2) ?_); intro _) | ((with_reducible show LCg.CompSrc ..); k_dflt (refine LCg.CompSrc.range (n := 8) (by rfl) (by k_asm) (by k_asm) (by assumption) (by first | decide | rfl) (by first | rfl | decide) (by first | size_fits | exact Nat.le_of_ble_eq_true rfl) ?_; intro g')) | walk1) | (leave1; (try dsimp only)))
  refine restU 8 (fun i y => ∃ t, y = Value.int (row.getD (Builtin.bitXor (i : Int) k).toNat 0) t) ?turn ?fin _ 0 [] rfl rfl (fun i y h => by simp at h)
  case turn =>
    rintro i v I oI C oC D m₂ h tk E' ys hi ⟨t9, rfl⟩ hC hx F2 N2 off ne
    repeat' ((fail_if_success (with_reducible show Q _ _)); (fail_if_success (with_reducible show LCg.CompEnd _ _ _ _ _ _ _ _ _ _ _ _ _ _)); first | (k_unfold; (try dsimp only)) | ((with_reducible show wpAny _ _ (subscriptTail _ _ (Value.bytes _ _) (Value.int _ _)) _ _ _); (refine item_brow (by assumption) (by assumption) (by first | omega | exact (x8 (by omega) (by omega) (by omega) (by omega)).1) (by first | omega | exact (x8 (by omega) (by omega) (by omega) (by omega)).2) ?_); intro _ _) | ((with_reducible show wpAny _ _ (subscriptTail _ _ (Value.ref _) (Value.int _ _)) _ _ _); (refine item_row (by k_asm) (by assumption) (by assumption) (by first | omega | exact (x8 (by omega) (by omega) (by omega) (by omega)).1) (by first | omega | exact (x8 (by omega) (by omega) (by omega) (by omega)).2) ?_); intro _) | ((with_reducible show LCg.CompSrc ..); k_dflt (refine LCg.CompSrc.range (n := 8) (by rfl) (by k_asm) (by k_asm) (by assumption) (by first | decide | rfl) (by first | rfl | decide) (by first | size_fits | exact Nat.le_of_ble_eq_true rfl) ?_; intro g')) | walk1 | (dsimp only; first | ((with_reducible show wpAny _ _ (subscriptTail _ _ (Value.bytes _ _) (Value.int _ _)) _ _ _); (refine item_brow (by assumption) (by assumption) (by first | omega | exact (x8 (by omega) (by omega) (by omega) (by omega)).1) (by first | omega | exact (x8 (by omega) (by omega) (by omega) (by omega)).2) ?_); intro _ _) | ((with_reducible show wpAny _ _ (subscriptTail _ _ (Value.ref _) (Value.int _ _)) _ _ _); (refine item_row (by k_asm) (by assumption) (by assumption) (by first | omega | exact (x8 (by omega) (by omega) (by omega) (by omega)).1) (by first | omega | exact (x8 (by omega) (by omega) (by omega) (by omega)).2) ?_); intro _) | ((with_reducible show LCg.CompSrc ..); k_dflt (refine LCg.CompSrc.range (n := 8) (by rfl) (by k_asm) (by k_asm) (by assumption) (by first | decide | rfl) (by first | rfl | decide) (by first | size_fits | exact Nat.le_of_ble_eq_true rfl) ?_; intro g')) | walk1) | (leave1; (try dsimp only)))
    exact LCg.CompEnd.intro F2 N2 _ (fun _ hp => hp) off trivial ⟨rfl, _, congrArg (fun z => Value.int z _) (by simp only [Int.zero_add])⟩
  case fin =>
    intro ys hl9 hR9 D h5 tk5 F6 N6 O6
    repeat' ((fail_if_success (with_reducible show Q _ _)); first | (k_unfold; (try dsimp only)) | ((with_reducible show wpAny _ _ (subscriptTail _ _ (Value.bytes _ _) (Value.int _ _)) _ _ _); (refine item_brow (by assumption) (by assumption) (by first | omega | exact (x8 (by omega) (by omega) (by omega) (by omega)).1) (by first | omega | exact (x8 (by omega) (by omega) (by omega) (by omega)).2) ?_); intro _ _) | ((with_reducible show wpAny _ _ (subscriptTail _ _ (Value.ref _) (Value.int _ _)) _ _ _); (refine item_row (by k_asm) (by assumption) (by assumption) (by first | omega | exact (x8 (by omega) (by omega) (by omega) (by omega)).1) (by first | omega | exact (x8 (by omega) (by omega) (by omega) (by omega)).2) ?_); intro _) | ((with_reducible show LCg.CompSrc ..); k_dflt (refine LCg.CompSrc.range (n := 8) (by rfl) (by k_asm) (by k_asm) (by assumption) (by first | decide | rfl) (by first | rfl | decide) (by first | size_fits | exact Nat.le_of_ble_eq_true rfl) ?_; intro g')) | walk1 | (dsimp only; first | ((with_reducible show wpAny _ _ (subscriptTail _ _ (Value.bytes _ _) (Value.int _ _)) _ _ _); (refine item_brow (by assumption) (by assumption) (by first | omega | exact (x8 (by omega) (by omega) (by omega) (by omega)).1) (by first | omega | exact (x8 (by omega) (by omega) (by omega) (by omega)).2) ?_); intro _ _) | ((with_reducible show wpAny _ _ (subscriptTail _ _ (Value.ref _) (Value.int _ _)) _ _ _); (refine item_row (by k_asm) (by assumption) (by assumption) (by first | omega | exact (x8 (by omega) (by omega) (by omega) (by omega)).1) (by first | omega | exact (x8 (by omega) (by omega) (by omega) (by omega)).2) ?_); intro _) | ((with_reducible show LCg.CompSrc ..); k_dflt (refine LCg.CompSrc.range (n := 8) (by rfl) (by k_asm) (by k_asm) (by assumption) (by first | decide | rfl) (by first | rfl | decide) (by first | size_fits | exact Nat.le_of_ble_eq_true rfl) ?_; intro g')) | walk1) | (leave1; (try dsimp only)))
    have hints := ints_of hl9 hR9
    exact hret _ _ _ _ (fun b o e => F6.keep b o (hkg b o e)) hints (N6 _ (.head _)).1 (fresh_of hkg (N6 _ (.head _)).2.2)
end
end Mine
end

/-! ## Pr -/
section
open PySem PySem.W PySem.Spec PySem.Calls PyProof.Rows
set_option Elab.async false
set_option maxRecDepth 100000
set_option maxHeartbeats 8000000
namespace Mine
example : True := by
  w_top off
  trivial
example (w : World) : Mine.hd.heap_39 w.params = Mine.hd.heap_39 w.params ∧ PySem.Challenge.rw_op0017_01.prog = PySem.Challenge.rw_op0017_01.prog := by
  k_fill
  exact ⟨rfl, rfl⟩
section
variable {b : Bool} {prog : Program} {w : World} {mean : ExcName → Option Value} {mg mb : PySem.Str → Option Value}
   {dp un : Nat} {fr : Option (List Env)} {gd : Option (List Code)} {h₀ : Heap} {s : Shared} {Q E : Value → Shared → Prop}
   (X : (Mine.hd.heap_39 w.params).In h₀) (T : Top Mine.hd.view_39 (looseW Mine.hd.view_39 [PySem.Str.ofString "_initial_missing", PySem.Str.ofString "reduce"]) mean mg mb h₀)
   (hk : ∀ b o, h₀.get? b = some o → s.heap.get? b = some o)
include X T hk
theorem prod_c (hd : dp < recursionLimit) {l l2 : Addr} {x : Array UInt8} {t : Tok} {row row2 : List Int} (hl : IL s.heap l row) (h8 : row.length = 8) (hl2 : IL s.heap l2 row2) (h82 : row2.length = 8) (hb : ∀ i, (row.getD i 0).natAbs < 4096)
   (hret : RetL s Q (pr row row2)) :
   wpAny (model prog w) (AA dp un fr gd) (call (.ref 109) [.ref l, .ref l2]) Q E s := by
  refine wpAny_call ?_
  k_dflt (refine' enterC (news := []) X T hk (fun _ h => nomatch h) ?k6 ?k7 ?k8 ?k9 ?kB ?kD ?_ ?c2 ?c3 ?c4; (case k6 => k_is); (case k7 => k_is); (case k8 => exact hd); (case k9 => first | exact BindsTo.of_eq rfl | exact binds_K (Frag.In.keeps X hk) rfl (by k_is) rfl rfl rfl); (case kB => exact rfl); (case kD => decide +kernel); (case c2 => exact rfl); (case c3 => exact rfl); (case c4 => exact rfl))
  intro g L' h₁ tk cells hg hg' F N Y X' T' hl'
  k_cells Y
  (try simp only [List.cons_append, List.nil_append] at N)
  have hkg : Keep s.heap g := fun b o e => hg b o e (by simp)
  have hL := hl.keep hkg
  have hL2 := hl2.keep hkg
  (try dsimp only)
  (try k_fold)
  repeat' ((fail_if_success (with_reducible show Q _ _)); (fail_if_success (with_reducible show LCg.CompRest _ _ _ _ _ _ _ _ _ _ _ _ _ _ _ _ _ _ _)); first | (k_unfold; (try dsimp only)) | ((with_reducible show wpAny _ _ (binaryOp .Mult _ _) _ _ _); refine mul_row (by assumption) ?_) | ((with_reducible show wpAny _ _ (subscriptTail _ _ (Value.bytes _ _) (Value.int _ _)) _ _ _); (refine item_brow (by assumption) (by assumption) (by first | omega | exact (x8 (by omega) (by omega) (by omega) (by omega)).1) (by first | omega | exact (x8 (by omega) (by omega) (by omega) (by omega)).2) ?_); intro _ _) | ((with_reducible show wpAny _ _ (subscriptTail _ _ (Value.ref _) (Value.int _ _)) _ _ _); (refine item_row (by k_asm) (by assumption) (by assumption) (by first | omega | exact (x8 (by omega) (by omega) (by omega) (by omega)).1) (by first | omega | exact (x8 (by omega) (by omega) (by omega) (by omega)).2) ?_); intro _) | ((with_reducible show LCg.CompSrc ..); k_dflt (refine LCg.CompSrc.range (n := 8) (by rfl) (by k_asm) (by k_asm) (by assumption) (by first | decide | rfl) (by first | rfl | decide) (by first | size_fits | exact Nat.le_of_ble_eq_true rfl) ?_; intro g')) | walk1 | (dsimp only; first | ((with_reducible show wpAny _ _ (binaryOp .Mult _ _) _ _ _); refine mul_row (by assumption) ?_) | ((with_reducible show wpAny _ _ (subscriptTail _ _ (Value.bytes _ _) (Value.int _ _)) _ _ _); (refine item_brow (by assumption) (by assumption) (by first | omega | exact (x8 (by omega) (by omega) (by omega) (by omega)).1) (by first | omega | exact (x8 (by omega) (by omega) (by omega) (by omega)).2) ?_); intro _ _) | ((with_reducible show wpAny _ _ (subscriptTail _ _ (Value.ref _) (Value.int _ _)) _ _ _); (refine item_row (by k_asm) (by assumption) (by assumption) (by first | omega | exact (x8 (by omega) (by omega) (by omega) (by omega)).1) (by first | omega | exact (x8 (by omega) (by omega) (by omega) (by omega)).2) ?_); intro _) | ((with_reducible show LCg.CompSrc ..); k_dflt (refine LCg.CompSrc.range (n := 8) (by rfl) (by k_asm) (by k_asm) (by assumption) (by first | decide | rfl) (by first | rfl | decide) (by first | size_fits | exact Nat.le_of_ble_eq_true rfl) ?_; intro g')) | walk1) | (leave1; (try dsimp only)))
  refine restU 8 (fun i y => ∃ t, y = Value.int (row.getD i 0 * row2.getD i 0) t) ?turn ?fin _ 0 [] rfl rfl (fun i y h => by simp at h)
  case turn =>
    rintro i v I oI C oC D m₂ h tk E' ys hi ⟨t9, rfl⟩ hC hx F2 N2 off ne
    repeat' ((fail_if_success (with_reducible show Q _ _)); (fail_if_success (with_reducible show LCg.CompEnd _ _ _ _ _ _ _ _ _ _ _ _ _ _)); first | (k_unfold; (try dsimp only)) | ((with_reducible show wpAny _ _ (binaryOp .Mult _ _) _ _ _); refine mul_row (by assumption) ?_) | ((with_reducible show wpAny _ _ (subscriptTail _ _ (Value.bytes _ _) (Value.int _ _)) _ _ _); (refine item_brow (by assumption) (by assumption) (by first | omega | exact (x8 (by omega) (by omega) (by omega) (by omega)).1) (by first | omega | exact (x8 (by omega) (by omega) (by omega) (by omega)).2) ?_); intro _ _) | ((with_reducible show wpAny _ _ (subscriptTail _ _ (Value.ref _) (Value.int _ _)) _ _ _); (refine item_row (by k_asm) (by assumption) (by assumption) (by first | omega | exact (x8 (by omega) (by omega) (by omega) (by omega)).1) (by first | omega | exact (x8 (by omega) (by omega) (by omega) (by omega)).2) ?_); intro _) | ((with_reducible show LCg.CompSrc ..); k_dflt (refine LCg.CompSrc.range (n := 8) (by rfl) (by k_asm) (by k_asm) (by assumption) (by first | decide | rfl) (by first | rfl | decide) (by first | size_fits | exact Nat.le_of_ble_eq_true rfl) ?_; intro g')) | walk1 | (dsimp only; first | ((with_reducible show wpAny _ _ (binaryOp .Mult _ _) _ _ _); refine mul_row (by assumption) ?_) | ((with_reducible show wpAny _ _ (subscriptTail _ _ (Value.bytes _ _) (Value.int _ _)) _ _ _); (refine item_brow (by assumption) (by assumption) (by first | omega | exact (x8 (by omega) (by omega) (by omega) (by omega)).1) (by first | omega | exact (x8 (by omega) (by omega) (by omega) (by omega)).2) ?_); intro _ _) | ((with_reducible show wpAny _ _ (subscriptTail _ _ (Value.ref _) (Value.int _ _)) _ _ _); (refine item_row (by k_asm) (by assumption) (by assumption) (by first | omega | exact (x8 (by omega) (by omega) (by omega) (by omega)).1) (by first | omega | exact (x8 (by omega) (by omega) (by omega) (by omega)).2) ?_); intro _) | ((with_reducible show LCg.CompSrc ..); k_dflt (refine LCg.CompSrc.range (n := 8) (by rfl) (by k_asm) (by k_asm) (by assumption) (by first | decide | rfl) (by first | rfl | decide) (by first | size_fits | exact Nat.le_of_ble_eq_true rfl) ?_; intro g')) | walk1) | (leave1; (try dsimp only)))
    exact LCg.CompEnd.intro F2 N2 _ (fun _ hp => hp) off trivial ⟨rfl, _, congrArg (fun z => Value.int z _) (by simp only [Int.zero_add, Int.toNat_natCast])⟩
  case fin =>
    intro ys hl9 hR9 D h5 tk5 F6 N6 O6
    repeat' ((fail_if_success (with_reducible show Q _ _)); first | (k_unfold; (try dsimp only)) | ((with_reducible show wpAny _ _ (binaryOp .Mult _ _) _ _ _); refine mul_row (by assumption) ?_) | ((with_reducible show wpAny _ _ (subscriptTail _ _ (Value.bytes _ _) (Value.int _ _)) _ _ _); (refine item_brow (by assumption) (by assumption) (by first | omega | exact (x8 (by omega) (by omega) (by omega) (by omega)).1) (by first | omega | exact (x8 (by omega) (by omega) (by omega) (by omega)).2) ?_); intro _ _) | ((with_reducible show wpAny _ _ (subscriptTail _ _ (Value.ref _) (Value.int _ _)) _ _ _); (refine item_row (by k_asm) (by assumption) (by assumption) (by first | omega | exact (x8 (by omega) (by omega) (by omega) (by omega)).1) (by first | omega | exact (x8 (by omega) (by omega) (by omega) (by omega)).2) ?_); intro _) | ((with_reducible show LCg.CompSrc ..); k_dflt (refine LCg.CompSrc.range (n := 8) (by rfl) (by k_asm) (by k_asm) (by assumption) (by first | decide | rfl) (by first | rfl | decide) (by first | size_fits | exact Nat.le_of_ble_eq_true rfl) ?_; intro g')) | walk1 | (dsimp only; first | ((with_reducible show wpAny _ _ (binaryOp .Mult _ _) _ _ _); refine mul_row (by assumption) ?_) | ((with_reducible show wpAny _ _ (subscriptTail _ _ (Value.bytes _ _) (Value.int _ _)) _ _ _); (refine item_brow (by assumption) (by assumption) (by first | omega | exact (x8 (by omega) (by omega) (by omega) (by omega)).1) (by first | omega | exact (x8 (by omega) (by omega) (by omega) (by omega)).2) ?_); intro _ _) | ((with_reducible show wpAny _ _ (subscriptTail _ _ (Value.ref _) (Value.int _ _)) _ _ _); (refine item_row (by k_asm) (by assumption) (by assumption) (by first | omega | exact (x8 (by omega) (by omega) (by omega) (by omega)).1) (by first | omega | exact (x8 (by omega) (by omega) (by omega) (by omega)).2) ?_); intro _) | ((with_reducible show LCg.CompSrc ..); k_dflt (refine LCg.CompSrc.range (n := 8) (by rfl) (by k_asm) (by k_asm) (by assumption) (by first | decide | rfl) (by first | rfl | decide) (by first | size_fits | exact Nat.le_of_ble_eq_true rfl) ?_; intro g')) | walk1) | (leave1; (try dsimp only)))
    have hints := ints_of hl9 hR9
    exact hret _ _ _ _ (fun b o e => F6.keep b o (hkg b o e)) hints (N6 _ (.head _)).1 (fresh_of hkg (N6 _ (.head _)).2.2)
theorem prodb_c (hd : dp < recursionLimit) {l l2 : Addr} {x : Array UInt8} {t : Tok} {row row2 : List Int} (hl : IL s.heap l row) (h8 : row.length = 8) (hx : KBw.bInts x = row2) (h82 : row2.length = 8) (hb : ∀ i, (row.getD i 0).natAbs < 4096)
   (hret : RetL s Q (pr row row2)) :
   wpAny (model prog w) (AA dp un fr gd) (call (.ref 109) [.ref l, .bytes x t]) Q E s := by
  refine wpAny_call ?_
  k_dflt (refine' enterC (news := []) X T hk (fun _ h => nomatch h) ?k6 ?k7 ?k8 ?k9 ?kB ?kD ?_ ?c2 ?c3 ?c4; (case k6 => k_is); (case k7 => k_is); (case k8 => exact hd); (case k9 => first | exact BindsTo.of_eq rfl | exact binds_K (Frag.In.keeps X hk) rfl (by k_is) rfl rfl rfl); (case kB => exact rfl); (case kD => decide +kernel); (case c2 => exact rfl); (case c3 => exact rfl); (case c4 => exact rfl))
  intro g L' h₁ tk cells hg hg' F N Y X' T' hl'
  k_cells Y
  (try simp only [List.cons_append, List.nil_append] at N)
  have hkg : Keep s.heap g := fun b o e => hg b o e (by simp)
  have hL := hl.keep hkg
  (try dsimp only)
  (try k_fold)
  repeat' ((fail_if_success (with_reducible show Q _ _)); (fail_if_success (with_reducible show LCg.CompRest _ _ _ _ _ _ _ _ _ _ _ _ _ _ _ _ _ _ _)); first | (k_unfold; (try dsimp only)) | ((with_reducible show wpAny _ _ (binaryOp .Mult _ _) _ _ _); refine mul_row (by assumption) ?_) | ((with_reducible show wpAny _ _ (subscriptTail _ _ (Value.bytes _ _) (Value.int _ _)) _ _ _); (refine item_brow (by assumption) (by assumption) (by first | omega | exact (x8 (by omega) (by omega) (by omega) (by omega)).1) (by first | omega | exact (x8 (by omega) (by omega) (by omega) (by omega)).2) ?_); intro _ _) | ((with_reducible show wpAny _ _ (subscriptTail _ _ (Value.ref _) (Value.int _ _)) _ _ _); (refine item_row (by k_asm) (by assumption) (by assumption) (by first | omega | exact (x8 (by omega) (by omega) (by omega) (by omega)).1) (by first | omega | exact (x8 (by omega) (by omega) (by omega) (by omega)).2) ?_); intro _) | ((with_reducible show LCg.CompSrc ..); k_dflt (refine LCg.CompSrc.range (n := 8) (by rfl) (by k_asm) (by k_asm) (by assumption) (by first | decide | rfl) (by first | rfl | decide) (by first | size_fits | exact Nat.le_of_ble_eq_true rfl) ?_; intro g')) | walk1 | (dsimp only; first | ((with_reducible show wpAny _ _ (binaryOp .Mult _ _) _ _ _); refine mul_row (by assumption) ?_) | ((with_reducible show wpAny _ _ (subscriptTail _ _ (Value.bytes _ _) (Value.int _ _)) _ _ _); (refine item_brow (by assumption) (by assumption) (by first | omega | exact (x8 (by omega) (by omega) (by omega) (by omega)).1) (by first | omega | exact (x8 (by omega) (by omega) (by omega) (by omega)).2) ?_); intro _ _) | ((with_reducible show wpAny _ _ (subscriptTail _ _ (Value.ref _) (Value.int _ _)) _ _ _); (refine item_row (by k_asm) (by assumption) (by assumption) (by first | omega | exact (x8 (by omega) (by omega) (by omega) (by omega)).1) (by first | omega | exact (x8 (by omega) (by omega) (by omega) (by omega)).2) ?_); intro _) | ((with_reducible show LCg.CompSrc ..); k_dflt (refine LCg.CompSrc.range (n := 8) (by rfl) (by k_asm) (by k_asm) (by assumption) (by first | decide | rfl) (by first | rfl | decide) (by first | size_fits | exact Nat.le_of_ble_eq_true rfl) ?_; intro g')) | walk1) | (leave1; (try dsimp only)))
  refine restU 8 (fun i y => ∃ t, y = Value.int (row.getD i 0 * row2.getD i 0) t) ?turn ?fin _ 0 [] rfl rfl (fun i y h => by simp at h)
  case turn =>
    rintro i v I oI C oC D m₂ h tk E' ys hi ⟨t9, rfl⟩ hC hx F2 N2 off ne
    repeat' ((fail_if_success (with_reducible show Q _ _)); (fail_if_success (with_reducible show LCg.CompEnd _ _ _ _ _ _ _ _ _ _ _ _ _ _)); first | (k_unfold; (try dsimp only)) | ((with_reducible show wpAny _ _ (binaryOp .Mult _ _) _ _ _); refine mul_row (by assumption) ?_) | ((with_reducible show wpAny _ _ (subscriptTail _ _ (Value.bytes _ _) (Value.int _ _)) _ _ _); (refine item_brow (by assumption) (by assumption) (by first | omega | exact (x8 (by omega) (by omega) (by omega) (by omega)).1) (by first | omega | exact (x8 (by omega) (by omega) (by omega) (by omega)).2) ?_); intro _ _) | ((with_reducible show wpAny _ _ (subscriptTail _ _ (Value.ref _) (Value.int _ _)) _ _ _); (refine item_row (by k_asm) (by assumption) (by assumption) (by first | omega | exact (x8 (by omega) (by omega) (by omega) (by omega)).1) (by first | omega | exact (x8 (by omega) (by omega) (by omega) (by omega)).2) ?_); intro _) | ((with_reducible show LCg.CompSrc ..); k_dflt (refine LCg.CompSrc.range (n := 8) (by rfl) (by k_asm) (by k_asm) (by assumption) (by first | decide | rfl) (by first | rfl | decide) (by first | size_fits | exact Nat.le_of_ble_eq_true rfl) ?_; intro g')) | walk1 | (dsimp only; first | ((with_reducible show wpAny _ _ (binaryOp .Mult _ _) _ _ _); refine mul_row (by assumption) ?_) | ((with_reducible show wpAny _ _ (subscriptTail _ _ (Value.bytes _ _) (Value.int _ _)) _ _ _); (refine item_brow (by assumption) (by assumption) (by first | omega | exact (x8 (by omega) (by omega) (by omega) (by omega)).1) (by first | omega | exact (x8 (by omega) (by omega) (by omega) (by omega)).2) ?_); intro _ _) | ((with_reducible show wpAny _ _ (subscriptTail _ _ (Value.ref _) (Value.int _ _)) _ _ _); (refine item_row (by k_asm) (by assumption) (by assumption) (by first | omega | exact (x8 (by omega) (by omega) (by omega) (by omega)).1) (by first | omega | exact (x8 (by omega) (by omega) (by omega) (by omega)).2) ?_); intro _) | ((with_reducible show LCg.CompSrc ..); k_dflt (refine LCg.CompSrc.range (n := 8) (by rfl) (by k_asm) (by k_asm) (by assumption) (by first | decide | rfl) (by first | rfl | decide) (by first | size_fits | exact Nat.le_of_ble_eq_true rfl) ?_; intro g')) | walk1) | (leave1; (try dsimp only)))
    exact LCg.CompEnd.intro F2 N2 _ (fun _ hp => hp) off trivial ⟨rfl, _, congrArg (fun z => Value.int z _) (by simp only [Int.zero_add, Int.toNat_natCast])⟩
  case fin =>
    intro ys hl9 hR9 D h5 tk5 F6 N6 O6
    repeat' ((fail_if_success (with_reducible show Q _ _)); first | (k_unfold; (try dsimp only)) | ((with_reducible show wpAny _ _ (binaryOp .Mult _ _) _ _ _); refine mul_row (by assumption) ?_) | ((with_reducible show wpAny _ _ (subscriptTail _ _ (Value.bytes _ _) (Value.int _ _)) _ _ _); (refine item_brow (by assumption) (by assumption) (by first | omega | exact (x8 (by omega) (by omega) (by omega) (by omega)).1) (by first | omega | exact (x8 (by omega) (by omega) (by omega) (by omega)).2) ?_); intro _ _) | ((with_reducible show wpAny _ _ (subscriptTail _ _ (Value.ref _) (Value.int _ _)) _ _ _); (refine item_row (by k_asm) (by assumption) (by assumption) (by first | omega | exact (x8 (by omega) (by omega) (by omega) (by omega)).1) (by first | omega | exact (x8 (by omega) (by omega) (by omega) (by omega)).2) ?_); intro _) | ((with_reducible show LCg.CompSrc ..); k_dflt (refine LCg.CompSrc.range (n := 8) (by rfl) (by k_asm) (by k_asm) (by assumption) (by first | decide | rfl) (by first | rfl | decide) (by first | size_fits | exact Nat.le_of_ble_eq_true rfl) ?_; intro g')) | walk1 | (dsimp only; first | ((with_reducible show wpAny _ _ (binaryOp .Mult _ _) _ _ _); refine mul_row (by assumption) ?_) | ((with_reducible show wpAny _ _ (subscriptTail _ _ (Value.bytes _ _) (Value.int _ _)) _ _ _); (refine item_brow (by assumption) (by assumption) (by first | omega | exact (x8 (by omega) (by omega) (by omega) (by omega)).1) (by first | omega | exact (x8 (by omega) (by omega) (by omega) (by omega)).2) ?_); intro _ _) | ((with_reducible show wpAny _ _ (subscriptTail _ _ (Value.ref _) (Value.int _ _)) _ _ _); (refine item_row (by k_asm) (by assumption) (by assumption) (by first | omega | exact (x8 (by omega) (by omega) (by omega) (by omega)).1) (by first | omega | exact (x8 (by omega) (by omega) (by omega) (by omega)).2) ?_); intro _) | ((with_reducible show LCg.CompSrc ..); k_dflt (refine LCg.CompSrc.range (n := 8) (by rfl) (by k_asm) (by k_asm) (by assumption) (by first | decide | rfl) (by first | rfl | decide) (by first | size_fits | exact Nat.le_of_ble_eq_true rfl) ?_; intro g')) | walk1) | (leave1; (try dsimp only)))
    have hints := ints_of hl9 hR9
    exact hret _ _ _ _ (fun b o e => F6.keep b o (hkg b o e)) hints (N6 _ (.head _)).1 (fresh_of hkg (N6 _ (.head _)).2.2)
end
end Mine
end

/-! ## Sp -/
section
open PySem PySem.W PySem.Spec PySem.Calls PyProof.Rows
set_option Elab.async false
set_option maxRecDepth 100000
set_option maxHeartbeats 8000000
namespace Mine
example : True := by
  w_top off
  trivial
example (w : World) : Mine.hd.heap_39 w.params = Mine.hd.heap_39 w.params ∧ PySem.Challenge.rw_op0017_01.prog = PySem.Challenge.rw_op0017_01.prog := by
  k_fill
  exact ⟨rfl, rfl⟩
theorem gap_in {g i : Nat} (hg : g = 1 ∨ g = 2 ∨ g = 4) (hi : i < 8) : (Builtin.bitAnd (i : Int) (g : Int) ≠ 0 → (i &&& g ≠ 0) ∧ g ≤ i) ∧ (¬ Builtin.bitAnd (i : Int) (g : Int) ≠ 0 → ¬ (i &&& g ≠ 0) ∧ i + g < 8) := by
  have h : ∀ i : Nat, i < 8 → ∀ g ∈ ([1, 2, 4] : List Nat), (Builtin.bitAnd (i : Int) (g : Int) ≠ 0 → (i &&& g ≠ 0) ∧ g ≤ i) ∧ (¬ Builtin.bitAnd (i : Int) (g : Int) ≠ 0 → ¬ (i &&& g ≠ 0) ∧ i + g < 8) := by decide +kernel
  exact h i hi g (by simp only [List.mem_cons, List.not_mem_nil, or_false]; exact hg)
section
variable {b : Bool} {prog : Program} {w : World} {mean : ExcName → Option Value} {mg mb : PySem.Str → Option Value}
   {dp un : Nat} {fr : Option (List Env)} {gd : Option (List Code)} {h₀ : Heap} {s : Shared} {Q E : Value → Shared → Prop}
   (X : (Mine.hd.heap_39 w.params).In h₀) (T : Top Mine.hd.view_39 (looseW Mine.hd.view_39 [PySem.Str.ofString "_initial_missing", PySem.Str.ofString "reduce"]) mean mg mb h₀)
   (hk : ∀ b o, h₀.get? b = some o → s.heap.get? b = some o)
include X T hk
theorem spread_c (hd : dp < recursionLimit) {l : Addr} {t : Tok} {row : List Int} {gap : Nat} (hgap : gap = 1 ∨ gap = 2 ∨ gap = 4) (hl : IL s.heap l row) (h8 : row.length = 8)
   (hret : RetL s Q (sp gap row)) :
   wpAny (model prog w) (AA dp un fr gd) (call (.ref 97) [.ref l, .int (gap : Int) t]) Q E s := by
  refine wpAny_call ?_
  k_dflt (refine' enterC (news := []) X T hk (fun _ h => nomatch h) ?k6 ?k7 ?k8 ?k9 ?kB ?kD ?_ ?c2 ?c3 ?c4; (case k6 => k_is); (case k7 => k_is); (case k8 => exact hd); (case k9 => first | exact BindsTo.of_eq rfl | exact binds_K (Frag.In.keeps X hk) rfl (by k_is) rfl rfl rfl); (case kB => exact rfl); (case kD => decide +kernel); (case c2 => exact rfl); (case c3 => exact rfl); (case c4 => exact rfl))
  intro g L' h₁ tk cells hg hg' F N Y X' T' hl'
  k_cells Y
  (try simp only [List.cons_append, List.nil_append] at N)
  have hkg : Keep s.heap g := fun b o e => hg b o e (by simp)
  have hL := hl.keep hkg
  (try dsimp only)
  (try k_fold)
  repeat' ((fail_if_success (with_reducible show Q _ _)); (fail_if_success (with_reducible show LCg.CompRest _ _ _ _ _ _ _ _ _ _ _ _ _ _ _ _ _ _ _)); first | (k_unfold; (try dsimp only)) | ((with_reducible show wpAny _ _ (subscriptTail _ _ (Value.bytes _ _) (Value.int _ _)) _ _ _); (refine item_brow (by assumption) (by assumption) (by first | omega | exact (x8 (by omega) (by omega) (by omega) (by omega)).1) (by first | omega | exact (x8 (by omega) (by omega) (by omega) (by omega)).2) ?_); intro _ _) | ((with_reducible show wpAny _ _ (subscriptTail _ _ (Value.ref _) (Value.int _ _)) _ _ _); (refine item_row (by k_asm) (by assumption) (by assumption) (by first | omega | exact (x8 (by omega) (by omega) (by omega) (by omega)).1) (by first | omega | exact (x8 (by omega) (by omega) (by omega) (by omega)).2) ?_); intro _) | ((with_reducible show LCg.CompSrc ..); k_dflt (refine LCg.CompSrc.range (n := 8) (by rfl) (by k_asm) (by k_asm) (by assumption) (by first | decide | rfl) (by first | rfl | decide) (by first | size_fits | exact Nat.le_of_ble_eq_true rfl) ?_; intro g')) | walk1 | (dsimp only; first | ((with_reducible show wpAny _ _ (subscriptTail _ _ (Value.bytes _ _) (Value.int _ _)) _ _ _); (refine item_brow (by assumption) (by assumption) (by first | omega | exact (x8 (by omega) (by omega) (by omega) (by omega)).1) (by first | omega | exact (x8 (by omega) (by omega) (by omega) (by omega)).2) ?_); intro _ _) | ((with_reducible show wpAny _ _ (subscriptTail _ _ (Value.ref _) (Value.int _ _)) _ _ _); (refine item_row (by k_asm) (by assumption) (by assumption) (by first | omega | exact (x8 (by omega) (by omega) (by omega) (by omega)).1) (by first | omega | exact (x8 (by omega) (by omega) (by omega) (by omega)).2) ?_); intro _) | ((with_reducible show LCg.CompSrc ..); k_dflt (refine LCg.CompSrc.range (n := 8) (by rfl) (by k_asm) (by k_asm) (by assumption) (by first | decide | rfl) (by first | rfl | decide) (by first | size_fits | exact Nat.le_of_ble_eq_true rfl) ?_; intro g')) | walk1) | (leave1; (try dsimp only)))
  refine restU 8 (fun i y => ∃ t, y = Value.int (if i &&& gap ≠ 0 then row.getD (i - gap) 0 - row.getD i 0 else row.getD i 0 + row.getD (i + gap) 0) t) ?turn ?fin _ 0 [] rfl rfl (fun i y h => by simp at h)
  case turn =>
    rintro i v I oI C oC D m₂ h tk E' ys hi ⟨t9, rfl⟩ hC hx F2 N2 off ne
    have hq := gap_in hgap hi
    have hq1 : Builtin.bitAnd (0 + (i : Int)) (gap : Int) ≠ 0 → (gap : Int) ≤ i := fun h => by rw [Int.zero_add] at h; have := (hq.1 h).2; omega
    have hq2 : Builtin.bitAnd (0 + (i : Int)) (gap : Int) = 0 → (i : Int) + gap < 8 := fun h => by rw [Int.zero_add] at h; have := (hq.2 (not_not_intro h)).2; omega
    repeat' ((fail_if_success (with_reducible show Q _ _)); (fail_if_success (with_reducible show LCg.CompEnd _ _ _ _ _ _ _ _ _ _ _ _ _ _)); first | (k_unfold; (try dsimp only)) | ((with_reducible show wpAny _ _ (subscriptTail _ _ (Value.bytes _ _) (Value.int _ _)) _ _ _); (refine item_brow (by assumption) (by assumption) (by first | omega | exact (x8 (by omega) (by omega) (by omega) (by omega)).1) (by first | omega | exact (x8 (by omega) (by omega) (by omega) (by omega)).2) ?_); intro _ _) | ((with_reducible show wpAny _ _ (subscriptTail _ _ (Value.ref _) (Value.int _ _)) _ _ _); (refine item_row (by k_asm) (by assumption) (by assumption) (by first | omega | exact (x8 (by omega) (by omega) (by omega) (by omega)).1) (by first | omega | exact (x8 (by omega) (by omega) (by omega) (by omega)).2) ?_); intro _) | ((with_reducible show LCg.CompSrc ..); k_dflt (refine LCg.CompSrc.range (n := 8) (by rfl) (by k_asm) (by k_asm) (by assumption) (by first | decide | rfl) (by first | rfl | decide) (by first | size_fits | exact Nat.le_of_ble_eq_true rfl) ?_; intro g')) | walk1 | (dsimp only; first | ((with_reducible show wpAny _ _ (subscriptTail _ _ (Value.bytes _ _) (Value.int _ _)) _ _ _); (refine item_brow (by assumption) (by assumption) (by first | omega | exact (x8 (by omega) (by omega) (by omega) (by omega)).1) (by first | omega | exact (x8 (by omega) (by omega) (by omega) (by omega)).2) ?_); intro _ _) | ((with_reducible show wpAny _ _ (subscriptTail _ _ (Value.ref _) (Value.int _ _)) _ _ _); (refine item_row (by k_asm) (by assumption) (by assumption) (by first | omega | exact (x8 (by omega) (by omega) (by omega) (by omega)).1) (by first | omega | exact (x8 (by omega) (by omega) (by omega) (by omega)).2) ?_); intro _) | ((with_reducible show LCg.CompSrc ..); k_dflt (refine LCg.CompSrc.range (n := 8) (by rfl) (by k_asm) (by k_asm) (by assumption) (by first | decide | rfl) (by first | rfl | decide) (by first | size_fits | exact Nat.le_of_ble_eq_true rfl) ?_; intro g')) | walk1) | (leave1; (try dsimp only)))
    · have hc := ‹Builtin.bitAnd (0 + (i : Int)) (gap : Int) ≠ 0›
      rw [Int.zero_add] at hc
      exact LCg.CompEnd.intro F2 N2 _ (fun _ hp => hp) off trivial ⟨rfl, _, congrArg (fun z => Value.int z _) (by rw [if_pos (hq.1 hc).1, show ((0 : Int) + (i : Int) - (gap : Int)).toNat = i - gap by omega, show ((0 : Int) + (i : Int)).toNat = i by omega])⟩
    · have hc := not_not_intro ‹Builtin.bitAnd (0 + (i : Int)) (gap : Int) = 0›
      rw [Int.zero_add] at hc
      exact LCg.CompEnd.intro F2 N2 _ (fun _ hp => hp) off trivial ⟨rfl, _, congrArg (fun z => Value.int z _) (by rw [if_neg (hq.2 hc).1, show ((0 : Int) + (i : Int) + (gap : Int)).toNat = i + gap by omega, show ((0 : Int) + (i : Int)).toNat = i by omega])⟩
  case fin =>
    intro ys hl9 hR9 D h5 tk5 F6 N6 O6
    repeat' ((fail_if_success (with_reducible show Q _ _)); first | (k_unfold; (try dsimp only)) | ((with_reducible show wpAny _ _ (subscriptTail _ _ (Value.bytes _ _) (Value.int _ _)) _ _ _); (refine item_brow (by assumption) (by assumption) (by first | omega | exact (x8 (by omega) (by omega) (by omega) (by omega)).1) (by first | omega | exact (x8 (by omega) (by omega) (by omega) (by omega)).2) ?_); intro _ _) | ((with_reducible show wpAny _ _ (subscriptTail _ _ (Value.ref _) (Value.int _ _)) _ _ _); (refine item_row (by k_asm) (by assumption) (by assumption) (by first | omega | exact (x8 (by omega) (by omega) (by omega) (by omega)).1) (by first | omega | exact (x8 (by omega) (by omega) (by omega) (by omega)).2) ?_); intro _) | ((with_reducible show LCg.CompSrc ..); k_dflt (refine LCg.CompSrc.range (n := 8) (by rfl) (by k_asm) (by k_asm) (by assumption) (by first | decide | rfl) (by first | rfl | decide) (by first | size_fits | exact Nat.le_of_ble_eq_true rfl) ?_; intro g')) | walk1 | (dsimp only; first | ((with_reducible show wpAny _ _ (subscriptTail _ _ (Value.bytes _ _) (Value.int _ _)) _ _ _); (refine item_brow (by assumption) (by assumption) (by first | omega | exact (x8 (by omega) (by omega) (by omega) (by omega)).1) (by first | omega | exact (x8 (by omega) (by omega) (by omega) (by omega)).2) ?_); intro _ _) | ((with_reducible show wpAny _ _ (subscriptTail _ _ (Value.ref _) (Value.int _ _)) _ _ _); (refine item_row (by k_asm) (by assumption) (by assumption) (by first | omega | exact (x8 (by omega) (by omega) (by omega) (by omega)).1) (by first | omega | exact (x8 (by omega) (by omega) (by omega) (by omega)).2) ?_); intro _) | ((with_reducible show LCg.CompSrc ..); k_dflt (refine LCg.CompSrc.range (n := 8) (by rfl) (by k_asm) (by k_asm) (by assumption) (by first | decide | rfl) (by first | rfl | decide) (by first | size_fits | exact Nat.le_of_ble_eq_true rfl) ?_; intro g')) | walk1) | (leave1; (try dsimp only)))
    have hints := ints_of hl9 hR9
    exact hret _ _ _ _ (fun b o e => F6.keep b o (hkg b o e)) hints (N6 _ (.head _)).1 (fresh_of hkg (N6 _ (.head _)).2.2)
theorem spread1_c (hd : dp < recursionLimit) {l : Addr} {t : Tok} {row : List Int} (hl : IL s.heap l row) (h8 : row.length = 8)
   (hret : RetL s Q (sp 1 row)) :
   wpAny (model prog w) (AA dp un fr gd) (call (.ref 97) [.ref l, .int 1 t]) Q E s :=
  spread_c X T hk hd (gap := 1) (by decide) hl h8 hret
theorem spread2_c (hd : dp < recursionLimit) {l : Addr} {t : Tok} {row : List Int} (hl : IL s.heap l row) (h8 : row.length = 8)
   (hret : RetL s Q (sp 2 row)) :
   wpAny (model prog w) (AA dp un fr gd) (call (.ref 97) [.ref l, .int 2 t]) Q E s :=
  spread_c X T hk hd (gap := 2) (by decide) hl h8 hret
theorem spread4_c (hd : dp < recursionLimit) {l : Addr} {t : Tok} {row : List Int} (hl : IL s.heap l row) (h8 : row.length = 8)
   (hret : RetL s Q (sp 4 row)) :
   wpAny (model prog w) (AA dp un fr gd) (call (.ref 97) [.ref l, .int 4 t]) Q E s :=
  spread_c X T hk hd (gap := 4) (by decide) hl h8 hret
end
end Mine
end

/-! ## Spec -/
section
open PySem PySem.W PySem.Spec PySem.Calls PyProof.Rows
set_option Elab.async false
set_option maxRecDepth 100000
set_option maxHeartbeats 8000000
namespace Mine
example : True := by
  w_top off
  trivial
example (w : World) : Mine.hd.heap_39 w.params = Mine.hd.heap_39 w.params ∧ PySem.Challenge.rw_op0017_01.prog = PySem.Challenge.rw_op0017_01.prog := by
  k_fill
  exact ⟨rfl, rfl⟩
section
variable {b : Bool} {prog : Program} {w : World} {mean : ExcName → Option Value} {mg mb : PySem.Str → Option Value}
   {dp un : Nat} {fr : Option (List Env)} {gd : Option (List Code)} {h₀ : Heap} {s : Shared} {Q E : Value → Shared → Prop}
   (X : (Mine.hd.heap_39 w.params).In h₀) (T : Top Mine.hd.view_39 (looseW Mine.hd.view_39 [PySem.Str.ofString "_initial_missing", PySem.Str.ofString "reduce"]) mean mg mb h₀)
   (hk : ∀ b o, h₀.get? b = some o → s.heap.get? b = some o)
include X T hk
theorem redspec_c (hd : dp + 1 < recursionLimit) {l l1 : Addr} {t1 t2 t3 : Tok} {n : Nat} {row : List Int} (hl1 : s.heap.get? l1 = some (listOf #[.int 1 t1, .int 2 t2, .int 4 t3] n)) (hl : IL s.heap l row) (h8 : row.length = 8)
   (hret : RetL s Q (sp 4 (sp 2 (sp 1 row)))) :
   wpAny (model prog w) (AA dp un fr gd) (call (.ref 23) [.ref 97, .ref l1, .ref l]) Q E s := by
  obtain ⟨o15, e15, c15⟩ : ∃ o, h₀.get? 15 = some o ∧ o.cls = .type "object" := ⟨_, X 15 _ (by k_is), rfl⟩
  obtain ⟨vl, nl, el, il⟩ := id hl
  refine any_of (red3_c (b := false) X T hk (Nat.lt_of_succ_lt hd) (n := n) (items := #[.int 1 t1, .int 2 t2, .int 4 t3]) hl1 (by k_is)
    (fun i v h => ∃ r, v = .ref r ∧ match i with
      | 0 => r = l ∧ h.get? r = some (listOf vl.toArray nl)
      | 1 => ∃ vs, h.get? r = some (LCg.lst vs) ∧ s.heap.get? r = none ∧ IntsAre vs (sp 1 row)
      | 2 => ∃ vs, h.get? r = some (LCg.lst vs) ∧ s.heap.get? r = none ∧ IntsAre vs (sp 2 (sp 1 row))
      | _ => ∃ vs, h.get? r = some (LCg.lst vs) ∧ s.heap.get? r = none ∧ IntsAre vs (sp 4 (sp 2 (sp 1 row)))) ?_ ⟨l, rfl, rfl, el⟩ (fun r e => by cases e; exact ⟨_, el⟩) ?_ ?_ ?_)
  · rintro i v h h' ⟨r, rfl, hr⟩ kk
    refine ⟨r, rfl, ?_⟩
    match i with
    | 0 => exact ⟨hr.1, kk r _ rfl hr.2⟩
    | 1 => obtain ⟨vs, a, b, c⟩ := hr; exact ⟨vs, kk r _ rfl a, b, c⟩
    | 2 => obtain ⟨vs, a, b, c⟩ := hr; exact ⟨vs, kk r _ rfl a, b, c⟩
    | _ + 3 => obtain ⟨vs, a, b, c⟩ := hr; exact ⟨vs, kk r _ rfl a, b, c⟩
  · intro A s' Q' E' k' hq
    refine is_list_ref (k' _ _ el) rfl (k' _ _ (hk _ _ e15)) (fun q => ?_) hq
    subst q
    have := hk _ _ e15
    rw [el] at this
    cases this
    exact absurd (show Value.type "list" = Value.type "object" from c15) (by decide)
  · rintro i x v s' fr' hx ⟨r, rfl, hr⟩ k' Q' hQ'
    match i with
    | 0 =>
      cases hx
      obtain ⟨rfl, a⟩ := hr
      refine wpN_of (spread1_c X T (fun b o e => k' b o (hk b o e)) hd ⟨vl, nl, a, il⟩ h8 fun y ys h' tk' kk hi hy hf => hQ' _ _ _ kk ⟨y, rfl, ys, hy, fresh_of k' hf, hi⟩ fun r e => by cases e; exact hf)
    | 1 =>
      cases hx
      obtain ⟨vs, a, b, c⟩ := hr
      refine wpN_of (spread2_c X T (fun b o e => k' b o (hk b o e)) hd ⟨vs, _, a, c⟩ (sp_len _ _) fun y ys h' tk' kk hi hy hf => hQ' _ _ _ kk ⟨y, rfl, ys, hy, fresh_of k' hf, hi⟩ fun r e => by cases e; exact hf)
    | 2 =>
      cases hx
      obtain ⟨vs, a, b, c⟩ := hr
      refine wpN_of (spread4_c X T (fun b o e => k' b o (hk b o e)) hd ⟨vs, _, a, c⟩ (sp_len _ _) fun y ys h' tk' kk hi hy hf => hQ' _ _ _ kk ⟨y, rfl, ys, hy, fresh_of k' hf, hi⟩ fun r e => by cases e; exact hf)
    | j + 3 => simp at hx
  · rintro v h' tk' kk ⟨r, rfl, vs, a, b, c⟩
    exact hret _ _ _ _ kk c a b
end

section
variable {b : Bool} {prog : Program} {w : World} {mean : ExcName → Option Value} {mg mb : PySem.Str → Option Value}
   {dp un : Nat} {fr : Option (List Env)} {gd : Option (List Code)} {h₀ : Heap} {s : Shared} {Q E : Value → Shared → Prop}
   (X : (Mine.hd.heap_39 w.params).In h₀) (T : Top Mine.hd.view_39 (looseW Mine.hd.view_39 [PySem.Str.ofString "_initial_missing", PySem.Str.ofString "reduce"]) mean mg mb h₀)
   (hk : ∀ b o, h₀.get? b = some o → s.heap.get? b = some o)
include X T hk
theorem spectrum_c (hd : dp + 2 < recursionLimit) {l : Addr} {row : List Int} (hl : IL s.heap l row) (h8 : row.length = 8)
   (hret : RetL s Q (sp 4 (sp 2 (sp 1 row)))) :
   wpAny (model prog w) (AA dp un fr gd) (call (.ref 104) [.ref l]) Q E s := by
  have hd2 : dp + 1 + 1 < recursionLimit := hd
  refine wpAny_call ?_
  k_dflt (refine' enter (news := []) X T hk (fun _ h => nomatch h) ?k6 ?k7 ?k8 ?k9 ?kB ?_ ?c2 ?c3 ?c4 ?c5; (case k6 => k_is); (case k7 => k_is); (case k8 => exact Nat.lt_of_succ_lt (Nat.lt_of_succ_lt hd)); (case k9 => first | exact BindsTo.of_eq rfl | exact binds_K (Frag.In.keeps X hk) rfl (by k_is) rfl rfl rfl); (case kB => exact locs rfl); (case c5 => decide); (case c2 => exact rfl); (case c3 => exact rfl); (case c4 => exact rfl))
  intro g L' h₁ hg hg' F N X' T' hl'
  have hkg : Keep s.heap g := fun b o e => hg b o e (by simp)
  have hL := hl.keep hkg
  (try dsimp only)
  (try k_fold)
  repeat' (first | (k_unfold; (try dsimp only)) | (k_end; wrow_close) | ((with_reducible show wpAny _ _ (call (Value.ref 23) _) _ _ _); k_dflt (refine redspec_c (by k_asm) (by k_asm) (Fr.keep (by k_asm)) (by assumption) (News.get (by k_asm) (by k_mem)) (IL.keep (by assumption) (Fr.keep (by k_asm))) (by assumption) (retK (by k_asm) (by k_asm) ?_)); intro y' ys' h' tk' F' N' o1' hi'; (try simp only [LCg.Off1, and_true] at o1'); (try dsimp only)) | walk1 | (dsimp only; first | ((with_reducible show wpAny _ _ (call (Value.ref 23) _) _ _ _); k_dflt (refine redspec_c (by k_asm) (by k_asm) (Fr.keep (by k_asm)) (by assumption) (News.get (by k_asm) (by k_mem)) (IL.keep (by assumption) (Fr.keep (by k_asm))) (by assumption) (retK (by k_asm) (by k_asm) ?_)); intro y' ys' h' tk' F' N' o1' hi'; (try simp only [LCg.Off1, and_true] at o1'); (try dsimp only)) | walk1) | (leave1; (try dsimp only)))
  exact hret _ _ _ _ (fun b o e => F'.keep b o (hkg b o e)) hi' (N' _ (.head _)).1 (fresh_of hkg (N' _ (.head _)).2.2)
end
end Mine
end

/-! ## Mask -/
section
open PySem PySem.W PySem.Spec PySem.Calls PyProof.Rows
set_option Elab.async false
set_option maxRecDepth 100000
set_option maxHeartbeats 8000000
namespace Mine
example : True := by
  w_top off
  trivial
example (w : World) : Mine.hd.heap_39 w.params = Mine.hd.heap_39 w.params ∧ PySem.Challenge.rw_op0017_01.prog = PySem.Challenge.rw_op0017_01.prog := by
  k_fill
  exact ⟨rfl, rfl⟩
theorem foldl_fst (f : Int → Int → Int) : ∀ (ws : List Int) (a : Int), (ws.foldl (fun (σ : Int × Unit) n => (f σ.1 n, ())) (a, ())).1 = ws.foldl f a
  | [], _ => rfl
  | x :: r, a => foldl_fst f r (f a x)
section
variable {b : Bool} {prog : Program} {w : World} {mean : ExcName → Option Value} {mg mb : PySem.Str → Option Value}
   {dp un : Nat} {fr : Option (List Env)} {gd : Option (List Code)} {h₀ : Heap} {s : Shared} {Q E : Value → Shared → Prop}
   (X : (Mine.hd.heap_39 w.params).In h₀) (T : Top Mine.hd.view_39 (looseW Mine.hd.view_39 [PySem.Str.ofString "_initial_missing", PySem.Str.ofString "reduce"]) mean mg mb h₀)
   (hk : ∀ b o, h₀.get? b = some o → s.heap.get? b = some o)
include X T hk
theorem mask_c (hd : dp < recursionLimit) {l : Addr} {ws : List Int} (hl : IL s.heap l ws) (h6 : ws.length = 6)
   (hret : ∀ t h' tk', Keep s.heap h' → Q (.int (ws.foldl (fun a x => Builtin.bitXor a (x - 1)) 0) t) { s with heap := h', toks := tk' }) :
   wpAny (model prog w) (AA dp un fr gd) (call (.ref 82) [.ref l]) Q E s := by
  refine wpAny_call ?_
  k_dflt (refine' enter (news := []) X T hk (fun _ h => nomatch h) ?k6 ?k7 ?k8 ?k9 ?kB ?_ ?c2 ?c3 ?c4 ?c5; (case k6 => k_is); (case k7 => k_is); (case k8 => exact hd); (case k9 => first | exact BindsTo.of_eq rfl | exact binds_K (Frag.In.keeps X hk) rfl (by k_is) rfl rfl rfl); (case kB => exact locs rfl); (case c5 => decide); (case c2 => exact rfl); (case c3 => exact rfl); (case c4 => exact rfl))
  intro g L' h₁ hg hg' F N X' T' hl'
  have hkg : Keep s.heap g := fun b o e => hg b o e (by simp)
  obtain ⟨vs, n, e, hi⟩ := hl.keep hkg
  have hL : g.IsList l vs.toArray := ⟨_, e, rfl, _, rfl⟩
  have hlen : vs.length = 6 := by rw [hi.length]; exact h6
  (try dsimp only)
  (try k_fold)
  k_steps
  rename_i FN NN
  dsimp only
  refine Eq.mpr (congrArg (fun z => Q (Value.int z _) _) (foldl_fst (fun a x => Builtin.bitXor a (x - 1)) ws 0)) ?_
  exact hret _ _ _ fun b o e => FN.keep b o (hkg b o e)
end
end Mine
end

/-! ## WayC -/
section
open PySem PySem.W PySem.Spec PySem.Calls PyProof.Rows
set_option Elab.async false
set_option maxRecDepth 100000
set_option maxHeartbeats 8000000
namespace Mine
example : True := by
  w_top off
  trivial
example (w : World) : Mine.hd.heap_39 w.params = Mine.hd.heap_39 w.params ∧ PySem.Challenge.rw_op0017_01.prog = PySem.Challenge.rw_op0017_01.prog := by
  k_fill
  exact ⟨rfl, rfl⟩
theorem pw_ne (n : Nat) : (2 : Int) ^ n ≠ 0 := Int.ne_of_gt (Int.pow_pos (by decide))
theorem pw_lt {n : Nat} (h : n ≤ 3) : ((2 : Int) ^ n).natAbs < 1073741824 := by
  have : ∀ n : Nat, n < 4 → ((2 : Int) ^ n).natAbs < 1073741824 := by decide +kernel
  exact this n (by omega)
def wayB (k : Int) (i : Nat) : Bool := (k.fdiv (2 ^ (0 + (i : Int)).toNat) + k.fdiv (2 ^ (0 + (i : Int) + 1).toNat)).fmod 2 == 1
section
variable {b : Bool} {prog : Program} {w : World} {mean : ExcName → Option Value} {mg mb : PySem.Str → Option Value}
   {dp un : Nat} {fr : Option (List Env)} {gd : Option (List Code)} {h₀ : Heap} {s : Shared} {Q E : Value → Shared → Prop}
   (X : (Mine.hd.heap_39 w.params).In h₀) (T : Top Mine.hd.view_39 (looseW Mine.hd.view_39 [PySem.Str.ofString "_initial_missing", PySem.Str.ofString "reduce"]) mean mg mb h₀)
   (hk : ∀ b o, h₀.get? b = some o → s.heap.get? b = some o)
include X T hk
theorem way_c (hd : dp < recursionLimit) {k : Int} {t : Tok} (h0 : 0 ≤ k) (h1 : k < 8)
   (hret : ∀ ws : List Int, (∀ y ∈ ws, isW y) → lay ws = k → RetL s Q ws) :
   wpAny (model prog w) (AA dp un fr gd) (call (.ref 87) [.int k t]) Q E s := by
  refine wpAny_call ?_
  k_dflt (refine' enterC (news := []) X T hk (fun _ h => nomatch h) ?k6 ?k7 ?k8 ?k9 ?kB ?kD ?_ ?c2 ?c3 ?c4; (case k6 => k_is); (case k7 => k_is); (case k8 => exact hd); (case k9 => first | exact BindsTo.of_eq rfl | exact binds_K (Frag.In.keeps X hk) rfl (by k_is) rfl rfl rfl); (case kB => exact rfl); (case kD => decide +kernel); (case c2 => exact rfl); (case c3 => exact rfl); (case c4 => exact rfl))
  intro g L' h₁ tk cells hg hg' F N Y X' T' hl'
  k_cells Y
  (try simp only [List.cons_append, List.nil_append] at N)
  have hkg : Keep s.heap g := fun b o e => hg b o e (by simp)
  (try dsimp only)
  (try k_fold)
  repeat' ((fail_if_success (with_reducible show Q _ _)); (fail_if_success (with_reducible show LCt.CompRestT ..)); first | (k_unfold; (try dsimp only)) | ((with_reducible show LCt.CompSrcT ..); k_dflt (refine LCt.CompSrcT.range (n := 3) (by rfl) (by k_asm) (by k_asm) (by assumption) (by first | decide | rfl) (by first | rfl | decide) (by first | size_fits | exact Nat.le_of_ble_eq_true rfl) ?_; intro g')) | walk1 | (dsimp only; first | ((with_reducible show LCt.CompSrcT ..); k_dflt (refine LCt.CompSrcT.range (n := 3) (by rfl) (by k_asm) (by k_asm) (by assumption) (by first | decide | rfl) (by first | rfl | decide) (by first | size_fits | exact Nat.le_of_ble_eq_true rfl) ?_; intro g')) | walk1) | (leave1; (try dsimp only)))
  refine restT 3 (wayB k) (fun i => 2 ^ (0 + (i : Int) + 1).toNat) ?turn ?fin _ 0 [] rfl .nil
  case turn =>
    rintro i v I oI C oC D m₂ h tk E' ys hi ⟨t9, rfl⟩ hC hx F2 N2 off ne
    repeat' ((fail_if_success (with_reducible show _ = _ ∧ _ ∧ _)); (fail_if_success (with_reducible show LCg.CompEnd ..)); first | (k_unfold; (try dsimp only)) | ((with_reducible show wpAny _ _ (binaryOp .Pow _ _) _ _ _); refine pow_int_small (by omega) (by omega) (by decide) ?_) | ((with_reducible show wpAny _ _ (binaryOp .FloorDiv _ _) _ _ _); refine floordiv_int (pw_ne _) ?_ (Or.inl (PyProof.noPylong_small (pw_lt (by omega))))) | ((with_reducible show wpAny _ _ (binaryOp .Mod _ _) _ _ _); refine mod_int' (by decide) ?_) | walk1 | (dsimp only; first | ((with_reducible show wpAny _ _ (binaryOp .Pow _ _) _ _ _); refine pow_int_small (by omega) (by omega) (by decide) ?_) | ((with_reducible show wpAny _ _ (binaryOp .FloorDiv _ _) _ _ _); refine floordiv_int (pw_ne _) ?_ (Or.inl (PyProof.noPylong_small (pw_lt (by omega))))) | ((with_reducible show wpAny _ _ (binaryOp .Mod _ _) _ _ _); refine mod_int' (by decide) ?_) | walk1) | (leave1; (try dsimp only)))
    refine ⟨rfl, fun _ => ?_, fun _ => LCg.CompEnd.intro F2 N2 _ (fun _ hp => hp) off trivial rfl⟩
    repeat' ((fail_if_success (with_reducible show LCg.CompEnd ..)); first | (k_unfold; (try dsimp only)) | ((with_reducible show wpAny _ _ (binaryOp .Pow _ _) _ _ _); refine pow_int_small (by omega) (by omega) (by decide) ?_) | ((with_reducible show wpAny _ _ (binaryOp .FloorDiv _ _) _ _ _); refine floordiv_int (pw_ne _) ?_ (Or.inl (PyProof.noPylong_small (pw_lt (by omega))))) | ((with_reducible show wpAny _ _ (binaryOp .Mod _ _) _ _ _); refine mod_int' (by decide) ?_) | walk1 | (dsimp only; first | ((with_reducible show wpAny _ _ (binaryOp .Pow _ _) _ _ _); refine pow_int_small (by omega) (by omega) (by decide) ?_) | ((with_reducible show wpAny _ _ (binaryOp .FloorDiv _ _) _ _ _); refine floordiv_int (pw_ne _) ?_ (Or.inl (PyProof.noPylong_small (pw_lt (by omega))))) | ((with_reducible show wpAny _ _ (binaryOp .Mod _ _) _ _ _); refine mod_int' (by decide) ?_) | walk1) | (leave1; (try dsimp only)))
    exact LCg.CompEnd.intro F2 N2 _ (fun _ hp => hp) off trivial ⟨rfl, _, rfl⟩
  case fin =>
    intro ys hys D h5 tk5 F6 N6 O6
    repeat' ((fail_if_success (with_reducible show Q _ _)); first | (k_unfold; (try dsimp only)) | walk1 | (dsimp only; walk1) | (leave1; (try dsimp only)))
    have hw : ∀ k : Int, 0 ≤ k → k < 8 → (∀ y ∈ ((List.range 3).filter (wayB k)).map (fun i : Nat => (2 : Int) ^ (0 + (i : Int) + 1).toNat), y = 1 ∨ y = 2 ∨ y = 4 ∨ y = 8) ∧ lay (((List.range 3).filter (wayB k)).map (fun i : Nat => (2 : Int) ^ (0 + (i : Int) + 1).toNat)) = k := fun k a b => by
      rcases k8 a b with rfl | rfl | rfl | rfl | rfl | rfl | rfl | rfl <;> decide +kernel
    exact hret _ (hw k h0 h1).1 (hw k h0 h1).2 _ _ _ _ (fun b o e => F6.keep b o (hkg b o e)) hys (N6 _ (.head _)).1 (fresh_of hkg (N6 _ (.head _)).2.2)
end
end Mine
end

/-! ## RS -/
section
open PySem PySem.W PySem.Spec PySem.Calls PyProof.Rows
set_option Elab.async false
set_option maxRecDepth 100000
set_option maxHeartbeats 8000000
namespace Mine
example (w : World) : Mine.hd.heap_39 w.params = Mine.hd.heap_39 w.params ∧ PySem.Challenge.rw_op0017_01.prog = PySem.Challenge.rw_op0017_01.prog := by
  k_fill
  exact ⟨rfl, rfl⟩
section
variable {b : Bool} {prog : Program} {w : World} {mean : ExcName → Option Value} {mg mb : PySem.Str → Option Value}
   {dp un : Nat} {fr : Option (List Env)} {gd : Option (List Code)} {h₀ : Heap} {s : Shared} {Q E : Value → Shared → Prop}
   (X : (Mine.hd.heap_39 w.params).In h₀) (T : Top Mine.hd.view_39 (looseW Mine.hd.view_39 [PySem.Str.ofString "_initial_missing", PySem.Str.ofString "reduce"]) mean mg mb h₀)
   (hk : ∀ b o, h₀.get? b = some o → s.heap.get? b = some o)
include X T hk
theorem swap_c (hd : dp < recursionLimit) {x : Array UInt8} {row : List Int} {t u : Tok} {wd : Int} (hx : KBw.bInts x = row) (h8 : row.length = 8) (hw : isW wd)
   (hret : ∀ y t' h' tk', KBw.bInts y = mv (wd - 1) row → Keep s.heap h' → Q (.bytes y t') { s with heap := h', toks := tk' }) :
   wpN (model prog w) (AA dp un fr gd) (call (.ref 58) [.bytes x t, .int wd u]) Q E s := by
  rcases hw with rfl | rfl | rfl | rfl
  · exact swapW_c X T hk hd (wd := 1) (.inl ⟨rfl, rfl⟩) hx h8 hret
  · exact swapW_c X T hk hd (wd := 2) (.inr (.inl ⟨rfl, rfl⟩)) hx h8 hret
  · exact swapW_c X T hk hd (wd := 4) (.inr (.inr (.inl ⟨rfl, rfl⟩))) hx h8 hret
  · exact swapW_c X T hk hd (wd := 8) (.inr (.inr (.inr ⟨rfl, rfl⟩))) hx h8 hret
/-- reduce(_byteswap, [bytes] + widths) -/
theorem redswap2_c (hd : dp + 1 < recursionLimit) {l : Addr} {n : Nat} {x : Array UInt8} {row ws : List Int} {vs : List Value} {t : Tok} (hl : s.heap.get? l = some (listOf (.bytes x t :: vs).toArray n)) (hi : IntsAre vs ws) (hw : ∀ y ∈ ws, isW y)
   (hx : KBw.bInts x = row) (h8 : row.length = 8)
   (hret : ∀ y t' h' tk', KBw.bInts y = mv (lay ws) row → Keep s.heap h' → Q (.bytes y t') { s with heap := h', toks := tk' }) :
   wpN (model prog w) (AA dp un fr gd) (call (.ref 23) [.ref 58, .ref l]) Q E s := by
  refine red2_c (b := true) X T hk (Nat.lt_of_succ_lt hd) hl (by k_is) (v₀ := .bytes x t)
    (fun i v _ => 1 ≤ i ∧ ∃ y t, v = .bytes y t ∧ KBw.bInts y = mv (lay (ws.take (i - 1))) row) (fun i v h h' p _ => p) rfl ⟨Nat.le_refl _, x, t, rfl, by rw [hx]; exact (mv0 h8).symm⟩ (fun r e => by cases e) ?_ ?_
  · rintro i v0 v s' fr' hx' ⟨h1, y, u, rfl, hy⟩ k' Q' hQ'
    cases i with
    | zero => omega
    | succ j =>
      rw [Nat.add_sub_cancel] at hy
      have hv : vs[j]? = some v0 := by simpa using hx'
      obtain ⟨wd, tw, rfl, hwd⟩ := IntsAre.at hi j v0 hv
      have hin : 0 ≤ lay (ws.take j) ∧ lay (ws.take j) < 8 := lay_in (ws.take j) 0 (by decide) (by decide) fun y hy => hw y (List.mem_of_mem_take hy)
      have hwm := hw wd (List.mem_of_getElem? hwd)
      have hb : 0 ≤ wd - 1 ∧ wd - 1 < 8 := by rcases hwm with e | e | e | e <;> omega
      refine swap_c X T (fun b o e => k' b o (hk b o e)) hd hy (mv_len _ _) hwm fun z t' h' tk' hz kk => hQ' _ _ _ kk ⟨by omega, z, t', rfl, ?_⟩ fun r e => by cases e
      rw [hz, mv_mv h8 hin.1 hin.2 hb.1 hb.2]
      show _ = mv (lay (ws.take (j + 1))) row
      rw [List.take_add_one, hwd]
      unfold lay
      rw [List.foldl_append]
      rfl
  · rintro v h' tk' kk ⟨_, y, u, rfl, hy⟩
    refine hret y u h' tk' ?_ kk
    have : ((Value.bytes x t :: vs).toArray.size - 1) = ws.length := by simp [hi.length]
    rw [this, List.take_length] at hy
    exact hy
/-- reduce(_byteswap, way, bytes) -/
theorem redswap3_c (hd : dp + 1 < recursionLimit) {l : Addr} {x : Array UInt8} {row ws : List Int} {t : Tok} (hl : IL s.heap l ws) (hw : ∀ y ∈ ws, isW y)
   (hx : KBw.bInts x = row) (h8 : row.length = 8)
   (hret : ∀ y t' h' tk', KBw.bInts y = mv (lay ws) row → Keep s.heap h' → Q (.bytes y t') { s with heap := h', toks := tk' }) :
   wpN (model prog w) (AA dp un fr gd) (call (.ref 23) [.ref 58, .ref l, .bytes x t]) Q E s := by
  obtain ⟨vs, n, el, hi⟩ := hl
  refine red3_c (b := true) X T hk (Nat.lt_of_succ_lt hd) el (by k_is) (v₀ := .bytes x t)
    (fun i v _ => ∃ y t, v = .bytes y t ∧ KBw.bInts y = mv (lay (ws.take i)) row) (fun i v h h' p _ => p) ⟨x, t, rfl, by rw [hx]; exact (mv0 h8).symm⟩ (fun r e => by cases e) (fun A s' Q' E' _ hq => is_bytes_ref hq) ?_ ?_
  · rintro j v0 v s' fr' hx' ⟨y, u, rfl, hy⟩ k' Q' hQ'
    have hv : vs[j]? = some v0 := by simpa using hx'
    obtain ⟨wd, tw, rfl, hwd⟩ := IntsAre.at hi j v0 hv
    have hin : 0 ≤ lay (ws.take j) ∧ lay (ws.take j) < 8 := lay_in (ws.take j) 0 (by decide) (by decide) fun y hy => hw y (List.mem_of_mem_take hy)
    have hwm := hw wd (List.mem_of_getElem? hwd)
    have hb : 0 ≤ wd - 1 ∧ wd - 1 < 8 := by rcases hwm with e | e | e | e <;> omega
    refine swap_c X T (fun b o e => k' b o (hk b o e)) hd hy (mv_len _ _) hwm fun z t' h' tk' hz kk => hQ' _ _ _ kk ⟨z, t', rfl, ?_⟩ fun r e => by cases e
    rw [hz, mv_mv h8 hin.1 hin.2 hb.1 hb.2]
    show _ = mv (lay (ws.take (j + 1))) row
    rw [List.take_add_one, hwd]
    unfold lay
    rw [List.foldl_append]
    rfl
  · rintro v h' tk' kk ⟨y, u, rfl, hy⟩
    refine hret y u h' tk' ?_ kk
    have : vs.toArray.size = ws.length := by simp [hi.length]
    rw [this, List.take_length] at hy
    exact hy
end
end Mine
end

/-! ## CompB -/
section
open PySem PySem.W PySem.Spec PySem.Calls PyProof.Rows
set_option Elab.async false
set_option maxRecDepth 100000
set_option maxHeartbeats 8000000
namespace Mine
section
variable {b : Bool} {prog : Program} {w : World} {A : Around} {E : Value → Shared → Prop} {s : Shared} {env : Env} {elt iter : Expr} {x : PySem.Str} {px pos : Pos} {scope : Scope} {cl : List (PySem.Str × Addr)} {Q : Value → Shared → Prop}

/-- the turns of a list comprehension over range(n), its element by wpB -/
theorem compLoopB (hh : A.handled = none) {n : Nat} {I C D : Addr} {s₁ : Shared} (hkind : scope.kind = .function) (hx : scope.names.lookup x = some .local) (hsz : n ≤ sizeLine)
    (P : Nat → Value → Prop) {RR : Result → Shared → Prop} (hIC : I ≠ C) (hID : I ≠ D) (hCD : C ≠ D) (hI₁ : s₁.heap.get? I = none) (hC₁ : s₁.heap.get? C = none) (hD₁ : s₁.heap.get? D = none)
    (elem : ∀ i m₂ (s' : Shared) tk, i < n → Keep s₁.heap s'.heap → s'.heap.Ns C m₂ → m₂ x = some (.int (0 + (i : Int)) tk) → ∀ Q', (∀ v h' tk', Keep s'.heap h' → P i v → Q' v { s' with heap := h', toks := tk' }) →
      wpB b (model prog w) A (eval elt (compEnvC scope cl C env)) Q' (fun _ _ => False) s')
    (done : ∀ ys h' tk' m', Keep s₁.heap h' → h'.get? D = some (LCg.lst ys) → h'.Ns C m' → ys.length = n → (∀ i v, ys[i]? = some v → P i v) → RR (.ok .next) { s₁ with heap := h', toks := tk' }) :
    ∀ k i ys h tk m', n - i = k → i ≤ n → ys.length = i → (∀ i v, ys[i]? = some v → P i v) → Keep s₁.heap h → IsRangeIter h I (0 + (i : Nat) * 1) ((n : Int) - (i : Nat)) 1 → h.get? D = some (LCg.lst ys) → h.Ns C m' →
      codeB b (model prog w) A (.compLoop (.ListComp elt [⟨.Name x px, iter, [], 0⟩] scope pos) 0 (.ref I) (.ref D) (compEnvC scope cl C env)) RR { s₁ with heap := h, toks := tk } := by
  have W := LCg.range_walks (prog := prog) (w := w) (I := I) hh 0 n
  intro k
  induction k with
  | zero =>
    intro i ys h tk m' hk hi hl hP kk hst hD hC
    have hin : i = n := by omega
    subst hin
    refine codeN_of_tree rfl ?_
    show wpB b _ (A.under _) ((compTurn _ _ _ _ _).onRaise _) _ _ _
    rw [Around.under_of_weight rfl]
    refine wpN_onRaise ?_
    rw [compTurn_list1]
    refine wpN_of (wpAny_bind (wpAny_standAt (wpAny_bind (W.done _ _ _ hst fun h' tk' he => ?_))))
    refine wpAny_pure ?_
    have he' : ∀ b o, b ≠ I → h.get? b = some o → h'.get? b = some o := fun b o hb e => he b o (by simpa using hb) e
    exact done ys h' tk' m' (fun b o e => he' b o (fun q => by rw [q, hI₁] at e; cases e) (kk b o e)) (he' _ _ (Ne.symm hID) hD) (hC.at' fun o e => he' _ _ (Ne.symm hIC) e) hl hP
  | succ k ih =>
    intro i ys h tk m' hk hi hl hP kk hst hD hC
    have hlt : i < n := by omega
    refine codeN_of_tree rfl ?_
    show wpB b _ (A.under _) ((compTurn _ _ _ _ _).onRaise _) _ _ _
    rw [Around.under_of_weight rfl]
    refine wpN_onRaise ?_
    rw [compTurn_list1]
    refine wpN_then (wpAny_standAt (wpN_then (W.item i _ _ _ hlt hst fun v h₂ tk₂ hv hst₂ he => ?_)))
    obtain ⟨t, rfl⟩ := hv
    have he' : ∀ b o, b ≠ I → h.get? b = some o → h₂.get? b = some o := fun b o hb e => he b o (by simpa using hb) e
    refine wpN_then (wpAny_of_eq (a := ()) rfl ?_)
    refine wpN_then (wpAny_assign_Name (wpAny_storeName_local (lookup_relabel_local hx) (hC.at' fun o e => he' _ _ (Ne.symm hIC) e) (fun h₃ hn₃ hs₃ => ?_) (by simp [compEnvC, relabel, hkind])))
    have k₃ : Keep s₁.heap h₃ := fun b o e => hs₃.extBut b o (fun q => by rw [show b = C from q, hC₁] at e; cases e) (he' b o (fun q => by rw [q, hI₁] at e; cases e) (kk b o e))
    have hD₃ : h₃.get? D = some (LCg.lst ys) := hs₃.extBut _ _ (Ne.symm hCD) (he' _ _ (Ne.symm hID) hD)
    have hst₃ : IsRangeIter h₃ I (0 + ((i + 1 : Nat)) * 1) ((n : Int) - ((i + 1 : Nat))) 1 := W.frame _ _ _ hst₂ fun b hb o e => hs₃.extBut b o (fun q => by rw [List.mem_singleton.mp hb] at q; exact hIC q) e
    refine wpN_bind (wpN_bind (elem i _ _ t hlt k₃ hn₃ (by rw [if_pos rfl]) _ fun v h₄ tk₄ k₄ hPv => ?_))
    refine wpN_of (wpAny_bind (append_at (hsz := by show ys.toArray.size ≤ sizeLine; rw [List.size_toArray, hl]; exact Nat.le_trans hi hsz) (k₄ _ _ hD₃) fun h₅ hs₅ hD₅ => ?_))
    refine wpAny_pure ?_
    show wpB b _ _ (again _) _ _ _
    refine wpN_pure ⟨rfl, ?_⟩
    refine ih (i + 1) (ys ++ [v]) h₅ _ _ (by omega) hlt (by rw [List.length_append, hl]; rfl) ?_ (fun b o e => hs₅.extBut b o (fun q => by rw [show b = D from q, hD₁] at e; cases e) (k₄ _ _ (k₃ b o e))) ?_ (hD₅.trans (congrArg some (LCg.lst_snoc ys v))) ((hn₃.at' fun o e => k₄ _ _ e).sameBut hs₅ hCD)
    · intro j z hz
      rw [List.getElem?_append] at hz
      split at hz
      · exact hP j z hz
      · rename_i hj
        have : j = i := by
          cases q : j - ys.length with
          | zero => omega
          | succ m => rw [q] at hz; simp at hz
        subst this
        rw [hl, Nat.sub_self] at hz
        cases hz
        exact hPv
    · exact W.frame _ _ _ hst₃ fun b hb o e => hs₅.extBut b o (fun q => by rw [List.mem_singleton.mp hb] at q; exact hID q) (k₄ _ _ e)
end
end Mine
end

/-! ## CompB2 -/
section
open PySem PySem.W PySem.Spec PySem.Calls PyProof.Rows
set_option Elab.async false
set_option maxRecDepth 100000
set_option maxHeartbeats 8000000
namespace Mine
section
variable {b : Bool} {prog : Program} {w : World} {A : Around} {E : Value → Shared → Prop} {s : Shared} {env : Env} {elt iter : Expr} {x : PySem.Str} {px pos : Pos} {scope : Scope} {cl : List (PySem.Str × Addr)} {Q : Value → Shared → Prop}
theorem compStartB {R : Result → Shared → Prop} {target : Expr} {it acc : Value} {cenv : Env}
    (h0 : codeB b (model prog w) A (.compLoop (.ListComp elt [⟨target, iter, [], 0⟩] scope pos) 0 it acc cenv) R s)
    (h : wpAny (model prog w) A (pyIter it) (fun it' s' => it' = it ∧ s' = s) (fun _ _ => False) s) :
    codeB b (model prog w) A (.compStart (.ListComp elt [⟨target, iter, [], 0⟩] scope pos) 0 it acc cenv) R s := by
  refine codeN_of_tree rfl ?_
  show wpB b _ (A.under _) ((compStart (.ListComp elt [⟨target, iter, [], 0⟩] scope pos) 0 it acc cenv).onRaise _) _ _ s
  rw [Around.under_of_weight rfl]
  refine wpN_onRaise ?_
  unfold compStart
  show wpB b _ _ (ask >>= _) _ _ s
  refine wpN_then (wpAny_askSetting ?_)
  split
  · first
      | exact wpN_of (wpAny_bind (wpAny_pure (wpAny_pure (And.intro rfl h0))))
      | exact wpN_pure (And.intro rfl h0)
  · refine wpN_then (wpAny_rule ?_)
    show wpB b _ _ (standAt iter.pos >>= _) _ _ s
    refine wpN_then (wpAny_standAt (wpN_then (wpAny_mono h (fun it' s' h' => ?_) fun _ _ x => x.elim)))
    obtain ⟨rfl, rfl⟩ := h'
    exact wpN_pure (And.intro rfl h0)

theorem compB (hh : A.handled = none) (hclos : closureFor scope env = pure cl) (hcell : ∀ y ∈ scope.names, y.2 ≠ .cell) (hkind : scope.kind = .function)
    (hnames : ∀ y ∈ scope.names, y.2 = .local → scope.names.lookup y.1 = some .local) (hx : scope.names.lookup x = some .local) (n : Nat) (hsz : n ≤ sizeLine) (P : Nat → Value → Prop)
    (h : wpAny (model prog w) A (eval iter env) (fun xv s₁ => ∃ r e t u v, xv = .ref r ∧ IsRange s₁.heap r 0 e 1 t u v ∧ Builtin.Range.small 0 e 1 = true ∧ Builtin.Range.rangeSize 0 e 1 = ((n : Nat) : Int) ∧
      (∀ i C m₂ (s' : Shared) tk, i < n → Keep s₁.heap s'.heap → s₁.heap.get? C = none → s'.heap.Ns C m₂ → m₂ x = some (.int (0 + (i : Int)) tk) → ∀ Q', (∀ v h' tk', Keep s'.heap h' → P i v → Q' v { s' with heap := h', toks := tk' }) →
        wpB b (model prog w) A (eval elt (compEnvC scope cl C env)) Q' (fun _ _ => False) s') ∧
      (∀ D ys h' tk', Keep s₁.heap h' → h'.get? D = some (LCg.lst ys) → s₁.heap.get? D = none → ys.length = n → (∀ i v, ys[i]? = some v → P i v) → Q (.ref D) { s₁ with heap := h', toks := tk' })) E s)
    (hs : ∀ x, foldedSetIterable iter env x = pure x := by intro _; rfl) :
    wpB b (model prog w) A (eval (.ListComp elt [⟨.Name x px, iter, [], 0⟩] scope pos) env) Q E s := by
  rw [eval_ListComp]
  unfold comprehension
  rw [hclos]
  refine wpN_then (wpAny_mono h (fun xv s₁ h₁ => ?_) fun _ _ e => e)
  obtain ⟨r, e, t, u, v, rfl, hr, hsm, hn, elem, done⟩ := h₁
  refine wpN_then (wpAny_standAt ?_)
  refine wpN_then (wpAny_of_eq (hs _) ?_)
  refine wpN_then (wpAny_holding (wpAny_pyIter_range hr hsm ?_))
  simp only [Option.isSome_none, Bool.false_eq_true, if_false]
  refine wpN_then (wpAny_newObj_type ?_)
  refine wpN_then (wpAny_pure ?_)
  refine wpN_then (wpAny_newFunctionEnv hcell (by intro y hy; simp at hy) (fun h₁ hns₁ hsb₁ => ?_) hkind)
  dsimp only at hns₁ hsb₁ ⊢
  generalize hH1 : s₁.heap.push { cls := .type "range_iterator", data := .fields #[rawInt 0, rawInt (Builtin.Range.rangeSize 0 e 1), rawInt 1] } = H1 at hns₁ hsb₁ ⊢
  generalize hH2 : H1.push { cls := .type "list", dict := none, data := .seq ([] : List Value).toArray } = H2 at hns₁ hsb₁ ⊢
  have sz1 : H1.objs.size = s₁.heap.objs.size + 1 := by rw [← hH1, Heap.size_push]
  have sz2 : H2.objs.size = s₁.heap.objs.size + 2 := by rw [← hH2, Heap.size_push, sz1]
  have hIC : s₁.heap.objs.size ≠ H2.objs.size := Nat.ne_of_lt (by omega)
  have hID : s₁.heap.objs.size ≠ H1.objs.size := Nat.ne_of_lt (by omega)
  have hDC : H1.objs.size ≠ H2.objs.size := Nat.ne_of_lt (by omega)
  have l1 : s₁.heap.objs.size ≤ H1.objs.size := by omega
  have l2 : s₁.heap.objs.size ≤ H2.objs.size := by omega
  have no : ∀ a, s₁.heap.objs.size ≤ a → s₁.heap.get? a = none := fun a ha => by
    cases q : s₁.heap.get? a with
    | none => rfl
    | some o' => exact absurd (Heap.lt_size q) (Nat.not_lt.mpr ha)
  have up : ∀ b o, b ≠ H2.objs.size → H2.get? b = some o → h₁.get? b = some o := fun b o hb q => hsb₁.extBut b o hb (Heap.get?_push_of_some _ q)
  have k₁ : Keep s₁.heap h₁ := fun b o q => up b o (Nat.ne_of_lt (Nat.lt_of_lt_of_le (Heap.lt_size q) l2)) (hH2 ▸ Heap.get?_push_of_some _ (hH1 ▸ Heap.get?_push_of_some _ q))
  have hv : ∀ y ∈ (scope.names.filter fun y => (y.2 == .local || y.2 == .cell) && y.1 != (".0" : PySem.Str)).reverse, y.2 = .local →
      Env.kindOf (compEnvC scope cl H2.objs.size env) y.1 = some .local := fun y hy hl => lookup_relabel_local (hnames y (List.mem_filter.mp (List.mem_reverse.mp hy)).1 hl)
  have hit : IsRangeIter h₁ s₁.heap.objs.size (0 + ((0 : Nat) : Int) * 1) ((n : Int) - ((0 : Nat) : Int)) 1 := by
    show h₁.get? _ = some _
    refine (up _ _ hIC (hH2 ▸ Heap.get?_push_of_some _ (hH1 ▸ Heap.get?_push_size _ rfl))).trans ?_
    rw [hn]; simp
  have hl := compLoopB (b := b) (prog := prog) (w := w) (elt := elt) (iter := iter) (px := px) (pos := pos) (cl := cl) (env := env) (x := x) (scope := scope) hh (n := n) (I := s₁.heap.objs.size) (C := H2.objs.size) (D := H1.objs.size) (s₁ := s₁) hkind hx hsz P
    (RR := fun r s' => ∃ m, r = .ok .next ∧ s'.heap.Ns H2.objs.size m ∧ ∀ h', Heap.SameBut H2.objs.size s'.heap h' → Q (.ref H1.objs.size) { s' with heap := h' })
    hIC hID (Ne.symm hDC) (no _ (Nat.le_refl _)) (no _ l2) (no _ l1) (fun i m₂ s' tk hi kk hn => elem i _ m₂ s' tk hi kk (no _ l2) hn)
    (fun ys h' tk' m' kk hD hC hlen hP => ⟨m', rfl, hC, fun h'' hs'' => done _ ys h'' tk' (fun b o q => hs''.extBut b o (Nat.ne_of_lt (Nat.lt_of_lt_of_le (Heap.lt_size q) l2)) (kk b o q)) (hs''.extBut _ _ hDC hD) (no _ l1) hlen hP⟩)
    n 0 [] h₁ (s₁.toks + ([] : List (PySem.Str × Value)).length) _ rfl (Nat.zero_le _) rfl (fun i v q => by simp at q) k₁ hit (up _ _ hDC (hH2 ▸ Heap.get?_push_size _ rfl)) hns₁
  refine wpN_holding (wpN_bind (wpN_attempt (wpN_holding (wpN_run (codeN_mono (compStartB hl ?_) fun r s' hr => ?_)))))
  · exact (LCg.range_walks (prog := prog) (w := w) (I := s₁.heap.objs.size) hh 0 n).self 0 _ _ _ hit ⟨rfl, rfl⟩
  · obtain ⟨m, rfl, hn', hr⟩ := hr
    exact wpN_of (wpAny_bind (wpAny_holding (wpAny_comp_letGo (cenv := compEnvC scope cl H2.objs.size env) hkind _ s' m hv hn' fun h' m' _ hs' => wpAny_pure (hr h' hs'))))
end
end Mine
end

/-! ## Plain2 -/
section
open PySem
set_option Elab.async false
set_option maxRecDepth 100000
set_option maxHeartbeats 8000000
namespace Mine
/-- the butterflies' end -/
noncomputable def wh (row : List Int) : List Int := sp 4 (sp 2 (sp 1 row))
/-- the signs -/
noncomputable def sg (k : Int) (o : List Int) : List Int := [0, 1, 2, 3, 4, 5, 6, 7].map fun i : Nat => if odd (Builtin.bitAnd (i : Int) k) = 0 then o.getD i 0 else - o.getD i 0
noncomputable def sums (k : Int) (row : List Int) : List Int := [0, 1, 2, 3, 4, 5, 6, 7].map fun n : Int => (pr row (mv n (mv k row))).sum
theorem sum_add (f g : Nat → Int) : ∀ l : List Nat, (l.map fun p => f p + g p).sum = (l.map f).sum + (l.map g).sum
  | [] => rfl
  | a :: l => by simp only [List.map_cons, List.sum_cons, sum_add f g l]; omega
theorem sum_mul (c : Int) (f : Nat → Int) : ∀ l : List Nat, (l.map fun p => c * f p).sum = c * (l.map f).sum
  | [] => (Int.mul_zero c).symm
  | a :: l => by simp only [List.map_cons, List.sum_cons, sum_mul c f l, Int.mul_add]
theorem sum_swap (F : Nat → Nat → Int) (m : List Nat) : ∀ l : List Nat, (l.map fun p => (m.map fun q => F p q).sum).sum = (m.map fun q => (l.map fun p => F p q).sum).sum
  | [] => by
    show 0 = (m.map fun _ => 0).sum
    induction m with
    | nil => rfl
    | cons a m ih => simp only [List.map_cons, List.sum_cons, ← ih, Int.zero_add]
  | a :: l => by simp only [List.map_cons, List.sum_cons, sum_swap F m l, sum_add]
theorem sum_perm (f : Nat → Int) {l m : List Nat} (h : l.Perm m) : (l.map f).sum = (m.map f).sum := by
  induction h with
  | nil => rfl
  | cons a _ ih => simp only [List.map_cons, List.sum_cons, ih]
  | swap a b l => simp only [List.map_cons, List.sum_cons]; omega
  | trans _ _ h1 h2 => exact h1.trans h2
theorem sq_nn (a : Int) : 0 ≤ a * a := by
  rcases Int.le_total 0 a with h | h
  · exact Int.mul_nonneg h h
  · exact Int.mul_nonneg_of_nonpos_of_nonpos h h
theorem sq0 {a : Int} (h : a * a = 0) : a = 0 := by
  rcases Int.mul_eq_zero.mp h with h | h <;> exact h
theorem sp_at (g : Nat) (row : List Int) {p : Nat} (hp : p < 8) : (sp g row).getD p 0 = if p &&& g ≠ 0 then row.getD (p - g) 0 - row.getD p 0 else row.getD p 0 + row.getD (p + g) 0 := by
  rcases n8 p hp with rfl | rfl | rfl | rfl | rfl | rfl | rfl | rfl <;> rfl
theorem sum_nn {f : Nat → Int} (hf : ∀ p, 0 ≤ f p) : ∀ l : List Nat, 0 ≤ (l.map f).sum ∧ ((l.map f).sum = 0 → ∀ p ∈ l, f p = 0)
  | [] => ⟨Int.le_refl _, fun _ _ h => nomatch h⟩
  | a :: l => by
    have h1 := hf a
    have ih := sum_nn hf l
    simp only [List.map_cons, List.sum_cons]
    refine ⟨Int.add_nonneg h1 ih.1, fun e p hp => ?_⟩
    have h2 := ih.1
    rcases List.mem_cons.mp hp with rfl | hp
    · omega
    · exact ih.2 (by omega) p hp
abbrev L8 : List Nat := [0, 1, 2, 3, 4, 5, 6, 7]
theorem mem8 {p : Nat} (h : p ∈ L8) : p < 8 := by
  have : ∀ p ∈ L8, p < 8 := by decide
  exact this p h
abbrev S (f : Nat → Int) : Int := (L8.map f).sum
theorem S_mul (c : Int) (f : Nat → Int) : (S fun p => c * f p) = c * S f := sum_mul c f L8
theorem S_add (f g : Nat → Int) : (S fun p => f p + g p) = S f + S g := sum_add f g L8
theorem S_swap (F : Nat → Nat → Int) : (S fun p => S fun q => F p q) = S fun q => S fun p => F p q := sum_swap F L8 L8
theorem S_congr {f g : Nat → Int} (h : ∀ p, p < 8 → f p = g p) : S f = S g := congrArg List.sum (List.map_congr_left fun p hp => h p (mem8 hp))
theorem S_xor (f : Nat → Int) {k : Nat} (hk : k < 8) : S (fun p => f (p ^^^ k)) = S f := by
  have : ∀ k, k < 8 → (L8.map fun p => p ^^^ k).Perm L8 := by decide +kernel
  show (L8.map fun p => f (p ^^^ k)).sum = _
  have e := sum_perm f (this k hk)
  rw [List.map_map] at e
  exact e
/-- the sign -/
noncomputable def sn (m p : Nat) : Int := if odd (Builtin.bitAnd (m : Int) (p : Int)) = 0 then 1 else -1
theorem sn_x : ∀ m, m < 8 → ∀ p, p < 8 → ∀ q, q < 8 → sn m (p ^^^ q) = sn m p * sn m q := by decide +kernel
theorem sn_s : ∀ m, m < 8 → ∀ p, p < 8 → sn m p = sn p m := by decide +kernel
theorem sn_o : ∀ p, p < 8 → ∀ q, q < 8 → S (fun m => sn m p * sn m q) = if q = p then 8 else 0 := by decide +kernel
theorem x8n {p q : Nat} (hp : p < 8) (hq : q < 8) : p ^^^ q < 8 := (bx8 p q hp hq).2
theorem xx (p q : Nat) : p ^^^ q ^^^ q = p := by rw [Nat.xor_assoc, Nat.xor_self, Nat.xor_zero]
theorem sum_pick (f : Nat → Int) (p : Nat) : ∀ l : List Nat, (p ∉ l → (l.map fun q => f q * if q = p then 8 else 0).sum = 0) ∧ (l.Nodup → p ∈ l → (l.map fun q => f q * if q = p then 8 else 0).sum = 8 * f p)
  | [] => ⟨fun _ => rfl, fun _ h => nomatch h⟩
  | a :: l => by
    have ih := sum_pick f p l
    simp only [List.map_cons, List.sum_cons]
    by_cases e : a = p
    · subst e
      refine ⟨fun h => absurd (.head _) h, fun nd _ => ?_⟩
      rw [if_pos rfl, ih.1 (List.nodup_cons.mp nd).1, Int.add_zero, Int.mul_comm]
    · rw [if_neg e, Int.mul_zero, Int.zero_add]
      refine ⟨fun h => ih.1 fun q => h (.tail _ q), fun nd hm => ih.2 (List.nodup_cons.mp nd).2 ?_⟩
      rcases List.mem_cons.mp hm with q | q
      · exact absurd q.symm e
      · exact q
theorem pick (f : Nat → Int) {p : Nat} (hp : p < 8) : S (fun q => f q * if q = p then 8 else 0) = 8 * f p :=
  (sum_pick f p L8).2 (by decide) (by
    have : ∀ p, p < 8 → p ∈ L8 := by decide +kernel
    exact this p hp)
theorem wl_0 (r0 r1 r2 r3 r4 r5 r6 r7 : Int) : (((r0 + r1) + (r2 + r3)) + ((r4 + r5) + (r6 + r7))) = 1 * r0 + (1 * r1 + (1 * r2 + (1 * r3 + (1 * r4 + (1 * r5 + (1 * r6 + (1 * r7 + 0))))))) := by omega
theorem wl_1 (r0 r1 r2 r3 r4 r5 r6 r7 : Int) : (((r0 - r1) + (r2 - r3)) + ((r4 - r5) + (r6 - r7))) = 1 * r0 + (-1 * r1 + (1 * r2 + (-1 * r3 + (1 * r4 + (-1 * r5 + (1 * r6 + (-1 * r7 + 0))))))) := by omega
theorem wl_2 (r0 r1 r2 r3 r4 r5 r6 r7 : Int) : (((r0 + r1) - (r2 + r3)) + ((r4 + r5) - (r6 + r7))) = 1 * r0 + (1 * r1 + (-1 * r2 + (-1 * r3 + (1 * r4 + (1 * r5 + (-1 * r6 + (-1 * r7 + 0))))))) := by omega
theorem wl_3 (r0 r1 r2 r3 r4 r5 r6 r7 : Int) : (((r0 - r1) - (r2 - r3)) + ((r4 - r5) - (r6 - r7))) = 1 * r0 + (-1 * r1 + (-1 * r2 + (1 * r3 + (1 * r4 + (-1 * r5 + (-1 * r6 + (1 * r7 + 0))))))) := by omega
theorem wl_4 (r0 r1 r2 r3 r4 r5 r6 r7 : Int) : (((r0 + r1) + (r2 + r3)) - ((r4 + r5) + (r6 + r7))) = 1 * r0 + (1 * r1 + (1 * r2 + (1 * r3 + (-1 * r4 + (-1 * r5 + (-1 * r6 + (-1 * r7 + 0))))))) := by omega
theorem wl_5 (r0 r1 r2 r3 r4 r5 r6 r7 : Int) : (((r0 - r1) + (r2 - r3)) - ((r4 - r5) + (r6 - r7))) = 1 * r0 + (-1 * r1 + (1 * r2 + (-1 * r3 + (-1 * r4 + (1 * r5 + (-1 * r6 + (1 * r7 + 0))))))) := by omega
theorem wl_6 (r0 r1 r2 r3 r4 r5 r6 r7 : Int) : (((r0 + r1) - (r2 + r3)) - ((r4 + r5) - (r6 + r7))) = 1 * r0 + (1 * r1 + (-1 * r2 + (-1 * r3 + (-1 * r4 + (-1 * r5 + (1 * r6 + (1 * r7 + 0))))))) := by omega
theorem wl_7 (r0 r1 r2 r3 r4 r5 r6 r7 : Int) : (((r0 - r1) - (r2 - r3)) - ((r4 - r5) - (r6 - r7))) = 1 * r0 + (-1 * r1 + (-1 * r2 + (1 * r3 + (-1 * r4 + (1 * r5 + (1 * r6 + (-1 * r7 + 0))))))) := by omega
theorem wh_at (row : List Int) {m : Nat} (hm : m < 8) : (wh row).getD m 0 = S fun p => sn m p * row.getD p 0 := by
  rcases n8 m hm with rfl | rfl | rfl | rfl | rfl | rfl | rfl | rfl
  · refine (wl_0 (row.getD 0 0) (row.getD 1 0) (row.getD 2 0) (row.getD 3 0) (row.getD 4 0) (row.getD 5 0) (row.getD 6 0) (row.getD 7 0)).trans ?_; kernel_rfl
  · refine (wl_1 (row.getD 0 0) (row.getD 1 0) (row.getD 2 0) (row.getD 3 0) (row.getD 4 0) (row.getD 5 0) (row.getD 6 0) (row.getD 7 0)).trans ?_; kernel_rfl
  · refine (wl_2 (row.getD 0 0) (row.getD 1 0) (row.getD 2 0) (row.getD 3 0) (row.getD 4 0) (row.getD 5 0) (row.getD 6 0) (row.getD 7 0)).trans ?_; kernel_rfl
  · refine (wl_3 (row.getD 0 0) (row.getD 1 0) (row.getD 2 0) (row.getD 3 0) (row.getD 4 0) (row.getD 5 0) (row.getD 6 0) (row.getD 7 0)).trans ?_; kernel_rfl
  · refine (wl_4 (row.getD 0 0) (row.getD 1 0) (row.getD 2 0) (row.getD 3 0) (row.getD 4 0) (row.getD 5 0) (row.getD 6 0) (row.getD 7 0)).trans ?_; kernel_rfl
  · refine (wl_5 (row.getD 0 0) (row.getD 1 0) (row.getD 2 0) (row.getD 3 0) (row.getD 4 0) (row.getD 5 0) (row.getD 6 0) (row.getD 7 0)).trans ?_; kernel_rfl
  · refine (wl_6 (row.getD 0 0) (row.getD 1 0) (row.getD 2 0) (row.getD 3 0) (row.getD 4 0) (row.getD 5 0) (row.getD 6 0) (row.getD 7 0)).trans ?_; kernel_rfl
  · refine (wl_7 (row.getD 0 0) (row.getD 1 0) (row.getD 2 0) (row.getD 3 0) (row.getD 4 0) (row.getD 5 0) (row.getD 6 0) (row.getD 7 0)).trans ?_; kernel_rfl
theorem sg_at (k : Int) (o : List Int) {i : Nat} (h : i < 8) : (sg k o).getD i 0 = if odd (Builtin.bitAnd (i : Int) k) = 0 then o.getD i 0 else - o.getD i 0 := by
  rcases n8 i h with rfl | rfl | rfl | rfl | rfl | rfl | rfl | rfl <;> rfl
theorem sg_n (k : Nat) (o : List Int) {i : Nat} (h : i < 8) : (sg (k : Int) o).getD i 0 = sn i k * o.getD i 0 := by
  rw [sg_at _ _ h]
  unfold sn
  split
  · rw [Int.one_mul]
  · rw [Int.neg_one_mul]
theorem pr_at (a b : List Int) {i : Nat} (h : i < 8) : (pr a b).getD i 0 = a.getD i 0 * b.getD i 0 := by
  rcases n8 i h with rfl | rfl | rfl | rfl | rfl | rfl | rfl | rfl <;> rfl
/-- a row moved: the signs of its butterflies -/
theorem whm (row : List Int) {k m : Nat} (hk : k < 8) (hm : m < 8) : (wh (mv (k : Int) row)).getD m 0 = sn m k * (wh row).getD m 0 := by
  rw [wh_at _ hm, wh_at _ hm, ← S_mul, ← S_xor _ hk]
  refine S_congr fun p hp => ?_
  rw [mv_n _ hk (x8n hp hk), xx, sn_x m hm p hp k hk, Int.mul_comm (sn m p), Int.mul_assoc]
theorem c2 {row : List Int} {k : Int} (_h8 : row.length = 8) (k0 : 0 ≤ k) (k1 : k < 8) : wh (mv k row) = sg k (wh row) := by
  obtain ⟨k, rfl⟩ := Int.eq_ofNat_of_zero_le k0
  have hk := Int.ofNat_lt.mp k1
  exact ext8 rfl rfl fun m hm => by rw [whm row hk hm, sg_n k _ hm]
theorem S_mul_S (f g : Nat → Int) : S f * S g = S fun p => S fun q => g p * f q := by
  rw [← S_mul (S f) g]
  exact S_congr fun p _ => by rw [S_mul, Int.mul_comm]
/-- the squares of the butterflies, by the signs -/
theorem wk (a : List Int) {j : Nat} (hj : j < 8) : (S fun m => sn m j * ((wh a).getD m 0 * (wh a).getD m 0)) = 8 * S fun p => a.getD p 0 * a.getD (p ^^^ j) 0 := by
  have e1 : (S fun m => sn m j * ((wh a).getD m 0 * (wh a).getD m 0)) = S fun m => S fun p => S fun q => (sn m p * a.getD p 0) * (sn m q * a.getD (q ^^^ j) 0) := S_congr fun m hm => by
    rw [← Int.mul_assoc, ← whm a hj hm, wh_at a hm, wh_at _ hm, S_mul_S]
    exact S_congr fun p _ => S_congr fun q hq => by rw [mv_n _ hj hq]
  rw [e1, S_swap, ← S_mul]
  refine S_congr fun p hp => ?_
  rw [S_swap, ← pick (fun q => a.getD p 0 * a.getD (q ^^^ j) 0) hp]
  refine S_congr fun q hq => ?_
  rw [← sn_o p hp q hq, ← S_mul]
  refine S_congr fun m hm => ?_
  generalize sn m p = x
  generalize sn m q = y
  generalize a.getD p 0 = u
  generalize a.getD (q ^^^ j) 0 = v
  grind
theorem sums_at (k : Int) (row : List Int) {n : Nat} (hn : n < 8) : ((sums k row).map fun y => 8 * y).getD n 0 = 8 * (pr row (mv (n : Int) (mv k row))).sum := by
  rcases n8 n hn with rfl | rfl | rfl | rfl | rfl | rfl | rfl | rfl <;> rfl
theorem prs (a b : List Int) : (pr a b).sum = S fun p => a.getD p 0 * b.getD p 0 := rfl
theorem c3 {row : List Int} {k : Int} (h8 : row.length = 8) (k0 : 0 ≤ k) (k1 : k < 8) : wh (pr (wh row) (wh (mv k row))) = (sums k row).map (fun y => 8 * y) := by
  obtain ⟨k, rfl⟩ := Int.eq_ofNat_of_zero_le k0
  have hk := Int.ofNat_lt.mp k1
  refine ext8 rfl rfl fun n hn => ?_
  rw [wh_at _ hn, sums_at _ _ hn, mv_mv h8 k0 k1 (by omega) (by omega), (bx8 k n hk hn).1, prs]
  have e : (S fun p => row.getD p 0 * (mv ((k ^^^ n : Nat) : Int) row).getD p 0) = S fun p => row.getD p 0 * row.getD (p ^^^ (k ^^^ n)) 0 := S_congr fun p hp => by rw [mv_n _ (x8n hk hn) hp]
  rw [e, ← wk row (x8n hk hn)]
  refine S_congr fun m hm => ?_
  rw [pr_at _ _ hm, whm row hk hm, sn_s n hn m hm, sn_x m hm k hk n hn, Int.mul_left_comm (wh row |>.getD m 0), ← Int.mul_assoc, ← Int.mul_assoc, Int.mul_comm (sn m n)]
  rw [Int.mul_assoc]
/-- no other row moved has greater products -/
theorem sqx {row : List Int} {k : Int} (h8 : row.length = 8) (k0 : 0 ≤ k) (k1 : k < 8) : (pr row (mv k row)).sum ≤ (pr row row).sum ∧ ((pr row (mv k row)).sum = (pr row row).sum ↔ mv k row = row) := by
  obtain ⟨k, rfl⟩ := Int.eq_ofNat_of_zero_le k0
  have hk := Int.ofNat_lt.mp k1
  generalize hb : mv (k : Int) row = b
  have hs : (S fun p => b.getD p 0 * b.getD p 0) = S fun p => row.getD p 0 * row.getD p 0 := by
    rw [← hb, ← S_xor (fun p => row.getD p 0 * row.getD p 0) hk]
    exact S_congr fun p hp => by rw [mv_n _ hk hp]
  have key : (S fun p => (row.getD p 0 - b.getD p 0) * (row.getD p 0 - b.getD p 0)) = (S fun p => row.getD p 0 * row.getD p 0) + ((-2) * (S fun p => row.getD p 0 * b.getD p 0) + S fun p => b.getD p 0 * b.getD p 0) := by
    rw [← S_mul, ← S_add, ← S_add]
    exact S_congr fun p _ => by grind
  have nn := sum_nn (f := fun p => (row.getD p 0 - b.getD p 0) * (row.getD p 0 - b.getD p 0)) (fun p => sq_nn _) L8
  rw [show ((L8.map fun p => (row.getD p 0 - b.getD p 0) * (row.getD p 0 - b.getD p 0)).sum = _) from key, hs] at nn
  rw [prs, prs]
  refine ⟨by have := nn.1; omega, fun e => ?_, fun e => by rw [e]⟩
  have hz := nn.2 (by rw [e]; omega)
  refine ext8 (hb ▸ rfl) h8 fun p hp => ?_
  have := sq0 (hz p (by rcases n8 p hp with rfl | rfl | rfl | rfl | rfl | rfl | rfl | rfl <;> decide))
  omega
/-- the butterflies lose nothing -/
theorem sp_inj {g : Nat} (hg : g = 1 ∨ g = 2 ∨ g = 4) {a b : List Int} (ha : a.length = 8) (hb : b.length = 8) (h : sp g a = sp g b) : a = b := by
  have e : ∀ p, p < 8 → (sp g a).getD p 0 = (sp g b).getD p 0 := fun p _ => by rw [h]
  have pi : ∀ {x y u v : Int}, x + y = u + v → x - y = u - v → x = u ∧ y = v := fun h1 h2 => by omega
  have P : ∀ p, p < 8 → p &&& g = 0 → a.getD p 0 = b.getD p 0 ∧ a.getD (p + g) 0 = b.getD (p + g) 0 := fun p hp hz => by
    have : ∀ g ∈ [1, 2, 4], ∀ p, p < 8 → p &&& g = 0 → p + g < 8 ∧ (p + g) &&& g ≠ 0 := by decide +kernel
    have q := this g (by simpa using hg) p hp hz
    have e1 := e p hp
    have e2 := e (p + g) q.1
    rw [sp_at _ _ hp, sp_at _ _ hp, if_neg (fun h => h hz), if_neg (fun h => h hz)] at e1
    rw [sp_at _ _ q.1, sp_at _ _ q.1, if_pos q.2, if_pos q.2, Nat.add_sub_cancel] at e2
    exact pi e1 e2
  have : ∀ g ∈ [1, 2, 4], ∀ p, p < 8 → p &&& g = 0 ∨ ∃ q, q < 8 ∧ q &&& g = 0 ∧ p = q + g := by decide +kernel
  refine ext8 ha hb fun p hp => ?_
  rcases this g (by simpa using hg) p hp with z | ⟨q, hq, z, rfl⟩
  · exact (P p hp z).1
  · exact (P q hq z).2
theorem wh_inj {a b : List Int} (ha : a.length = 8) (hb : b.length = 8) (h : wh a = wh b) : a = b :=
  sp_inj (.inl rfl) ha hb (sp_inj (.inr (.inl rfl)) rfl rfl (sp_inj (.inr (.inr rfl)) rfl rfl h))
theorem sp_b {g : Nat} {a : List Int} {B : Nat} (h : ∀ i, (a.getD i 0).natAbs ≤ B) (i : Nat) : ((sp g a).getD i 0).natAbs ≤ 2 * B := by
  by_cases hi : i < 8
  · rw [sp_at _ _ hi]
    have h1 := h i
    have h2 := h (i - g)
    have h3 := h (i + g)
    split
    · rw [Int.sub_eq_add_neg]
      exact Nat.le_trans (Int.natAbs_add_le _ _) (by rw [Int.natAbs_neg, Nat.two_mul]; exact Nat.add_le_add h2 h1)
    · exact Nat.le_trans (Int.natAbs_add_le _ _) (by rw [Nat.two_mul]; exact Nat.add_le_add h1 h3)
  · rw [List.getD_eq_getElem?_getD, List.getElem?_eq_none (by rw [sp_len]; omega)]
    exact Nat.zero_le _
theorem wh_b {row : List Int} (hb : ∀ i, 0 ≤ row.getD i 0 ∧ row.getD i 0 < 4) (i : Nat) : ((wh row).getD i 0).natAbs < 4096 :=
  Nat.lt_of_le_of_lt (sp_b (sp_b (sp_b (B := 3) fun i => by have := hb i; omega)) i) (by decide)
end Mine
end

/-! ## Row -/
section
open PySem PySem.W PySem.Spec PySem.Calls PyProof.Rows
set_option Elab.async false
set_option maxRecDepth 100000
set_option maxHeartbeats 8000000
namespace Mine
example : True := by
  w_top off
  trivial
example (w : World) : Mine.hd.heap_39 w.params = Mine.hd.heap_39 w.params ∧ PySem.Challenge.rw_op0017_01.prog = PySem.Challenge.rw_op0017_01.prog := by
  k_fill
  exact ⟨rfl, rfl⟩
theorem ex3 {ys : List Value} (h : ys.length = 3) : ∃ a b c, ys = [a, b, c] := by
  obtain ⟨a, t, rfl, h1⟩ := uncons h
  obtain ⟨b, t, rfl, h2⟩ := uncons h1
  obtain ⟨c, t, rfl, h3⟩ := uncons h2
  obtain rfl := List.length_eq_zero_iff.mp h3
  exact ⟨a, b, c, rfl⟩
abbrev mOf {g h : Heap} {L : Addr} {m : PySem.Str → Option Value} (_ : Fr g L h m) : PySem.Str → Option Value := m
def InvR (g : Heap) (L' l' : Addr) (m₀ : PySem.Str → Option Value) (i : Nat) (h : Heap) : Prop :=
  ∃ sg vals row oc v, Fr g L' h (fun y => if y = PySem.Str.ofString "signs" then sg else m₀ y) ∧ News g L' h [(l', LCg.lst vals), (L' + 1, oc)] ∧ IntsAre vals row ∧ row.length = i ∧ (∀ r ∈ row, 0 ≤ r ∧ r < 4) ∧ oc.data = .cell v
section
variable {b : Bool} {prog : Program} {w : World} {mean : ExcName → Option Value} {mg mb : PySem.Str → Option Value}
   {dp un : Nat} {fr : Option (List Env)} {gd : Option (List Code)} {h₀ : Heap} {s : Shared} {Q E : Value → Shared → Prop}
   (X : (Mine.hd.heap_39 w.params).In h₀) (T : Top Mine.hd.view_39 (looseW Mine.hd.view_39 [PySem.Str.ofString "_initial_missing", PySem.Str.ofString "reduce"]) mean mg mb h₀)
   (hk : ∀ b o, h₀.get? b = some o → s.heap.get? b = some o)
include X T hk
theorem row_c (hd : dp + 1 < recursionLimit) {l l2 : Addr} {ms vals : List Int} (hl : IL s.heap l ms) (h3 : ms.length = 3) (hl2 : IL s.heap l2 vals) (h8 : vals.length = 8) (hv : ∀ i, 0 ≤ vals.getD i 0 ∧ vals.getD i 0 < 4)
   (hret : ∀ row, row.length = 8 → (∀ i, 0 ≤ row.getD i 0 ∧ row.getD i 0 < 4) → RetL s Q row) :
   wpAny (model prog w) (AA dp un fr gd) (call (.ref 75) [.ref l, .ref l2]) Q E s := by
  refine wpAny_call ?_
  k_dflt (refine' enterC (news := []) X T hk (fun _ h => nomatch h) ?k6 ?k7 ?k8 ?k9 ?kB ?kD ?_ ?c2 ?c3 ?c4; (case k6 => k_is); (case k7 => k_is); (case k8 => exact Nat.lt_of_succ_lt hd); (case k9 => first | exact BindsTo.of_eq rfl | exact binds_K (Frag.In.keeps X hk) rfl (by k_is) rfl rfl rfl); (case kB => exact rfl); (case kD => decide +kernel); (case c2 => exact rfl); (case c3 => exact rfl); (case c4 => exact rfl))
  intro g L' h₁ tk cells hg hg' F N Y X' T' hl'
  k_cells Y
  (try simp only [List.cons_append, List.nil_append] at N)
  have hkg : Keep s.heap g := fun b o e => hg b o e (by simp)
  obtain ⟨vs, n, e, hims⟩ := hl.keep hkg
  have hL : g.IsList l vs.toArray := ⟨_, e, rfl, _, rfl⟩
  have hlen : vs.length = 3 := by rw [hims.length]; exact h3
  have hsm : vs.toArray.size ≤ sizeLine := by rw [List.size_toArray, hlen, sizeLine_eq]; decide
  have hL2 := hl2.keep hkg
  (try dsimp only)
  (try k_fold)
  repeat' ((fail_if_success (with_reducible show wpAny _ _ (exec (Stmt.For ..) _) _ _ _)); first | (k_unfold; (try dsimp only)) | walk1 | (dsimp only; walk1) | (leave1; (try dsimp only)))
  rename_i oc0 d1 l' hx1 l1 hx Fx Nx
  refine wpAny_For ?_
  repeat' ((fail_if_success (with_reducible show wpAny _ _ (pyIter _) _ _ _)); first | (k_unfold; (try dsimp only)) | walk1 | (dsimp only; walk1) | (leave1; (try dsimp only)))
  refine wpAny_pyIter_range (by assumption) (by decide) ?_
  rename_i hz _ _ _ _ _ Fz Nz _
  have hIl : ∀ q ∈ [(_, _), (_, _)], q.1 ≠ hz.objs.size := fun q hq => Nat.ne_of_lt (Heap.lt_size (Nz q hq).1)
  simp only [List.forall_mem_cons, List.not_mem_nil, false_implies, implies_true, and_true] at hIl
  obtain ⟨hIl, hIc⟩ := hIl
  have hI0 : g.get? hz.objs.size = none := fresh_of Fz.keep (by
    cases q : hz.get? hz.objs.size with
    | none => rfl
    | some o => exact absurd (Heap.lt_size q) (Nat.lt_irrefl _))
  have hIL : hz.objs.size ≠ L' := Nat.ne_of_gt Fz.ns.lt
  refine for_range (s := s) (I := hz.objs.size) rfl 8 (InvR g L' l' (mOf Fz)) ?hI ?turn ?done 8 0 _ _ rfl (by decide) ?st ?inv
  case hI =>
    rintro i h h' ⟨sg, vv, row, oc, v, Fi, Ni, a1, a2, a3, a4⟩ he
    exact ⟨sg, vv, row, oc, v, LCg.fr_but Fi (fun b o hb e => he b o (by simpa using hb) e) (Ne.symm hIL) hI0, LCg.news_but Ni (fun b o hb e => he b o (by simpa using hb) e) (by simp only [List.forall_mem_cons, List.not_mem_nil, false_implies, implies_true, and_true]; exact ⟨hIl, hIc⟩), a1, a2, a3, a4⟩
  case st => exact Heap.get?_push_size _ rfl
  case inv =>
    refine ⟨none, [], [], _, _, ?_, Nz.grown (fun _ _ e => Heap.get?_push_of_some _ e), .nil, rfl, (fun _ h => nomatch h), d1⟩
    have := Fz.push (PySem.Obj.mk (.type "range_iterator") none (.fields #[rawInt 0, rawInt (Builtin.Range.rangeSize 0 8 1), rawInt 1]) #[])
    refine ⟨?_, this.keep, this.above⟩
    have e := this.ns
    have q : (fun y => if y = PySem.Str.ofString "signs" then none else mOf Fz y) = mOf Fz := by
      funext y
      by_cases hy : y = PySem.Str.ofString "signs"
      · rw [if_pos hy, hy]; rfl
      · rw [if_neg hy]
    rw [q]; exact e
  case turn =>
    rintro i h tk9 t9 oI hi ⟨sg, vv, row, oc, v, Fi, Ni, a1, a2, a3, a4⟩ eI
    have NI : News g L' h ((hz.objs.size, oI) :: _) := fun p hp => by
      rcases List.mem_cons.mp hp with rfl | hp
      · exact ⟨eI, hIL, hI0⟩
      · exact Ni p hp
    dsimp only [mOf] at Fi
    clear Ni Nz
    have hsz : vv.toArray.size ≤ sizeLine := by rw [List.size_toArray, a1.length, a2, sizeLine_eq]; omega
    repeat' ((fail_if_success (with_reducible show LCg.CompRest ..)); first | (k_unfold; (try dsimp only)) | ((with_reducible show LCg.CompSrc ..); k_dflt (refine LCg.CompSrc.base (by rfl) (by k_asm) (by k_asm) hL hsm ?_; intro g')) | walk1 | (dsimp only; first | ((with_reducible show LCg.CompSrc ..); k_dflt (refine LCg.CompSrc.base (by rfl) (by k_asm) (by k_asm) hL hsm ?_; intro g')) | walk1) | (leave1; (try dsimp only)))
    rename_i oc5 _ _ d5
    refine restU vs.toArray.size (fun j y => ∃ a t, y = Value.int a t ∧ 0 ≤ a ∧ a < 2) ?turn3 ?fin3 _ 0 [] (Nat.zero_add _) rfl (fun i y h => by simp at h)
    case turn3 =>
      rintro j v0 I oI5 C oC D m₂ h5 tk5 E' ys hj hv hC hx F2 N2 off ne
      obtain ⟨mj, tj, rfl, -⟩ := IntsAre.at hims j v0 (by simpa using hv)
      repeat' ((fail_if_success (with_reducible show wpAny _ _ (call (Value.ref 70) _) _ _ _)); first | (k_unfold; (try dsimp only)) | walk1 | (dsimp only; walk1) | (leave1; (try dsimp only)))
      refine odd_c (h₀ := g) X' T' F2.keep (by assumption) fun t6 h6 tk6 kk6 => ?_
      have F3 := F2.keeps kk6
      have N3 := N2.keeps kk6
      clear F2 N2
      repeat' ((fail_if_success (with_reducible show LCg.CompEnd ..)); first | (k_unfold; (try dsimp only)) | walk1 | (dsimp only; walk1) | (leave1; (try dsimp only)))
      exact LCg.CompEnd.intro F3 N3 _ (fun _ hp => hp) off (.inl hL) ⟨rfl, _, _, rfl, odd_lo _, odd_hi _⟩
    case fin3 =>
    intro ys hl9 hR9 D9 h5 tk5 F6 N6 O6
    obtain ⟨y0, y1, y2, rfl⟩ := ex3 (hl9.trans (by rw [List.size_toArray, hlen]))
    obtain ⟨b0, s0, rfl, p0, q0⟩ := hR9 0 _ rfl
    obtain ⟨b1, s1, rfl, p1, q1⟩ := hR9 1 _ rfl
    obtain ⟨b2, s2, rfl, p2, q2⟩ := hR9 2 _ rfl
    clear hR9 hl9
    simp only [LCg.Off1, and_true] at O6
    repeat' ((fail_if_success (with_reducible show wpAny _ _ (subscriptTail (Expr.Name (PySem.Str.ofString "values") _) _ _ _) _ _ _)); first | (k_unfold; (try dsimp only)) | walk1 | (dsimp only; walk1) | (leave1; (try dsimp only)))
    refine item_row (by k_asm) hL2 h8 (show (0:Int) ≤ b0 + 2 * b1 + 4 * b2 by omega) (show b0 + 2 * b1 + 4 * b2 < (8:Int) by omega) ?_
    intro tt
    generalize hxv : vals.getD _ 0 = xv
    have hxb : 0 ≤ xv ∧ xv < 4 := hxv ▸ hv _
    clear hxv
    repeat' ((fail_if_success (with_reducible show wpAny _ _ (call (Value.builtin "list.append") _) _ _ _)); first | (k_unfold; (try dsimp only)) | walk1 | (dsimp only; walk1) | (leave1; (try dsimp only)))
    refine append_K F6 N6 (.tail (Ne.symm O6.2.1) (.tail (Ne.symm hIl) (.head (by simp only [List.forall_mem_cons, List.not_mem_nil, false_implies, implies_true, and_true]; exact Nat.ne_of_lt l1)))) ?_ hsz
    intro h9 F9 N9
    clear hret
    repeat' ((fail_if_success (with_reducible show _ ∧ ∃ _, _)); first | (k_unfold; (try dsimp only)) | walk1 | (dsimp only; walk1) | (leave1; (try dsimp only)))
    refine ⟨rfl, h9, _, rfl, ⟨some (.ref D9), vv ++ [.int xv tt], row ++ [xv], oc5, _, ?_, (fun p hp => ?_), ints_snoc a1, (by rw [List.length_append, a2]; rfl), (fun r hr => ?_), d5⟩, (N9 _ (.tail _ (.head _))).1⟩
    · have q := F9.ns
      refine ⟨?_, F9.keep, F9.above⟩
      refine Eq.mp (congrArg (fun m => h9.Ns L' m) (funext fun y => ?_)) q
      by_cases hy : y = PySem.Str.ofString "signs"
      · simp only [hy, if_true]
      · simp only [hy, if_false]
    · rw [← LCg.lst_snoc] at hp
      simp only [List.mem_cons, List.not_mem_nil, or_false] at hp
      rcases hp with rfl | rfl
      · exact N9 _ (.tail _ (.tail _ (.head _)))
      · exact N9 _ (.tail _ (.tail _ (.tail _ (.head _))))
    · rcases List.mem_append.mp hr with hr | hr
      · exact a3 r hr
      · rw [List.mem_singleton.mp hr]; exact hxb
  case done =>
    rintro h tk9 ⟨sg, vv, row, oc, v, Fi, Ni, a1, a2, a3, a4⟩
    dsimp only [mOf] at Fi ⊢
    clear Nz Fz
    repeat' ((fail_if_success (with_reducible show Q _ _)); first | (k_unfold; (try dsimp only)) | walk1 | (dsimp only; walk1) | (leave1; (try dsimp only)))
    dsimp only
    exact hret row a2 (fun i => by
      rw [List.getD_eq_getElem?_getD]
      cases q : row[i]? with
      | none => exact ⟨by decide, by decide⟩
      | some r => exact a3 r (List.mem_of_getElem? q)) _ vv _ _ (fun b o e => Fi.keep b o (hkg b o e)) a1 (Ni _ (.head _)).1 (fresh_of hkg (Ni _ (.head _)).2.2)
end
end Mine
end

/-! ## Tup -/
section
open PySem PySem.W PySem.Spec PySem.Calls PyProof.Rows
set_option Elab.async false
set_option maxRecDepth 100000
set_option maxHeartbeats 8000000
namespace Mine
/-- a tuple of two ints -/
def TP (h : Heap) (a : Addr) (x y : Int) : Prop := ∃ o t u n, h.get? a = some o ∧ o.cls = .type "tuple" ∧ o.data = .seq #[.int x t, .int y u] n
theorem TP.keep {h h' : Heap} {a : Addr} {x y : Int} (p : TP h a x y) (k : Keep h h') : TP h' a x y := let ⟨o, t, u, n, e, r⟩ := p; ⟨o, t, u, n, k _ _ e, r⟩
section
variable {prog : Program} {w : World} {A : Around} {E : Value → Shared → Prop} {s : Shared} {a b : Addr} {x y x' y' : Int}
theorem TP.typeIs (p : TP s.heap a x y) : s.TypeIs (.ref a) "tuple" := by
  obtain ⟨o, t, u, n, e, c, d⟩ := p
  exact ⟨o, e, c⟩
theorem lt_tree {P : Fin → Shared → Prop} (p : TP s.heap a x y) (q : TP s.heap b x' y') (h : P (.done (.ret (.bool (decide (x < x' ∨ x = x' ∧ y < y'))))) s) :
    wpAny (model prog w) A (Builtin.«tuple.__lt__» ⟨[.ref a, .ref b], []⟩) P E s := by
  have hTb := q.typeIs
  obtain ⟨oa, t, u, n, hoa, _, hda⟩ := p
  obtain ⟨ob, t', u', n', hob, _, hdb⟩ := q
  show wpAny _ _ (isInstance (.ref b) (.type "tuple") >>= _) _ _ s
  refine wpAny_bind (wpAny_isInstance hTb isSubtype_tuple_tuple ?_)
  simp only [Bool.not_true, Bool.false_eq_true, if_false]
  refine wpAny_bind (wpAny_tupleItemsOf hoa hda ?_)
  refine wpAny_bind (wpAny_tupleItemsOf hob hdb ?_)
  refine wpAny_bind ?_
  simp only [List.zip_cons_cons, List.zip_nil_left, List.forIn_cons, List.forIn_nil]
  refine wpAny_bind (wpAny_bind (wpAny_eqBool_int ?_))
  by_cases hx : x = x'
  · subst hx
    simp only [beq_self_eq_true, Bool.not_true, Bool.false_eq_true, if_false]
    refine wpAny_pure ?_
    dsimp only
    refine wpAny_bind (wpAny_bind (wpAny_eqBool_int ?_))
    by_cases hy : y = y'
    · subst hy
      simp only [beq_self_eq_true, Bool.not_true, Bool.false_eq_true, if_false]
      refine wpAny_pure ?_
      dsimp only
      refine wpAny_pure ?_
      dsimp only
      refine wpAny_pure ?_
      have e : decide (x < x ∨ x = x ∧ y < y) = false := by simp
      rw [e] at h
      exact h
    · have : (y == y') = false := by simp [hy]
      rw [this]
      simp only [Bool.not_false, if_true]
      refine wpAny_bind (wpAny_rule (wpAny_bind ?_))
      (show wpAny _ _ (compareOp .Lt _ _) _ _ s)
      refine PySem.P.lt_int ?_
      refine wpAny_bind (wpAny_pure (wpAny_pure ?_))
      dsimp only
      refine wpAny_pure ?_
      dsimp only
      refine wpAny_pure ?_
      have e : decide (x < x ∨ x = x ∧ y < y') = decide (y < y') := by simp
      rw [e] at h
      exact h
  · have : (x == x') = false := by simp [hx]
    rw [this]
    simp only [Bool.not_false, if_true]
    refine wpAny_bind (wpAny_rule (wpAny_bind ?_))
    (show wpAny _ _ (compareOp .Lt _ _) _ _ s)
    refine PySem.P.lt_int ?_
    refine wpAny_bind (wpAny_pure (wpAny_pure ?_))
    dsimp only
    refine wpAny_pure ?_
    dsimp only
    refine wpAny_pure ?_
    have e : decide (x < x' ∨ x = x' ∧ y < y') = decide (x < x') := by simp [hx]
    rw [e] at h
    exact h
theorem lt_tp {Q : Value → Shared → Prop} (hu : A.units < cLine) (p : TP s.heap a x y) (q : TP s.heap b x' y') (h : Q (.bool (decide (x < x' ∨ x = x' ∧ y < y'))) s) :
    wpAny (model prog w) A (compareOp .Lt (.ref a) (.ref b)) Q E s :=
  wpAny_richCompare_same_room (op := .Lt) p.typeIs q.typeIs F.slot_tuple_lt
      (wpAny_call_entry F.slot_tuple_lt p.typeIs F.entry_tuple_lt (lt_tree p q ⟨_, rfl, (fun e => nomatch e), h⟩) (F.args_tuple_lt_2 _ _)) hu
end
end Mine
end

/-! ## Srt -/
section
open PySem PySem.W PySem.Spec PySem.Calls PyProof.Rows
set_option Elab.async false
set_option maxRecDepth 100000
set_option maxHeartbeats 8000000
namespace Mine
section
variable {n : Nat} {κ : Nat → Int} {cmp : Nat → Nat → (Bool → Shared → Prop) → Shared → Prop} {s : Shared}
   (hinj : ∀ i j, i < n → j < n → κ i = κ j → i = j) (hc : ∀ i j C, i < n → j < n → C (decide (κ i < κ j)) s → cmp i j C s)
def PR (n : Nat) (p : Array Nat) : Prop := p.toList.Perm (List.range n)
abbrev KP (κ : Nat → Int) (p : Array Nat) (i : Nat) : Int := κ (p.getD i 0)
abbrev Asc (κ : Nat → Int) (p : Array Nat) (m : Nat) : Prop := ∀ i j, i < j → j < m → KP κ p i < KP κ p j
abbrev Dsc (κ : Nat → Int) (p : Array Nat) (m : Nat) : Prop := ∀ i j, i < j → j < m → KP κ p j < KP κ p i
theorem PR.size {p : Array Nat} (h : PR n p) : p.size = n := by have := h.length_eq; simpa using this
theorem getD_at {p : Array Nat} {i : Nat} (hi : i < p.size) : p.getD i 0 = p[i] := by simp [Array.getD, hi]
theorem PR.lt {p : Array Nat} (h : PR n p) {i : Nat} (hi : i < n) : p.getD i 0 < n := by
  have hs := h.size
  have hi' : i < p.size := by omega
  rw [getD_at hi']
  exact List.mem_range.mp (h.mem_iff.mp (by simp))
theorem PR.inj {p : Array Nat} (h : PR n p) {i j : Nat} (hi : i < n) (hj : j < n) (e : p.getD i 0 = p.getD j 0) : i = j := by
  have hs := h.size
  have nd : p.toList.Nodup := h.nodup_iff.mpr List.nodup_range
  have hi' : i < p.size := by omega
  have hj' : j < p.size := by omega
  rw [getD_at hi', getD_at hj'] at e
  exact (List.getElem_inj (h₀ := by simpa using hi') (h₁ := by simpa using hj') nd).mp (by simpa using e)
theorem getD_opt {p q : Array Nat} {i j : Nat} (h : p[i]? = q[j]?) : p.getD i 0 = q.getD j 0 := by
  rw [Array.getD_eq_getD_getElem?, Array.getD_eq_getD_getElem?, h]
include hinj in
theorem PR.ne {p : Array Nat} (h : PR n p) {i j : Nat} (hi : i < n) (hj : j < n) (hij : i ≠ j) : KP κ p i ≠ KP κ p j := fun e => hij (h.inj hi hj (hinj _ _ (h.lt hi) (h.lt hj) e))
include hinj hc
theorem asc_wp {p : Array Nat} (hp : PR n p) {Q : Nat → Shared → Prop} : ∀ f m, 1 ≤ m → m + f = n → Asc κ p m → (∀ m', m ≤ m' → m' ≤ n → Asc κ p m' → (m' < n → KP κ p m' < KP κ p (m' - 1)) → Q m' s) → (kas_asc p f m).kasWp cmp Q s
  | 0, m, _, h2, ha, h => h m (Nat.le_refl _) (by omega) ha (by omega)
  | f + 1, m, h1, h2, ha, h => by
    refine hc _ _ _ (hp.lt (by omega)) (hp.lt (by omega)) ?_
    by_cases hq : KP κ p m < KP κ p (m - 1)
    · rw [show decide (κ (p.getD m 0) < κ (p.getD (m - 1) 0)) = true from decide_eq_true hq]; dsimp only; rw [if_pos rfl]
      exact h m (Nat.le_refl _) (by omega) ha fun _ => hq
    · rw [show decide (κ (p.getD m 0) < κ (p.getD (m - 1) 0)) = false from decide_eq_false hq]; dsimp only; rw [if_neg (by simp)]
      have hne := hp.ne hinj (i := m) (j := m - 1) (by omega) (by omega) (by omega)
      refine asc_wp hp f (m + 1) (by omega) (by omega) (fun i j hij hj => ?_) fun m' l1 => h m' (by omega)
      by_cases hjm : j = m
      · subst hjm
        by_cases him : i = j - 1
        · subst him; omega
        · have := ha i (j - 1) (by omega) (by omega)
          omega
      · exact ha i j hij (by omega)
theorem desc_wp {p : Array Nat} (hp : PR n p) {Q : Array Nat × Nat × Nat → Shared → Prop} : ∀ f m, 1 ≤ m → m + f = n → Dsc κ p m → (∀ m', m ≤ m' → m' ≤ n → Dsc κ p m' → Q (p, m', 0) s) → (kas_desc f p m 0).kasWp cmp Q s
  | 0, m, _, h2, ha, h => h m (Nat.le_refl _) (by omega) ha
  | f + 1, m, h1, h2, ha, h => by
    refine hc _ _ _ (hp.lt (by omega)) (hp.lt (by omega)) ?_
    have hne := hp.ne hinj (i := m) (j := m - 1) (by omega) (by omega) (by omega)
    by_cases hq : KP κ p m < KP κ p (m - 1)
    · rw [show decide (κ (p.getD m 0) < κ (p.getD (m - 1) 0)) = true from decide_eq_true hq]; dsimp only; rw [if_pos rfl, if_neg (by decide)]
      refine desc_wp hp f (m + 1) (by omega) (by omega) (fun i j hij hj => ?_) fun m' l1 => h m' (by omega)
      by_cases hjm : j = m
      · subst hjm
        by_cases him : i = j - 1
        · subst him; omega
        · have := ha i (j - 1) (by omega) (by omega)
          omega
      · exact ha i j hij (by omega)
    · rw [show decide (κ (p.getD m 0) < κ (p.getD (m - 1) 0)) = false from decide_eq_false hq]; dsimp only; rw [if_neg (by simp)]
      refine hc _ _ _ (hp.lt (by omega)) (hp.lt (by omega)) ?_
      have hq2 : KP κ p (m - 1) < KP κ p m := by omega
      rw [show decide (κ (p.getD (m - 1) 0) < κ (p.getD m 0)) = true from decide_eq_true hq2]; dsimp only; rw [if_pos rfl]
      exact h m (Nat.le_refl _) (by omega) ha
theorem tail3_wp {p : Array Nat} (hp : PR n p) {m : Nat} (h1 : 1 ≤ m) (hm : m ≤ n) (ha : Dsc κ p m) {Q : Nat × Array Nat → Shared → Prop} (h : ∀ m' p', PR n p' → 1 ≤ m' → m' ≤ n → Asc κ p' m' → Q (m', p') s) : (kas_tail3 m n p).kasWp cmp Q s := by
  unfold kas_tail3
  rw [KasT.kasWp_bind]
  have hp' : PR n (kas_rev p 0 m) := (Array.perm_iff_toList_perm.mp (mirror_perm _ _ _ _)).trans hp
  have hs := hp.size
  refine asc_wp hinj hc hp' _ _ h1 (by omega) (fun i j hij hj => ?_) fun m' l1 l2 l3 _ => h m' _ hp' (by omega) l2 l3
  have e : ∀ k, k < m → (kas_rev p 0 m).getD k 0 = p.getD (m - 1 - k) 0 := fun k hk => getD_opt (by
    rw [kas_rev, getElem?_mirror_all (by omega), if_pos ⟨Nat.zero_le _, hk⟩, Nat.zero_add])
  show κ _ < κ _
  rw [e i (by omega), e j (by omega)]
  exact ha (m - 1 - j) (m - 1 - i) (Nat.sub_lt_sub_left (Nat.lt_of_lt_of_le ‹i < j› (Nat.le_sub_one_of_lt ‹j < m›)) ‹i < j›) (by omega)
theorem count_wp {p : Array Nat} (hp : PR n p) (h2 : 2 ≤ n) {Q : Nat × Array Nat → Shared → Prop} (h : ∀ m' p', PR n p' → 1 ≤ m' → m' ≤ n → Asc κ p' m' → Q (m', p') s) : (kas_count n p).kasWp cmp Q s := by
  unfold kas_count
  rw [KasT.kasWp_bind]
  refine asc_wp hinj hc hp _ _ (Nat.le_refl _) (by omega) (fun i j hij hj => by omega) fun m l1 l2 l3 l4 => ?_
  by_cases e : m = n
  · subst e
    rw [if_pos (by simp)]
    exact h _ _ hp (by omega) (Nat.le_refl _) l3
  · rw [if_neg (by simp [e])]
    by_cases e1 : m > 1
    · rw [if_pos e1]
      refine hc _ _ _ (hp.lt (by omega)) (hp.lt (by omega)) ?_
      rw [show decide (κ (p.getD 0 0) < κ (p.getD (m - 1) 0)) = true from decide_eq_true (l3 0 (m - 1) (by omega) (by omega))]; dsimp only; rw [if_pos rfl]
      exact h _ _ hp (by omega) l2 l3
    · rw [if_neg e1]
      have e2 : m = 1 := by omega
      subst e2
      unfold kas_descPart
      rw [KasT.kasWp_bind]
      refine desc_wp hinj hc hp _ _ (by omega) (by omega) (fun i j hij hj => ?_) fun m' l5 l6 l7 => ?_
      · have : i = 0 ∧ j = 1 := by omega
        rw [this.1, this.2]
        exact l4 (by omega)
      · dsimp only
        rw [if_neg (by simp)]
        exact tail3_wp hinj hc hp (by omega) l6 l7 h
theorem place_wp {p : Array Nat} (hp : PR n p) {k : Nat} (hk : k < n) (ha : Asc κ p k) {Q : Nat → Shared → Prop} (h : ∀ l, l ≤ k → (∀ i, i < l → KP κ p i < KP κ p k) → (∀ i, l ≤ i → i < k → KP κ p k < KP κ p i) → Q l s) :
    ∀ f l r, l ≤ r → r ≤ k → r ≤ l + f → (∀ i, i < l → KP κ p i < KP κ p k) → (∀ i, r ≤ i → i < k → KP κ p k < KP κ p i) → (kas_place p k f l r).kasWp cmp Q s
  | 0, l, r, h1, h2, h3, h4, h5 => by
    have : l = r := by omega
    subst this
    exact h l h2 h4 h5
  | f + 1, l, r, h1, h2, h3, h4, h5 => by
    unfold kas_place
    by_cases e : l ≥ r
    · rw [if_pos e]
      have : l = r := by omega
      subst this
      exact h l h2 h4 h5
    · rw [if_neg e]
      refine hc _ _ _ (hp.lt (by omega)) (hp.lt (by omega)) ?_
      have hne := hp.ne hinj (i := k) (j := (l + r) / 2) (by omega) (by omega) (by omega)
      by_cases hq : KP κ p k < KP κ p ((l + r) / 2)
      · rw [show decide (κ (p.getD k 0) < κ (p.getD ((l + r) / 2) 0)) = true from decide_eq_true hq]; dsimp only; rw [if_pos rfl]
        refine place_wp hp hk ha h f l _ (by omega) (by omega) (by omega) h4 fun i hi hik => ?_
        by_cases e2 : i = (l + r) / 2
        · rw [e2]; exact hq
        · have := ha ((l + r) / 2) i (by omega) hik
          omega
      · rw [show decide (κ (p.getD k 0) < κ (p.getD ((l + r) / 2) 0)) = false from decide_eq_false hq]; dsimp only; rw [if_neg (by simp)]
        refine place_wp hp hk ha h f _ r (by omega) h2 (by omega) (fun i hi => ?_) h5
        by_cases e2 : i = (l + r) / 2
        · rw [e2]; omega
        · have := ha i ((l + r) / 2) (by omega) (by omega)
          omega
theorem bin_wp {Q : Array Nat → Shared → Prop} (h : ∀ p', PR n p' → Asc κ p' n → Q p' s) : ∀ f p k, PR n p → k + f = n → Asc κ p k → (kas_bin f p k).kasWp cmp Q s
  | 0, p, k, hp, hk, ha => h p hp (by have : k = n := by omega
                                      subst this; exact ha)
  | f + 1, p, k, hp, hk, ha => by
    unfold kas_bin
    rw [KasT.kasWp_bind]
    have hs := hp.size
    refine place_wp hinj hc hp (by omega) ha (fun l l1 l2 l3 => ?_) _ _ _ (Nat.zero_le _) (Nat.le_refl _) (by omega) (fun i hi => by omega) (fun i hi hik => by omega)
    have hp' : PR n (bubble p k (k - l)) := (Array.perm_iff_toList_perm.mp (bubble_perm _ _ _)).trans hp
    refine bin_wp h f _ (k + 1) hp' (by omega) fun i j hij hj => ?_
    have e : ∀ i, i < k + 1 → (bubble p k (k - l)).getD i 0 = if i = l then p.getD k 0 else if l < i then p.getD (i - 1) 0 else p.getD i 0 := fun i hi => by
      have := getElem?_bubble (xs := p) (src := k) (by omega) (k - l) (by omega) i
      rw [show k - (k - l) = l by omega] at this
      by_cases c1 : i = l
      · rw [if_pos c1] at this ⊢; exact getD_opt this
      · rw [if_neg c1] at this ⊢
        by_cases c2 : l < i
        · rw [if_pos ⟨c2, by omega⟩] at this; rw [if_pos c2]; exact getD_opt this
        · rw [if_neg (by omega)] at this; rw [if_neg c2]; exact getD_opt this
    show κ _ < κ _
    rw [e i (by omega), e j (by omega)]
    have A1 := fun a b => ha a b
    by_cases c1 : i = l
    · rw [if_pos c1, if_neg (by omega), if_pos (by omega)]
      exact l3 _ (by omega) (by omega)
    · rw [if_neg c1]
      by_cases c2 : j = l
      · rw [if_pos c2, if_neg (by omega)]
        exact l2 _ (by omega)
      · rw [if_neg c2]
        by_cases c3 : l < i
        · rw [if_pos c3, if_pos (by omega)]
          exact ha _ _ (by omega) (by omega)
        · rw [if_neg c3]
          by_cases c4 : l < j
          · rw [if_pos c4]
            exact ha _ _ (by omega) (by omega)
          · rw [if_neg c4]
            exact ha _ _ hij (by omega)
theorem sort_wp (h2 : 2 ≤ n) {Q : Array Nat → Shared → Prop} (h : ∀ p', PR n p' → Asc κ p' n → Q p' s) : (kas_sort n).kasWp cmp Q s := by
  unfold kas_sort
  rw [KasT.kasWp_bind]
  refine count_wp hinj hc (by show ((List.range n).toArray.toList).Perm _; simp) h2 fun m p hp l1 l2 ha => ?_
  dsimp only
  by_cases e : m < n
  · rw [if_pos e]
    rw [show max m 1 = m by omega]
    exact bin_wp hinj hc h _ _ _ hp (by omega) ha
  · rw [if_neg e]
    have : m = n := by omega
    subst this
    exact h _ hp ha
end
end Mine
end

/-! ## Hp -/
section
open PySem PySem.W PySem.Spec PySem.Calls PyProof.Rows
set_option Elab.async false
set_option maxRecDepth 100000
set_option maxHeartbeats 8000000
namespace Mine
/-- c lies below s in the tree -/
inductive Des (s : Nat) : Nat → Prop
  | self : Des s s
  | child {c : Nat} : 1 ≤ c → Des s ((c - 1) / 2) → Des s c
theorem Des.le {s c : Nat} (h : Des s c) : s ≤ c := by
  induction h with
  | self => exact Nat.le_refl _
  | child h1 _ ih => omega
theorem Des.up {s c : Nat} (h : Des s c) (hc : s < c) : 1 ≤ c ∧ Des s ((c - 1) / 2) := by
  cases h with
  | self => omega
  | child h1 h2 => exact ⟨h1, h2⟩
section
variable (key : Addr → Int) (as : List Addr)
abbrev KA (i : Nat) : Int := key (as.getD i 0)
/-- the heap's order, from s on -/
def HF (s : Nat) : Prop := ∀ c, c < as.length → 1 ≤ c → s ≤ (c - 1) / 2 → KA key as ((c - 1) / 2) ≤ KA key as c
/-- the same, but at p -/
def HP (s p : Nat) : Prop := ∀ c, c < as.length → 1 ≤ c → s ≤ (c - 1) / 2 → (p = s → (c - 1) / 2 ≠ s) → KA key as ((c - 1) / 2) ≤ KA key as c
/-- the hole at p, to be filled with what has key x -/
def HD (s p : Nat) (x : Int) : Prop := (∀ c, c < as.length → 1 ≤ c → s ≤ (c - 1) / 2 → (c - 1) / 2 ≠ p → c ≠ p → KA key as ((c - 1) / 2) ≤ KA key as c) ∧
  (∀ c, c < as.length → 1 ≤ c → (c - 1) / 2 = p → x ≤ KA key as c) ∧ (p ≠ s → ∀ c, c < as.length → 1 ≤ c → (c - 1) / 2 = p → KA key as ((p - 1) / 2) ≤ KA key as c)
end
theorem ka_set {key : Addr → Int} {as : List Addr} {i j : Nat} {a : Addr} (hj : j < as.length) : KA key (as.set i a) j = if i = j then key a else KA key as j := by
  have h2 : j < (as.set i a).length := by simpa using hj
  have e1 : (as.set i a).getD j 0 = (as.set i a)[j] := by simp [hj]
  have e2 : as.getD j 0 = as[j] := by simp [hj]
  show key _ = if i = j then key a else key _
  rw [e1, e2, List.getElem_set]
  split <;> rfl
theorem set_perm {as : List Addr} {i j : Nat} {a : Addr} (hi : i < as.length) (hj : j < as.length) (hij : i ≠ j) : ((as.set i (as.getD j 0)).set j a).Perm (as.set i a) := by
  have h := List.set_set_perm (as := as.set i a) (i := i) (j := j) (by simpa using hi) (by simpa using hj)
  have e : as.getD j 0 = as[j] := by simp [hj]
  rw [e]
  simpa [List.getElem_set, hij, List.set_set] using h
theorem hd_step {key : Addr → Int} {as : List Addr} {s p : Nat} {x : Int} (h : HD key as s p x) (hp : p < as.length) (hs : s < p) (hd : Des s p) (hx : x < KA key as ((p - 1) / 2)) :
    HD key (as.set p (as.getD ((p - 1) / 2) 0)) s ((p - 1) / 2) x ∧ Des s ((p - 1) / 2) := by
  obtain ⟨h1, hd'⟩ := hd.up hs
  obtain ⟨A, B, C⟩ := h
  have hq := hd'.le
  have hqp : (p - 1) / 2 < p := by omega
  have ks : ∀ j, j < as.length → KA key (as.set p (as.getD ((p - 1) / 2) 0)) j = if p = j then KA key as ((p - 1) / 2) else KA key as j := fun j hj => ka_set hj
  refine ⟨⟨fun c c1 c2 c3 c4 c5 => ?_, fun c c1 c2 c3 => ?_, fun hne c c1 c2 c3 => ?_⟩, hd'⟩
  · rw [List.length_set] at c1
    rw [ks _ (by omega), ks _ c1]
    have e1 : p ≠ c := fun e => by subst e; exact c4 rfl
    rw [if_neg e1]
    by_cases e2 : p = (c - 1) / 2
    · rw [if_pos e2]; exact C (by omega) c c1 c2 e2.symm
    · rw [if_neg e2]; exact A c c1 c2 c3 (Ne.symm e2) (Ne.symm e1)
  · rw [List.length_set] at c1
    rw [ks _ c1]
    by_cases e : p = c
    · rw [if_pos e]; omega
    · rw [if_neg e]
      have := A c c1 c2 (by omega) (by omega) (Ne.symm e)
      rw [c3] at this
      omega
  · rw [List.length_set] at c1
    rw [ks _ (by omega), ks _ c1, if_neg (by omega)]
    have h3 := hd'.up (by omega)
    have h4 := h3.2.le
    have h5 := A ((p - 1) / 2) (by omega) h3.1 h4 (by omega) (by omega)
    by_cases e : p = c
    · rw [if_pos e]; exact h5
    · rw [if_neg e]
      have := A c c1 c2 (by omega) (by omega) (Ne.symm e)
      rw [c3] at this
      omega
theorem hd_end {key : Addr → Int} {as : List Addr} {s p : Nat} {a : Addr} (h : HD key as s p (key a)) (hp : p < as.length) (hd : Des s p) (hx : s < p → KA key as ((p - 1) / 2) ≤ key a) : HF key (as.set p a) s := by
  obtain ⟨A, B, C⟩ := h
  intro c c1 c2 c3
  rw [List.length_set] at c1
  rw [ka_set (by omega), ka_set c1]
  by_cases e : p = c
  · rw [if_pos e, if_neg (by omega), ← e]
    have := hd.le
    exact hx (by omega)
  · rw [if_neg e]
    by_cases e2 : p = (c - 1) / 2
    · rw [if_pos e2]; exact B c c1 c2 e2.symm
    · rw [if_neg e2]; exact A c c1 c2 c3 (Ne.symm e2) (Ne.symm e)
theorem hp_step {key : Addr → Int} {as : List Addr} {s p c : Nat} (h : HP key as s p) (hd : Des s p) (hc : c < as.length) (hpc : c = 2 * p + 1 ∨ c = 2 * p + 2)
    (hmin : ∀ c', c' < as.length → c' = 2 * p + 1 ∨ c' = 2 * p + 2 → KA key as c ≤ KA key as c') :
    HP key (as.set p (as.getD c 0)) s c ∧ Des s c := by
  have hle := hd.le
  have hcp : (c - 1) / 2 = p := by rcases hpc with rfl | rfl <;> omega
  have hlt : p < c := by rcases hpc with rfl | rfl <;> omega
  clear hpc
  have ks : ∀ j, j < as.length → KA key (as.set p (as.getD c 0)) j = if p = j then KA key as c else KA key as j := fun j hj => ka_set hj
  refine ⟨fun d c1 c2 c3 c4 => ?_, .child (by omega) (by rw [hcp]; exact hd)⟩
  clear c4
  rw [List.length_set] at c1
  rw [ks _ (by omega), ks _ c1]
  by_cases e : p = d
  · rw [if_pos e, if_neg (by omega)]
    have h1 := h d c1 c2 c3 (by omega)
    have h2 := h c hc (by omega) (by omega) (by omega)
    rw [hcp, e] at h2
    omega
  · rw [if_neg e]
    by_cases e2 : p = (d - 1) / 2
    · rw [if_pos e2]; exact hmin d c1 (by omega)
    · rw [if_neg e2]; exact h d c1 c2 c3 (by omega)
theorem hp_end {key : Addr → Int} {as : List Addr} {s p : Nat} {a : Addr} (h : HP key as s p) (hp : p < as.length) (he : as.length ≤ 2 * p + 1) : HD key (as.set p a) s p (key a) := by
  refine ⟨fun c c1 c2 c3 c4 c5 => ?_, fun c c1 c2 c3 => ?_, fun hne c c1 c2 c3 => ?_⟩
  · rw [List.length_set] at c1
    rw [ka_set (by omega), ka_set c1, if_neg (Ne.symm c4), if_neg (Ne.symm c5)]
    exact h c c1 c2 c3 (by omega)
  · rw [List.length_set] at c1; omega
  · rw [List.length_set] at c1; omega
theorem hf_hp {key : Addr → Int} {as : List Addr} {s : Nat} (h : HF key as (s + 1)) : HP key as s s := fun c c1 c2 c3 c4 => h c c1 c2 (by have := c4 rfl; omega)
theorem hf_min {key : Addr → Int} {as : List Addr} (h : HF key as 0) : ∀ c, c < as.length → KA key as 0 ≤ KA key as c := by
  intro c
  induction c using Nat.strongRecOn with
  | ind c ih =>
    intro hc
    by_cases e : c = 0
    · subst e; exact Int.le_refl _
    · exact Int.le_trans (ih ((c - 1) / 2) (by omega) (by omega)) (h c hc (by omega) (Nat.zero_le _))
theorem set_self {as : List Addr} {i : Nat} (h : i < as.length) : as.set i (as.getD i 0) = as := by
  have e : as.getD i 0 = as[i] := by simp [h]
  rw [e, List.set_getElem_self]
theorem getD_set_ne {as : List Addr} {i j : Nat} {a : Addr} (h : i ≠ j) : (as.set i a).getD j 0 = as.getD j 0 := by
  simp [List.getElem?_set, h]
end Mine
end

/-! ## Sd0 -/
section
open PySem PySem.W PySem.Spec PySem.Calls PyProof.Rows
set_option Elab.async false
set_option maxRecDepth 100000
set_option maxHeartbeats 8000000
namespace Mine
/-- a list of objects -/
abbrev LO (as : List Addr) (n : Nat) : Obj := listOf (as.map Value.ref).toArray n
/-- a tuple's key -/
def TK (h : Heap) (a : Addr) (k : Int) : Prop := ∃ x y, TP h a x y ∧ 0 ≤ y ∧ y < 8 ∧ k = 8 * x + y
theorem TK.keep {h h' : Heap} {a : Addr} {k : Int} (p : TK h a k) (q : Keep h h') : TK h' a k := let ⟨x, y, e, r⟩ := p; ⟨x, y, e.keep q, r⟩
section
variable {prog : Program} {w : World} {A : Around} {E : Value → Shared → Prop} {s : Shared} {a b : Addr} {k k' : Int} {h₀ : Heap} {L l : Addr} {m : PySem.Str → Option Value} {news : List (Addr × Obj)} {as : List Addr} {n : Nat} {i : Int} {u : Tok} {value slice : PySem.Expr}
theorem lt_tk {Q : Value → Shared → Prop} (hu : A.units < cLine) (p : TK s.heap a k) (q : TK s.heap b k') (h : Q (.bool (decide (k < k'))) s) :
    wpAny (model prog w) A (compareOp .Lt (.ref a) (.ref b)) Q E s := by
  obtain ⟨x, y, p, p1, p2, rfl⟩ := p
  obtain ⟨x', y', q, q1, q2, rfl⟩ := q
  refine lt_tp hu p q ?_
  have : decide (x < x' ∨ x = x' ∧ y < y') = decide (8 * x + y < 8 * x' + y') := by
    apply decide_eq_decide.mpr; omega
  rw [this]; exact h
theorem lo_get {i : Nat} (hi : i < as.length) : (as.map Value.ref)[i]? = some (.ref (as.getD i 0)) := by simp [hi]
theorem get_as {Q : Value → Shared → Prop} (N : News h₀ L s.heap [(l, LO as n)]) (h0 : 0 ≤ i) (h1 : i < as.length) (h8 : as.length ≤ 8) (h : Q (.ref (as.getD i.toNat 0)) s)
    (hs : subscripted slice false (.ref l) (.int i u) = operate [.ref l, .int i u] (getItem (.ref l) (.int i u)) := by with_unfolding_all rfl) :
    wpAny (model prog w) A (subscriptTail value slice (.ref l) (.int i u)) Q E s := by
  have hl : s.heap.IsList l (as.map Value.ref).toArray := PySem.IsL.isList (n := n) (N _ (.head _)).1
  exact tail_any hl.typeIs slot_list_getitem.lookup (getItem_listL hl h0 (by omega) (lo_get (by omega)) h) hs
theorem ki_setL_map : ∀ {as : List Addr} {k : Nat} {a : Addr}, k < as.length → ki_setL (as.map Value.ref) k (.ref a) = some ((as.set k a).map Value.ref)
  | [], _, _, h => by simp at h
  | x :: r, 0, a, h => rfl
  | x :: r, k + 1, a, h => by
    simp only [List.map_cons, List.set_cons_succ, ki_setL]
    rw [ki_setL_map (by simpa using h)]
theorem set_as {Q : Unit → Shared → Prop} (F : Fr h₀ L s.heap m) (N : News h₀ L s.heap [(l, LO as n)]) (h0 : 0 ≤ i) (h1 : i < as.length) (h8 : as.length ≤ 8)
    (h : ∀ h', Fr h₀ L h' m → News h₀ L h' [(l, LO (as.set i.toNat a) n)] → Q () { s with heap := h' }) : wpAny (model prog w) A (setItem (.ref l) (.int i u) (.ref a)) Q E s :=
  ki_set F N h0 (by omega) (ki_setL_map (by omega)) (.head (fun _ h => nomatch h)) h
theorem rsh1 {p : Nat} {t u : Tok} {Q : Value → Shared → Prop} (hp : 1 ≤ p) (h : Q (.int (((p - 1) / 2 : Nat) : Int) s.toks) { s with toks := s.toks + 1 }) : wpAny (model prog w) A (binaryOp .RShift (.int ((p : Int) - 1) t) (.int 1 u)) Q E s := by
  refine PySem.wpAny_rshift1_int (by omega) ?_
  rw [show ((p : Int) - 1) / 2 = (((p - 1) / 2 : Nat) : Int) by omega]
  exact h
theorem getD_mem {i : Nat} (h : i < as.length) : as.getD i 0 ∈ as := by
  have e : as.getD i 0 = as[i] := by simp [h]
  rw [e]; exact List.getElem_mem h
theorem tk_at {g : Heap} {key : Addr → Int} {i : Nat} (hT : ∀ a ∈ as, TK g a (key a)) (h : i < as.length) : TK g (as.getD i 0) (key (as.getD i 0)) := hT _ (getD_mem h)
theorem len_as {Q : Value → Shared → Prop} (N : News h₀ L s.heap [(l, LO as n)]) (h8 : as.length ≤ 8) (h : Q (.int (as.length : Nat) (s.toks + 1)) { s with toks := s.toks + 1 + 1 }) : wpAny (model prog w) A (call (.builtin "len") [.ref l]) Q E s := by
  have e : (as.map Value.ref).toArray.size = as.length := by simp
  exact Calls.call_len_list (PySem.IsL.isList (n := n) (N _ (.head _)).1) (by rw [e]; omega) (by rw [e]; exact h)
theorem tru_as {Q : Bool → Shared → Prop} (N : News h₀ L s.heap news) (hm : (l, LO as n) ∈ news) (h8 : as.length ≤ 8) (h : Q (decide (0 < as.length)) { s with toks := s.toks + 1 + 1 }) : wpAny (model prog w) A (truthy (.ref l)) Q E s := by
  refine wpAny_truthy_list (PySem.IsL.isList (n := n) (N _ hm).1) (by simp; omega) ?_
  have e : (!(as.map Value.ref).toArray.isEmpty) = decide (0 < as.length) := by cases as <;> simp
  rw [e]; exact h
theorem kl_last_map : ∀ (as : List Addr) (a : Addr), kl_last ((as ++ [a]).map Value.ref) = some (as.map Value.ref, .ref a)
  | [], a => rfl
  | x :: r, a => by
    show kl_last (Value.ref x :: (r ++ [a]).map Value.ref) = _
    unfold kl_last
    rw [kl_last_map r a]
    rfl
theorem pop_as {a : Addr} {Q : Value → Shared → Prop} (F : Fr h₀ L s.heap m) (N : News h₀ L s.heap [(l, LO (as ++ [a]) n)]) (h8 : as.length ≤ 8)
    (h : ∀ h', Fr h₀ L h' m → News h₀ L h' [(l, LO as (n + 1))] → Q (.ref a) { s with heap := h' }) : wpAny (model prog w) A (call (.builtin "list.pop") [.ref l]) Q E s :=
  kl_pop F N (kl_last_map as a) (.head (fun _ h => nomatch h)) (by simp [sizeLine_eq]; omega) h
end
end Mine
end

/-! ## Sd -/
section
open PySem PySem.W PySem.Spec PySem.Calls PyProof.Rows
set_option Elab.async false
set_option maxRecDepth 100000
set_option maxHeartbeats 8000000
namespace Mine
example : True := by
  w_top off
  trivial
example (w : World) : Mine.hd.heap_39 w.params = Mine.hd.heap_39 w.params ∧ PySem.Challenge.rw_op0017_01.prog = PySem.Challenge.rw_op0017_01.prog := by
  k_fill
  exact ⟨rfl, rfl⟩
section
variable {b : Bool} {prog : Program} {w : World} {mean : ExcName → Option Value} {mg mb : PySem.Str → Option Value}
   {dp un : Nat} {fr : Option (List Env)} {gd : Option (List Code)} {h₀ : Heap} {s : Shared} {Q E : Value → Shared → Prop}
   (X : (Mine.hd.heap_39 w.params).In h₀) (T : Top Mine.hd.view_39 (looseW Mine.hd.view_39 [PySem.Str.ofString "_initial_missing", PySem.Str.ofString "reduce"]) mean mg mb h₀)
   (hk : ∀ b o, h₀.get? b = some o → s.heap.get? b = some o)
include X T hk
theorem sd_c (hd : dp < recursionLimit) (hu : un + 100 < cLine) {l : Addr} {as : List Addr} {n : Nat} (e : s.heap.get? l = some (LO as n)) (e0 : h₀.get? l = none) {key : Addr → Int} (hT : ∀ a ∈ as, TK h₀ a (key a)) (h8 : as.length ≤ 8)
   {sp p : Nat} {t u : Tok} (hp : p < as.length) (hD : HD key as sp p (KA key as p)) (hDes : Des sp p)
   (hret : ∀ as' n' h' tk', as'.Perm as → HF key as' sp → (∀ b o, b ≠ l → s.heap.get? b = some o → h'.get? b = some o) → h'.get? l = some (LO as' n') → Q .none { s with heap := h', toks := tk' }) :
   wpAny (model prog w) (AA dp un fr gd) (call (.ref 44) [.ref l, .int (sp : Nat) t, .int (p : Nat) u]) Q E s := by
  refine wpAny_call ?_
  k_dflt (refine' enter (news := [(l, LO as n)]) X T hk (fun q hq => by rw [List.mem_singleton.mp hq]; exact ⟨e, e0⟩) ?k6 ?k7 ?k8 ?k9 ?kB ?_ ?c2 ?c3 ?c4 ?c5; (case k6 => k_is); (case k7 => k_is); (case k8 => exact hd); (case k9 => first | exact BindsTo.of_eq rfl | exact binds_K (Frag.In.keeps X hk) rfl (by k_is) rfl rfl rfl); (case kB => exact locs rfl); (case c5 => decide); (case c2 => exact rfl); (case c3 => exact rfl); (case c4 => exact rfl))
  intro g L' h₁ hg hg' F N X' T' hl'
  (try dsimp only)
  (try k_fold)
  have hTg : ∀ a ∈ as, TK g a (key a) := fun a ha => (hT a ha).keep (fun b o q => hg b o (hk b o q) (by simp; intro q'; rw [q', e0] at q; cases q))
  repeat (fail_if_success (with_reducible show wpAny _ _ (exec (Stmt.While _ _ _ _) _) _ _ _)); (first | (k_unfold; (try dsimp only)) | ((with_reducible show wpAny _ _ (setItem (Value.ref _) (Value.int _ _) _) _ _ _); (refine set_as (by k_asm) (by k_asm) (by omega) (by omega) (by omega) ?_); intro _ _ _; (try dsimp only)) | ((with_reducible show wpAny _ _ (compareOp .Lt (Value.ref _) (Value.ref _)) _ _ _); (refine lt_tk (by simp only [units_deeper, units_in1, AA]; omega) (TK.keep (by first | assumption | exact tk_at (by assumption) (by omega)) (Fr.keep (by k_asm))) (TK.keep (by first | assumption | exact tk_at (by assumption) (by omega)) (Fr.keep (by k_asm))) ?_)) | ((with_reducible show wpAny _ _ (binaryOp .RShift _ _) _ _ _); (refine rsh1 (by omega) ?_); (try dsimp only)) | ((with_reducible show wpAny _ _ (subscriptTail _ _ (Value.ref _) (Value.int _ _)) _ _ _); (refine get_as (by k_asm) (by omega) (by omega) (by omega) ?_)) | walk1 | (dsimp only; first | ((with_reducible show wpAny _ _ (setItem (Value.ref _) (Value.int _ _) _) _ _ _); (refine set_as (by k_asm) (by k_asm) (by omega) (by omega) (by omega) ?_); intro _ _ _; (try dsimp only)) | ((with_reducible show wpAny _ _ (compareOp .Lt (Value.ref _) (Value.ref _)) _ _ _); (refine lt_tk (by simp only [units_deeper, units_in1, AA]; omega) (TK.keep (by first | assumption | exact tk_at (by assumption) (by omega)) (Fr.keep (by k_asm))) (TK.keep (by first | assumption | exact tk_at (by assumption) (by omega)) (Fr.keep (by k_asm))) ?_)) | ((with_reducible show wpAny _ _ (binaryOp .RShift _ _) _ _ _); (refine rsh1 (by omega) ?_); (try dsimp only)) | ((with_reducible show wpAny _ _ (subscriptTail _ _ (Value.ref _) (Value.int _ _)) _ _ _); (refine get_as (by k_asm) (by omega) (by omega) (by omega) ?_)) | walk1))

  rename_i h₂ F₂ N₂
  generalize hna : as.getD (↑p : Int).toNat 0 = na at F₂
  have hna' : as.getD p 0 = na := hna
  have hkn : KA key as p = key na := congrArg key hna'
  rw [hkn] at hD
  have hTn : TK g na (key na) := hTg _ (by rw [← hna']; simp [hp])
  refine ksw_while (σ := List Addr × Nat × Tok) (fun c => [(l, LO c.1 n)]) (fun c => [(PySem.Str.ofString "pos", .int (c.2.1 : Nat) c.2.2)]) (fun _ => True) [PySem.Str.ofString "parentpos", PySem.Str.ofString "parent", PySem.Str.ofString "pos"]
    (fun c => c.1.length = as.length ∧ c.2.1 < as.length ∧ (∀ a ∈ c.1, TK g a (key a)) ∧ HD key c.1 sp c.2.1 (key na) ∧ Des sp c.2.1 ∧ (c.1.set c.2.1 na).Perm as) (fun c => c.2.1) (as, p, u) F₂ N₂ trivial ?hk ?hp ?turn ?hE
  case hk => intro q hq; rw [List.mem_singleton.mp hq]; rfl
  case hp => exact ⟨rfl, hp, hTg, hD, hDes, by dsimp only; rw [← hna', set_self hp]⟩
  case hE => intro e s h; exact h.elim
  case turn =>
    rintro ⟨as', p', t'⟩ uu h tk _ ⟨c1, c2, c3, c4, c5, c6⟩ Fx Nx
    dsimp only at c1 c2 c3 c4 c5 c6 Nx
    dsimp only [kstB] at Fx
    clear N₂ F₂
    repeat' ((fail_if_success (with_reducible show Q _ _)); (fail_if_success (with_reducible show KswEnd _ _ _ _ _ _ _ _ _ _ _ _)); first | (k_unfold; (try dsimp only)) | ((with_reducible show wpAny _ _ (setItem (Value.ref _) (Value.int _ _) _) _ _ _); (refine set_as (by k_asm) (by k_asm) (by omega) (by omega) (by omega) ?_); intro _ _ _; (try dsimp only)) | ((with_reducible show wpAny _ _ (compareOp .Lt (Value.ref _) (Value.ref _)) _ _ _); (refine lt_tk (by simp only [units_deeper, units_in1, AA]; omega) (TK.keep (by first | assumption | exact tk_at (by assumption) (by omega)) (Fr.keep (by k_asm))) (TK.keep (by first | assumption | exact tk_at (by assumption) (by omega)) (Fr.keep (by k_asm))) ?_)) | ((with_reducible show wpAny _ _ (binaryOp .RShift _ _) _ _ _); (refine rsh1 (by omega) ?_); (try dsimp only)) | ((with_reducible show wpAny _ _ (subscriptTail _ _ (Value.ref _) (Value.int _ _)) _ _ _); (refine get_as (by k_asm) (by omega) (by omega) (by omega) ?_)) | walk1 | (dsimp only; first | ((with_reducible show wpAny _ _ (setItem (Value.ref _) (Value.int _ _) _) _ _ _); (refine set_as (by k_asm) (by k_asm) (by omega) (by omega) (by omega) ?_); intro _ _ _; (try dsimp only)) | ((with_reducible show wpAny _ _ (compareOp .Lt (Value.ref _) (Value.ref _)) _ _ _); (refine lt_tk (by simp only [units_deeper, units_in1, AA]; omega) (TK.keep (by first | assumption | exact tk_at (by assumption) (by omega)) (Fr.keep (by k_asm))) (TK.keep (by first | assumption | exact tk_at (by assumption) (by omega)) (Fr.keep (by k_asm))) ?_)) | ((with_reducible show wpAny _ _ (binaryOp .RShift _ _) _ _ _); (refine rsh1 (by omega) ?_); (try dsimp only)) | ((with_reducible show wpAny _ _ (subscriptTail _ _ (Value.ref _) (Value.int _ _)) _ _ _); (refine get_as (by k_asm) (by omega) (by omega) (by omega) ?_)) | walk1) | (leave1; (try dsimp only)))
    · rename_i hlt _ _ _ hkey _ _ F9 N9
      have hlt : sp < p' := by omega
      obtain ⟨d1, d2⟩ := hd_step (key := key) (as := as') c4 (by omega) hlt c5 hkey
      simp only [Int.toNat_natCast] at N9
      refine ksw_end (as'.set p' (as'.getD ((p' - 1) / 2) 0), (p' - 1) / 2, ?tok) F9 N9 (fun _ hp => hp) trivial ?k1 ?k2 ?k3 (by show (p' - 1) / 2 < p'; omega)
      case k1 => intro q hq; rw [List.mem_singleton.mp hq]; rfl
      case k2 => ksw_same
      case k3 =>
        refine ⟨by rw [List.length_set]; exact c1, (show (p' - 1) / 2 < as.length by omega), ?_, d1, d2, ?_⟩
        · intro a ha
          rcases List.mem_or_eq_of_mem_set ha with ha | rfl
          · exact c3 a ha
          · exact tk_at c3 (by omega)
        · exact (set_perm (by omega) (by omega) (by omega)).trans c6
    · rename_i hlt _ _ _ _ _ hkey _ F9 N9
      simp only [Int.toNat_natCast] at N9
      refine hret (as'.set p' na) n _ _ c6 (hd_end c4 (by omega) c5 fun _ => Int.not_lt.mp hkey) (fun b o hb q => ?_) (N9 _ (.head _)).1
      exact F9.keep _ _ (hg b o q (by simpa using hb))
    · rename_i hlt _ F9 N9
      simp only [Int.toNat_natCast] at N9
      refine hret (as'.set p' na) n _ _ c6 (hd_end c4 (by omega) c5 fun h => absurd h (by omega)) (fun b o hb q => ?_) (N9 _ (.head _)).1
      exact F9.keep _ _ (hg b o q (by simpa using hb))
end
end Mine
end

/-! ## Su -/
section
open PySem PySem.W PySem.Spec PySem.Calls PyProof.Rows
set_option Elab.async false
set_option maxRecDepth 100000
set_option maxHeartbeats 8000000
namespace Mine
example : True := by
  w_top off
  trivial
example (w : World) : Mine.hd.heap_39 w.params = Mine.hd.heap_39 w.params ∧ PySem.Challenge.rw_op0017_01.prog = PySem.Challenge.rw_op0017_01.prog := by
  k_fill
  exact ⟨rfl, rfl⟩
section
variable {b : Bool} {prog : Program} {w : World} {mean : ExcName → Option Value} {mg mb : PySem.Str → Option Value}
   {dp un : Nat} {fr : Option (List Env)} {gd : Option (List Code)} {h₀ : Heap} {s : Shared} {Q E : Value → Shared → Prop}
   (X : (Mine.hd.heap_39 w.params).In h₀) (T : Top Mine.hd.view_39 (looseW Mine.hd.view_39 [PySem.Str.ofString "_initial_missing", PySem.Str.ofString "reduce"]) mean mg mb h₀)
   (hk : ∀ b o, h₀.get? b = some o → s.heap.get? b = some o)
include X T hk
theorem su_c (hd : dp + 1 < recursionLimit) (hu : un + 200 < cLine) {l : Addr} {as : List Addr} {n : Nat} (e : s.heap.get? l = some (LO as n)) (e0 : h₀.get? l = none) {key : Addr → Int} (hT : ∀ a ∈ as, TK h₀ a (key a)) (h8 : as.length ≤ 8)
   {p : Nat} {u : Tok} (hp : p < as.length) (hF : HF key as (p + 1))
   (hret : ∀ as' n' h' tk', as'.Perm as → HF key as' p → (∀ b o, b ≠ l → s.heap.get? b = some o → h'.get? b = some o) → h'.get? l = some (LO as' n') → Q .none { s with heap := h', toks := tk' }) :
   wpAny (model prog w) (AA dp un fr gd) (call (.ref 51) [.ref l, .int (p : Nat) u]) Q E s := by
  refine wpAny_call ?_
  k_dflt (refine' enter (news := [(l, LO as n)]) X T hk (fun q hq => by rw [List.mem_singleton.mp hq]; exact ⟨e, e0⟩) ?k6 ?k7 ?k8 ?k9 ?kB ?_ ?c2 ?c3 ?c4 ?c5; (case k6 => k_is); (case k7 => k_is); (case k8 => exact (Nat.lt_of_succ_lt hd)); (case k9 => first | exact BindsTo.of_eq rfl | exact binds_K (Frag.In.keeps X hk) rfl (by k_is) rfl rfl rfl); (case kB => exact locs rfl); (case c5 => decide); (case c2 => exact rfl); (case c3 => exact rfl); (case c4 => exact rfl))
  intro g L' h₁ hg hg' F N X' T' hl'
  (try dsimp only)
  (try k_fold)
  have hTg : ∀ a ∈ as, TK g a (key a) := fun a ha => (hT a ha).keep (fun b o q => hg b o (hk b o q) (by simp; intro q'; rw [q', e0] at q; cases q))
  repeat (fail_if_success (with_reducible show wpAny _ _ (exec (Stmt.While _ _ _ _) _) _ _ _)); (first | (k_unfold; (try dsimp only)) | ((with_reducible show wpAny _ _ (call (Value.builtin "len") [Value.ref _]) _ _ _); (refine len_as (by k_asm) (by omega) ?_); (try dsimp only)) | ((with_reducible show wpAny _ _ (setItem (Value.ref _) (Value.int _ _) _) _ _ _); (refine set_as (by k_asm) (by k_asm) (by omega) (by omega) (by omega) ?_); intro _ _ _; (try dsimp only)) | ((with_reducible show wpAny _ _ (compareOp .Lt (Value.ref _) (Value.ref _)) _ _ _); (refine lt_tk (by simp only [units_deeper, units_in1, AA]; omega) (TK.keep (by first | assumption | exact tk_at (by assumption) (by omega)) (Fr.keep (by k_asm))) (TK.keep (by first | assumption | exact tk_at (by assumption) (by omega)) (Fr.keep (by k_asm))) ?_)) | ((with_reducible show wpAny _ _ (subscriptTail _ _ (Value.ref _) (Value.int _ _)) _ _ _); (refine get_as (by k_asm) (by omega) (by omega) (by omega) ?_)) | walk1 | (dsimp only; first | ((with_reducible show wpAny _ _ (call (Value.builtin "len") [Value.ref _]) _ _ _); (refine len_as (by k_asm) (by omega) ?_); (try dsimp only)) | ((with_reducible show wpAny _ _ (setItem (Value.ref _) (Value.int _ _) _) _ _ _); (refine set_as (by k_asm) (by k_asm) (by omega) (by omega) (by omega) ?_); intro _ _ _; (try dsimp only)) | ((with_reducible show wpAny _ _ (compareOp .Lt (Value.ref _) (Value.ref _)) _ _ _); (refine lt_tk (by simp only [units_deeper, units_in1, AA]; omega) (TK.keep (by first | assumption | exact tk_at (by assumption) (by omega)) (Fr.keep (by k_asm))) (TK.keep (by first | assumption | exact tk_at (by assumption) (by omega)) (Fr.keep (by k_asm))) ?_)) | ((with_reducible show wpAny _ _ (subscriptTail _ _ (Value.ref _) (Value.int _ _)) _ _ _); (refine get_as (by k_asm) (by omega) (by omega) (by omega) ?_)) | walk1))

  rename_i h₂ F₂ N₂
  generalize hna : as.getD (↑p : Int).toNat 0 = na at F₂
  have hna' : as.getD p 0 = na := hna
  have hkn : KA key as p = key na := congrArg key hna'
  have hTn : TK g na (key na) := hTg _ (by rw [← hna']; simp [hp])
  refine ksw_while (σ := List Addr × Nat × Tok × Tok) (fun c => [(l, LO c.1 n)]) (fun c => [(PySem.Str.ofString "pos", .int (c.2.1 : Nat) c.2.2.1), (PySem.Str.ofString "childpos", .int (2 * (c.2.1 : Nat) + 1) c.2.2.2)]) (fun _ => True) [PySem.Str.ofString "rightpos", PySem.Str.ofString "childpos", PySem.Str.ofString "pos"]
    (fun c => c.1.length = as.length ∧ c.2.1 < as.length ∧ (∀ a ∈ c.1, TK g a (key a)) ∧ HP key c.1 p c.2.1 ∧ Des p c.2.1 ∧ (c.1.set c.2.1 na).Perm as) (fun c => as.length - c.2.1) (as, p, ?t1, ?t2) F₂ N₂ trivial ?hk ?hp ?turn ?hE
  case hk => intro q hq; simp only [List.mem_cons, List.not_mem_nil, or_false] at hq; rcases hq with rfl | rfl <;> rfl
  case hp => exact ⟨rfl, hp, hTg, hf_hp hF, .self, by dsimp only; rw [← hna', set_self hp]⟩
  case hE => intro e s h; exact h.elim
  case turn =>
    rintro ⟨as', p', t', t''⟩ uu h tk _ ⟨c1, c2, c3, c4, c5, c6⟩ Fx Nx
    dsimp only at c1 c2 c3 c4 c5 c6 Nx
    dsimp only [kstB] at Fx
    clear N₂ F₂
    repeat' ((fail_if_success (with_reducible show Q _ _)); (fail_if_success (with_reducible show KswEnd _ _ _ _ _ _ _ _ _ _ _ _)); (fail_if_success (with_reducible show wpAny _ _ (call (Value.ref _) _) _ _ _)); first | (k_unfold; (try dsimp only)) | ((with_reducible show wpAny _ _ (call (Value.builtin "len") [Value.ref _]) _ _ _); (refine len_as (by k_asm) (by omega) ?_); (try dsimp only)) | ((with_reducible show wpAny _ _ (setItem (Value.ref _) (Value.int _ _) _) _ _ _); (refine set_as (by k_asm) (by k_asm) (by omega) (by omega) (by omega) ?_); intro _ _ _; (try dsimp only)) | ((with_reducible show wpAny _ _ (compareOp .Lt (Value.ref _) (Value.ref _)) _ _ _); (refine lt_tk (by simp only [units_deeper, units_in1, AA]; omega) (TK.keep (by first | assumption | exact tk_at (by assumption) (by omega)) (Fr.keep (by k_asm))) (TK.keep (by first | assumption | exact tk_at (by assumption) (by omega)) (Fr.keep (by k_asm))) ?_)) | ((with_reducible show wpAny _ _ (subscriptTail _ _ (Value.ref _) (Value.int _ _)) _ _ _); (refine get_as (by k_asm) (by omega) (by omega) (by omega) ?_)) | walk1 | (dsimp only; first | ((with_reducible show wpAny _ _ (call (Value.builtin "len") [Value.ref _]) _ _ _); (refine len_as (by k_asm) (by omega) ?_); (try dsimp only)) | ((with_reducible show wpAny _ _ (setItem (Value.ref _) (Value.int _ _) _) _ _ _); (refine set_as (by k_asm) (by k_asm) (by omega) (by omega) (by omega) ?_); intro _ _ _; (try dsimp only)) | ((with_reducible show wpAny _ _ (compareOp .Lt (Value.ref _) (Value.ref _)) _ _ _); (refine lt_tk (by simp only [units_deeper, units_in1, AA]; omega) (TK.keep (by first | assumption | exact tk_at (by assumption) (by omega)) (Fr.keep (by k_asm))) (TK.keep (by first | assumption | exact tk_at (by assumption) (by omega)) (Fr.keep (by k_asm))) ?_)) | ((with_reducible show wpAny _ _ (subscriptTail _ _ (Value.ref _) (Value.int _ _)) _ _ _); (refine get_as (by k_asm) (by omega) (by omega) (by omega) ?_)) | walk1) | (leave1; (try dsimp only)))
    · rename_i hkey _ _ _ F9 N9
      have e1 : (2 * (p' : Int) + 1) = ((2 * p' + 1 : Nat) : Int) := by omega
      have e2 : (((2 * p' + 1 : Nat) : Int) + 1) = ((2 * p' + 2 : Nat) : Int) := by omega
      simp only [e1, e2, Int.toNat_natCast] at F9 N9 hkey
      obtain ⟨d1, d2⟩ := hp_step (key := key) (c := 2 * p' + 1) c4 c5 (by omega) (by omega) (fun c' h1 h2 => by
        rcases h2 with rfl | rfl
        · exact Int.le_refl _
        · exact Int.le_of_lt hkey)
      refine ksw_end (as'.set p' (as'.getD (2 * p' + 1) 0), 2 * p' + 1, ?t1a, ?t2a) F9 N9 (fun _ hp => hp) trivial ?k1a ?k2a ?k3a (show as.length - (2 * p' + 1) < as.length - p' from Nat.sub_lt_sub_left c2 (show p' < 2 * p' + 1 by omega))
      case k1a => intro q hq; simp only [List.mem_cons, List.not_mem_nil, or_false] at hq; rcases hq with rfl | rfl <;> rfl
      case k2a => ksw_same
      case k3a =>
        refine ⟨by rw [List.length_set]; exact c1, (show 2 * p' + 1 < as.length by omega), ?_, d1, d2, ?_⟩
        · intro a ha
          rcases List.mem_or_eq_of_mem_set ha with ha | rfl
          · exact c3 a ha
          · exact tk_at c3 (by omega)
        · exact (set_perm (by omega) (by omega) (by omega)).trans c6
    · rename_i hkey _ _ _ _ _ F9 N9
      have e1 : (2 * (p' : Int) + 1) = ((2 * p' + 1 : Nat) : Int) := by omega
      have e2 : (((2 * p' + 1 : Nat) : Int) + 1) = ((2 * p' + 2 : Nat) : Int) := by omega
      simp only [e1, e2, Int.toNat_natCast] at F9 N9 hkey
      obtain ⟨d1, d2⟩ := hp_step (key := key) (c := 2 * p' + 2) c4 c5 (by omega) (by omega) (fun c' h1 h2 => by
        rcases h2 with rfl | rfl
        · exact Int.not_lt.mp hkey
        · exact Int.le_refl _)
      refine ksw_end (as'.set p' (as'.getD (2 * p' + 2) 0), 2 * p' + 2, ?t1b, ?t2b) F9 N9 (fun _ hp => hp) trivial ?k1b ?k2b ?k3b (show as.length - (2 * p' + 2) < as.length - p' from Nat.sub_lt_sub_left c2 (show p' < 2 * p' + 2 by omega))
      case k1b => intro q hq; simp only [List.mem_cons, List.not_mem_nil, or_false] at hq; rcases hq with rfl | rfl <;> rfl
      case k2b => ksw_same
      case k3b =>
        refine ⟨by rw [List.length_set]; exact c1, (show 2 * p' + 2 < as.length by omega), ?_, d1, d2, ?_⟩
        · intro a ha
          rcases List.mem_or_eq_of_mem_set ha with ha | rfl
          · exact c3 a ha
          · exact tk_at c3 (by omega)
        · exact (set_perm (by omega) (by omega) (by omega)).trans c6
    · rename_i hkey _ _ _ F9 N9
      have e1 : (2 * (p' : Int) + 1) = ((2 * p' + 1 : Nat) : Int) := by omega
      have e2 : (((2 * p' + 1 : Nat) : Int) + 1) = ((2 * p' + 2 : Nat) : Int) := by omega
      simp only [e1, e2, Int.toNat_natCast] at F9 N9 hkey
      obtain ⟨d1, d2⟩ := hp_step (key := key) (c := 2 * p' + 1) c4 c5 (by omega) (by omega) (fun c' h1 h2 => by
        rcases h2 with rfl | rfl
        · exact Int.le_refl _
        · omega)
      refine ksw_end (as'.set p' (as'.getD (2 * p' + 1) 0), 2 * p' + 1, ?t1c, ?t2c) F9 N9 (fun _ hp => hp) trivial ?k1c ?k2c ?k3c (show as.length - (2 * p' + 1) < as.length - p' from Nat.sub_lt_sub_left c2 (show p' < 2 * p' + 1 by omega))
      case k1c => intro q hq; simp only [List.mem_cons, List.not_mem_nil, or_false] at hq; rcases hq with rfl | rfl <;> rfl
      case k2c => ksw_same
      case k3c =>
        refine ⟨by rw [List.length_set]; exact c1, (show 2 * p' + 1 < as.length by omega), ?_, d1, d2, ?_⟩
        · intro a ha
          rcases List.mem_or_eq_of_mem_set ha with ha | rfl
          · exact c3 a ha
          · exact tk_at c3 (by omega)
        · exact (set_perm (by omega) (by omega) (by omega)).trans c6
    · rename_i hlt _ F9 N9
      simp only [Int.toNat_natCast] at N9
      have hm : ∀ a ∈ as'.set p' na, TK g a (key a) := fun a ha => by
        rcases List.mem_or_eq_of_mem_set ha with ha | rfl
        · exact c3 a ha
        · exact hTn
      have eK : KA key (as'.set p' na) p' = key na := by rw [ka_set (by omega), if_pos rfl]
      have hlL : l ≠ L' := (N9 _ (.head _)).2.1
      refine sd_c (h₀ := g) X' T' (Fr.keep F9) hd (by simp only [units_deeper, AA]; omega) (N9 _ (.head _)).1 (N9 _ (.head _)).2.2 hm (by rw [List.length_set]; omega) (by rw [List.length_set]; omega) (by rw [eK]; exact hp_end c4 (by omega) (by omega)) c5 fun as2 n2 h2 tk2 p1 p2 p3 p4 => ?_
      have F8 := LCg.fr_but F9 (fun b o hb => p3 b o (by simpa using hb)) (Ne.symm hlL) (N9 _ (.head _)).2.2
      have N8 : News g L' h2 [(l, LO as2 n2)] := fun q hq => by rw [List.mem_singleton.mp hq]; exact ⟨p4, (N9 _ (.head _)).2⟩
      repeat' ((fail_if_success (with_reducible show Q _ _)); first | (k_unfold; (try dsimp only)) | ((with_reducible show wpAny _ _ (call (Value.builtin "len") [Value.ref _]) _ _ _); (refine len_as (by k_asm) (by omega) ?_); (try dsimp only)) | ((with_reducible show wpAny _ _ (setItem (Value.ref _) (Value.int _ _) _) _ _ _); (refine set_as (by k_asm) (by k_asm) (by omega) (by omega) (by omega) ?_); intro _ _ _; (try dsimp only)) | ((with_reducible show wpAny _ _ (compareOp .Lt (Value.ref _) (Value.ref _)) _ _ _); (refine lt_tk (by simp only [units_deeper, units_in1, AA]; omega) (TK.keep (by first | assumption | exact tk_at (by assumption) (by omega)) (Fr.keep (by k_asm))) (TK.keep (by first | assumption | exact tk_at (by assumption) (by omega)) (Fr.keep (by k_asm))) ?_)) | ((with_reducible show wpAny _ _ (subscriptTail _ _ (Value.ref _) (Value.int _ _)) _ _ _); (refine get_as (by k_asm) (by omega) (by omega) (by omega) ?_)) | walk1 | (dsimp only; first | ((with_reducible show wpAny _ _ (call (Value.builtin "len") [Value.ref _]) _ _ _); (refine len_as (by k_asm) (by omega) ?_); (try dsimp only)) | ((with_reducible show wpAny _ _ (setItem (Value.ref _) (Value.int _ _) _) _ _ _); (refine set_as (by k_asm) (by k_asm) (by omega) (by omega) (by omega) ?_); intro _ _ _; (try dsimp only)) | ((with_reducible show wpAny _ _ (compareOp .Lt (Value.ref _) (Value.ref _)) _ _ _); (refine lt_tk (by simp only [units_deeper, units_in1, AA]; omega) (TK.keep (by first | assumption | exact tk_at (by assumption) (by omega)) (Fr.keep (by k_asm))) (TK.keep (by first | assumption | exact tk_at (by assumption) (by omega)) (Fr.keep (by k_asm))) ?_)) | ((with_reducible show wpAny _ _ (subscriptTail _ _ (Value.ref _) (Value.int _ _)) _ _ _); (refine get_as (by k_asm) (by omega) (by omega) (by omega) ?_)) | walk1) | (leave1; (try dsimp only)))
      exact hret as2 n2 _ _ (p1.trans c6) p2 (fun b o hb q => F8.keep _ _ (hg b o q (by simpa using hb))) p4
end
end Mine
end

/-! ## Hy0 -/
section
open PySem PySem.W PySem.Spec PySem.Calls PyProof.Rows
set_option Elab.async false
set_option maxRecDepth 100000
set_option maxHeartbeats 8000000
namespace Mine
theorem sub_rgi_reversed : isSubtype (.type "range_iterator") (.type "reversed") = pure false := by rw [isSubtype_type]; kernel_rfl
section
variable {prog : Program} {w : World} {A : Around} {E : Value → Shared → Prop} {s : Shared}
theorem rrange_call {r : Addr} {t u v : Tok} {Q : Value → Shared → Prop} (hr : IsRange s.heap r 0 4 1 t u v)
    (h : Q (.ref s.heap.objs.size) { s with heap := s.heap.push { cls := .type "range_iterator", data := .fields #[rawInt 3, rawInt 4, rawInt (-1)] } }) : wpAny (model prog w) A (call (.builtin "range.__reversed__") [.ref r]) Q E s := by
  refine wpAny_call_entry F.slot_range_reversed (show s.TypeIs (.ref r) "range" from ⟨_, hr, rfl⟩) F.entry_range_reversed ?_ (F.args_range_reversed_1 _)
  unfold Builtin.«range.__reversed__»
  refine wpAny_bind (wpAny_of_eq (a := Value.ref r) rfl ?_)
  refine wpAny_bind ?_
  unfold Builtin.Range.rangeFields
  refine wpAny_bind (wpAny_field hr rfl rfl ?_)
  refine wpAny_bind (wpAny_of_eq (a := some 0) rfl ?_)
  refine wpAny_bind (wpAny_field hr rfl rfl ?_)
  refine wpAny_bind (wpAny_of_eq (a := some 4) rfl ?_)
  refine wpAny_bind (wpAny_field hr rfl rfl ?_)
  refine wpAny_bind (wpAny_of_eq (a := some 1) rfl ?_)
  refine wpAny_pure ?_
  dsimp only
  have e1 : (Builtin.Range.rangeFitsLong 0 && Builtin.Range.rangeFitsLong 4 && Builtin.Range.rangeFitsLong 1 && Builtin.Range.rangeFitsLong (-1) && Builtin.Range.rangeFitsLong (0 - 1) && Builtin.Range.rangeFitsLong (Builtin.Range.rangeSize 0 4 1)) = true := by decide
  have e2 : Builtin.Range.rangeSize 0 4 1 = 4 := by decide
  have e3 : (0 : Int) + (4 - 1) * 1 = 3 := by decide
  rw [e1, e2, e3]
  simp only [Bool.not_true, Bool.false_eq_true, if_false, if_true]
  exact wpAny_bind (wpAny_newObj_type (wpAny_pure ⟨_, rfl, h⟩))
theorem rrange_new {r : Addr} {t u v : Tok} {Q₁ : Value → Shared → Prop} (hr : IsRange s.heap r 0 4 1 t u v)
    (h : Q₁ (.ref s.heap.objs.size) { s with heap := s.heap.push { cls := .type "range_iterator", data := .fields #[rawInt 3, rawInt 4, rawInt (-1)] } }) :
    codeAny (model prog w) A (.call (.builtin "reversed.__new__") ⟨[.type "reversed", .ref r], []⟩) (wants Q₁ E) s := by
  refine codeAny_of_tree ?_
  show wpAny _ A.in1 (do checkBuiltinCall "reversed.__new__" ⟨[.type "reversed", .ref r], []⟩; again (.builtin "reversed.__new__" ⟨[.type "reversed", .ref r], []⟩)) _ _ s
  refine wpAny_bind (wpAny_of_eq (F.newCall_reversed_1 _) (wpAny_pure ⟨plainId_quiet F.plain_reversed_new _, codeAny_builtin F.entry_reversed_new ?_⟩))
  rw [Around.under_plainId F.plain_reversed_new _]
  unfold Builtin.«reversed.__new__»
  refine wpAny_bind (wpAny_of_eq (newClass_reversed _) ?_)
  try dsimp only
  refine wpAny_bind (wpAny_of_eq (a := ()) (by first | rfl | kernel_rfl) ?_)
  refine wpAny_bind (wpAny_of_eq (a := ()) (by first | rfl | kernel_rfl) ?_)
  try dsimp only
  refine wpAny_bind (wpAny_specialOf (show s.TypeIs (.ref r) "range" from ⟨_, hr, rfl⟩) F.slot_range_reversed.lookup ?_)
  try dsimp only
  refine wpAny_bind (wpAny_of_eq (F.slot_range_reversed.bind _) ?_)
  try dsimp only
  first
  | rw [if_neg (show ¬ ((Value.builtin "range.__reversed__" == Value.none) = true) from Bool.false_ne_true)]
  | (show wpAny _ _ (if (Value.builtin "range.__reversed__" == Value.none) = true then _ else _) _ _ _; rw [if_neg (show ¬ ((Value.builtin "range.__reversed__" == Value.none) = true) from Bool.false_ne_true)])
  refine wpAny_bind (wpAny_rule ?_)
  refine wpAny_bind (m := runValue (.call (.builtin "range.__reversed__") ⟨[.ref r], []⟩)) (show wpAny _ _ (call (.builtin "range.__reversed__") [.ref r]) _ _ _ from rrange_call hr ?_)
  first
  | exact wpAny_pure h
  | exact wpAny_bind (wpAny_pure (wpAny_pure h))
theorem rrange {r : Addr} {t u v : Tok} {Q : Value → Shared → Prop} (hr : IsRange s.heap r 0 4 1 t u v)
    (h : Q (.ref s.heap.objs.size) { s with heap := s.heap.push { cls := .type "range_iterator", data := .fields #[rawInt 3, rawInt 4, rawInt (-1)] } }) : wpAny (model prog w) A (call (.type "reversed") [.ref r]) Q E s := by
  refine callType_other (U := "range_iterator") (Q₁ := fun obj s₁ => obj = .ref s.heap.objs.size ∧ s₁ = { s with heap := s.heap.push { cls := .type "range_iterator", data := .fields #[rawInt 3, rawInt 4, rawInt (-1)] } }) (by decide +kernel) F.create_reversed ⟨_, _, F.mro_reversed⟩ F.made_reversed sub_rgi_reversed (F.typeCall_reversed_1 _) (rrange_new hr ⟨rfl, rfl⟩) ?_
  rintro obj s₁ ⟨rfl, rfl⟩
  exact ⟨⟨_, Heap.get?_push_size _ rfl, rfl⟩, h⟩
end
section
variable {prog : Program} {w : World} {A : Around} {s : Shared} {I : Addr} {env : Env} {R : Result → Shared → Prop} {x : PySem.Str} {px : Pos} {body : List Stmt}
/-- for x over a range's iterator -/
theorem for_steps (hh : A.handled = none) (a0 stp : Int) (n : Nat) (Inv : Nat → Heap → Prop)
    (hI : ∀ i h h', Inv i h → (∀ b o, b ≠ I → h.get? b = some o → h'.get? b = some o) → Inv i h')
    (turn : ∀ i h tk t oI, i < n → Inv i h → h.get? I = some oI → wpAny (model prog w) A (storeName env x (.int (a0 + (i : Int) * stp) t)) (fun _ s₁ => wpAny (model prog w) A (execs body env)
      (fun f s' => f = .next ∧ ∃ h' tk', s' = { s with heap := h', toks := tk' } ∧ Inv (i + 1) h' ∧ h'.get? I = some oI) (fun _ _ => False) s₁) (fun _ _ => False) { s with heap := h, toks := tk })
    (done : ∀ h tk, Inv n h → R (.ok .next) { s with heap := h, toks := tk }) :
    ∀ k i h tk, n - i = k → i ≤ n → IsRangeIter h I (a0 + (i : Nat) * stp) ((n : Int) - (i : Nat)) stp → Inv i h →
      codeAny (model prog w) A (.forLoop (.Name x px) (.ref I) body [] env) R { s with heap := h, toks := tk } := by
  have W := (Walks.range (prog := prog) (w := w) hh I a0 stp n).bound
  intro k
  induction k with
  | zero =>
    intro i h tk hk hi hst hinv
    have hin : i = n := by omega
    subst hin
    refine codeAny_of_tree ?_
    show wpAny _ _ ((forTurn _ _ _ _ _).onRaise _) _ _ _
    rw [Around.under_of_weight rfl]
    refine wpAny_onRaise ?_
    unfold forTurn
    refine wpAny_bind (wpAny_standAt (wpAny_bind (wpAny_onRaise (W.done _ _ _ hst fun h' tk' he => ?_))))
    refine wpAny_pure ⟨rfl, codeAny_of_tree ?_⟩
    show wpAny _ _ (do return Fin.done (← (execs [] env).onRaise _)) _ _ _
    refine wpAny_bind (wpAny_onRaise (wpAny_execs_nil (wpAny_pure ?_)))
    exact done _ _ (hI _ _ _ hinv fun b o hb e => he b o (by simpa using hb) e)
  | succ k ih =>
    intro i h tk hk hi hst hinv
    have hlt : i < n := by omega
    refine codeAny_of_tree ?_
    show wpAny _ _ ((forTurn _ _ _ _ _).onRaise _) _ _ _
    rw [Around.under_of_weight rfl]
    refine wpAny_onRaise (wpAny_mono (E := fun _ _ => False) ?_ (fun _ _ x => x) fun _ _ x => x.elim)
    unfold forTurn
    refine wpAny_bind (wpAny_standAt (wpAny_bind (wpAny_onRaise (W.item i _ _ _ hlt hst fun v h' tk' hv hst' he => ?_))))
    obtain ⟨_, t, rfl⟩ := hv
    refine wpAny_bind (wpAny_of_eq (a := ()) rfl ?_)
    refine wpAny_bind (wpAny_assign_Name (wpAny_mono (turn i h' tk' t _ hlt (hI _ _ _ hinv fun b o hb e => he b o (by simpa using hb) e) hst') (fun _ s₁ h₁ => ?_) fun _ _ x => x))
    refine wpAny_bind (wpAny_mono h₁ (fun f s₂ h₂ => ?_) fun _ _ x => x)
    obtain ⟨rfl, h₂, tk₂, rfl, hinv₂, hI₂⟩ := h₂
    show wpAny _ _ (again _) _ _ _
    exact wpAny_pure ⟨rfl, ih (i + 1) h₂ tk₂ (by omega) hlt hI₂ hinv₂⟩
end
end Mine
end

/-! ## Hy -/
section
open PySem PySem.W PySem.Spec PySem.Calls PyProof.Rows
set_option Elab.async false
set_option maxRecDepth 100000
set_option maxHeartbeats 8000000
namespace Mine
example : True := by
  w_top off
  trivial
example (w : World) : Mine.hd.heap_39 w.params = Mine.hd.heap_39 w.params ∧ PySem.Challenge.rw_op0017_01.prog = PySem.Challenge.rw_op0017_01.prog := by
  k_fill
  exact ⟨rfl, rfl⟩
theorem len_as8 {prog : Program} {w : World} {A : Around} {E : Value → Shared → Prop} {s : Shared} {h₀ : Heap} {L l : Addr} {as : List Addr} {n : Nat} {Q : Value → Shared → Prop} (N : News h₀ L s.heap [(l, LO as n)]) (h8 : as.length = 8) (h : Q (.int 8 (s.toks + 1)) { s with toks := s.toks + 1 + 1 }) : wpAny (model prog w) A (call (.builtin "len") [.ref l]) Q E s :=
  len_as N (by omega) (by rw [h8]; exact h)
abbrev mOfH {g h : Heap} {L : Addr} {m : PySem.Str → Option Value} (_ : Fr g L h m) : PySem.Str → Option Value := m
def InvH (g : Heap) (L' l : Addr) (key : Addr → Int) (as : List Addr) (m₀ : PySem.Str → Option Value) (i : Nat) (h : Heap) : Prop :=
  ∃ iv as2 n2, Fr g L' h (fun y => if y = PySem.Str.ofString "i" then iv else m₀ y) ∧ News g L' h [(l, LO as2 n2)] ∧ as2.Perm as ∧ HF key as2 (4 - i)
section
variable {b : Bool} {prog : Program} {w : World} {mean : ExcName → Option Value} {mg mb : PySem.Str → Option Value}
   {dp un : Nat} {fr : Option (List Env)} {gd : Option (List Code)} {h₀ : Heap} {s : Shared} {Q E : Value → Shared → Prop}
   (X : (Mine.hd.heap_39 w.params).In h₀) (T : Top Mine.hd.view_39 (looseW Mine.hd.view_39 [PySem.Str.ofString "_initial_missing", PySem.Str.ofString "reduce"]) mean mg mb h₀)
   (hk : ∀ b o, h₀.get? b = some o → s.heap.get? b = some o)
include X T hk
theorem hy_c (hd : dp + 2 < recursionLimit) (hu : un + 300 < cLine) {l : Addr} {as : List Addr} {n : Nat} (e : s.heap.get? l = some (LO as n)) (e0 : h₀.get? l = none) {key : Addr → Int} (hT : ∀ a ∈ as, TK h₀ a (key a)) (h8 : as.length = 8)
   (hret : ∀ as' n' h' tk', as'.Perm as → HF key as' 0 → (∀ b o, b ≠ l → s.heap.get? b = some o → h'.get? b = some o) → h'.get? l = some (LO as' n') → Q .none { s with heap := h', toks := tk' }) :
   wpAny (model prog w) (AA dp un fr gd) (call (.ref 37) [.ref l]) Q E s := by
  refine wpAny_call ?_
  k_dflt (refine' enter (news := [(l, LO as n)]) X T hk (fun q hq => by rw [List.mem_singleton.mp hq]; exact ⟨e, e0⟩) ?k6 ?k7 ?k8 ?k9 ?kB ?_ ?c2 ?c3 ?c4 ?c5; (case k6 => k_is); (case k7 => k_is); (case k8 => exact (Nat.lt_of_succ_lt (Nat.lt_of_succ_lt hd))); (case k9 => first | exact BindsTo.of_eq rfl | exact binds_K (Frag.In.keeps X hk) rfl (by k_is) rfl rfl rfl); (case kB => exact locs rfl); (case c5 => decide); (case c2 => exact rfl); (case c3 => exact rfl); (case c4 => exact rfl))
  intro g L' h₁ hg hg' F N X' T' hl'
  (try dsimp only)
  (try k_fold)
  have hTg : ∀ a ∈ as, TK g a (key a) := fun a ha => (hT a ha).keep (fun b o q => hg b o (hk b o q) (by simp; intro q'; rw [q', e0] at q; cases q))
  repeat' ((fail_if_success (with_reducible show Q _ _)); (fail_if_success (with_reducible show wpAny _ _ (call (Value.ref _) _) _ _ _)); (fail_if_success (with_reducible show wpAny _ _ (exec (Stmt.For _ _ _ _ _) _) _ _ _)); first | (k_unfold; (try dsimp only)) | ((with_reducible show wpAny _ _ (call (Value.builtin "len") [Value.ref _]) _ _ _); (refine len_as8 (by k_asm) (by assumption) ?_); (try dsimp only)) | walk1 | (dsimp only; first | ((with_reducible show wpAny _ _ (call (Value.builtin "len") [Value.ref _]) _ _ _); (refine len_as8 (by k_asm) (by assumption) ?_); (try dsimp only)) | walk1) | (leave1; (try dsimp only)))
  refine wpAny_For ?_
  repeat' ((fail_if_success (with_reducible show Q _ _)); (fail_if_success (with_reducible show wpAny _ _ (call (Value.ref _) _) _ _ _)); (fail_if_success (with_reducible show wpAny _ _ (call (Value.type "reversed") _) _ _ _)); first | (k_unfold; (try dsimp only)) | ((with_reducible show wpAny _ _ (call (Value.builtin "len") [Value.ref _]) _ _ _); (refine len_as8 (by k_asm) (by assumption) ?_); (try dsimp only)) | walk1 | (dsimp only; first | ((with_reducible show wpAny _ _ (call (Value.builtin "len") [Value.ref _]) _ _ _); (refine len_as8 (by k_asm) (by assumption) ?_); (try dsimp only)) | walk1) | (leave1; (try dsimp only)))
  rename_i hz _ _ _ _ hr Fz Nz _
  refine rrange hr ?_
  dsimp only at Fz Nz ⊢
  clear hr
  have hI0 : g.get? hz.objs.size = none := fresh_of Fz.keep (by
    cases q : hz.get? hz.objs.size with
    | none => rfl
    | some o => exact absurd (Heap.lt_size q) (Nat.lt_irrefl _))
  have hIL : hz.objs.size ≠ L' := Nat.ne_of_gt Fz.ns.lt
  have hIl : l ≠ hz.objs.size := Nat.ne_of_lt (Heap.lt_size (Nz _ (.head _)).1)
  have hlL : l ≠ L' := (Nz _ (.head _)).2.1
  have hl0 := (Nz _ (.head _)).2.2
  refine (Walks.range rfl hz.objs.size 3 (-1) 4).self 0 _ _ _ ?st0 ?_
  case st0 => exact Heap.get?_push_size _ rfl
  refine for_steps (s := s) (I := hz.objs.size) rfl 3 (-1) 4 (InvH g L' l key as (mOfH Fz)) ?hI ?turn ?done 4 0 _ _ rfl (by decide) ?st ?inv
  case hI =>
    rintro i h h' ⟨iv, as2, n2, Fi, Ni, a1, a2⟩ he
    exact ⟨iv, as2, n2, LCg.fr_but Fi (fun b o hb e => he b o (by simpa using hb) e) (Ne.symm hIL) hI0, LCg.news_but Ni (fun b o hb e => he b o (by simpa using hb) e) (by simp only [List.forall_mem_cons, List.not_mem_nil, false_implies, implies_true, and_true]; exact hIl), a1, a2⟩
  case st => exact Heap.get?_push_size _ rfl
  case inv =>
    refine ⟨none, as, n, ?_, Nz.grown (fun _ _ e => Heap.get?_push_of_some _ e), .refl _, fun c c1 c2 c3 => by omega⟩
    have := Fz.push { cls := .type "range_iterator", data := .fields #[rawInt 3, rawInt 4, rawInt (-1)] }
    refine ⟨?_, this.keep, this.above⟩
    have e := this.ns
    have q : (fun y => if y = PySem.Str.ofString "i" then none else mOfH Fz y) = mOfH Fz := by
      funext y
      by_cases hy : y = PySem.Str.ofString "i"
      · rw [if_pos hy, hy]; rfl
      · rw [if_neg hy]
    rw [q]; exact e
  case turn =>
    rintro i h tk9 t9 oI hi ⟨iv, as2, n2, Fi, Ni, a1, a2⟩ eI
    dsimp only [mOfH] at Fi
    have NI : News g L' h [(hz.objs.size, oI), (l, LO as2 n2)] := fun p hp => by
      rcases List.mem_cons.mp hp with rfl | hp
      · exact ⟨eI, hIL, hI0⟩
      · exact Ni p hp
    clear Ni Nz
    rw [show (3 + (i : Int) * -1) = ((3 - i : Nat) : Int) by omega]
    repeat' ((fail_if_success (with_reducible show Q _ _)); (fail_if_success (with_reducible show wpAny _ _ (call (Value.ref _) _) _ _ _)); first | (k_unfold; (try dsimp only)) | ((with_reducible show wpAny _ _ (call (Value.builtin "len") [Value.ref _]) _ _ _); (refine len_as8 (by k_asm) (by assumption) ?_); (try dsimp only)) | walk1 | (dsimp only; first | ((with_reducible show wpAny _ _ (call (Value.builtin "len") [Value.ref _]) _ _ _); (refine len_as8 (by k_asm) (by assumption) ?_); (try dsimp only)) | walk1) | (leave1; (try dsimp only)))
    rename_i F9 N9
    have p2 : as2.length = 8 := by rw [a1.length_eq]; exact h8
    refine su_c (h₀ := g) X' T' (Fr.keep F9) (by simp only [AA, depth_deeper]; omega) (by simp only [units_deeper, AA]; omega) (N9 _ (.tail _ (.head _))).1 hl0 (fun a ha => hTg a (a1.mem_iff.mp ha)) (by omega) (by omega) (by rw [show 3 - i + 1 = 4 - i by omega]; exact a2) fun as3 n3 h3 tk3 b1 b2 b3 b4 => ?_
    have F8 := LCg.fr_but F9 (fun b o hb => b3 b o (by simpa using hb)) (Ne.symm hlL) hl0
    have I8 : h3.get? hz.objs.size = some oI := b3 _ _ (Ne.symm hIl) (N9 _ (.head _)).1
    repeat (first | (k_unfold; (try dsimp only)) | (with_reducible show wpAny _ _ _ _ _ _; first | ((with_reducible show wpAny _ _ (call (Value.builtin "len") [Value.ref _]) _ _ _); (refine len_as8 (by k_asm) (by assumption) ?_); (try dsimp only)) | walk1 | (dsimp only; first | ((with_reducible show wpAny _ _ (call (Value.builtin "len") [Value.ref _]) _ _ _); (refine len_as8 (by k_asm) (by assumption) ?_); (try dsimp only)) | walk1)))
    refine ⟨rfl, h3, tk3, rfl, ⟨some (.int (3 - i : Nat) t9), as3, n3, ?_, (fun p hp => ?_), b1.trans a1, by rw [show 4 - (i + 1) = 3 - i from Nat.succ_sub_succ 3 i]; exact b2⟩, I8⟩
    · have q := F8.ns
      refine ⟨?_, F8.keep, F8.above⟩
      refine Eq.mp (congrArg (fun m => h3.Ns L' m) (funext fun y => ?_)) q
      by_cases hy : y = PySem.Str.ofString "i"
      · simp only [hy, if_true]
      · simp only [hy, if_false]
    · rw [List.mem_singleton.mp hp]; exact ⟨b4, hlL, hl0⟩
  case done =>
    rintro h tk9 ⟨iv, as2, n2, Fi, Ni, a1, a2⟩
    dsimp only [mOfH] at Fi ⊢
    clear Nz Fz
    repeat' ((fail_if_success (with_reducible show Q _ _)); first | (k_unfold; (try dsimp only)) | ((with_reducible show wpAny _ _ (call (Value.builtin "len") [Value.ref _]) _ _ _); (refine len_as8 (by k_asm) (by assumption) ?_); (try dsimp only)) | walk1 | (dsimp only; first | ((with_reducible show wpAny _ _ (call (Value.builtin "len") [Value.ref _]) _ _ _); (refine len_as8 (by k_asm) (by assumption) ?_); (try dsimp only)) | walk1) | (leave1; (try dsimp only)))
    exact hret as2 n2 _ _ a1 a2 (fun b o hb q => Fi.keep _ _ (hg b o q (by simpa using hb))) (Ni _ (.head _)).1
end
end Mine
end

/-! ## Hpop -/
section
open PySem PySem.W PySem.Spec PySem.Calls PyProof.Rows
set_option Elab.async false
set_option maxRecDepth 100000
set_option maxHeartbeats 8000000
namespace Mine
example : True := by
  w_top off
  trivial
example (w : World) : Mine.hd.heap_39 w.params = Mine.hd.heap_39 w.params ∧ PySem.Challenge.rw_op0017_01.prog = PySem.Challenge.rw_op0017_01.prog := by
  k_fill
  exact ⟨rfl, rfl⟩
theorem hf_pop {key : Addr → Int} {b0 z : Addr} {r : List Addr} (h : HF key ((b0 :: r) ++ [z]) 0) : HF key ((b0 :: r).set 0 z) (0 + 1) := fun c c1 c2 c3 => by
  rw [List.length_set] at c1
  have g : ∀ j, 0 < j → j < (b0 :: r).length → KA key ((b0 :: r).set 0 z) j = KA key ((b0 :: r) ++ [z]) j := fun j h0 hj => by
    rw [ka_set hj, if_neg (by omega)]
    have : ((b0 :: r) ++ [z]).getD j 0 = (b0 :: r).getD j 0 := by
      rw [List.getD_eq_getElem?_getD, List.getD_eq_getElem?_getD, List.getElem?_append_left hj]
    show key _ = key _
    rw [this]
  rw [g _ (by omega) (by omega), g _ (by omega) c1]
  exact h c (by simp at c1 ⊢; omega) c2 (Nat.zero_le _)
section
variable {b : Bool} {prog : Program} {w : World} {mean : ExcName → Option Value} {mg mb : PySem.Str → Option Value}
   {dp un : Nat} {fr : Option (List Env)} {gd : Option (List Code)} {h₀ : Heap} {s : Shared} {Q E : Value → Shared → Prop}
   (X : (Mine.hd.heap_39 w.params).In h₀) (T : Top Mine.hd.view_39 (looseW Mine.hd.view_39 [PySem.Str.ofString "_initial_missing", PySem.Str.ofString "reduce"]) mean mg mb h₀)
   (hk : ∀ b o, h₀.get? b = some o → s.heap.get? b = some o)
include X T hk
theorem pop_c (hd : dp + 2 < recursionLimit) (hu : un + 300 < cLine) {l : Addr} {as : List Addr} {n : Nat} (e : s.heap.get? l = some (LO as n)) (e0 : h₀.get? l = none) {key : Addr → Int} (hT : ∀ a ∈ as, TK h₀ a (key a)) (h8 : as.length ≤ 8) (h1 : 0 < as.length) (hF : HF key as 0)
   (hret : ∀ a as' n' h' tk', (a :: as').Perm as → (∀ b ∈ as, key a ≤ key b) → HF key as' 0 → (∀ b o, b ≠ l → s.heap.get? b = some o → h'.get? b = some o) → h'.get? l = some (LO as' n') → Q (.ref a) { s with heap := h', toks := tk' }) :
   wpAny (model prog w) (AA dp un fr gd) (call (.ref 30) [.ref l]) Q E s := by
  refine wpAny_call ?_
  k_dflt (refine' enter (news := [(l, LO as n)]) X T hk (fun q hq => by rw [List.mem_singleton.mp hq]; exact ⟨e, e0⟩) ?k6 ?k7 ?k8 ?k9 ?kB ?_ ?c2 ?c3 ?c4 ?c5; (case k6 => k_is); (case k7 => k_is); (case k8 => exact (Nat.lt_of_succ_lt (Nat.lt_of_succ_lt hd))); (case k9 => first | exact BindsTo.of_eq rfl | exact binds_K (Frag.In.keeps X hk) rfl (by k_is) rfl rfl rfl); (case kB => exact locs rfl); (case c5 => decide); (case c2 => exact rfl); (case c3 => exact rfl); (case c4 => exact rfl))
  intro g L' h₁ hg hg' F N X' T' hl'
  (try dsimp only)
  (try k_fold)
  have hTg : ∀ a ∈ as, TK g a (key a) := fun a ha => (hT a ha).keep (fun b o q => hg b o (hk b o q) (by simp; intro q'; rw [q', e0] at q; cases q))
  have hmin : ∀ b ∈ as, KA key as 0 ≤ key b := fun b hb => by
    obtain ⟨i, hi, rfl⟩ := List.mem_iff_getElem.mp hb
    have := hf_min hF i hi
    have e2 : as.getD i 0 = as[i] := by simp [hi]
    rw [show KA key as i = key as[i] from congrArg key e2] at this
    exact this
  obtain ⟨bs, z, rfl⟩ : ∃ bs z, as = bs ++ [z] := ⟨as.dropLast, as.getLast (by intro q; rw [q] at h1; cases h1), (List.dropLast_concat_getLast _).symm⟩
  have h9 : bs.length + 1 ≤ 8 := by simpa using h8
  cases bs with
  | nil =>
    repeat' ((fail_if_success (with_reducible show Q _ _)); (fail_if_success (with_reducible show wpAny _ _ (call (Value.ref _) _) _ _ _)); first | (k_unfold; (try dsimp only)) | ((with_reducible show wpAny _ _ (call (Value.builtin _) [Value.ref _]) _ _ _); (refine pop_as (by k_asm) (by k_asm) (by simpa using (by omega)) ?_); intro _ _ _; (try dsimp only)) | ((with_reducible show wpAny _ _ (truthy (Value.ref _)) _ _ _); (refine tru_as (by k_asm) (.head _) (by simpa using (by omega)) ?_); (simp only [List.length_cons, List.length_nil, Nat.lt_irrefl, Nat.zero_lt_succ, Nat.succ_pos, decide_true, decide_false]); (try dsimp only)) | ((with_reducible show wpAny _ _ (setItem (Value.ref _) (Value.int _ _) _) _ _ _); (refine set_as (by k_asm) (by k_asm) (by decide) (by simp) (by simpa using (by omega)) ?_); intro _ _ _; (try dsimp only)) | ((with_reducible show wpAny _ _ (subscriptTail _ _ (Value.ref _) (Value.int _ _)) _ _ _); (refine get_as (by k_asm) (by decide) (by simp) (by simpa using (by omega)) ?_)) | walk1 | (dsimp only; first | ((with_reducible show wpAny _ _ (call (Value.builtin _) [Value.ref _]) _ _ _); (refine pop_as (by k_asm) (by k_asm) (by simpa using (by omega)) ?_); intro _ _ _; (try dsimp only)) | ((with_reducible show wpAny _ _ (truthy (Value.ref _)) _ _ _); (refine tru_as (by k_asm) (.head _) (by simpa using (by omega)) ?_); (simp only [List.length_cons, List.length_nil, Nat.lt_irrefl, Nat.zero_lt_succ, Nat.succ_pos, decide_true, decide_false]); (try dsimp only)) | ((with_reducible show wpAny _ _ (setItem (Value.ref _) (Value.int _ _) _) _ _ _); (refine set_as (by k_asm) (by k_asm) (by decide) (by simp) (by simpa using (by omega)) ?_); intro _ _ _; (try dsimp only)) | ((with_reducible show wpAny _ _ (subscriptTail _ _ (Value.ref _) (Value.int _ _)) _ _ _); (refine get_as (by k_asm) (by decide) (by simp) (by simpa using (by omega)) ?_)) | walk1) | (leave1; (try dsimp only)))
    rename_i F9 N9 _
    refine hret z [] (n + 1) _ _ (.refl _) hmin (fun c c1 => by simp at c1) (fun b o hb q => F9.keep _ _ (hg b o q (by simpa using hb))) (N9 _ (.head _)).1
  | cons b0 r =>
    have h7 : r.length + 2 ≤ 8 := by simpa using h9
    repeat' ((fail_if_success (with_reducible show Q _ _)); (fail_if_success (with_reducible show wpAny _ _ (call (Value.ref _) _) _ _ _)); first | (k_unfold; (try dsimp only)) | ((with_reducible show wpAny _ _ (call (Value.builtin _) [Value.ref _]) _ _ _); (refine pop_as (by k_asm) (by k_asm) (by simpa using (by omega)) ?_); intro _ _ _; (try dsimp only)) | ((with_reducible show wpAny _ _ (truthy (Value.ref _)) _ _ _); (refine tru_as (by k_asm) (.head _) (by simpa using (by omega)) ?_); (simp only [List.length_cons, List.length_nil, Nat.lt_irrefl, Nat.zero_lt_succ, Nat.succ_pos, decide_true, decide_false]); (try dsimp only)) | ((with_reducible show wpAny _ _ (setItem (Value.ref _) (Value.int _ _) _) _ _ _); (refine set_as (by k_asm) (by k_asm) (by decide) (by simp) (by simpa using (by omega)) ?_); intro _ _ _; (try dsimp only)) | ((with_reducible show wpAny _ _ (subscriptTail _ _ (Value.ref _) (Value.int _ _)) _ _ _); (refine get_as (by k_asm) (by decide) (by simp) (by simpa using (by omega)) ?_)) | walk1 | (dsimp only; first | ((with_reducible show wpAny _ _ (call (Value.builtin _) [Value.ref _]) _ _ _); (refine pop_as (by k_asm) (by k_asm) (by simpa using (by omega)) ?_); intro _ _ _; (try dsimp only)) | ((with_reducible show wpAny _ _ (truthy (Value.ref _)) _ _ _); (refine tru_as (by k_asm) (.head _) (by simpa using (by omega)) ?_); (simp only [List.length_cons, List.length_nil, Nat.lt_irrefl, Nat.zero_lt_succ, Nat.succ_pos, decide_true, decide_false]); (try dsimp only)) | ((with_reducible show wpAny _ _ (setItem (Value.ref _) (Value.int _ _) _) _ _ _); (refine set_as (by k_asm) (by k_asm) (by decide) (by simp) (by simpa using (by omega)) ?_); intro _ _ _; (try dsimp only)) | ((with_reducible show wpAny _ _ (subscriptTail _ _ (Value.ref _) (Value.int _ _)) _ _ _); (refine get_as (by k_asm) (by decide) (by simp) (by simpa using (by omega)) ?_)) | walk1) | (leave1; (try dsimp only)))
    rename_i F9 N9
    have hlL : l ≠ L' := (N9 _ (.head _)).2.1
    have hl0 := (N9 _ (.head _)).2.2
    have m1 : ∀ a ∈ (b0 :: r).set 0 z, TK g a (key a) := fun a ha => by
      rcases List.mem_or_eq_of_mem_set ha with ha | rfl
      · exact hTg a (List.mem_append_left _ ha)
      · exact hTg _ (List.mem_append_right _ (.head _))
    refine su_c (h₀ := g) (p := 0) X' T' (Fr.keep F9) (by simp only [AA, depth_deeper]; omega) (by simp only [units_deeper, AA]; omega) (N9 _ (.head _)).1 hl0 m1 (by rw [List.length_set]; exact Nat.le_trans (Nat.le_succ _) h9) (by simp) (hf_pop hF) fun as3 n3 h3 tk3 c1 c2 c3 c4 => ?_
    have F8 := LCg.fr_but F9 (fun b o hb => c3 b o (by simpa using hb)) (Ne.symm hlL) hl0
    have N8 : News g L' h3 [(l, LO as3 n3)] := fun q hq => by rw [List.mem_singleton.mp hq]; exact ⟨c4, hlL, hl0⟩
    clear F9 N9
    repeat' ((fail_if_success (with_reducible show Q _ _)); (fail_if_success (with_reducible show wpAny _ _ (call (Value.ref _) _) _ _ _)); first | (k_unfold; (try dsimp only)) | ((with_reducible show wpAny _ _ (call (Value.builtin _) [Value.ref _]) _ _ _); (refine pop_as (by k_asm) (by k_asm) (by simpa using (by omega)) ?_); intro _ _ _; (try dsimp only)) | ((with_reducible show wpAny _ _ (truthy (Value.ref _)) _ _ _); (refine tru_as (by k_asm) (.head _) (by simpa using (by omega)) ?_); (simp only [List.length_cons, List.length_nil, Nat.lt_irrefl, Nat.zero_lt_succ, Nat.succ_pos, decide_true, decide_false]); (try dsimp only)) | ((with_reducible show wpAny _ _ (setItem (Value.ref _) (Value.int _ _) _) _ _ _); (refine set_as (by k_asm) (by k_asm) (by decide) (by simp) (by simpa using (by omega)) ?_); intro _ _ _; (try dsimp only)) | ((with_reducible show wpAny _ _ (subscriptTail _ _ (Value.ref _) (Value.int _ _)) _ _ _); (refine get_as (by k_asm) (by decide) (by simp) (by simpa using (by omega)) ?_)) | walk1 | (dsimp only; first | ((with_reducible show wpAny _ _ (call (Value.builtin _) [Value.ref _]) _ _ _); (refine pop_as (by k_asm) (by k_asm) (by simpa using (by omega)) ?_); intro _ _ _; (try dsimp only)) | ((with_reducible show wpAny _ _ (truthy (Value.ref _)) _ _ _); (refine tru_as (by k_asm) (.head _) (by simpa using (by omega)) ?_); (simp only [List.length_cons, List.length_nil, Nat.lt_irrefl, Nat.zero_lt_succ, Nat.succ_pos, decide_true, decide_false]); (try dsimp only)) | ((with_reducible show wpAny _ _ (setItem (Value.ref _) (Value.int _ _) _) _ _ _); (refine set_as (by k_asm) (by k_asm) (by decide) (by simp) (by simpa using (by omega)) ?_); intro _ _ _; (try dsimp only)) | ((with_reducible show wpAny _ _ (subscriptTail _ _ (Value.ref _) (Value.int _ _)) _ _ _); (refine get_as (by k_asm) (by decide) (by simp) (by simpa using (by omega)) ?_)) | walk1) | (leave1; (try dsimp only)))
    refine hret b0 as3 n3 _ _ ?_ hmin c2 (fun b o hb q => F8.keep _ _ (hg b o q (by simpa using hb))) c4
    refine (List.Perm.cons b0 c1).trans (List.Perm.cons b0 ?_)
    show (z :: r).Perm (r ++ [z])
    exact (List.perm_append_singleton z r).symm
end
end Mine
end

/-! ## Rest2 -/
section
open PySem PySem.W PySem.Spec PySem.Calls PyProof.Rows
set_option Elab.async false
set_option maxRecDepth 100000
set_option maxHeartbeats 8000000
namespace Mine
section
variable {prog : Program} {w : World} {A : Around} {s : Shared} {h₀ : Heap} {L : Addr} {m : PySem.Str → Option Value} {env : Env} {elt ct : Expr} {x : PySem.Str} {scope : Scope} {cl : List (PySem.Str × Addr)} {S : List (Addr × Obj) → Prop} {P : Nat → Value → Prop} {Fin : List Value → List (Addr × Obj) → Prop}
/-- a comprehension's turns, by what holds between them of the list and the ledger -/
theorem restJ (n : Nat) (J : Nat → List Value → List (Addr × Obj) → Prop)
    (turn : ∀ i v I oI C oC D m₂ h tk (E' : Value → Shared → Prop) ys nws, i < n → P i v → J i ys nws → LCg.NsObj oC m₂ → m₂ x = some v → Fr h₀ L h m → News h₀ L h ((I, oI) :: (C, oC) :: (D, LCg.lst ys) :: nws) → LCg.Off3 I C D nws → ((@Ne Nat I C) ∧ (@Ne Nat I D) ∧ (@Ne Nat C D)) →
      wpAny (model prog w) A (eval elt (compEnvC scope cl C env)) (LCg.CompEnd h₀ L m { s with heap := h, toks := tk } I oI C oC D (LCg.lst ys) S (fun y nw => J (i + 1) (ys ++ [y]) nw)) E' { s with heap := h, toks := tk })
    (fin : ∀ (ys : List Value) nws, J n ys nws → Fin ys nws) :
    ∀ k i ys nws, i + k = n → J i ys nws → LCg.CompRest prog w A h₀ L m env elt x scope cl s S P Fin k i ys nws := by
  intro k
  induction k with
  | zero => intro i ys nws hk hJ; have : i = n := by omega
            subst this; exact LCg.CompRest.zero (fin ys nws hJ)
  | succ k ih =>
    intro i ys nws hk hJ
    refine LCg.CompRest.succ fun v I oI C oC D m₂ h tk E' hv hC hx F N off ne => ?_
    exact wpAny_mono (turn i v I oI C oC D m₂ h tk E' ys nws (by omega) hv hJ hC hx F N off ne) (fun y s' he => compEnd_mono he fun nw hr => ih (i + 1) (ys ++ [y]) nw (by omega) hr) fun _ _ z => z
end
end Mine
end

/-! ## Told -/
section
open PySem PySem.W PySem.Spec PySem.Calls PyProof.Rows
set_option Elab.async false
set_option maxRecDepth 100000
set_option maxHeartbeats 8000000
namespace Mine
example : True := by
  w_top off
  trivial
example (w : World) : Mine.hd.heap_39 w.params = Mine.hd.heap_39 w.params ∧ PySem.Challenge.rw_op0017_01.prog = PySem.Challenge.rw_op0017_01.prog := by
  k_fill
  exact ⟨rfl, rfl⟩
/-- the tuples of the told sums -/
def TT (T : List (Addr × Obj)) (sums : List Int) : Prop := ∀ (j : Nat) (p : Addr × Obj), T[j]? = some p → p.2.cls = Value.type "tuple" ∧ ∃ t u n, p.2.data = .seq #[Value.int (-(sums.getD j 0)) t, Value.int (j : Int) u] n
theorem getElem?_snoc {α : Type} {l : List α} {x z : α} {j : Nat} (h : (l ++ [x])[j]? = some z) : l[j]? = some z ∨ (j = l.length ∧ z = x) := by
  rw [List.getElem?_append] at h
  split at h
  · exact .inl h
  · rename_i hj
    refine .inr ?_
    cases q : j - l.length with
    | zero => rw [q] at h; simp at h; exact ⟨by omega, h.symm⟩
    | succ m => rw [q] at h; simp at h
theorem allLt_mem {d : Addr} : ∀ {l : List (Addr × Obj)}, AllLt d l → ∀ p ∈ l, p.1 < d
  | [], _, _, h => nomatch h
  | _ :: _, x, p, h => by
    rcases List.mem_cons.mp h with rfl | h
    · exact x.1
    · exact allLt_mem x.2 p h
theorem off1_mem {d : Addr} : ∀ {l : List (Addr × Obj)}, LCg.Off1 d l → ∀ p ∈ l, p.1 ≠ d
  | [], _, _, h => nomatch h
  | _ :: _, x, p, h => by
    rcases List.mem_cons.mp h with rfl | h
    · exact x.1
    · exact off1_mem x.2 p h
theorem tp_inj {h : Heap} {a : Addr} {x y x' y' : Int} (p : TP h a x y) (q : TP h a x' y') : x = x' ∧ y = y' := by
  obtain ⟨o, t, u, n, e, c, d⟩ := p
  obtain ⟨o', t', u', n', e', c', d'⟩ := q
  rw [e] at e'; cases e'
  rw [d] at d'
  simp at d'
  exact ⟨d'.1.1.1, d'.1.2.1⟩
theorem tk_inj {h : Heap} {a : Addr} {k k' : Int} (p : TK h a k) (q : TK h a k') : k = k' := by
  obtain ⟨x, y, p, _, _, rfl⟩ := p
  obtain ⟨x', y', q, _, _, rfl⟩ := q
  obtain ⟨rfl, rfl⟩ := tp_inj p q
  rfl
theorem hide_ctx {K : Frag} {g h : Heap} {D : Addr} {mg mb : PySem.Str → Option Value} {p : Program} {loose : List PySem.Str} {mean : ExcName → Option Value} (X : K.In g) (T : Top p loose mean mg mb g) (k : Keep g h) (hD : g.get? D = none) :
    K.In (hideAll h [D]) ∧ Top p loose mean mg mb (hideAll h [D]) ∧ Keep (hideAll h [D]) h ∧ (hideAll h [D]).get? D = none ∧ ∀ b o, b ≠ D → h.get? b = some o → (hideAll h [D]).get? b = some o := by
  have q : ∀ b o, b ≠ D → h.get? b = some o → (hideAll h [D]).get? b = some o := fun b o hb e => hideAll_get _ e (by simpa using hb)
  have st : ∀ b o, g.get? b = some o → (hideAll h [D]).get? b = some o := fun b o e => q b o (fun z => by rw [z, hD] at e; cases e) (k _ _ e)
  exact ⟨X.keeps st, T.keeps st, fun b o e => of_hideAll _ e, hideAll_none _ (.head _), q⟩
open Classical in
noncomputable def keyOf (h : Heap) (a : Addr) : Int := if q : ∃ k, TK h a k then q.choose else 0
theorem keyOf_tk {h : Heap} {a : Addr} {k : Int} (p : TK h a k) : keyOf h a = k := by
  have q : ∃ k, TK h a k := ⟨k, p⟩
  unfold keyOf
  rw [dif_pos q]
  exact tk_inj q.choose_spec p
theorem tt_tk {T : List (Addr × Obj)} {sums : List Int} {h : Heap} (hT : TT T sums) (h8 : T.length = 8) (e : ∀ p ∈ T, h.get? p.1 = some p.2) {j : Nat} {p : Addr × Obj} (hp : T[j]? = some p) : TK h p.1 (8 * (-(sums.getD j 0)) + (j : Int)) := by
  obtain ⟨c, t, u, n, d⟩ := hT j p hp
  have hj : j < T.length := by
    rcases Nat.lt_or_ge j T.length with q | q
    · exact q
    · rw [List.getElem?_eq_none q] at hp; cases hp
  exact ⟨_, _, ⟨p.2, t, u, n, e _ (List.mem_of_getElem? hp), c, d⟩, by omega, by omega, rfl⟩
theorem tt_key {T : List (Addr × Obj)} {sums : List Int} {h : Heap} (hT : TT T sums) (h8 : T.length = 8) (e : ∀ p ∈ T, h.get? p.1 = some p.2) :
    (T.map (·.1)).map (keyOf h) = (List.range 8).map fun i => 8 * (-(sums.getD i 0)) + (i : Int) := by
  apply List.ext_getElem
  · simp [h8]
  · intro j h1 h2
    have hj : j < T.length := by simpa using h1
    simp only [List.getElem_map, List.getElem_range]
    exact keyOf_tk (tt_tk hT h8 e (p := T[j]) (by simp [hj]))
theorem tt_at {T : List (Addr × Obj)} {sums : List Int} {h h2 : Heap} (hT : TT T sums) (h8 : T.length = 8) (e : ∀ p ∈ T, h.get? p.1 = some p.2) (e2 : ∀ p ∈ T, h2.get? p.1 = some p.2) :
    ∀ a ∈ T.map (·.1), TK h2 a (keyOf h a) := fun a ha => by
  obtain ⟨p, hp, rfl⟩ := List.mem_map.mp ha
  obtain ⟨j, hj, hp⟩ := List.mem_iff_getElem.mp hp
  have hq : T[j]? = some p := by rw [← hp]; simp [hj]
  have a1 := tt_tk hT h8 e hq
  rw [keyOf_tk a1]
  exact tt_tk hT h8 e2 hq
section
variable {b : Bool} {prog : Program} {w : World} {mean : ExcName → Option Value} {mg mb : PySem.Str → Option Value}
   {dp un : Nat} {fr : Option (List Env)} {gd : Option (List Code)} {h₀ : Heap} {s : Shared} {Q E : Value → Shared → Prop}
   (X : (Mine.hd.heap_39 w.params).In h₀) (T : Top Mine.hd.view_39 (looseW Mine.hd.view_39 [PySem.Str.ofString "_initial_missing", PySem.Str.ofString "reduce"]) mean mg mb h₀)
   (hk : ∀ b o, h₀.get? b = some o → s.heap.get? b = some o)
include X T hk
theorem told_c (hd : dp + 3 < recursionLimit) (hu : un + 400 < cLine) {l2 : Addr} {sums : List Int} (hl : IL s.heap l2 sums) (h8 : sums.length = 8)
   (hret : ∀ y ts n h' tk' (key : Addr → Int), Keep s.heap h' → h'.get? y = some (LO ts n) → s.heap.get? y = none → (∀ a ∈ ts, s.heap.get? a = none ∧ TK h' a (key a)) → (ts.map key).Perm ((List.range 8).map fun i => 8 * (-(sums.getD i 0)) + i) → (ts.map key).Pairwise (· ≤ ·) → Q (.ref y) { s with heap := h', toks := tk' }) :
   wpAny (model prog w) (AA dp un fr gd) (call (.ref 114) [.ref l2]) Q E s := by
  refine wpAny_call ?_
  k_dflt (refine' enterC (news := []) X T hk (fun _ h => nomatch h) ?k6 ?k7 ?k8 ?k9 ?kB ?kD ?_ ?c2 ?c3 ?c4; (case k6 => k_is); (case k7 => k_is); (case k8 => exact (show dp < recursionLimit by omega)); (case k9 => first | exact BindsTo.of_eq rfl | exact binds_K (Frag.In.keeps X hk) rfl (by k_is) rfl rfl rfl); (case kB => exact rfl); (case kD => decide +kernel); (case c2 => exact rfl); (case c3 => exact rfl); (case c4 => exact rfl))
  intro g L' h₁ tk cells hg hg' F N Y X' T' hl'
  k_cells Y
  (try simp only [List.cons_append, List.nil_append] at N)
  have hkg : Keep s.heap g := fun b o e => hg b o e (by simp)
  (try dsimp only)
  (try k_fold)
  have hL := hl.keep hkg
  repeat' ((fail_if_success (with_reducible show Q _ _)); (fail_if_success (with_reducible show wpAny _ _ (call (Value.ref _) _) _ _ _)); (fail_if_success (with_reducible show LCg.CompRest _ _ _ _ _ _ _ _ _ _ _ _ _ _ _ _ _ _ _)); first | ((with_reducible show wpAny _ _ (exec (Stmt.Assign _ (Expr.ListComp _ _ _ _) _) _) _ _ _); k_dflt (refine LCg.Assign_ListComp_U (F₀ := by k_asm) (by rfl) (by with_unfolding_all rfl) (by with_unfolding_all rfl) (by decide) (by rfl) (by decide) (by rfl) (by rfl) (by rfl) ?_)) | (k_unfold; (try dsimp only)) | ((with_reducible show wpAny _ _ (truthy (Value.ref _)) _ _ _); (refine tru_as (by k_asm) (by k_mem) (by assumption) ?_); (try dsimp only)) | ((with_reducible show LCg.CompSrc ..); k_dflt (refine LCg.CompSrc.range (n := 8) (by rfl) (by k_asm) (by k_asm) (by assumption) (by first | decide | rfl) (by first | rfl | decide) (by first | size_fits | exact Nat.le_of_ble_eq_true rfl) ?_; intro g')) | ((with_reducible show wpAny _ _ (subscriptTail _ _ (Value.bytes _ _) (Value.int _ _)) _ _ _); (refine item_brow (by assumption) (by assumption) (by first | omega | exact (x8 (by omega) (by omega) (by omega) (by omega)).1) (by first | omega | exact (x8 (by omega) (by omega) (by omega) (by omega)).2) ?_); intro _ _) | ((with_reducible show wpAny _ _ (subscriptTail _ _ (Value.ref _) (Value.int _ _)) _ _ _); (refine item_row (by k_asm) (by assumption) (by assumption) (by first | omega | exact (x8 (by omega) (by omega) (by omega) (by omega)).1) (by first | omega | exact (x8 (by omega) (by omega) (by omega) (by omega)).2) ?_); intro _) | walk1 | (dsimp only; first | ((with_reducible show wpAny _ _ (truthy (Value.ref _)) _ _ _); (refine tru_as (by k_asm) (by k_mem) (by assumption) ?_); (try dsimp only)) | ((with_reducible show LCg.CompSrc ..); k_dflt (refine LCg.CompSrc.range (n := 8) (by rfl) (by k_asm) (by k_asm) (by assumption) (by first | decide | rfl) (by first | rfl | decide) (by first | size_fits | exact Nat.le_of_ble_eq_true rfl) ?_; intro g')) | ((with_reducible show wpAny _ _ (subscriptTail _ _ (Value.bytes _ _) (Value.int _ _)) _ _ _); (refine item_brow (by assumption) (by assumption) (by first | omega | exact (x8 (by omega) (by omega) (by omega) (by omega)).1) (by first | omega | exact (x8 (by omega) (by omega) (by omega) (by omega)).2) ?_); intro _ _) | ((with_reducible show wpAny _ _ (subscriptTail _ _ (Value.ref _) (Value.int _ _)) _ _ _); (refine item_row (by k_asm) (by assumption) (by assumption) (by first | omega | exact (x8 (by omega) (by omega) (by omega) (by omega)).1) (by first | omega | exact (x8 (by omega) (by omega) (by omega) (by omega)).2) ?_); intro _) | walk1) | (leave1; (try dsimp only)))
  refine restJ 8 (fun i ys nws => ∃ Tt : List (Addr × Obj), nws = (L' + 1, _) :: Tt ∧ TT Tt sums ∧ Tt.length = i ∧ ys = Tt.map fun p => Value.ref p.1) ?turn ?fin 8 0 [] _ rfl ⟨[], rfl, fun j p h => by simp at h, rfl, rfl⟩
  case turn =>
    rintro i v I oI C oC D m₂ h tk E' ys nws hi ⟨t9, rfl⟩ ⟨Tt, rfl, hT, hTl, rfl⟩ hC hx F2 N2 off ne
    repeat' ((fail_if_success (with_reducible show Q _ _)); (fail_if_success (with_reducible show wpAny _ _ (call (Value.ref _) _) _ _ _)); (fail_if_success (with_reducible show LCg.CompEnd _ _ _ _ _ _ _ _ _ _ _ _ _ _)); first | (k_unfold; (try dsimp only)) | ((with_reducible show wpAny _ _ (truthy (Value.ref _)) _ _ _); (refine tru_as (by k_asm) (by k_mem) (by assumption) ?_); (try dsimp only)) | ((with_reducible show LCg.CompSrc ..); k_dflt (refine LCg.CompSrc.range (n := 8) (by rfl) (by k_asm) (by k_asm) (by assumption) (by first | decide | rfl) (by first | rfl | decide) (by first | size_fits | exact Nat.le_of_ble_eq_true rfl) ?_; intro g')) | ((with_reducible show wpAny _ _ (subscriptTail _ _ (Value.bytes _ _) (Value.int _ _)) _ _ _); (refine item_brow (by assumption) (by assumption) (by first | omega | exact (x8 (by omega) (by omega) (by omega) (by omega)).1) (by first | omega | exact (x8 (by omega) (by omega) (by omega) (by omega)).2) ?_); intro _ _) | ((with_reducible show wpAny _ _ (subscriptTail _ _ (Value.ref _) (Value.int _ _)) _ _ _); (refine item_row (by k_asm) (by assumption) (by assumption) (by first | omega | exact (x8 (by omega) (by omega) (by omega) (by omega)).1) (by first | omega | exact (x8 (by omega) (by omega) (by omega) (by omega)).2) ?_); intro _) | walk1 | (dsimp only; first | ((with_reducible show wpAny _ _ (truthy (Value.ref _)) _ _ _); (refine tru_as (by k_asm) (by k_mem) (by assumption) ?_); (try dsimp only)) | ((with_reducible show LCg.CompSrc ..); k_dflt (refine LCg.CompSrc.range (n := 8) (by rfl) (by k_asm) (by k_asm) (by assumption) (by first | decide | rfl) (by first | rfl | decide) (by first | size_fits | exact Nat.le_of_ble_eq_true rfl) ?_; intro g')) | ((with_reducible show wpAny _ _ (subscriptTail _ _ (Value.bytes _ _) (Value.int _ _)) _ _ _); (refine item_brow (by assumption) (by assumption) (by first | omega | exact (x8 (by omega) (by omega) (by omega) (by omega)).1) (by first | omega | exact (x8 (by omega) (by omega) (by omega) (by omega)).2) ?_); intro _ _) | ((with_reducible show wpAny _ _ (subscriptTail _ _ (Value.ref _) (Value.int _ _)) _ _ _); (refine item_row (by k_asm) (by assumption) (by assumption) (by first | omega | exact (x8 (by omega) (by omega) (by omega) (by omega)).1) (by first | omega | exact (x8 (by omega) (by omega) (by omega) (by omega)).2) ?_); intro _) | walk1) | (leave1; (try dsimp only)))
    rename_i t2 D2 h2 F3 N3 l1
    simp only [Int.zero_add, Int.toNat_natCast] at N3
    obtain ⟨oo, N4, hoc, hod⟩ : ∃ oo : Obj, News g L' h2 ((D2, oo) :: (I, oI) :: (C, oC) :: (D, _) :: (L' + 1, _) :: Tt) ∧ oo.cls = Value.type "tuple" ∧ ∃ t u n, oo.data = .seq #[Value.int (-(sums.getD i 0)) t, Value.int (i : Int) u] n := ⟨_, N3, rfl, _, _, _, rfl⟩
    refine LCg.CompEnd.intro F3 N4 ((L' + 1, _) :: (Tt ++ [(D2, oo)])) (fun p hp => ?_) ?_ trivial ⟨Tt ++ [(D2, oo)], rfl, fun j p hp => ?_, by simp [hTl], by simp⟩
    · simp only [List.mem_cons, List.mem_append, List.not_mem_nil, or_false] at hp ⊢
      rcases hp with h | h | h | h | h | h
      · exact .inr (.inl h)
      · exact .inr (.inr (.inl h))
      · exact .inr (.inr (.inr (.inl h)))
      · exact .inr (.inr (.inr (.inr (.inl h))))
      · exact .inr (.inr (.inr (.inr (.inr h))))
      · exact .inl h
    · refine ⟨off.1, LCg.Off3.of fun p hp => ?_⟩
      rcases List.mem_append.mp hp with hp | hp
      · exact LCg.Off3.mem off.2 p hp
      · rw [List.mem_singleton.mp hp]
        exact ⟨Nat.ne_of_gt l1.1, Nat.ne_of_gt l1.2.1, Nat.ne_of_gt l1.2.2.1⟩
    · rcases getElem?_snoc hp with hp | ⟨rfl, rfl⟩
      · exact hT j p hp
      · rw [hTl]; exact ⟨hoc, hod⟩
  case fin =>
    rintro ys nws ⟨Tt, rfl, hT, hTl, rfl⟩
    intro D h tk F2 N2 off
    have eD : LCg.lst (Tt.map fun p => Value.ref p.1) = LO (Tt.map (·.1)) 8 := by
      show listOf _ (List.length _) = listOf _ 8
      rw [List.length_map, hTl, List.map_map]; rfl
    rw [eD] at N2
    replace N2 : News g L' h ((D, LO (Tt.map (·.1)) 8) :: Tt) := fun p hp => N2 p (by
      rcases List.mem_cons.mp hp with rfl | hp
      · exact .head _
      · exact .tail _ (.tail _ hp))
    have offD : ∀ p ∈ Tt, p.1 ≠ D := fun p hp => off1_mem off p (.tail _ hp)
    have hTD : ∀ h2 o, News g L' h2 ((D, o) :: Tt) → ∀ p ∈ Tt, h2.get? p.1 = some p.2 := fun h2 o N p hp => (N p (.tail _ hp)).1
    have eT := hTD _ _ N2
    show wpAny _ _ _ _ _ _
    repeat' ((fail_if_success (with_reducible show Q _ _)); (fail_if_success (with_reducible show wpAny _ _ (call (Value.ref _) _) _ _ _)); first | (k_unfold; (try dsimp only)) | ((with_reducible show wpAny _ _ (truthy (Value.ref _)) _ _ _); (refine tru_as (by k_asm) (by k_mem) (by assumption) ?_); (try dsimp only)) | ((with_reducible show LCg.CompSrc ..); k_dflt (refine LCg.CompSrc.range (n := 8) (by rfl) (by k_asm) (by k_asm) (by assumption) (by first | decide | rfl) (by first | rfl | decide) (by first | size_fits | exact Nat.le_of_ble_eq_true rfl) ?_; intro g')) | ((with_reducible show wpAny _ _ (subscriptTail _ _ (Value.bytes _ _) (Value.int _ _)) _ _ _); (refine item_brow (by assumption) (by assumption) (by first | omega | exact (x8 (by omega) (by omega) (by omega) (by omega)).1) (by first | omega | exact (x8 (by omega) (by omega) (by omega) (by omega)).2) ?_); intro _ _) | ((with_reducible show wpAny _ _ (subscriptTail _ _ (Value.ref _) (Value.int _ _)) _ _ _); (refine item_row (by k_asm) (by assumption) (by assumption) (by first | omega | exact (x8 (by omega) (by omega) (by omega) (by omega)).1) (by first | omega | exact (x8 (by omega) (by omega) (by omega) (by omega)).2) ?_); intro _) | walk1 | (dsimp only; first | ((with_reducible show wpAny _ _ (truthy (Value.ref _)) _ _ _); (refine tru_as (by k_asm) (by k_mem) (by assumption) ?_); (try dsimp only)) | ((with_reducible show LCg.CompSrc ..); k_dflt (refine LCg.CompSrc.range (n := 8) (by rfl) (by k_asm) (by k_asm) (by assumption) (by first | decide | rfl) (by first | rfl | decide) (by first | size_fits | exact Nat.le_of_ble_eq_true rfl) ?_; intro g')) | ((with_reducible show wpAny _ _ (subscriptTail _ _ (Value.bytes _ _) (Value.int _ _)) _ _ _); (refine item_brow (by assumption) (by assumption) (by first | omega | exact (x8 (by omega) (by omega) (by omega) (by omega)).1) (by first | omega | exact (x8 (by omega) (by omega) (by omega) (by omega)).2) ?_); intro _ _) | ((with_reducible show wpAny _ _ (subscriptTail _ _ (Value.ref _) (Value.int _ _)) _ _ _); (refine item_row (by k_asm) (by assumption) (by assumption) (by first | omega | exact (x8 (by omega) (by omega) (by omega) (by omega)).1) (by first | omega | exact (x8 (by omega) (by omega) (by omega) (by omega)).2) ?_); intro _) | walk1) | (leave1; (try dsimp only)))
    have hD0 := (N2 _ (.head _)).2.2
    have hDL : D ≠ L' := (N2 _ (.head _)).2.1
    obtain ⟨Xh, Th, kh, h0h, qh⟩ := hide_ctx X' T' F2.keep hD0
    refine hy_c (h₀ := hideAll h [D]) Xh Th kh (by show dp + 1 + 2 < _; omega) (by show un + 3 + 300 < _; omega) (N2 _ (.head _)).1 h0h (tt_at hT hTl eT fun p hp => qh _ _ (offD p hp) (eT p hp)) (by rw [List.length_map]; exact hTl) fun as1 n1 h3 tk3 b1 b2 b3 b4 => ?_
    have F8 := LCg.fr_but F2 (fun b o hb => b3 b o (by simpa using hb)) (Ne.symm hDL) hD0
    have N8 : News g L' h3 ((D, LO as1 n1) :: Tt) := fun q hq => by
      rcases List.mem_cons.mp hq with rfl | hq
      · exact ⟨b4, hDL, hD0⟩
      · exact ⟨b3 _ _ (offD q hq) (N2 q (.tail _ hq)).1, (N2 q (.tail _ hq)).2⟩
    clear F2 N2 b3 b4 Xh Th kh h0h qh
    repeat' ((fail_if_success (with_reducible show Q _ _)); (fail_if_success (with_reducible show wpAny _ _ (call (Value.ref _) _) _ _ _)); (fail_if_success (with_reducible show wpAny _ _ (exec (Stmt.While _ _ _ _) _) _ _ _)); first | (k_unfold; (try dsimp only)) | ((with_reducible show wpAny _ _ (truthy (Value.ref _)) _ _ _); (refine tru_as (by k_asm) (by k_mem) (by assumption) ?_); (try dsimp only)) | ((with_reducible show LCg.CompSrc ..); k_dflt (refine LCg.CompSrc.range (n := 8) (by rfl) (by k_asm) (by k_asm) (by assumption) (by first | decide | rfl) (by first | rfl | decide) (by first | size_fits | exact Nat.le_of_ble_eq_true rfl) ?_; intro g')) | ((with_reducible show wpAny _ _ (subscriptTail _ _ (Value.bytes _ _) (Value.int _ _)) _ _ _); (refine item_brow (by assumption) (by assumption) (by first | omega | exact (x8 (by omega) (by omega) (by omega) (by omega)).1) (by first | omega | exact (x8 (by omega) (by omega) (by omega) (by omega)).2) ?_); intro _ _) | ((with_reducible show wpAny _ _ (subscriptTail _ _ (Value.ref _) (Value.int _ _)) _ _ _); (refine item_row (by k_asm) (by assumption) (by assumption) (by first | omega | exact (x8 (by omega) (by omega) (by omega) (by omega)).1) (by first | omega | exact (x8 (by omega) (by omega) (by omega) (by omega)).2) ?_); intro _) | walk1 | (dsimp only; first | ((with_reducible show wpAny _ _ (truthy (Value.ref _)) _ _ _); (refine tru_as (by k_asm) (by k_mem) (by assumption) ?_); (try dsimp only)) | ((with_reducible show LCg.CompSrc ..); k_dflt (refine LCg.CompSrc.range (n := 8) (by rfl) (by k_asm) (by k_asm) (by assumption) (by first | decide | rfl) (by first | rfl | decide) (by first | size_fits | exact Nat.le_of_ble_eq_true rfl) ?_; intro g')) | ((with_reducible show wpAny _ _ (subscriptTail _ _ (Value.bytes _ _) (Value.int _ _)) _ _ _); (refine item_brow (by assumption) (by assumption) (by first | omega | exact (x8 (by omega) (by omega) (by omega) (by omega)).1) (by first | omega | exact (x8 (by omega) (by omega) (by omega) (by omega)).2) ?_); intro _ _) | ((with_reducible show wpAny _ _ (subscriptTail _ _ (Value.ref _) (Value.int _ _)) _ _ _); (refine item_row (by k_asm) (by assumption) (by assumption) (by first | omega | exact (x8 (by omega) (by omega) (by omega) (by omega)).1) (by first | omega | exact (x8 (by omega) (by omega) (by omega) (by omega)).2) ?_); intro _) | walk1) | (leave1; (try dsimp only)))
    rename_i td h4 l1 h5 F5 N5
    have etd : ∀ p ∈ Tt, p.1 ≠ td := fun p hp => Nat.ne_of_lt (allLt_mem l1.2 p hp)
    have etD : D ≠ td := Nat.ne_of_lt l1.1
    generalize hkey : keyOf h = key at b2
    refine ksw_while (σ := List Addr × Nat × List Addr × Nat) (fun c => (td, LO c.1 c.2.1) :: (D, LO c.2.2.1 c.2.2.2) :: Tt) (fun _ => []) (fun _ => True) []
      (fun c => (c.1 ++ c.2.2.1).Perm (Tt.map (·.1)) ∧ HF key c.2.2.1 0 ∧ (c.1.map key).Pairwise (· ≤ ·) ∧ ∀ t ∈ c.1, ∀ a ∈ c.2.2.1, key t ≤ key a) (fun c => c.2.2.1.length) ([], 0, as1, n1) F5 N5 trivial ?hk ?hp ?turn ?hE
    case hk => intro q hq; cases hq
    case hp => exact ⟨b1, b2, .nil, fun t ht => nomatch ht⟩
    case hE => intro e s h; exact h.elim
    case turn =>
      rintro ⟨ts, k, as2, n2⟩ uu h6 tk6 _ ⟨c1, c2, c3, c4⟩ F6 N6
      dsimp only at c1 c2 c3 c4 N6
      dsimp only [kstB] at F6
      clear N5 F5
      have clen : ts.length + as2.length = 8 := by
        have := c1.length_eq
        rw [List.length_append, List.length_map, hTl] at this
        exact this
      have clen8 : as2.length ≤ 8 := by omega
      repeat' ((fail_if_success (with_reducible show Q _ _)); (fail_if_success (with_reducible show wpAny _ _ (call (Value.ref _) _) _ _ _)); (fail_if_success (with_reducible show KswEnd _ _ _ _ _ _ _ _ _ _ _ _)); first | (k_unfold; (try dsimp only)) | ((with_reducible show wpAny _ _ (truthy (Value.ref _)) _ _ _); (refine tru_as (by k_asm) (by k_mem) (by assumption) ?_); (try dsimp only)) | ((with_reducible show LCg.CompSrc ..); k_dflt (refine LCg.CompSrc.range (n := 8) (by rfl) (by k_asm) (by k_asm) (by assumption) (by first | decide | rfl) (by first | rfl | decide) (by first | size_fits | exact Nat.le_of_ble_eq_true rfl) ?_; intro g')) | ((with_reducible show wpAny _ _ (subscriptTail _ _ (Value.bytes _ _) (Value.int _ _)) _ _ _); (refine item_brow (by assumption) (by assumption) (by first | omega | exact (x8 (by omega) (by omega) (by omega) (by omega)).1) (by first | omega | exact (x8 (by omega) (by omega) (by omega) (by omega)).2) ?_); intro _ _) | ((with_reducible show wpAny _ _ (subscriptTail _ _ (Value.ref _) (Value.int _ _)) _ _ _); (refine item_row (by k_asm) (by assumption) (by assumption) (by first | omega | exact (x8 (by omega) (by omega) (by omega) (by omega)).1) (by first | omega | exact (x8 (by omega) (by omega) (by omega) (by omega)).2) ?_); intro _) | walk1 | (dsimp only; first | ((with_reducible show wpAny _ _ (truthy (Value.ref _)) _ _ _); (refine tru_as (by k_asm) (by k_mem) (by assumption) ?_); (try dsimp only)) | ((with_reducible show LCg.CompSrc ..); k_dflt (refine LCg.CompSrc.range (n := 8) (by rfl) (by k_asm) (by k_asm) (by assumption) (by first | decide | rfl) (by first | rfl | decide) (by first | size_fits | exact Nat.le_of_ble_eq_true rfl) ?_; intro g')) | ((with_reducible show wpAny _ _ (subscriptTail _ _ (Value.bytes _ _) (Value.int _ _)) _ _ _); (refine item_brow (by assumption) (by assumption) (by first | omega | exact (x8 (by omega) (by omega) (by omega) (by omega)).1) (by first | omega | exact (x8 (by omega) (by omega) (by omega) (by omega)).2) ?_); intro _ _) | ((with_reducible show wpAny _ _ (subscriptTail _ _ (Value.ref _) (Value.int _ _)) _ _ _); (refine item_row (by k_asm) (by assumption) (by assumption) (by first | omega | exact (x8 (by omega) (by omega) (by omega) (by omega)).1) (by first | omega | exact (x8 (by omega) (by omega) (by omega) (by omega)).2) ?_); intro _) | walk1) | (leave1; (try dsimp only)))
      · rename_i hne
        obtain ⟨Xh, Th, kh, h0h, qh⟩ := hide_ctx X' T' F6.keep hD0
        have hm : ∀ a ∈ as2, TK (hideAll h6 [D]) a (key a) := fun a ha => by
          rw [← hkey]
          exact tt_at hT hTl eT (fun p hp => qh _ _ (offD p hp) (N6 p (.tail _ (.tail _ hp))).1) a (c1.mem_iff.mp (List.mem_append_right _ ha))
        refine pop_c (h₀ := hideAll h6 [D]) Xh Th kh (by show dp + 1 + 2 < _; omega) (by show un + 3 + 300 < _; omega) (N6 _ (.tail _ (.head _))).1 h0h hm clen8 hne c2 fun a as3 n3 h7 tk7 d1 d2 d3 d4 d5 => ?_
        have F7 := LCg.fr_but F6 (fun b o hb => d4 b o (by simpa using hb)) (Ne.symm hDL) hD0
        have N7 : News g L' h7 ((td, LO ts k) :: (D, LO as3 n3) :: Tt) := fun q hq => by
          rcases List.mem_cons.mp hq with rfl | hq
          · exact ⟨d4 _ _ (Ne.symm etD) (N6 _ (.head _)).1, (N6 _ (.head _)).2⟩
          · rcases List.mem_cons.mp hq with rfl | hq
            · exact ⟨d5, hDL, hD0⟩
            · exact ⟨d4 _ _ (offD q hq) (N6 q (.tail _ (.tail _ hq))).1, (N6 q (.tail _ (.tail _ hq))).2⟩
        clear F6 N6 d4 d5 Xh Th kh h0h qh hm
        repeat' ((fail_if_success (with_reducible show Q _ _)); (fail_if_success (with_reducible show wpAny _ _ (call (Value.ref _) _) _ _ _)); (fail_if_success (with_reducible show KswEnd _ _ _ _ _ _ _ _ _ _ _ _)); (fail_if_success (with_reducible show wpAny _ _ (call (Value.builtin _) _) _ _ _)); first | (k_unfold; (try dsimp only)) | ((with_reducible show wpAny _ _ (truthy (Value.ref _)) _ _ _); (refine tru_as (by k_asm) (by k_mem) (by assumption) ?_); (try dsimp only)) | ((with_reducible show LCg.CompSrc ..); k_dflt (refine LCg.CompSrc.range (n := 8) (by rfl) (by k_asm) (by k_asm) (by assumption) (by first | decide | rfl) (by first | rfl | decide) (by first | size_fits | exact Nat.le_of_ble_eq_true rfl) ?_; intro g')) | ((with_reducible show wpAny _ _ (subscriptTail _ _ (Value.bytes _ _) (Value.int _ _)) _ _ _); (refine item_brow (by assumption) (by assumption) (by first | omega | exact (x8 (by omega) (by omega) (by omega) (by omega)).1) (by first | omega | exact (x8 (by omega) (by omega) (by omega) (by omega)).2) ?_); intro _ _) | ((with_reducible show wpAny _ _ (subscriptTail _ _ (Value.ref _) (Value.int _ _)) _ _ _); (refine item_row (by k_asm) (by assumption) (by assumption) (by first | omega | exact (x8 (by omega) (by omega) (by omega) (by omega)).1) (by first | omega | exact (x8 (by omega) (by omega) (by omega) (by omega)).2) ?_); intro _) | walk1 | (dsimp only; first | ((with_reducible show wpAny _ _ (truthy (Value.ref _)) _ _ _); (refine tru_as (by k_asm) (by k_mem) (by assumption) ?_); (try dsimp only)) | ((with_reducible show LCg.CompSrc ..); k_dflt (refine LCg.CompSrc.range (n := 8) (by rfl) (by k_asm) (by k_asm) (by assumption) (by first | decide | rfl) (by first | rfl | decide) (by first | size_fits | exact Nat.le_of_ble_eq_true rfl) ?_; intro g')) | ((with_reducible show wpAny _ _ (subscriptTail _ _ (Value.bytes _ _) (Value.int _ _)) _ _ _); (refine item_brow (by assumption) (by assumption) (by first | omega | exact (x8 (by omega) (by omega) (by omega) (by omega)).1) (by first | omega | exact (x8 (by omega) (by omega) (by omega) (by omega)).2) ?_); intro _ _) | ((with_reducible show wpAny _ _ (subscriptTail _ _ (Value.ref _) (Value.int _ _)) _ _ _); (refine item_row (by k_asm) (by assumption) (by assumption) (by first | omega | exact (x8 (by omega) (by omega) (by omega) (by omega)).1) (by first | omega | exact (x8 (by omega) (by omega) (by omega) (by omega)).2) ?_); intro _) | walk1) | (leave1; (try dsimp only)))
        refine append_K F7 N7 (.head (fun p hp => ?_)) (fun h8 F8 N8 => ?_) (by simp only [List.size_toArray, List.length_map, sizeLine_eq]; omega)
        · rcases List.mem_cons.mp hp with rfl | hp
          · exact etD
          · exact etd p hp
        have e9 : listOf ((ts.map Value.ref).toArray.push (.ref a)) (k + 1) = LO (ts ++ [a]) (k + 1) := by simp [LO]
        rw [e9] at N8
        clear F7 N7
        repeat' ((fail_if_success (with_reducible show Q _ _)); (fail_if_success (with_reducible show wpAny _ _ (call (Value.ref _) _) _ _ _)); (fail_if_success (with_reducible show KswEnd _ _ _ _ _ _ _ _ _ _ _ _)); first | (k_unfold; (try dsimp only)) | ((with_reducible show wpAny _ _ (truthy (Value.ref _)) _ _ _); (refine tru_as (by k_asm) (by k_mem) (by assumption) ?_); (try dsimp only)) | ((with_reducible show LCg.CompSrc ..); k_dflt (refine LCg.CompSrc.range (n := 8) (by rfl) (by k_asm) (by k_asm) (by assumption) (by first | decide | rfl) (by first | rfl | decide) (by first | size_fits | exact Nat.le_of_ble_eq_true rfl) ?_; intro g')) | ((with_reducible show wpAny _ _ (subscriptTail _ _ (Value.bytes _ _) (Value.int _ _)) _ _ _); (refine item_brow (by assumption) (by assumption) (by first | omega | exact (x8 (by omega) (by omega) (by omega) (by omega)).1) (by first | omega | exact (x8 (by omega) (by omega) (by omega) (by omega)).2) ?_); intro _ _) | ((with_reducible show wpAny _ _ (subscriptTail _ _ (Value.ref _) (Value.int _ _)) _ _ _); (refine item_row (by k_asm) (by assumption) (by assumption) (by first | omega | exact (x8 (by omega) (by omega) (by omega) (by omega)).1) (by first | omega | exact (x8 (by omega) (by omega) (by omega) (by omega)).2) ?_); intro _) | walk1 | (dsimp only; first | ((with_reducible show wpAny _ _ (truthy (Value.ref _)) _ _ _); (refine tru_as (by k_asm) (by k_mem) (by assumption) ?_); (try dsimp only)) | ((with_reducible show LCg.CompSrc ..); k_dflt (refine LCg.CompSrc.range (n := 8) (by rfl) (by k_asm) (by k_asm) (by assumption) (by first | decide | rfl) (by first | rfl | decide) (by first | size_fits | exact Nat.le_of_ble_eq_true rfl) ?_; intro g')) | ((with_reducible show wpAny _ _ (subscriptTail _ _ (Value.bytes _ _) (Value.int _ _)) _ _ _); (refine item_brow (by assumption) (by assumption) (by first | omega | exact (x8 (by omega) (by omega) (by omega) (by omega)).1) (by first | omega | exact (x8 (by omega) (by omega) (by omega) (by omega)).2) ?_); intro _ _) | ((with_reducible show wpAny _ _ (subscriptTail _ _ (Value.ref _) (Value.int _ _)) _ _ _); (refine item_row (by k_asm) (by assumption) (by assumption) (by first | omega | exact (x8 (by omega) (by omega) (by omega) (by omega)).1) (by first | omega | exact (x8 (by omega) (by omega) (by omega) (by omega)).2) ?_); intro _) | walk1) | (leave1; (try dsimp only)))
        have d1l := d1.length_eq
        refine ksw_end (ts ++ [a], k + 1, as3, n3) F8 N8 (fun _ hp => hp) trivial (fun q hq => by cases hq) (by intro z _ _; rfl) ⟨?_, d3, ?_, ?_⟩ (by show as3.length < as2.length; simp at d1l; omega)
        · show ((ts ++ [a]) ++ as3).Perm _
          rw [List.append_assoc]
          exact (List.Perm.append_left ts d1).trans c1
        · show ((ts ++ [a]).map key).Pairwise (· ≤ ·)
          rw [List.map_append, List.pairwise_append]
          refine ⟨c3, List.pairwise_singleton _ _, fun x hx y hy => ?_⟩
          obtain ⟨t, ht, rfl⟩ := List.mem_map.mp hx
          rw [List.mem_singleton.mp hy]
          exact c4 t ht a (d1.mem_iff.mp (.head _))
        · intro t ht b hb
          have hb2 : b ∈ as2 := d1.mem_iff.mp (.tail _ hb)
          rcases List.mem_append.mp ht with ht | ht
          · exact c4 t ht b hb2
          · rw [List.mem_singleton.mp ht]; exact d2 b hb2
      · rename_i hne
        have hz : as2 = [] := List.length_eq_zero_iff.mp (by omega)
        subst hz
        rw [List.append_nil] at c1
        refine hret td ts k _ _ key (fun b o q => F6.keep _ _ (hkg _ _ q)) (N6 _ (.head _)).1 (fresh_of hkg (N6 _ (.head _)).2.2) (fun a ha => ⟨?_, ?_⟩) ?_ c3
        · obtain ⟨p, hp, rfl⟩ := List.mem_map.mp (c1.mem_iff.mp ha)
          exact fresh_of hkg (N6 p (.tail _ (.tail _ hp))).2.2
        · rw [← hkey]
          exact tt_at hT hTl eT (fun p hp => (N6 p (.tail _ (.tail _ hp))).1) a (c1.mem_iff.mp ha)
        · have := c1.map key
          rw [← hkey, tt_key hT hTl eT, hkey] at this
          exact this
end
end Mine
end

/-! ## ListB -/
section
open PySem PySem.W PySem.Spec PySem.Calls PyProof.Rows
set_option Elab.async false
set_option maxRecDepth 100000
set_option maxHeartbeats 8000000
namespace Mine
theorem lb_len : typeLookup (.type "bytes") "__len__" = pure (some (.builtin "bytes.__len__")) := by rw [typeLookup_type, builtinLookup_eq_fast]; kernel_rfl
theorem lb_sub : isSubtype (.type "bytes") (.type "bytes") = pure true := by rw [isSubtype_type]; kernel_rfl
section
variable {prog : Program} {w : World} {A : Around} {E : Value → Shared → Prop} {s : Shared} {b : Array UInt8}
abbrev ByteAt (b : Array UInt8) : Nat → Value → Prop := fun i v => ∃ c u, b[i]? = some c ∧ v = .int (c.toNat : Int) u
theorem lb_extend {R : Result → Shared → Prop} (hh : A.handled = none) (t : Tok) (S : Addr) (res : Value) (c₀ : Nat) (hS : s.heap.get? S = some { cls := .type "list", data := .seq #[] c₀ })
    (hR : ∀ h' tk acc' c', (∀ b o, b ≠ S → s.heap.get? b = some o → h'.get? b = some o) → h'.get? S = some { cls := .type "list", dict := none, data := .seq acc' c', slots := #[] } →
      ItemsOf (ByteAt b) acc' b.size → R (.ok (.ret res)) { s with heap := h', toks := tk }) (hn : b.size ≤ sizeLine) :
    wpAny (model prog w) A.in1 (Builtin.List.listExtendWith (.ref S) (.bytes b t) res)
      (fun fin s' => match fin with | .done f => R (.ok f) s' | .again c' => c'.quiet = true ∧ codeAny (model prog w) A c' R s') (fun e s' => R (.error e) s') s := by
  have hSI : S ≠ s.heap.objs.size := Nat.ne_of_lt (Heap.lt_size hS)
  have hSf : S ∉ [s.heap.objs.size] := fun hm => hSI (List.mem_singleton.mp hm)
  unfold Builtin.List.listExtendWith
  refine wpAny_bind (wpAny_typeOf (T := "bytes") (v := .bytes b t) rfl ?_)
  have h1 : Builtin.List.listSameRef (.ref S) (.bytes b t) = false := rfl
  have h2 : (Value.type "bytes" == Value.type "list") = false := by decide
  have h3 : (Value.type "bytes" == Value.type "tuple") = false := by decide
  simp only [h1, h2, h3, Bool.or_false, Bool.false_eq_true, if_false]
  refine wpAny_bind (KBw.pyIter_bytes ?_)
  have W := KBw.walks (prog := prog) (w := w) (A := A.in1) hh s.heap.objs.size b t
  have hst : KBw.IsBytesIter (s.heap.push { cls := .type "bytes_iterator", data := .fields #[.bytes b t, .int 0 0] }) s.heap.objs.size b t 0 := ⟨_, Heap.get?_push_size _ rfl, rfl, rfl⟩
  refine wpAny_bind (wpAny_holding ?_)
  unfold Builtin.List.listLengthHint
  refine wpAny_bind (wpAny_specialOf (T := "bytes") (v := .bytes b t) rfl lb_len ?_)
  wp_delta
  refine wpAny_bind (wpAny_isInstance (T := "bytes") (v := .bytes b t) (b := true) rfl lb_sub ?_)
  show wpAny _ _ (typeOf (Value.bytes b t) >>= _) _ _ _
  refine wpAny_bind (wpAny_typeOf (T := "bytes") (v := .bytes b t) rfl ?_)
  refine wpAny_pure ?_
  rw [if_neg (by decide)]
  refine wpAny_pure ⟨plainId_quiet F.plain_extend_loop _, codeAny_extend_loopS W.toS hn _ hSf _ b.size 0 _ _ _ rfl (Nat.zero_le _) hst (Heap.get?_push_of_some _ hS) (ItemsOf.nil _) fun s' acc' c' hm hS' hacc => ?_⟩
  rw [Moved.eq_with hm]
  refine hR s'.heap s'.toks acc' c' (fun b ob hb e => hm.heap b ob (fun hmem => ?_) (Heap.get?_push_of_some _ e)) hS' hacc
  rcases List.mem_cons.mp hmem with e' | hmem
  · exact hb e'
  · exact absurd (Heap.lt_size e) (by rw [List.mem_singleton.mp hmem]; exact Nat.lt_irrefl _)
theorem lb_init {R : Result → Shared → Prop} (hh : A.handled = none) (t : Tok) (S : Addr) (hS : s.heap.get? S = some { cls := .type "list", data := .seq #[] })
    (hR : ∀ h' tk acc' c', (∀ b o, b ≠ S → s.heap.get? b = some o → h'.get? b = some o) → h'.get? S = some { cls := .type "list", dict := none, data := .seq acc' c', slots := #[] } →
      ItemsOf (ByteAt b) acc' b.size → R (.ok (.ret .none)) { s with heap := h', toks := tk }) (hn : b.size ≤ sizeLine) :
    wpAny (model prog w) A.in1 (Builtin.«list.__init__» ⟨[.ref S, .bytes b t], []⟩)
      (fun fin s' => match fin with | .done f => R (.ok f) s' | .again c' => c'.quiet = true ∧ codeAny (model prog w) A c' R s') (fun e s' => R (.error e) s') s := by
  show wpAny _ _ (do let old ← Builtin.List.listItems (.ref S); Builtin.List.listUpdate (.ref S) (fun _ => #[]); letGo old.toList.reverse; Builtin.List.listExtendWith (.ref S) (.bytes b t) .none) _ _ s
  refine wpAny_bind ?_
  unfold Builtin.List.listItems
  refine wpAny_bind (wpAny_seqItems hS rfl (wpAny_pure ?_))
  show wpAny _ _ (updateSeq S (fun _ => #[]) >>= fun _ => letGo (#[] : Array Value).toList.reverse >>= fun _ => Builtin.List.listExtendWith (.ref S) (.bytes b t) .none) _ _ s
  refine wpAny_bind (wpAny_updateSeq hS rfl ?_)
  have hS₂ := Heap.get?_update_self (Obj.mapSeq (fun _ => (#[] : Array Value))) hS rfl
  have oth : ∀ b o, b ≠ S → s.heap.get? b = some o → (s.heap.update S (Obj.mapSeq (fun _ => (#[] : Array Value)))).get? b = some o :=
    fun b o hb e => (Heap.get?_update_other _ _ (Ne.symm hb)).trans e
  refine wpAny_bind (wpAny_letGo ?_)
  refine lb_extend (hn := hn) hh t S .none _ hS₂ fun h' tk acc' c' hk hS' hacc => ?_
  exact hR h' tk acc' c' (fun b o hb e => hk b o hb (oth b o hb e)) hS' hacc
theorem lb_call {Q : Value → Shared → Prop} (hh : A.handled = none) (t : Tok)
    (hQ : ∀ h' tk acc' c', (∀ b o, s.heap.get? b = some o → h'.get? b = some o) →
      h'.get? s.heap.objs.size = some { cls := .type "list", dict := none, data := .seq acc' c', slots := #[] } → ItemsOf (ByteAt b) acc' b.size → Q (.ref s.heap.objs.size) { s with heap := h', toks := tk }) (hn : b.size ≤ sizeLine) :
    wpAny (model prog w) A (call (.type "list") [.bytes b t]) Q E s := by
  refine callType_codes (Q₁ := fun obj s₁ => obj = .ref s.heap.objs.size ∧ s₁ = { s with heap := s.heap.push { cls := .type "list", data := .seq #[] } }) F.called_list (F.typeCall_list_1 _) F.entry_list_init
    (code_list_new _ ⟨rfl, rfl⟩) fun obj s₁ h₁ => ?_
  obtain ⟨rfl, rfl⟩ := h₁
  have hS : (s.heap.push { cls := .type "list", data := .seq #[] }).get? s.heap.objs.size = some { cls := .type "list", data := .seq #[] } := Heap.get?_push_size _ rfl
  refine ⟨⟨_, hS, rfl⟩, F.args_list_init_2 _ _, lb_init (A := A.in1) (hn := hn) hh t _ hS fun h' tk acc' c' hk hS' hacc => ?_⟩
  exact ⟨rfl, hQ h' tk acc' c' (fun b o e => hk b o (Nat.ne_of_lt (Heap.lt_size e)) (Heap.get?_push_of_some _ e)) hS' hacc⟩
end
end Mine
end

/-! ## PairT -/
section
open PySem PySem.W PySem.Spec PySem.Calls PyProof.Rows
set_option Elab.async false
set_option maxRecDepth 100000
set_option maxHeartbeats 8000000
namespace Mine
section
variable {prog : Program} {w : World} {A : Around} {E : Value → Shared → Prop} {s : Shared} {h₀ : Heap} {L : Addr} {m : PySem.Str → Option Value} {env : Env}
/-- what one turn of [b for a, b in l if c] asks -/
abbrev PTurn (prog : Program) (w : World) (A : Around) (h₀ : Heap) (L : Addr) (m : PySem.Str → Option Value) (env : Env) (c : Expr) (x x₂ : PySem.Str) (scope : Scope) (cl : List (PySem.Str × Addr)) (news : List (Addr × Obj)) (n : Nat) (v1 v2 : Nat → Value) (cc : Nat → Bool) (s : Shared) : Prop :=
  ∀ i I oI C oC D oD m₂ h tk, i < n → LCg.NsObj oC m₂ → m₂ x = some (v1 i) → m₂ x₂ = some (v2 i) → Fr h₀ L h m → News h₀ L h ((I, oI) :: (C, oC) :: (D, oD) :: news) →
    wpAny (model prog w) A (isTrue c (compEnvC scope cl C env) (eval c (compEnvC scope cl C env))) (fun ok s' => ok = cc i ∧ ∃ tk', s' = { s with heap := h, toks := tk' }) (fun _ _ => False) { s with heap := h, toks := tk }

theorem filt_succ {cc : Nat → Bool} {v : Nat → Value} {i : Nat} : ((List.range (i + 1)).filter cc).map v = ((List.range i).filter cc).map v ++ (if cc i then [v i] else []) := by
  rw [List.range_succ, List.filter_append, List.map_append]
  congr 1
  cases h : cc i <;> simp [h]

/-- what holds between the turns, by its use -/
def PInv (its : Array Value) (cc : Nat → Bool) (v2 : Nat → Value) (h₀ : Heap) (L : Addr) (m : PySem.Str → Option Value) (news : List (Addr × Obj)) (ax I C D : Addr) (s : Shared) (k : Nat) (s' : Shared) : Prop :=
  ∀ P : Prop, (∀ i h tk m', s' = { s with heap := h, toks := tk } → i ≤ its.size → k = its.size + 1 - i → h.IsListIter I ax i → Fr h₀ L h m → h.Ns C m' → News h₀ L h ((D, LCg.lst (((List.range i).filter cc).map v2)) :: news) → P) → P
theorem pt_block {iter c : Expr} {x x₂ : PySem.Str} {px px₂ pe tp : Pos} {kk : Nat} {scope : Scope} {cl : List (PySem.Str × Addr)} {pos : Pos} {I ax : Addr} {its : Array Value} {nl : Nat} {news : List (Addr × Obj)} {v1 v2 : Nat → Value} {cc : Nat → Bool} {RR : Value → Addr → Result → Shared → Prop}
    (hh : A.handled = none) (hsz : its.size ≤ sizeLine) (hcell : ∀ y ∈ scope.names, y.2 ≠ .cell) (hkind : scope.kind = .function) (hx : scope.names.lookup x = some .local) (hx₂ : scope.names.lookup x₂ = some .local) (hxx : x ≠ x₂) (hd : (x₂ == ("__debug__" : PySem.Str)) = false)
    (hkd : scope.names.lookup x₂ = some .local)
    (F : Fr h₀ L s.heap m) (N : News h₀ L s.heap news) (hm : (ax, listOf its nl) ∈ news) (hIs : I < s.heap.objs.size) (hit : s.heap.IsListIter I ax 0) (hIL : L ≠ I) (hI₀ : h₀.get? I = none) (off : ∀ p ∈ news, p.1 ≠ I)
    (pairs : ∀ (i : Nat) v, its[i]? = some v → ∃ t ot nt, v = .ref t ∧ (t, ot) ∈ news ∧ ot.cls = Value.type "tuple" ∧ ot.data = .seq #[v1 i, v2 i] nt)
    (turn : PTurn prog w A h₀ L m env c x x₂ scope cl news its.size v1 v2 cc s)
    (fin : ∀ D C h tk m', Fr h₀ L h m → News h₀ L h ((D, LCg.lst (((List.range its.size).filter cc).map v2)) :: news) → LCg.Off1 D news → h.Ns C m' → h₀.get? C = none → C ≠ L → C ≠ D → (∀ p ∈ news, p.1 ≠ C) → h₀.get? D = none → D ≠ L → RR (.ref D) C (.ok .next) { s with heap := h, toks := tk }) :
    wpAny (model prog w) A (newList []) (fun acc s₃ => wpAny (model prog w) A (newFunctionEnv scope env.globals cl [] env.qual none .none (some env)) (fun cenv s₄ =>
      codeAny (model prog w) A (.compStart (.ListComp (.Name x₂ pe) [⟨.Tuple [.Name x px, .Name x₂ px₂] kk tp, iter, [c], 0⟩] scope pos) 0 (.ref I) acc { cenv with scope := relabel scope env }) (RR acc cenv.locals) s₄) E s₃) E s := by
  refine wpAny_newObj_type (wpAny_newFunctionEnv hcell (by intro y hy; simp at hy) (fun h₁ hns₁ hsb₁ => ?_) hkind)
  dsimp only at hns₁ hsb₁ ⊢
  generalize hH2 : s.heap.push { cls := .type "list", dict := none, data := .seq ([] : List Value).toArray } = H2 at hns₁ hsb₁ ⊢
  have hC : H2.objs.size = s.heap.objs.size + 1 := by rw [← hH2, Heap.size_push]
  generalize hDn : s.heap.objs.size = D at *
  generalize hCn : H2.objs.size = C at *
  have old : ∀ (b : Nat) o, s.heap.get? b = some o → @LT.lt Nat _ b D := fun b o e => hDn ▸ Heap.lt_size e
  have hCD : C ≠ D := Nat.ne_of_gt (by omega)
  have keep1 : ∀ b o, s.heap.get? b = some o → h₁.get? b = some o := fun b o e => hsb₁.extBut b o (Nat.ne_of_lt (show @LT.lt Nat _ b C by have := old b o e; omega)) (Heap.get?_push_of_some _ (by rw [← hH2]; exact Heap.get?_push_of_some _ e))
  have eD1 : h₁.get? D = some (LCg.lst []) := hsb₁.extBut _ _ (Ne.symm hCD) (Heap.get?_push_of_some _ (by rw [← hH2, ← hDn]; exact Heap.get?_push_size _ rfl))
  have none₀ : ∀ (b : Nat), @LE.le Nat _ D b → h₀.get? b = none := fun b hb => by
    cases q : h₀.get? b with
    | none => rfl
    | some o => have := old b o (F.keep b o q); omega
  have hLD : @LT.lt Nat _ L D := by obtain ⟨o, _, _, q, _⟩ := F.ns; exact old _ _ q
  have newsD : ∀ p ∈ news, @LT.lt Nat _ p.1 D := fun p hp => old _ _ (N p hp).1
  have hlI : ax ≠ I := off _ hm
  have W := Walks.list (prog := prog) (w := w) hh I ax hlI its
  have loop : codeAny (model prog w) A (.compLoop (.ListComp (.Name x₂ pe) [⟨.Tuple [.Name x px, .Name x₂ px₂] kk tp, iter, [c], 0⟩] scope pos) 0 (.ref I) (.ref D) (compEnvC scope cl C env)) (RR (.ref D) C) { s with heap := h₁, toks := s.toks + ([] : List (PySem.Str × Value)).length } := by
    refine kct_loop (PInv its cc v2 h₀ L m news ax I C D s) ?_ (its.size + 1)
      (fun P kk => kk 0 h₁ _ _ rfl (Nat.zero_le _) rfl (hit.at fun o e => keep1 _ _ e) (F.keeps keep1) hns₁ fun p hp => ?_)
    · intro k s' H
      refine H _ ?_
      clear H
      rintro i h tk m' rfl hi rfl hI F' hn' N'
      have hl : h.IsList ax its := PySem.IsL.isList (n := nl) (N' _ (.tail _ hm)).1
      by_cases hlt : i < its.size
      · refine W.item i _ _ _ hlt ⟨hI, hl⟩ fun v h₂ tk₂ hv hst₂ hk₂ => ?_
        obtain ⟨t, ot, nt, rfl, hmt, hct, hdt⟩ := pairs i v hv
        have k2 : ∀ b o, b ≠ I → h.get? b = some o → h₂.get? b = some o := fun b o hb e => hk₂ b o (by simpa using hb) e
        have hDI : D ≠ I := Nat.ne_of_gt (hDn ▸ hIs)
        have hCI : C ≠ I := Nat.ne_of_gt (by have q : @LT.lt Nat _ I D := hDn ▸ hIs; show @LT.lt Nat _ I C; omega)
        refine wpAny_letOwnedTupleGo_listiter hst₂.1 ?_
        refine assign_Tuple_tuple hh (items := #[v1 i, v2 i]) ⟨ot, k2 _ _ (off _ hmt) (N' _ (.tail _ hmt)).1, hct, nt, hdt⟩ rfl rfl fun h₃ he => ?_
        have k3 : ∀ b o, h₂.get? b = some o → h₃.get? b = some o := fun b o e => he b o (Nat.ne_of_lt (Heap.lt_size e)) e
        have n3 : h₃.Ns C m' := hn'.at' fun o e => k3 _ _ (k2 _ _ hCI e)
        refine assignInOrder_cons (wpAny_assign_Name (wpAny_storeName_local (lookup_relabel_local hx) n3 (fun h₄ n4 b4 => ?_) (by simp [compEnvC, relabel, hkind])))
        refine assignInOrder_cons (wpAny_assign_Name (wpAny_storeName_local (lookup_relabel_local hx₂) n4 (fun h₅ n5 b5 => ?_) (by simp [compEnvC, relabel, hkind])))
        refine assignInOrder_nil ?_
        have k5 : ∀ b o, b ≠ I → b ≠ C → h.get? b = some o → h₅.get? b = some o := fun b o h1 h2 e => b5.extBut b o h2 (b4.extBut b o h2 (k3 b o (k2 b o h1 e)))
        have i5 : h₅.IsListIter I ax (i + 1) := hst₂.1.at fun o e => b5.extBut _ _ (Ne.symm hCI) (b4.extBut _ _ (Ne.symm hCI) (k3 _ _ e))
        obtain ⟨oI, eI, _⟩ := id i5
        obtain ⟨oC, eC, hoC⟩ := LCg.ns_obj n5
        have hCL : C ≠ L := Nat.ne_of_gt (show @LT.lt Nat _ L C by omega)
        have F5 : Fr h₀ L h₅ m := ⟨F'.ns.at' fun o e => k5 _ _ hIL (Ne.symm hCL) e, fun b o e => k5 b o (fun q => by rw [q, hI₀] at e; cases e) (fun q => by rw [q, none₀ C (by omega)] at e; cases e) (F'.keep b o e), F'.above⟩
        have N5 : News h₀ L h₅ ((D, LCg.lst (((List.range i).filter cc).map v2)) :: news) := fun p hp => by
          refine ⟨k5 _ _ ?_ ?_ (N' p hp).1, (N' p hp).2⟩
          · rcases List.mem_cons.mp hp with rfl | hp
            · exact hDI
            · exact off p hp
          · rcases List.mem_cons.mp hp with rfl | hp
            · exact Ne.symm hCD
            · exact Nat.ne_of_lt (show @LT.lt Nat _ p.1 C by have := newsD p hp; omega)
        have N6 : News h₀ L h₅ ((I, oI) :: (C, oC) :: (D, LCg.lst (((List.range i).filter cc).map v2)) :: news) := fun p hp => by
          rcases List.mem_cons.mp hp with rfl | hp
          · exact ⟨eI, Ne.symm hIL, hI₀⟩
          · rcases List.mem_cons.mp hp with rfl | hp
            · exact ⟨eC, hCL, none₀ C (by omega)⟩
            · exact N5 p hp
        refine wpAny_mono (turn i I oI C oC D _ _ h₅ _ hlt hoC (by simp [hxx]) (by simp) F5 N6) (fun ok s' ho => ?_) fun _ _ z => z.elim
        obtain ⟨rfl, tk', rfl⟩ := ho
        cases hc : cc i with
        | true =>
          rw [if_pos rfl]
          refine wpAny_Name (hd := hd) (wpAny_loadName_local (v := v2 i) (by show (relabel scope env).kind = _; simp [relabel, hkind]) (lookup_relabel_local hx₂) (hoC.ns eC) (by simp) ?_)
          refine append_at (hsz := by
            show (((List.range i).filter cc).map v2).toArray.size ≤ sizeLine
            rw [List.size_toArray, List.length_map]
            exact Nat.le_trans (List.length_filter_le _ _) (by rw [List.length_range]; omega)) (N5 _ (.head _)).1 fun h₆ b6 e6 => ?_
          have hDL : D ≠ L := Nat.ne_of_gt hLD
          refine ⟨its.size + 1 - (i + 1), by omega, fun P kk => kk (i + 1) h₆ _ _ rfl hlt rfl (i5.at fun o e => b6.extBut _ _ (Ne.symm hDI) e) (F5.change b6 hDL (none₀ D (Nat.le_refl _))) (n5.sameBut b6 hCD) fun p hp => ?_⟩
          rcases List.mem_cons.mp hp with rfl | hp
          · refine ⟨?_, hDL, none₀ D (Nat.le_refl _)⟩
            rw [filt_succ, hc, if_pos rfl]
            exact e6.trans (congrArg some (LCg.lst_snoc _ _))
          · exact ⟨b6.extBut _ _ (Nat.ne_of_lt (newsD p hp)) (N5 p (.tail _ hp)).1, (N5 p (.tail _ hp)).2⟩
        | false =>
          rw [if_neg (by decide)]
          refine ⟨its.size + 1 - (i + 1), by omega, fun P kk => kk (i + 1) h₅ _ _ rfl hlt rfl i5 F5 n5 ?_⟩
          rw [filt_succ, hc, if_neg (by decide), List.append_nil]
          exact N5
      · obtain rfl : i = its.size := Nat.le_antisymm hi (Nat.not_lt.mp hlt)
        refine W.done _ _ _ ⟨hI, hl⟩ fun h₂ tk₂ hk₂ => ?_
        have k2 : ∀ b o, b ≠ I → h.get? b = some o → h₂.get? b = some o := fun b o hb e => hk₂ b o (by simpa using hb) e
        have hDI : D ≠ I := Nat.ne_of_gt (hDn ▸ hIs)
        have hCI : C ≠ I := Nat.ne_of_gt (by have q : @LT.lt Nat _ I D := hDn ▸ hIs; show @LT.lt Nat _ I C; omega)
        refine fin D C h₂ tk₂ m' (LCg.fr_but F' (fun b o hb e => hk₂ b o (by simpa using hb) e) hIL hI₀) (fun p hp => ⟨k2 _ _ ?_ (N' p hp).1, (N' p hp).2⟩) (off1_of fun p hp => Nat.ne_of_lt (newsD p hp)) (hn'.at' fun o e => k2 _ _ hCI e) (none₀ C (by omega)) (Nat.ne_of_gt (show @LT.lt Nat _ L C by omega)) hCD (fun p hp => Nat.ne_of_lt (show @LT.lt Nat _ p.1 C by have := newsD p hp; omega)) (none₀ D (Nat.le_refl _)) (Nat.ne_of_gt hLD)
        rcases List.mem_cons.mp hp with rfl | hp
        · exact hDI
        · exact off p hp
    · rcases List.mem_cons.mp hp with rfl | hp
      · exact ⟨eD1, Nat.ne_of_gt hLD, none₀ D (Nat.le_refl _)⟩
      · exact ⟨keep1 _ _ (N p hp).1, (N p hp).2⟩
  exact codeAny_compStart_list loop (W.self 0 _ _ _ ⟨hit.at fun o e => keep1 _ _ e, PySem.IsL.isList (n := nl) (keep1 _ _ (N _ hm).1)⟩ loop)
/-- y = [b for a, b in l if c] -/
theorem Assign_PT {iter c : Expr} {x x₂ y : PySem.Str} {px px₂ pe tp py : Pos} {kk : Nat} {scope : Scope} {cl : List (PySem.Str × Addr)} {pos spos : Pos} {Q : Flow → Shared → Prop}
    (hLe : env.locals = L) (hsw : swapsWith (.ListComp (.Name x₂ pe) [⟨.Tuple [.Name x px, .Name x₂ px₂] kk tp, iter, [c], 0⟩] scope pos) (some (.Name y py)) spos.line env = pure true)
    (hclos : closureFor scope env = pure cl) (hcell : ∀ z ∈ scope.names, z.2 ≠ .cell) (hkind : scope.kind = .function)
    (hnames : ∀ z ∈ scope.names, z.2 = .local → scope.names.lookup z.1 = some .local) (hx : scope.names.lookup x = some .local) (hx₂ : scope.names.lookup x₂ = some .local) (hxx : x ≠ x₂) (hd : (x₂ == ("__debug__" : PySem.Str)) = false)
    (hy : env.kindOf y = some .local) (hp : (env.scope.kind == .class || (env.scope.kind == .module && env.locals != env.globals)) = false)
    (h : wpAny (model prog w) A (eval iter env) (fun xv s₁ => ∃ ax its nl news v1 v2 cc, xv = .ref ax ∧ A.handled = none ∧ Fr h₀ L s₁.heap m ∧ News h₀ L s₁.heap news ∧ (ax, listOf its nl) ∈ news ∧ its.size ≤ sizeLine ∧
      (∀ (i : Nat) v, its[i]? = some v → ∃ t ot nt, v = .ref t ∧ (t, ot) ∈ news ∧ ot.cls = Value.type "tuple" ∧ ot.data = .seq #[v1 i, v2 i] nt) ∧
      (∀ g, PTurn prog w A h₀ L m env c x x₂ scope cl news its.size v1 v2 cc { s₁ with heap := g }) ∧
      ∀ D h tk, Fr h₀ L h (fun z => if z = y then some (.ref D) else m z) → News h₀ L h ((D, LCg.lst (((List.range its.size).filter cc).map v2)) :: news) → LCg.Off1 D news → Q .next { s₁ with heap := h, toks := tk }) E s)
    (hs : ∀ x, foldedSetIterable iter env x = pure x := by intro _; rfl) :
    wpAny (model prog w) A (exec (.Assign [.Name y py] (.ListComp (.Name x₂ pe) [⟨.Tuple [.Name x px, .Name x₂ px₂] kk tp, iter, [c], 0⟩] scope pos) spos) env) Q E s := by
  subst hLe
  rw [exec_Assign_Name_used _ _ _ _ hsw]
  refine wpAny_bind (wpAny_standAt (wpAny_bind ?_))
  show wpAny _ A (do let _ ← comprehension (.ListComp (.Name x₂ pe) [⟨.Tuple [.Name x px, .Name x₂ px₂] kk tp, iter, [c], 0⟩] scope pos) scope env _ (newList []) false (eval iter env) (some (assign (.Name y py) env))) _ _ s
  refine wpAny_bind (wpAny_mono (wpAny_comprehension_free (use := some (assign (.Name y py) env)) (Q := fun _ s' => Q .next s') rfl hs hclos hkind hnames
    (wpAny_mono h (fun xv s₁ h₁ => ?_) fun _ _ e => e)) (fun _ s' hq => wpAny_pure (wpAny_pure hq)) fun _ _ e => e)
  obtain ⟨ax, its, nl, news, v1, v2, cc, rfl, hh, F, N, hm, hsz, pairs, turn, fin⟩ := h₁
  have hl : s₁.heap.IsList ax its := PySem.IsL.isList (n := nl) (N _ hm).1
  refine wpAny_pyIter_list hl ?_
  have up : ∀ b o, s₁.heap.get? b = some o → (s₁.heap.push { cls := .type "list_iterator", data := .fields #[.ref ax, .int 0 0] }).get? b = some o := fun b o e => Heap.get?_push_of_some _ e
  refine pt_block hh hsz hcell hkind hx hx₂ hxx hd hx₂ (F.keeps up) (N.grown up) hm (I := s₁.heap.objs.size) (by show _ < (s₁.heap.push _).objs.size; rw [Heap.size_push]; exact Nat.lt_succ_self _) ⟨_, Heap.get?_push_size _ rfl, rfl, rfl⟩ (Nat.ne_of_lt F.ns.lt) (by
      cases q : h₀.get? s₁.heap.objs.size with
      | none => rfl
      | some o => exact absurd (Heap.lt_size (F.keep _ _ q)) (Nat.lt_irrefl _))
    (fun p hp => Nat.ne_of_lt (Heap.lt_size (N p hp).1)) pairs (turn _) fun D C h' tk m' F' N' o1 hn hC₀ hCL hCD offC hD₀ hDL => ?_
  show wpAny _ A (assign (.Name y py) env (.ref D)) _ _ _
  refine wpAny_assign_Name (wpAny_storeName_local hy F'.ns (fun h₂ hn₂ hs₂ => ?_) hp)
  have hL₀ : h₀.get? env.locals = none := Heap.get?_none_of_le F'.above
  have F₂ : Fr h₀ env.locals h₂ (fun z => if z = y then some (.ref D) else m z) := F'.set hn₂ hs₂
  have N₂ := N'.set hs₂
  refine ⟨m', hn.sameBut hs₂ hCL, fun h'' hs'' => fin D h'' _ (F₂.change hs'' hCL hC₀) (fun p hp => ?_) o1⟩
  refine ⟨hs''.extBut _ _ ?_ (N₂ p hp).1, (N₂ p hp).2⟩
  rcases List.mem_cons.mp hp with rfl | hp
  · exact Ne.symm hCD
  · exact offC p hp
end
end Mine
end

/-! ## CellT -/
section
open PySem PySem.W PySem.Spec PySem.Calls PyProof.Rows
set_option Elab.async false
set_option maxRecDepth 100000
set_option maxHeartbeats 8000000
namespace Mine
section
variable {prog : Program} {w : World} {A : Around} {E : Value → Shared → Prop} {s : Shared} {h₀ : Heap} {L : Addr} {m : PySem.Str → Option Value} {env : Env}
/-- what one turn of [x for x in range(n) if c] asks, x a cell of the block's -/
abbrev CTurn (prog : Program) (w : World) (A : Around) (h₀ : Heap) (L : Addr) (m : PySem.Str → Option Value) (env : Env) (c : Expr) (x : PySem.Str) (scope : Scope) (cl : List (PySem.Str × Addr)) (news : List (Addr × Obj)) (n : Nat) (cc : Nat → Bool) (s : Shared) : Prop :=
  ∀ i t I oI C oC X oX D oD h tk, i < n → oX.data = .cell (some (.int (0 + (i : Int)) t)) → Fr h₀ L h m → News h₀ L h ((I, oI) :: (C, oC) :: (X, oX) :: (D, oD) :: news) →
    wpAny (model prog w) A (isTrue c (compEnvC scope ((x, X) :: cl) C env) (eval c (compEnvC scope ((x, X) :: cl) C env))) (fun ok s' => ok = cc i ∧ ∃ h' tk', s' = { s with heap := h', toks := tk' } ∧ Fr h₀ L h' m ∧ News h₀ L h' ((I, oI) :: (C, oC) :: (X, oX) :: (D, oD) :: news)) (fun _ _ => False) { s with heap := h, toks := tk }

theorem ints_push {cc : Nat → Bool} {i : Nat} {ys : List Value} {t : Tok} (h : IntsAre ys (((List.range i).filter cc).map fun j : Nat => (j : Int))) : IntsAre (if cc i then ys ++ [Value.int (0 + (i : Int)) t] else ys) (((List.range (i + 1)).filter cc).map fun j : Nat => (j : Int)) := by
  rw [List.range_succ, List.filter_append, List.map_append]
  cases hc : cc i with
  | true =>
    have e : ([i].filter cc).map (fun j : Nat => (j : Int)) = [0 + (i : Int)] := by simp [hc]
    rw [e, if_pos rfl]
    exact ints_snoc h
  | false =>
    have e : ([i].filter cc).map (fun j : Nat => (j : Int)) = [] := by simp [hc]
    rw [e, List.append_nil, if_neg (by decide)]
    exact h
/-- what holds between the turns, by its use -/
def CInv (n : Nat) (cc : Nat → Bool) (h₀ : Heap) (L : Addr) (m : PySem.Str → Option Value) (news : List (Addr × Obj)) (I C X D : Addr) (s₁ : Shared) (k : Nat) (s' : Shared) : Prop :=
  ∀ P : Prop, (∀ i ys h tk m' v₀, s' = { s₁ with heap := h, toks := tk } → i ≤ n → k = n + 1 - i → IsRangeIter h I (0 + (i : Nat) * 1) ((n : Int) - (i : Nat)) 1 → IntsAre ys (((List.range i).filter cc).map fun j : Nat => (j : Int)) → Fr h₀ L h m → h.Ns C m' → h.IsCell X v₀ → News h₀ L h ((D, LCg.lst ys) :: news) → P) → P
def CPost (n : Nat) (cc : Nat → Bool) (h₀ : Heap) (L : Addr) (m : PySem.Str → Option Value) (news : List (Addr × Obj)) (C D : Addr) (s₁ : Shared) (s' : Shared) : Prop :=
  ∀ P : Prop, (∀ ys h tk m', s' = { s₁ with heap := h, toks := tk } → IntsAre ys (((List.range n).filter cc).map fun j : Nat => (j : Int)) → Fr h₀ L h m → h.Ns C m' → News h₀ L h ((D, LCg.lst ys) :: news) → P) → P
/-- [x for x in range(n) if c], x a cell of the block's -/
theorem compCell {iter c : Expr} {x : PySem.Str} {px pe pos : Pos} {scope : Scope} {cl : List (PySem.Str × Addr)} {Q : Value → Shared → Prop} (hh : A.handled = none)
    (hclos : closureFor scope env = pure cl) (hkind : scope.kind = .function) (hcf : ∀ k, cellsFrom k scope.names cl = (x, k) :: cl) (hpc : ∀ h, pushCells h scope.names = h.push { cls := .type "cell", data := .cell none })
    (hk : ∀ C X, (compEnvC scope ((x, X) :: cl) C env).kindOf x = some .cell) (hvars : (scope.names.filter fun y => (y.2 == .local || y.2 == .cell) && y.1 != (".0" : PySem.Str)) = [(x, .cell)]) (hd : (x == ("__debug__" : PySem.Str)) = false) (n : Nat) (hsz : n ≤ sizeLine)
    (h : wpAny (model prog w) A (eval iter env) (fun xv s₁ => ∃ r e t u v news cc, xv = .ref r ∧ IsRange s₁.heap r 0 e 1 t u v ∧ Builtin.Range.small 0 e 1 = true ∧ Builtin.Range.rangeSize 0 e 1 = ((n : Nat) : Int) ∧ Fr h₀ L s₁.heap m ∧ News h₀ L s₁.heap news ∧
      CTurn prog w A h₀ L m env c x scope cl news n cc s₁ ∧
      ∀ D ys h tk, IntsAre ys (((List.range n).filter cc).map fun j : Nat => (j : Int)) → Fr h₀ L h m → News h₀ L h ((D, LCg.lst ys) :: news) → LCg.Off1 D news → Q (.ref D) { s₁ with heap := h, toks := tk }) E s)
    (hs : ∀ x, foldedSetIterable iter env x = pure x := by intro _; rfl) :
    wpAny (model prog w) A (eval (.ListComp (.Name x pe) [⟨.Name x px, iter, [c], 0⟩] scope pos) env) Q E s := by
  rw [eval_ListComp]
  unfold comprehension
  rw [hclos]
  refine wpAny_bind (wpAny_mono h (fun xv s₁ h₁ => ?_) fun _ _ e => e)
  obtain ⟨r, e, t, u, v, news, cc, rfl, hr, hsm, hn, F, N, turn, fin⟩ := h₁
  refine wpAny_bind (wpAny_standAt ?_)
  refine wpAny_bind (wpAny_of_eq (hs _) ?_)
  refine wpAny_bind (wpAny_holding (wpAny_pyIter_range hr hsm ?_))
  simp only [Option.isSome_none, Bool.false_eq_true, if_false]
  refine wpAny_bind (wpAny_newObj_type ?_)
  refine wpAny_bind (wpAny_pure ?_)
  refine wpAny_bind ?_
  simp only [newFunctionEnv, Option.isSome_some, if_true]
  refine wpAny_bind (wpAny_alloc ?_)
  refine wpAny_bind (wpAny_layCells _ (fun name kind cells => by cases hkc : kind == NameKind.cell <;> simp [hkc]) _ _ _ _ ?_)
  rw [hcf, hpc]
  refine wpAny_bind ?_
  rw [List.forIn_nil]
  refine wpAny_pure (wpAny_pure ?_)
  dsimp only
  have hF0 : s₁.heap.get? s₁.heap.objs.size = none := by
    cases q : s₁.heap.get? s₁.heap.objs.size with
    | none => rfl
    | some o => exact absurd (Heap.lt_size q) (Nat.lt_irrefl _)
  generalize hH1 : s₁.heap.push { cls := .type "range_iterator", data := .fields #[rawInt 0, rawInt (Builtin.Range.rangeSize 0 e 1), rawInt 1] } = H1
  generalize hH2 : H1.push { cls := Value.type "list", data := Data.seq #[] } = H2
  generalize hH3 : H2.push { cls := Value.type "dict", data := Data.dict #[] } = H3
  generalize hH4 : H3.push { cls := Value.type "cell", data := Data.cell none } = H4
  generalize hI : s₁.heap.objs.size = I
  generalize hD : H1.objs.size = D
  generalize hC : H2.objs.size = C
  generalize hX : H3.objs.size = X
  have sD : D = I + 1 := by rw [← hD, ← hH1, Heap.size_push, hI]
  have sC : C = D + 1 := by rw [← hC, ← hH2, Heap.size_push, hD]
  have sX : X = C + 1 := by rw [← hX, ← hH3, Heap.size_push, hC]
  have old : ∀ (b : Nat) o, s₁.heap.get? b = some o → @LT.lt Nat _ b I := fun b o q => hI ▸ Heap.lt_size q
  have kp : ∀ b o, s₁.heap.get? b = some o → H4.get? b = some o := fun b o q => by
    rw [← hH4, ← hH3, ← hH2, ← hH1]
    exact Heap.get?_push_of_some _ (Heap.get?_push_of_some _ (Heap.get?_push_of_some _ (Heap.get?_push_of_some _ q)))
  have eI : H4.get? I = some { cls := .type "range_iterator", data := .fields #[rawInt 0, rawInt (Builtin.Range.rangeSize 0 e 1), rawInt 1] } := by
    rw [← hH4, ← hH3, ← hH2]
    refine Heap.get?_push_of_some _ (Heap.get?_push_of_some _ (Heap.get?_push_of_some _ ?_))
    rw [← hH1, ← hI]; exact Heap.get?_push_size _ rfl
  have eD : H4.get? D = some (LCg.lst []) := by
    rw [← hH4, ← hH3]
    refine Heap.get?_push_of_some _ (Heap.get?_push_of_some _ ?_)
    rw [← hH2, ← hD]; exact Heap.get?_push_size _ rfl
  have eC : H4.Ns C (fun _ => none) := by
    rw [← hH4]
    refine Heap.Ns.keeps ?_ fun b o q => Heap.get?_push_of_some _ q
    rw [← hH3, ← hC]; exact Heap.Ns.new H2 (.type "dict")
  have eX : H4.get? X = some { cls := .type "cell", data := .cell none } := by
    rw [← hH4, ← hX]; exact Heap.get?_push_size _ rfl
  have none₀ : ∀ (b : Nat), @LE.le Nat _ I b → h₀.get? b = none := fun b hb => by
    cases q : h₀.get? b with
    | none => rfl
    | some o => have := old b o (F.keep b o q); omega
  have hLI : @LT.lt Nat _ L I := by obtain ⟨o, _, _, q, _⟩ := F.ns; exact old _ _ q
  have newsI : ∀ p ∈ news, @LT.lt Nat _ p.1 I := fun p hp => old _ _ (N p hp).1
  have W := LCg.range_walks (prog := prog) (w := w) (I := I) hh 0 n
  clear hH1 hH2 hH3 hH4 hI hD hC hX
  have nIC : I ≠ C := Nat.ne_of_lt (show @LT.lt Nat _ I C by omega)
  have nID : I ≠ D := Nat.ne_of_lt (show @LT.lt Nat _ I D by omega)
  have nIX : I ≠ X := Nat.ne_of_lt (show @LT.lt Nat _ I X by omega)
  have nDC : D ≠ C := Nat.ne_of_lt (show @LT.lt Nat _ D C by omega)
  have nDX : D ≠ X := Nat.ne_of_lt (show @LT.lt Nat _ D X by omega)
  have nCX : C ≠ X := Nat.ne_of_lt (show @LT.lt Nat _ C X by omega)
  have nLI : L ≠ I := Nat.ne_of_lt hLI
  have nLC : L ≠ C := Nat.ne_of_lt (show @LT.lt Nat _ L C by omega)
  have nLD : L ≠ D := Nat.ne_of_lt (show @LT.lt Nat _ L D by omega)
  have nLX : L ≠ X := Nat.ne_of_lt (show @LT.lt Nat _ L X by omega)
  have z1 := none₀ I (Nat.le_refl _)
  have z2 := none₀ C (by omega)
  have z3 := none₀ X (by omega)
  have z4 := none₀ D (by omega)
  have offI : ∀ p ∈ news, p.1 ≠ I := fun p hp => Nat.ne_of_lt (newsI p hp)
  have offC : ∀ p ∈ news, p.1 ≠ C := fun p hp => Nat.ne_of_lt (show @LT.lt Nat _ p.1 C by have := newsI p hp; omega)
  have offX : ∀ p ∈ news, p.1 ≠ X := fun p hp => Nat.ne_of_lt (show @LT.lt Nat _ p.1 X by have := newsI p hp; omega)
  have offD : ∀ p ∈ news, p.1 ≠ D := fun p hp => Nat.ne_of_lt (show @LT.lt Nat _ p.1 D by have := newsI p hp; omega)
  have loop : codeAny (model prog w) A (.compLoop (.ListComp (.Name x pe) [⟨.Name x px, iter, [c], 0⟩] scope pos) 0 (.ref I) (.ref D) (compEnvC scope ((x, X) :: cl) C env))
      (fun r s' => r = .ok .next ∧ CPost n cc h₀ L m news C D s₁ s') { s₁ with heap := H4 } := by
    refine kct_loop (CInv n cc h₀ L m news I C X D s₁) ?_ (n + 1)
      (fun P kk => kk 0 [] H4 s₁.toks _ none rfl (Nat.zero_le _) rfl ?_ .nil (F.keeps kp) eC ⟨_, eX, rfl⟩ fun p hp => ?_)
    · intro k s' H
      refine H _ ?_
      clear H
      rintro i ys h tk m' v₀ rfl hi rfl hit hys F' hn' hX' N'
      by_cases hlt : i < n
      · refine W.item i _ _ _ hlt hit fun v h₂ tk₂ hv hit₂ hk₂ => ?_
        obtain ⟨t9, rfl⟩ := hv
        have k2 : ∀ b o, b ≠ I → h.get? b = some o → h₂.get? b = some o := fun b o hb q => hk₂ b o (by simpa using hb) q
        refine wpAny_of_eq (a := ()) rfl ?_
        refine wpAny_assign_Name (wpAny_storeName_cell (c := X) (v₀ := v₀) (by show (relabel scope env).kind = _; simp [relabel, hkind]) (hk C X) (by simp [compEnvC]) (by obtain ⟨o, q, q2⟩ := hX'; exact ⟨o, k2 _ _ (Ne.symm nIX) q, q2⟩) fun h₃ hv3 hs3 => ?_)
        have k3 : ∀ b o, b ≠ I → b ≠ X → h.get? b = some o → h₃.get? b = some o := fun b o h1 h2 q => hs3.extBut b o h2 (k2 b o h1 q)
        have it3 : IsRangeIter h₃ I (0 + ((i + 1 : Nat) : Int) * 1) ((n : Int) - ((i + 1 : Nat) : Int)) 1 := hs3.extBut _ _ nIX hit₂
        obtain ⟨oX, gX, dX⟩ := hv3
        obtain ⟨oC, gC, hoC⟩ := LCg.ns_obj (hn'.at' fun o q => k3 C o (Ne.symm nIC) nCX q)
        have F3 : Fr h₀ L h₃ m := ⟨F'.ns.at' fun o q => k3 _ _ nLI nLX q, fun b o q => k3 b o (fun q2 => by rw [q2, z1] at q; cases q) (fun q2 => by rw [q2, z3] at q; cases q) (F'.keep b o q), F'.above⟩
        have N3 : News h₀ L h₃ ((I, _) :: (C, oC) :: (X, oX) :: (D, LCg.lst ys) :: news) := fun p hp => by
          rcases List.mem_cons.mp hp with rfl | hp
          · exact ⟨it3, Ne.symm nLI, z1⟩
          · rcases List.mem_cons.mp hp with rfl | hp
            · exact ⟨gC, Ne.symm nLC, z2⟩
            · rcases List.mem_cons.mp hp with rfl | hp
              · exact ⟨gX, Ne.symm nLX, z3⟩
              · have q := N' p hp
                refine ⟨k3 _ _ ?_ ?_ q.1, q.2⟩
                · rcases List.mem_cons.mp hp with rfl | hp
                  · exact Ne.symm nID
                  · exact offI p hp
                · rcases List.mem_cons.mp hp with rfl | hp
                  · exact nDX
                  · exact offX p hp
        refine wpAny_mono (turn i t9 I _ C oC X oX D _ h₃ _ hlt dX F3 N3) (fun ok s' ho => ?_) fun _ _ z => z.elim
        obtain ⟨rfl, h₄, tk₄, rfl, F4, N4⟩ := ho
        have a1 := (N4 _ (.head _)).1
        have a2 := (N4 _ (.tail _ (.head _))).1
        have a3 := (N4 _ (.tail _ (.tail _ (.head _)))).1
        have N5 : News h₀ L h₄ ((D, LCg.lst ys) :: news) := fun p hp => N4 p (.tail _ (.tail _ (.tail _ hp)))
        have Iy := ints_push (i := i) (t := t9) hys
        cases hc : cc i with
        | true =>
          rw [if_pos rfl]
          rw [hc, if_pos rfl] at Iy
          refine wpAny_Name (hd := hd) (wpAny_loadName_cell (c := X) (v := .int (0 + (i : Int)) t9) (by show (relabel scope env).kind = _; simp [relabel, hkind]) (hk C X) (by simp [compEnvC]) ⟨oX, a3, dX⟩ ?_)
          refine append_at (hsz := by
            show ys.toArray.size ≤ sizeLine
            rw [List.size_toArray, hys.length, List.length_map]
            exact Nat.le_trans (List.length_filter_le _ _) (by rw [List.length_range]; omega)) (N5 _ (.head _)).1 fun h₆ b6 e6 => ?_
          refine ⟨n + 1 - (i + 1), by omega, fun P kk => kk (i + 1) _ h₆ _ _ _ rfl hlt rfl (b6.extBut _ _ nID a1) Iy (F4.change b6 (Ne.symm nLD) z4) ((hoC.ns a2).sameBut b6 (Ne.symm nDC)) ⟨oX, b6.extBut _ _ (Ne.symm nDX) a3, dX⟩ fun p hp => ?_⟩
          rcases List.mem_cons.mp hp with rfl | hp
          · exact ⟨e6.trans (congrArg some (LCg.lst_snoc _ _)), Ne.symm nLD, z4⟩
          · exact ⟨b6.extBut _ _ (offD p hp) (N5 p (.tail _ hp)).1, (N5 p (.tail _ hp)).2⟩
        | false =>
          rw [if_neg (by decide)]
          rw [hc, if_neg (by decide)] at Iy
          exact ⟨n + 1 - (i + 1), by omega, fun P kk => kk (i + 1) ys h₄ tk₄ _ _ rfl hlt rfl a1 Iy F4 (hoC.ns a2) ⟨oX, a3, dX⟩ N5⟩
      · have hin : i = n := Nat.le_antisymm hi (Nat.not_lt.mp hlt)
        rw [hin] at hit hys
        refine W.done _ _ _ hit fun h₂ tk₂ hk₂ => ?_
        have k2 : ∀ b o, b ≠ I → h.get? b = some o → h₂.get? b = some o := fun b o hb q => hk₂ b o (by simpa using hb) q
        refine ⟨rfl, fun P kk => kk ys h₂ tk₂ m' rfl hys (LCg.fr_but F' (fun b o hb q => k2 b o (by simpa using hb) q) nLI z1) (hn'.at' fun o q => k2 _ _ (Ne.symm nIC) q) fun p hp => ⟨k2 _ _ ?_ (N' p hp).1, (N' p hp).2⟩⟩
        rcases List.mem_cons.mp hp with rfl | hp
        · exact Ne.symm nID
        · exact offI p hp
    · show H4.get? I = some _
      rw [eI, hn]; simp
    · rcases List.mem_cons.mp hp with rfl | hp
      · exact ⟨eD, Ne.symm nLD, z4⟩
      · exact ⟨kp _ _ (N p hp).1, (N p hp).2⟩
  refine wpAny_holding (wpAny_bind (wpAny_attempt (wpAny_holding (wpAny_run (codeAny_mono (codeAny_compStart_list loop (W.self 0 _ _ _ (by show H4.get? I = some _; rw [eI, hn]; simp) loop)) fun r s' hr => ?_)))))
  obtain ⟨rfl, hr⟩ := hr
  refine hr _ ?_
  clear hr
  rintro ys h' tk m' rfl hys F' hn' N'
  refine wpAny_bind (wpAny_holding (wpAny_comp_letGo (cenv := compEnvC scope ((x, X) :: cl) C env) hkind _ _ m' (fun y hy hl => ?_) hn' fun h'' m'' _ hs' => wpAny_pure (fin D ys h'' tk hys (F'.change hs' (Ne.symm nLC) z2) (fun p hp => ⟨hs'.extBut _ _ ?_ (N' p hp).1, (N' p hp).2⟩) (off1_of offD))))
  · rw [hvars] at hy
    simp at hy
    subst hy
    cases hl
  · rcases List.mem_cons.mp hp with rfl | hp
    · exact nDC
    · exact offC p hp
end
end Mine
end

/-! ## HL -/
section
open PySem PySem.W PySem.Spec PySem.Calls PyProof.Rows
set_option Elab.async false
set_option maxRecDepth 100000
set_option maxHeartbeats 8000000
namespace Mine
/-- the frame's own names of _law_holds -/
abbrev HM (l2 : Addr) (theirs best : Option Value) : PySem.Str → Option Value := fun y => if y = PySem.Str.ofString "best" then best else if y = PySem.Str.ofString "theirs" then theirs else if y = PySem.Str.ofString "widths" then some (.ref l2) else none
def OffL (L' a : Nat) : Prop := (@Ne Nat a (L' + 1)) ∧ (@Ne Nat a (L' + 1 + 1)) ∧ (@Ne Nat a (L' + 1 + 1 + 1)) ∧ (@Ne Nat a (L' + 1 + 1 + 1 + 1)) ∧ (@Ne Nat a (L' + 1 + 1 + 1 + 1 + 1)) ∧ (@Ne Nat a (L' + 1 + 1 + 1 + 1 + 1 + 1)) ∧ (@Ne Nat a (L' + 1 + 1 + 1 + 1 + 1 + 1 + 1)) ∧ (@Ne Nat a (L' + 1 + 1 + 1 + 1 + 1 + 1 + 1 + 1))
/-- what stands between the statements of _law_holds -/
def HI (g : Heap) (L' l2 : Addr) (left told ours sums laid images turned row theirs best : Option Value) (extra T : List (Addr × Obj)) (h : Heap) : Prop :=
  ∀ P : Prop, (∀ o1 o2 o3 o4 o5 o6 o7 o8 : Obj, o1.data = .cell left → o2.data = .cell told → o3.data = .cell ours → o4.data = .cell sums → o5.data = .cell laid → o6.data = .cell images → o7.data = .cell turned → o8.data = .cell row → (∀ p ∈ extra, OffL L' p.1) → (∀ p ∈ T, OffL L' p.1) → Fr g L' h (HM l2 theirs best) → News g L' h (extra ++ ([(L' + 1 + 1 + 1 + 1 + 1 + 1 + 1 + 1, o1), (L' + 1 + 1 + 1 + 1 + 1 + 1 + 1, o2), (L' + 1 + 1 + 1 + 1 + 1 + 1, o3), (L' + 1 + 1 + 1 + 1 + 1, o4), (L' + 1 + 1 + 1 + 1, o5), (L' + 1 + 1 + 1, o6), (L' + 1 + 1, o7), (L' + 1, o8)] ++ T)) → P) → P
/-- HI, opened -/
theorem hi_el {g : Heap} {L' l2 : Addr} {left told ours sums laid images turned row theirs best : Option Value} {extra T : List (Addr × Obj)} {h : Heap} {P : Prop} (H : HI g L' l2 left told ours sums laid images turned row theirs best extra T h)
    (k : ∀ o1 o2 o3 o4 o5 o6 o7 o8 : Obj, o1.data = .cell left → o2.data = .cell told → o3.data = .cell ours → o4.data = .cell sums → o5.data = .cell laid → o6.data = .cell images → o7.data = .cell turned → o8.data = .cell row →
      (∀ p ∈ extra, OffL L' p.1) → (∀ p ∈ T, OffL L' p.1) → Fr g L' h (HM l2 theirs best) → News g L' h (extra ++ ([(L' + 1 + 1 + 1 + 1 + 1 + 1 + 1 + 1, o1), (L' + 1 + 1 + 1 + 1 + 1 + 1 + 1, o2), (L' + 1 + 1 + 1 + 1 + 1 + 1, o3), (L' + 1 + 1 + 1 + 1 + 1, o4), (L' + 1 + 1 + 1 + 1, o5), (L' + 1 + 1 + 1, o6), (L' + 1 + 1, o7), (L' + 1, o8)] ++ T)) → P) : P := by
  exact H P k
/-- HI, closed -/
theorem hi_in {g : Heap} {L' l2 : Addr} {left told ours sums laid images turned row theirs best : Option Value} {extra T : List (Addr × Obj)} {h : Heap} {o1 o2 o3 o4 o5 o6 o7 o8 : Obj} (d1 : o1.data = .cell left) (d2 : o2.data = .cell told) (d3 : o3.data = .cell ours) (d4 : o4.data = .cell sums) (d5 : o5.data = .cell laid) (d6 : o6.data = .cell images) (d7 : o7.data = .cell turned) (d8 : o8.data = .cell row)
    (hE : ∀ p ∈ extra, OffL L' p.1) (hTE : ∀ p ∈ T, OffL L' p.1) (F : Fr g L' h (HM l2 theirs best)) (N : News g L' h (extra ++ ([(L' + 1 + 1 + 1 + 1 + 1 + 1 + 1 + 1, o1), (L' + 1 + 1 + 1 + 1 + 1 + 1 + 1, o2), (L' + 1 + 1 + 1 + 1 + 1 + 1, o3), (L' + 1 + 1 + 1 + 1 + 1, o4), (L' + 1 + 1 + 1 + 1, o5), (L' + 1 + 1 + 1, o6), (L' + 1 + 1, o7), (L' + 1, o8)] ++ T))) : HI g L' l2 left told ours sums laid images turned row theirs best extra T h :=
  fun _ k => k o1 o2 o3 o4 o5 o6 o7 o8 d1 d2 d3 d4 d5 d6 d7 d8 hE hTE F N
/-- the sums of the row's products with the images -/
def SM (row : List Int) (k : Int) : List Int := (List.range 8).map fun i : Nat => (pr row (mv (i : Int) (mv k row))).sum
theorem hi_mk {g : Heap} {L' l2 : Addr} {left told ours sums laid images turned row theirs best : Option Value} {extra T : List (Addr × Obj)} {h : Heap} {o1 o2 o3 o4 o5 o6 o7 o8 : Obj} (d1 : o1.data = .cell left) (d2 : o2.data = .cell told) (d3 : o3.data = .cell ours) (d4 : o4.data = .cell sums) (d5 : o5.data = .cell laid) (d6 : o6.data = .cell images) (d7 : o7.data = .cell turned) (d8 : o8.data = .cell row)
    (hE : ∀ p ∈ extra, OffL L' p.1) (hTE : ∀ p ∈ T, OffL L' p.1) (F : Fr g L' h (HM l2 theirs best)) {all : List (Addr × Obj)} (N : News g L' h all) (sub : ∀ p ∈ extra ++ ([(L' + 1 + 1 + 1 + 1 + 1 + 1 + 1 + 1, o1), (L' + 1 + 1 + 1 + 1 + 1 + 1 + 1, o2), (L' + 1 + 1 + 1 + 1 + 1 + 1, o3), (L' + 1 + 1 + 1 + 1 + 1, o4), (L' + 1 + 1 + 1 + 1, o5), (L' + 1 + 1 + 1, o6), (L' + 1 + 1, o7), (L' + 1, o8)] ++ T), p ∈ all) : HI g L' l2 left told ours sums laid images turned row theirs best extra T h :=
  hi_in d1 d2 d3 d4 d5 d6 d7 d8 hE hTE F fun p hp => N p (sub p hp)
theorem offL_of {L' D : Nat} {ex T : List (Addr × Obj)} {o1 o2 o3 o4 o5 o6 o7 o8 : Obj} (h : LCg.Off1 D (ex ++ ([(L' + 1 + 1 + 1 + 1 + 1 + 1 + 1 + 1, o1), (L' + 1 + 1 + 1 + 1 + 1 + 1 + 1, o2), (L' + 1 + 1 + 1 + 1 + 1 + 1, o3), (L' + 1 + 1 + 1 + 1 + 1, o4), (L' + 1 + 1 + 1 + 1, o5), (L' + 1 + 1 + 1, o6), (L' + 1 + 1, o7), (L' + 1, o8)] ++ T))) : OffL L' D := by
  have q := fun p hp => off1_mem h p (List.mem_append_right _ (List.mem_append_left _ hp))
  simp only [List.forall_mem_cons, List.not_mem_nil, false_implies, implies_true, and_true] at q
  obtain ⟨a1, a2, a3, a4, a5, a6, a7, a8⟩ := q
  exact ⟨Ne.symm a8, Ne.symm a7, Ne.symm a6, Ne.symm a5, Ne.symm a4, Ne.symm a3, Ne.symm a2, Ne.symm a1⟩
/-- the butterflies -/
def spec (row : List Int) : List Int := sp 4 (sp 2 (sp 1 row))
theorem offE {L' D : Nat} {o : Obj} {ex : List (Addr × Obj)} (h : OffL L' D) (hE : ∀ p ∈ ex, OffL L' p.1) : ∀ p ∈ (D, o) :: ex, OffL L' p.1 := fun p hp => by
  rcases List.mem_cons.mp hp with rfl | hp
  · exact h
  · exact hE p hp
theorem ints_ext {R : List Int} {ys : List Value} (hl : ys.length = R.length) (h : ∀ (i : Nat) y, ys[i]? = some y → ∃ t, y = Value.int (R.getD i 0) t) : IntsAre ys R := by
  have := ints_of (e := fun i => R.getD i 0) hl h
  have e : (List.range R.length).map (fun i => R.getD i 0) = R := by
    apply List.ext_getElem
    · simp
    · intro j h1 h2
      simp [h2]
  rw [e] at this
  exact this
theorem list_b {prog : Program} {w : World} {A : Around} {E : Value → Shared → Prop} {s : Shared} {b : Array UInt8} {t : Tok} {row : List Int} {Q : Value → Shared → Prop} (hh : A.handled = none) (hb : KBw.bInts b = row) (h8 : row.length = 8)
    (h : ∀ y ys c h' tk', Keep s.heap h' → IntsAre ys row → h'.get? y = some (listOf ys.toArray c) → s.heap.get? y = none → Q (.ref y) { s with heap := h', toks := tk' }) : wpAny (model prog w) A (call (.type "list") [.bytes b t]) Q E s := by
  have hsz : b.size = 8 := by rw [← KBw.ints_length, hb, h8]
  refine lb_call hh t (fun h' tk acc' c' hk hS hi => ?_) (by rw [hsz, sizeLine_eq]; decide)
  refine h _ acc'.toList c' h' tk hk (ints_ext ?_ fun i y hy => ?_) (by rw [Array.toArray_toList]; exact hS) (by
    cases q : s.heap.get? s.heap.objs.size with
    | none => rfl
    | some o => exact absurd (Heap.lt_size q) (Nat.lt_irrefl _))
  · rw [Array.length_toList, hi.1, hsz, h8]
  · obtain ⟨c, u, e1, rfl⟩ := hi.2 i y (by simpa using hy)
    have := KBw.ints_get e1
    rw [hb] at this
    refine ⟨u, ?_⟩
    rw [List.getD_eq_getElem?_getD, this]
    rfl
/-- the tuples that were told -/
def TU (T : List (Addr × Obj)) (K : List Int) : Prop := ∀ (j : Nat) (p : Addr × Obj), T[j]? = some p → p.2.cls = Value.type "tuple" ∧ ∃ x y t u n, p.2.data = .seq #[Value.int x t, Value.int y u] n ∧ 0 ≤ y ∧ y < 8 ∧ K[j]? = some (8 * x + y)
theorem mkT {h : Heap} {ts : List Addr} {key : Addr → Int} (hk : ∀ a ∈ ts, TK h a (key a)) : ∃ T : List (Addr × Obj), T.map (·.1) = ts ∧ (∀ p ∈ T, h.get? p.1 = some p.2) ∧ TU T (ts.map key) := by
  induction ts with
  | nil => exact ⟨[], rfl, (fun p hp => by cases hp), fun j p hp => by simp at hp⟩
  | cons a r ih =>
    obtain ⟨T, h1, h2, h3⟩ := ih fun b hb => hk b (.tail _ hb)
    obtain ⟨x, y, ⟨o, t, u, n, e, c, d⟩, y0, y1, ek⟩ := hk a (.head _)
    refine ⟨(a, o) :: T, by rw [List.map_cons, h1], fun p hp => ?_, fun j p hp => ?_⟩
    · rcases List.mem_cons.mp hp with rfl | hp
      · exact e
      · exact h2 p hp
    · cases j with
      | zero =>
        simp at hp
        subst hp
        exact ⟨c, x, y, t, u, n, d, y0, y1, by simp [ek]⟩
      | succ j =>
        have := h3 j p (by simpa using hp)
        simpa using this
theorem updF_append {d : Addr} {o : Obj} {r : List (Addr × Obj)} {g : Obj → List (Addr × Obj)} : ∀ {ex : List (Addr × Obj)}, (∀ p ∈ ex, p.1 ≠ d) → UpdF d o r g → UpdF d o (ex ++ r) (fun o' => ex ++ g o')
  | [], _, U => U
  | p :: ex, h, U => .tail (h p (.head _)) (updF_append (fun q hq => h q (.tail _ hq)) U)
theorem nl {L a b : Nat} (h : a ≠ b) : @Ne Nat (L + a) (L + b) := fun e => h (Nat.add_left_cancel e)
theorem upd_told {L' : Nat} {ex T : List (Addr × Obj)} {o1 o2 o3 o4 o5 o6 o7 o8 : Obj} (hE : ∀ p ∈ ex, OffL L' p.1) (hT : ∀ p ∈ T, OffL L' p.1) :
    UpdF (L' + 1 + 1 + 1 + 1 + 1 + 1 + 1) o2 (ex ++ ([(L' + 1 + 1 + 1 + 1 + 1 + 1 + 1 + 1, o1), (L' + 1 + 1 + 1 + 1 + 1 + 1 + 1, o2), (L' + 1 + 1 + 1 + 1 + 1 + 1, o3), (L' + 1 + 1 + 1 + 1 + 1, o4), (L' + 1 + 1 + 1 + 1, o5), (L' + 1 + 1 + 1, o6), (L' + 1 + 1, o7), (L' + 1, o8)] ++ T)) (fun o => ex ++ ([(L' + 1 + 1 + 1 + 1 + 1 + 1 + 1 + 1, o1), (L' + 1 + 1 + 1 + 1 + 1 + 1 + 1, o), (L' + 1 + 1 + 1 + 1 + 1 + 1, o3), (L' + 1 + 1 + 1 + 1 + 1, o4), (L' + 1 + 1 + 1 + 1, o5), (L' + 1 + 1 + 1, o6), (L' + 1 + 1, o7), (L' + 1, o8)] ++ T)) :=
  updF_append (fun p hp => (hE p hp).2.2.2.2.2.2.1) (.tail (nl (L := L') (a := 8) (b := 7) (by decide)) (.head (List.forall_mem_append.mpr ⟨List.forall_mem_cons.mpr ⟨(nl (L := L') (a := 6) (b := 7) (by decide)), List.forall_mem_cons.mpr ⟨(nl (L := L') (a := 5) (b := 7) (by decide)), List.forall_mem_cons.mpr ⟨(nl (L := L') (a := 4) (b := 7) (by decide)), List.forall_mem_cons.mpr ⟨(nl (L := L') (a := 3) (b := 7) (by decide)), List.forall_mem_cons.mpr ⟨(nl (L := L') (a := 2) (b := 7) (by decide)), List.forall_mem_cons.mpr ⟨(nl (L := L') (a := 1) (b := 7) (by decide)), List.forall_mem_nil _⟩⟩⟩⟩⟩⟩, fun p hp => (hT p hp).2.2.2.2.2.2.1⟩)))
theorem upd_left {L' : Nat} {ex T : List (Addr × Obj)} {o1 o2 o3 o4 o5 o6 o7 o8 : Obj} (hE : ∀ p ∈ ex, OffL L' p.1) (hT : ∀ p ∈ T, OffL L' p.1) :
    UpdF (L' + 1 + 1 + 1 + 1 + 1 + 1 + 1 + 1) o1 (ex ++ ([(L' + 1 + 1 + 1 + 1 + 1 + 1 + 1 + 1, o1), (L' + 1 + 1 + 1 + 1 + 1 + 1 + 1, o2), (L' + 1 + 1 + 1 + 1 + 1 + 1, o3), (L' + 1 + 1 + 1 + 1 + 1, o4), (L' + 1 + 1 + 1 + 1, o5), (L' + 1 + 1 + 1, o6), (L' + 1 + 1, o7), (L' + 1, o8)] ++ T)) (fun o => ex ++ ([(L' + 1 + 1 + 1 + 1 + 1 + 1 + 1 + 1, o), (L' + 1 + 1 + 1 + 1 + 1 + 1 + 1, o2), (L' + 1 + 1 + 1 + 1 + 1 + 1, o3), (L' + 1 + 1 + 1 + 1 + 1, o4), (L' + 1 + 1 + 1 + 1, o5), (L' + 1 + 1 + 1, o6), (L' + 1 + 1, o7), (L' + 1, o8)] ++ T)) :=
  updF_append (fun p hp => (hE p hp).2.2.2.2.2.2.2) (.head (List.forall_mem_append.mpr ⟨List.forall_mem_cons.mpr ⟨(nl (L := L') (a := 7) (b := 8) (by decide)), List.forall_mem_cons.mpr ⟨(nl (L := L') (a := 6) (b := 8) (by decide)), List.forall_mem_cons.mpr ⟨(nl (L := L') (a := 5) (b := 8) (by decide)), List.forall_mem_cons.mpr ⟨(nl (L := L') (a := 4) (b := 8) (by decide)), List.forall_mem_cons.mpr ⟨(nl (L := L') (a := 3) (b := 8) (by decide)), List.forall_mem_cons.mpr ⟨(nl (L := L') (a := 2) (b := 8) (by decide)), List.forall_mem_cons.mpr ⟨(nl (L := L') (a := 1) (b := 8) (by decide)), List.forall_mem_nil _⟩⟩⟩⟩⟩⟩⟩, fun p hp => (hT p hp).2.2.2.2.2.2.2⟩))
theorem upd_ours {L' : Nat} {ex T : List (Addr × Obj)} {o1 o2 o3 o4 o5 o6 o7 o8 : Obj} (hE : ∀ p ∈ ex, OffL L' p.1) (hT : ∀ p ∈ T, OffL L' p.1) :
    UpdF (L' + 1 + 1 + 1 + 1 + 1 + 1) o3 (ex ++ ([(L' + 1 + 1 + 1 + 1 + 1 + 1 + 1 + 1, o1), (L' + 1 + 1 + 1 + 1 + 1 + 1 + 1, o2), (L' + 1 + 1 + 1 + 1 + 1 + 1, o3), (L' + 1 + 1 + 1 + 1 + 1, o4), (L' + 1 + 1 + 1 + 1, o5), (L' + 1 + 1 + 1, o6), (L' + 1 + 1, o7), (L' + 1, o8)] ++ T)) (fun o => ex ++ ([(L' + 1 + 1 + 1 + 1 + 1 + 1 + 1 + 1, o1), (L' + 1 + 1 + 1 + 1 + 1 + 1 + 1, o2), (L' + 1 + 1 + 1 + 1 + 1 + 1, o), (L' + 1 + 1 + 1 + 1 + 1, o4), (L' + 1 + 1 + 1 + 1, o5), (L' + 1 + 1 + 1, o6), (L' + 1 + 1, o7), (L' + 1, o8)] ++ T)) :=
  updF_append (fun p hp => (hE p hp).2.2.2.2.2.1) (.tail (nl (L := L') (a := 8) (b := 6) (by decide)) (.tail (nl (L := L') (a := 7) (b := 6) (by decide)) (.head (List.forall_mem_append.mpr ⟨List.forall_mem_cons.mpr ⟨(nl (L := L') (a := 5) (b := 6) (by decide)), List.forall_mem_cons.mpr ⟨(nl (L := L') (a := 4) (b := 6) (by decide)), List.forall_mem_cons.mpr ⟨(nl (L := L') (a := 3) (b := 6) (by decide)), List.forall_mem_cons.mpr ⟨(nl (L := L') (a := 2) (b := 6) (by decide)), List.forall_mem_cons.mpr ⟨(nl (L := L') (a := 1) (b := 6) (by decide)), List.forall_mem_nil _⟩⟩⟩⟩⟩, fun p hp => (hT p hp).2.2.2.2.2.1⟩))))
theorem upd_laid {L' : Nat} {ex T : List (Addr × Obj)} {o1 o2 o3 o4 o5 o6 o7 o8 : Obj} (hE : ∀ p ∈ ex, OffL L' p.1) (hT : ∀ p ∈ T, OffL L' p.1) :
    UpdF (L' + 1 + 1 + 1 + 1) o5 (ex ++ ([(L' + 1 + 1 + 1 + 1 + 1 + 1 + 1 + 1, o1), (L' + 1 + 1 + 1 + 1 + 1 + 1 + 1, o2), (L' + 1 + 1 + 1 + 1 + 1 + 1, o3), (L' + 1 + 1 + 1 + 1 + 1, o4), (L' + 1 + 1 + 1 + 1, o5), (L' + 1 + 1 + 1, o6), (L' + 1 + 1, o7), (L' + 1, o8)] ++ T)) (fun o => ex ++ ([(L' + 1 + 1 + 1 + 1 + 1 + 1 + 1 + 1, o1), (L' + 1 + 1 + 1 + 1 + 1 + 1 + 1, o2), (L' + 1 + 1 + 1 + 1 + 1 + 1, o3), (L' + 1 + 1 + 1 + 1 + 1, o4), (L' + 1 + 1 + 1 + 1, o), (L' + 1 + 1 + 1, o6), (L' + 1 + 1, o7), (L' + 1, o8)] ++ T)) :=
  updF_append (fun p hp => (hE p hp).2.2.2.1) (.tail (nl (L := L') (a := 8) (b := 4) (by decide)) (.tail (nl (L := L') (a := 7) (b := 4) (by decide)) (.tail (nl (L := L') (a := 6) (b := 4) (by decide)) (.tail (nl (L := L') (a := 5) (b := 4) (by decide)) (.head (List.forall_mem_append.mpr ⟨List.forall_mem_cons.mpr ⟨(nl (L := L') (a := 3) (b := 4) (by decide)), List.forall_mem_cons.mpr ⟨(nl (L := L') (a := 2) (b := 4) (by decide)), List.forall_mem_cons.mpr ⟨(nl (L := L') (a := 1) (b := 4) (by decide)), List.forall_mem_nil _⟩⟩⟩, fun p hp => (hT p hp).2.2.2.1⟩))))))
theorem upd_sums {L' : Nat} {ex T : List (Addr × Obj)} {o1 o2 o3 o4 o5 o6 o7 o8 : Obj} (hE : ∀ p ∈ ex, OffL L' p.1) (hT : ∀ p ∈ T, OffL L' p.1) :
    UpdF (L' + 1 + 1 + 1 + 1 + 1) o4 (ex ++ ([(L' + 1 + 1 + 1 + 1 + 1 + 1 + 1 + 1, o1), (L' + 1 + 1 + 1 + 1 + 1 + 1 + 1, o2), (L' + 1 + 1 + 1 + 1 + 1 + 1, o3), (L' + 1 + 1 + 1 + 1 + 1, o4), (L' + 1 + 1 + 1 + 1, o5), (L' + 1 + 1 + 1, o6), (L' + 1 + 1, o7), (L' + 1, o8)] ++ T)) (fun o => ex ++ ([(L' + 1 + 1 + 1 + 1 + 1 + 1 + 1 + 1, o1), (L' + 1 + 1 + 1 + 1 + 1 + 1 + 1, o2), (L' + 1 + 1 + 1 + 1 + 1 + 1, o3), (L' + 1 + 1 + 1 + 1 + 1, o), (L' + 1 + 1 + 1 + 1, o5), (L' + 1 + 1 + 1, o6), (L' + 1 + 1, o7), (L' + 1, o8)] ++ T)) :=
  updF_append (fun p hp => (hE p hp).2.2.2.2.1) (.tail (nl (L := L') (a := 8) (b := 5) (by decide)) (.tail (nl (L := L') (a := 7) (b := 5) (by decide)) (.tail (nl (L := L') (a := 6) (b := 5) (by decide)) (.head (List.forall_mem_append.mpr ⟨List.forall_mem_cons.mpr ⟨(nl (L := L') (a := 4) (b := 5) (by decide)), List.forall_mem_cons.mpr ⟨(nl (L := L') (a := 3) (b := 5) (by decide)), List.forall_mem_cons.mpr ⟨(nl (L := L') (a := 2) (b := 5) (by decide)), List.forall_mem_cons.mpr ⟨(nl (L := L') (a := 1) (b := 5) (by decide)), List.forall_mem_nil _⟩⟩⟩⟩, fun p hp => (hT p hp).2.2.2.2.1⟩)))))
theorem offL_fresh {g h : Heap} {L' a : Nat} {ex T : List (Addr × Obj)} {o1 o2 o3 o4 o5 o6 o7 o8 : Obj} (N : News g L' h (ex ++ ([(L' + 1 + 1 + 1 + 1 + 1 + 1 + 1 + 1, o1), (L' + 1 + 1 + 1 + 1 + 1 + 1 + 1, o2), (L' + 1 + 1 + 1 + 1 + 1 + 1, o3), (L' + 1 + 1 + 1 + 1 + 1, o4), (L' + 1 + 1 + 1 + 1, o5), (L' + 1 + 1 + 1, o6), (L' + 1 + 1, o7), (L' + 1, o8)] ++ T))) (hf : h.get? a = none) : OffL L' a := by
  have q : ∀ p ∈ [(L' + 1 + 1 + 1 + 1 + 1 + 1 + 1 + 1, o1), (L' + 1 + 1 + 1 + 1 + 1 + 1 + 1, o2), (L' + 1 + 1 + 1 + 1 + 1 + 1, o3), (L' + 1 + 1 + 1 + 1 + 1, o4), (L' + 1 + 1 + 1 + 1, o5), (L' + 1 + 1 + 1, o6), (L' + 1 + 1, o7), (L' + 1, o8)], p.1 ≠ a := fun p hp e => by
    have := (N p (List.mem_append_right _ (List.mem_append_left _ hp))).1
    rw [e, hf] at this; cases this
  simp only [List.forall_mem_cons, List.not_mem_nil, false_implies, implies_true, and_true] at q
  obtain ⟨a1, a2, a3, a4, a5, a6, a7, a8⟩ := q
  exact ⟨Ne.symm a8, Ne.symm a7, Ne.symm a6, Ne.symm a5, Ne.symm a4, Ne.symm a3, Ne.symm a2, Ne.symm a1⟩
section
variable {prog : Program} {w : World} {A : Around} {E : Value → Shared → Prop} {s : Shared} {h₀ : Heap} {L l : Addr} {news : List (Addr × Obj)} {as : List Addr} {n : Nat} {value slice : Expr} {u : Tok}
theorem get_lo {Q : Value → Shared → Prop} (N : News h₀ L s.heap news) (hm : (l, LO as n) ∈ news) (h1 : 0 < as.length) (h : Q (.ref (as.getD 0 0)) s)
    (hs : subscripted slice false (.ref l) (.int 0 u) = operate [.ref l, .int 0 u] (getItem (.ref l) (.int 0 u)) := by with_unfolding_all rfl) :
    wpAny (model prog w) A (subscriptTail value slice (.ref l) (.int 0 u)) Q E s := by
  have hl : s.heap.IsList l (as.map Value.ref).toArray := PySem.IsL.isList (n := n) (N _ hm).1
  exact tail_any hl.typeIs slot_list_getitem.lookup (getItem_listL hl (by decide) (by decide) (lo_get h1) h) hs
theorem get_li {Q : Value → Shared → Prop} {vs : List Value} {i : Int} {v : Value} (N : News h₀ L s.heap news) (hm : (l, LCg.lst vs) ∈ news) (h0 : 0 ≤ i) (h1 : i < 8) (hv : vs[i.toNat]? = some v) (h : Q v s)
    (hs : subscripted slice false (.ref l) (.int i u) = operate [.ref l, .int i u] (getItem (.ref l) (.int i u)) := by with_unfolding_all rfl) :
    wpAny (model prog w) A (subscriptTail value slice (.ref l) (.int i u)) Q E s := by
  have hl : s.heap.IsList l vs.toArray := PySem.IsL.isList (n := vs.length) (N _ hm).1
  exact tail_any hl.typeIs slot_list_getitem.lookup (getItem_listL hl h0 (by omega) hv h) hs
theorem get_tp {Q : Value → Shared → Prop} {a : Addr} {x y : Int} (p : TP s.heap a x y) (h : ∀ t, Q (.int x t) s)
    (hs : subscripted slice false (.ref a) (.int 0 u) = operate [.ref a, .int 0 u] (getItem (.ref a) (.int 0 u)) := by with_unfolding_all rfl) :
    wpAny (model prog w) A (subscriptTail value slice (.ref a) (.int 0 u)) Q E s := by
  obtain ⟨o, t, u', n, e, c, d⟩ := p
  have hT : IsTup s.heap a #[.int x t, .int y u'] := ⟨o, e, c, n, d⟩
  exact tail_any hT.typeIs slot_tuple_getitem.lookup (getItem_tuple hT (by decide) (by decide) (j := 0) (by rfl) rfl (h t)) hs
end
/-- an item of the told tuples -/
def fst2 (T : List (Addr × Obj)) (k : Nat) (j : Nat) : Value := match T[j]? with
  | some p => (match p.2.data with | .seq xs _ => xs.getD k .none | _ => .none)
  | none => .none
theorem tu_at {T : List (Addr × Obj)} {K : List Int} (h : TU T K) (j : Nat) (p : Addr × Obj) (hp : T[j]? = some p) :
    p.2.cls = Value.type "tuple" ∧ ∃ t u n, p.2.data = .seq #[Value.int (K.getD j 0 / 8) t, Value.int (K.getD j 0 % 8) u] n ∧ fst2 T 0 j = .int (K.getD j 0 / 8) t ∧ fst2 T 1 j = .int (K.getD j 0 % 8) u := by
  obtain ⟨c, x, y, t, u, n, d, y0, y1, e⟩ := h j p hp
  have e1 : K.getD j 0 = 8 * x + y := by rw [List.getD_eq_getElem?_getD, e]; rfl
  have ex : K.getD j 0 / 8 = x := by omega
  have ey : K.getD j 0 % 8 = y := by omega
  rw [ex, ey]
  exact ⟨c, t, u, n, d, by unfold fst2; rw [hp]; dsimp only; rw [d]; rfl, by unfold fst2; rw [hp]; dsimp only; rw [d]; rfl⟩
theorem tu_tp {T : List (Addr × Obj)} {K : List Int} {h : Heap} (hT : TU T K) {j : Nat} (hj : j < T.length) (e : ∀ p ∈ T, h.get? p.1 = some p.2) : TP h ((T.map (·.1)).getD j 0) (K.getD j 0 / 8) (K.getD j 0 % 8) := by
  have hp : T[j]? = some T[j] := by simp [hj]
  obtain ⟨c, t, u, n, d, _⟩ := tu_at hT j _ hp
  have : (T.map (·.1)).getD j 0 = (T[j]).1 := by simp [hj]
  rw [this]
  exact ⟨_, t, u, n, e _ (List.getElem_mem hj), c, d⟩
/-- the numbers that were told with the first one's sum -/
def bestK (K : List Int) : List Int := ((List.range 8).filter fun i => decide (K.getD i 0 / 8 = K.getD 0 0 / 8)).map fun i => K.getD i 0 % 8
/-- the places at which the butterflies leave no nought -/
def leftI (row : List Int) : List Int := ((List.range 8).filter fun i => decide ((spec row).getD i 0 ≠ 0)).map fun i : Nat => (i : Int)
theorem bne_dec (z : Int) : (z != 0) = decide (z ≠ 0) := by by_cases h : z = 0 <;> simp [h]
theorem getD_map {β : Type} {l : List Int} {f : Int → β} {d : β} {j : Nat} (h : j < l.length) : (l.map f).getD j d = f (l.getD j 0) := by simp [h]
theorem ints_inj : ∀ {l l' : List UInt8}, (l.map fun c => (c.toNat : Int)) = (l'.map fun c => (c.toNat : Int)) → l = l'
  | [], [], _ => rfl
  | [], _ :: _, h => by cases h
  | _ :: _, [], h => by cases h
  | x :: l, y :: l', h => by
    simp only [List.map_cons, List.cons.injEq] at h
    have e1 : l = l' := ints_inj h.2
    have e2 : x = y := UInt8.toNat_inj.mp (by omega)
    rw [e1, e2]
theorem beq_ints {b c : Array UInt8} {r r' : List Int} (hb : KBw.bInts b = r) (hc : KBw.bInts c = r') : (b.toList == c.toList) = decide (r = r') := by
  subst hb; subst hc
  by_cases h : b.toList = c.toList
  · have : KBw.bInts b = KBw.bInts c := by unfold KBw.bInts; rw [h]
    rw [decide_eq_true this, h]; simp
  · have : KBw.bInts b ≠ KBw.bInts c := fun q => h (ints_inj q)
    rw [decide_eq_false this]; simpa using h
theorem rep8 : ∀ i, i < 8 → (List.replicate 8 true).getD i false = true := by decide
theorem ints_map {f : Nat → Value} {e : Nat → Int} : ∀ {l : List Nat}, (∀ i ∈ l, ∃ t, f i = .int (e i) t) → IntsAre (l.map f) (l.map e)
  | [], _ => .nil
  | i :: r, h => by
    obtain ⟨t, ht⟩ := h i (.head _)
    rw [List.map_cons, List.map_cons, ht]
    exact .cons _ _ (ints_map fun j hj => h j (.tail _ hj))
theorem andC {M : Model} {A : Around} {E : Value → Shared → Prop} {s : Shared} {env : Env} {e₁ e₂ : Expr} {rest : List Expr} {pos : Pos} {Q : Value → Shared → Prop} (P : Heap → Prop)
    (h1 : wpAny M A (eval e₁ env) (fun v s' => v = .bool true ∧ ∃ h' tk', s' = { s with heap := h', toks := tk' } ∧ P h') E s)
    (h2 : ∀ h' tk', P h' → wpAny M A (eval (.BoolOp .And (e₂ :: rest) pos) env) Q E { s with heap := h', toks := tk' }) : wpAny M A (eval (.BoolOp .And (e₁ :: e₂ :: rest) pos) env) Q E s := by
  refine BoolOp_and (wpAny_mono h1 (fun v s' h => ?_) fun _ _ x => x)
  obtain ⟨rfl, h', tk', rfl, hP⟩ := h
  refine wpAny_truthy_bool ?_
  rw [if_pos rfl]
  exact h2 h' tk' hP
theorem bools_ext : ∀ {ys : List Value} {bs : List Bool}, ys.length = bs.length → (∀ (i : Nat) y, ys[i]? = some y → y = Value.bool (bs.getD i false)) → LSm.BoolsAre ys bs
  | [], [], _, _ => .nil
  | [], _ :: _, h, _ => by cases h
  | _ :: _, [], h, _ => by cases h
  | y :: ys, b :: bs, hl, h => by
    have h0 := h 0 y rfl
    simp at h0
    subst h0
    exact .cons b (bools_ext (by simpa using hl) fun i z hz => by simpa using h (i + 1) z (by simpa using hz))
section
variable {prog : Program} {w : World} {A : Around} {E : Value → Shared → Prop} {s : Shared} {h₀ : Heap} {L l : Addr} {m : PySem.Str → Option Value} {news : List (Addr × Obj)} {row : List Int}
theorem bytes_row {Q : Value → Shared → Prop} (F : Fr h₀ L s.heap m) (N : News h₀ L s.heap news) (hl : IL h₀ l row) (h8 : row.length = 8) (hb : ∀ i, 0 ≤ row.getD i 0 ∧ row.getD i 0 < 4) (hh : A.handled = none)
    (h : ∀ h' y t' k, Fr h₀ L h' m → News h₀ L h' news → KBw.bInts y = row → Q (.bytes y t') { s with heap := h', toks := k }) : wpAny (model prog w) A (call (.type "bytes") [.ref l]) Q E s := by
  obtain ⟨vs, n, e, hi⟩ := hl
  have hr : KBa.In row := fun k hk => by
    obtain ⟨i, hi, rfl⟩ := List.mem_iff_getElem.mp hk
    have := hb i
    rw [List.getD_eq_getElem?_getD, List.getElem?_eq_getElem hi] at this
    simp at this
    omega
  exact KBa.make_K F N hh (PySem.IsL.isList (n := n) (F.keep _ _ e)) hi hr (by omega) fun h' t' k F' N' _ => h h' _ t' k F' N' (KBa.ints_make hr)
end
end Mine
end

/-! ## SortT -/
section
open PySem PySem.W PySem.Spec PySem.Calls PyProof.Rows
set_option Elab.async false
set_option maxRecDepth 100000
set_option maxHeartbeats 8000000
namespace Mine
section
variable {prog : Program} {w : World} {A : Around} {E : Value → Shared → Prop} {s : Shared} {a b : Addr} {x y x' y' : Int}
theorem ask_tp {C : Bool → Shared → Prop} (p : TP s.heap a x y) (q : TP s.heap b x' y') (y0 : 0 ≤ y) (y1 : y < 8) (y0' : 0 ≤ y') (y1' : y' < 8) (h : C (decide (8 * x + y < 8 * x' + y')) s) :
    wpAny (model prog w) A (keyLt' (tuples' true) (.ref a) (.ref b)) C E s := by
  obtain ⟨o, t, u, n, e, c, d⟩ := p
  obtain ⟨o', t', u', n', e', c', d'⟩ := q
  refine kat_lt e d e' d' ?_
  show KatLex prog w A true (decide (2 < 2)) C [(Value.int x t, Value.int x' t'), (Value.int y u, Value.int y' u')] 0 s
  refine kat_cons (wpAny_eqBool_int ?_)
  by_cases hx : x = x'
  · subst hx
    rw [beq_self_eq_true]
    refine kat_yes (kat_cons (wpAny_eqBool_int ?_))
    by_cases hy : y = y'
    · subst hy
      rw [beq_self_eq_true]
      refine kat_yes (kat_nil ?_)
      have e1 : decide (8 * x + y < 8 * x + y) = false := by simp
      rw [e1] at h
      exact h
    · have : (y == y') = false := by simp [hy]
      rw [this]
      refine kat_no ?_
      show wpAny (model prog w) A (oneLt' false _ _) _ _ _
      refine kat_one _ _ (PySem.P.lt_int ?_)
      have e1 : decide (8 * x + y < 8 * x + y') = decide (y < y') := by apply decide_eq_decide.mpr; omega
      rw [e1] at h
      exact h
  · have : (x == x') = false := by simp [hx]
    rw [this]
    refine kat_no ?_
    show wpAny (model prog w) A (oneLt' true _ _) _ _ _
    refine oneLt_int ?_
    have e1 : decide (8 * x + y < 8 * x' + y') = decide (x < x') := by apply decide_eq_decide.mpr; omega
    rw [e1] at h
    exact h
end
theorem kat_of {h : Heap} {sums : List Int} : ∀ {T : List (Addr × Obj)}, (∀ p ∈ T, h.get? p.1 = some p.2) → (∀ p ∈ T, p.2.cls = Value.type "tuple" ∧ ∃ x y t u n, p.2.data = .seq #[Value.int x t, Value.int y u] n) →
    ∃ fs : List Value, KatTups h (T.map fun p => Value.ref p.1) fs ∧ fs.length = T.length ∧ ∀ v ∈ fs, ∃ x t, v = Value.int x t
  | [], _, _ => ⟨[], .nil, rfl, fun v hv => by cases hv⟩
  | p :: T, e, hT => by
    obtain ⟨fs, k, hl, hv⟩ := kat_of (sums := sums) (fun q hq => e q (.tail _ hq)) fun q hq => hT q (.tail _ hq)
    obtain ⟨c, x, y, t, u, n, d⟩ := hT p (.head _)
    exact ⟨.int x t :: fs, .cons (e p (.head _)) c d rfl k, by simp [hl], fun v hv' => by
      rcases List.mem_cons.mp hv' with rfl | hv'
      · exact ⟨x, t, rfl⟩
      · exact hv v hv'⟩
section
variable {prog : Program} {w : World} {A : Around} {E : Value → Shared → Prop} {s : Shared} {h₀ : Heap} {L : Addr} {m : PySem.Str → Option Value} {news : List (Addr × Obj)}
theorem sorted_tp {T : List (Addr × Obj)} {sums : List Int} {D0 : Addr} {c0 : Nat} {Q : Value → Shared → Prop} (F : Fr h₀ L s.heap m) (N : News h₀ L s.heap news) (hD : (D0, LO (T.map (·.1)) c0) ∈ news) (hT : TT T sums) (h8 : T.length = 8) (hm : ∀ p ∈ T, p ∈ news)
    (h : ∀ D h' c T3 K, Fr h₀ L h' m → News h₀ L h' ((D, LO (T3.map (·.1)) c) :: news) → (∀ p ∈ T3, p ∈ T) → TU T3 K → T3.length = 8 → K.Perm ((List.range 8).map fun i => 8 * (-(sums.getD i 0)) + (i : Int)) → K.Pairwise (· ≤ ·) → Q (.ref D) { s with heap := h' }) :
    wpAny (model prog w) A (call (.builtin "sorted") [.ref D0]) Q E s := by
  have hvl : ((T.map (·.1)).map Value.ref).length = 8 := by simp [h8]
  refine kat_sorted F N (PySem.IsL.isList (n := c0) (N _ hD).1) (by rw [hvl]; decide) (by rw [hvl]; decide) fun D e1 h' F' N' l1 => ?_
  have eT : ∀ p ∈ T, h'.get? p.1 = some p.2 := fun p hp => (N' p (.tail _ (hm p hp))).1
  have hTp : ∀ p ∈ T, p.2.cls = Value.type "tuple" ∧ ∃ x y t u n, p.2.data = .seq #[Value.int x t, Value.int y u] n := fun p hp => by
    obtain ⟨j, hj, hp⟩ := List.mem_iff_getElem.mp hp
    obtain ⟨c, t, u, n, d⟩ := hT j p (by rw [← hp]; simp [hj])
    exact ⟨c, _, _, t, u, n, d⟩
  obtain ⟨fs, hk, hfl, hfs⟩ := kat_of (sums := sums) eT hTp
  have hvs : (T.map (·.1)).map Value.ref = T.map fun p => Value.ref p.1 := by rw [List.map_map]; rfl
  rw [hvl, hvs]
  refine kat_kind (s := { s with heap := h' }) hk (by omega) (T := .type "int") (fun v hv => by
    obtain ⟨x, t, rfl⟩ := hfs v hv
    exact Looks.of_pure rfl) (by rfl) ?_
  show (kas_sort 8).kasWp (kas_ask prog w A.in1.in1 (tuples' true) _) _ _
  have hat : ∀ i, i < 8 → ∃ p, T[i]? = some p ∧ (T.map fun p => Value.ref p.1).getD i Value.none = .ref p.1 ∧ TP h' p.1 (-(sums.getD i 0)) (i : Int) := fun i hi => by
    have hi' : i < T.length := by omega
    refine ⟨T[i], by simp [hi'], by simp [hi'], ?_⟩
    obtain ⟨c, t, u, n, d⟩ := hT i T[i] (by simp [hi'])
    exact ⟨_, t, u, n, eT _ (List.getElem_mem hi'), c, d⟩
  refine sort_wp (n := 8) (κ := fun i => 8 * (-(sums.getD i 0)) + (i : Int)) (fun i j hi hj e => by omega) (fun i j C hi hj hC => ?_) (by decide) fun p hp ha => ?_
  · obtain ⟨p, _, e1, t1⟩ := hat i hi
    obtain ⟨q, _, e2, t2⟩ := hat j hj
    unfold kas_ask
    rw [e1, e2]
    exact ask_tp t1 t2 (by omega) (by omega) (by omega) (by omega) hC
  · refine KasFin.intro F' N' (.head fun q hq => Nat.ne_of_lt (l1 q hq)) fun h3 c F3 N3 => ?_
    have hlt : ∀ i ∈ p.toList, i < 8 := fun i hi => List.mem_range.mp (hp.mem_iff.mp hi)
    have key : ∀ l : List Nat, (∀ i ∈ l, i < 8) → ∃ T3 : List (Addr × Obj), (l.map fun i => (T.map fun p => Value.ref p.1).getD i Value.none) = (T3.map (·.1)).map Value.ref ∧ (∀ p ∈ T3, p ∈ T) ∧ TU T3 (l.map fun i => 8 * (-(sums.getD i 0)) + (i : Int)) ∧ T3.length = l.length := by
      intro l
      induction l with
      | nil => intro _; exact ⟨[], rfl, (fun p hp => by cases hp), (fun j p hp => by simp at hp), rfl⟩
      | cons i r ih =>
        intro hl
        obtain ⟨T3, a1, a2, a3, a4⟩ := ih fun j hj => hl j (.tail _ hj)
        obtain ⟨q, q1, q2, q3⟩ := hat i (hl i (.head _))
        obtain ⟨c, t, u, n, d⟩ := hT i q q1
        refine ⟨q :: T3, by simp only [List.map_cons, a1, q2], fun p hp => ?_, fun j p hp => ?_, by simp [a4]⟩
        · rcases List.mem_cons.mp hp with rfl | hp
          · exact List.mem_of_getElem? q1
          · exact a2 p hp
        · cases j with
          | zero =>
            simp at hp
            subst hp
            exact ⟨c, _, _, t, u, n, d, by omega, by have := hl i (.head _); omega, rfl⟩
          | succ j =>
            have := a3 j p (by simpa using hp)
            simpa using this
    obtain ⟨T3, a1, a2, a3, a4⟩ := key p.toList hlt
    rw [a1] at N3
    have hpl : p.toList.length = 8 := by rw [hp.length_eq]; simp
    refine h D h3 c T3 _ F3 N3 a2 a3 (by omega) (hp.map _) ?_
    rw [List.pairwise_map]
    rw [List.pairwise_iff_getElem]
    intro i j hi hj hij
    have := ha i j hij (by omega)
    unfold KP at this
    rw [getD_at (by simpa using hi), getD_at (by simpa using hj)] at this
    exact Int.le_of_lt this
theorem mem_snoc3 {α : Type} {a b c d : List α} {x p : α} (h : p ∈ a ++ (b ++ (c ++ (d ++ [x])))) : p = x ∨ p ∈ a ++ (b ++ (c ++ d)) := by
  simp only [List.mem_append, List.mem_singleton] at h ⊢
  rcases h with h | h | h | h | h
  · exact .inr (.inl h)
  · exact .inr (.inr (.inl h))
  · exact .inr (.inr (.inr (.inl h)))
  · exact .inr (.inr (.inr (.inr h)))
  · exact .inl h
theorem mem_more {α : Type} {a b c d : List α} {p : α} (h : p ∈ a ++ (b ++ c)) : p ∈ a ++ (b ++ (c ++ d)) := by
  simp only [List.mem_append] at h ⊢
  rcases h with h | h | h
  · exact .inl h
  · exact .inr (.inl h)
  · exact .inr (.inr (.inl h))
theorem mem_more2 {α : Type} {a b c d e : List α} {p : α} (h : p ∈ a ++ (b ++ c)) : p ∈ a ++ (b ++ ((c ++ d) ++ e)) := by
  simp only [List.mem_append] at h ⊢
  rcases h with h | h | h
  · exact .inl h
  · exact .inr (.inl h)
  · exact .inr (.inr (.inl (.inl h)))
theorem mem_end {α : Type} {a b c d : List α} {p : α} (h : p ∈ d) : p ∈ a ++ (b ++ (c ++ d)) := List.mem_append_right _ (List.mem_append_right _ (List.mem_append_right _ h))
theorem mem_mid {α : Type} {a b c d : List α} {p : α} (h : p ∈ c) : p ∈ a ++ (b ++ (c ++ d)) := List.mem_append_right _ (List.mem_append_right _ (List.mem_append_left _ h))
/-- a list of pairs of ints -/
def pairD (K : List Int) : List PyData := K.map fun k => .tuple [.int (k / 8), .int (k % 8)]
theorem pairD_can : ∀ K : List Int, PyData.canLayAll0 (pairD K) = true
  | [] => rfl
  | k :: K => by
    have := pairD_can K
    unfold pairD at this ⊢
    simp only [List.map_cons, PyData.canLayAll0, PyData.canLay0, this, Bool.and_self]
theorem pairD_depth : ∀ K : List Int, PyData.depthAll (pairD K) ≤ 2
  | [] => Nat.zero_le _
  | k :: K => by
    have := pairD_depth K
    unfold pairD at this ⊢
    simp only [List.map_cons, PyData.depthAll, PyData.depth]
    omega
theorem pairD_eqv : ∀ K : List Int, PyData.eqvAll (pairD K) (pairD K) = true
  | [] => by simp [pairD, PyData.eqvAll]
  | k :: K => by
    have := pairD_eqv K
    unfold pairD at this ⊢
    simp [PyData.eqvAll, PyData.eqv, this]
theorem pairD_reads {h : Heap} : ∀ {T : List (Addr × Obj)} {K : List Int}, TU T K → T.length = K.length → (∀ p ∈ T, h.get? p.1 = some p.2) → ∃ as, ReadsAll h ((T.map (·.1)).map Value.ref) (pairD K) as
  | [], [], _, _, _ => ⟨_, .nil⟩
  | [], _ :: _, _, hl, _ => by cases hl
  | _ :: _, [], _, hl, _ => by cases hl
  | p :: T, k :: K, hT, hl, e => by
    obtain ⟨as, r⟩ := pairD_reads (T := T) (K := K) (fun j q hq => by simpa using hT (j + 1) q (by simpa using hq)) (by simpa using hl) fun q hq => e q (.tail _ hq)
    obtain ⟨c, x, y, t, u, n, d, y0, y1, ek⟩ := hT 0 p rfl
    have ek : k = 8 * x + y := by simpa using ek
    have ex : k / 8 = x := by omega
    have ey : k % 8 = y := by omega
    obtain ⟨as2, rr⟩ : ∃ as2, ReadsAll h (#[Value.int x t, Value.int y u] : Array Value).toList [.int (k / 8), .int (k % 8)] as2 := by rw [ex, ey]; exact ⟨_, .cons (Reads.int _ _) (.cons (Reads.int _ _) .nil)⟩
    exact ⟨_, .cons (reads_tuple_at (e p (.head _)) c d rr) r⟩
theorem eq_tu {T T' : List (Addr × Obj)} {K : List Int} {l l' : Addr} {c c' : Nat} {Q : Value → Shared → Prop} (hT : TU T K) (hT' : TU T' K) (h1 : T.length = K.length) (h2 : T'.length = K.length) (e : ∀ p ∈ T, s.heap.get? p.1 = some p.2) (e' : ∀ p ∈ T', s.heap.get? p.1 = some p.2)
    (hl : s.heap.get? l = some (LO (T.map (·.1)) c)) (hl' : s.heap.get? l' = some (LO (T'.map (·.1)) c')) (hu : A.units + 64 < cLine) (h : Q (.bool true) s) : wpAny (model prog w) A (compareOp .Eq (.ref l) (.ref l')) Q E s := by
  obtain ⟨as, r⟩ := pairD_reads hT h1 e
  obtain ⟨as', r'⟩ := pairD_reads hT' h2 e'
  have hs : SeqAt.shaped (.list (pairD K)) = true := by
    unfold SeqAt.shaped
    have := pairD_depth K
    simp only [PyData.canLay0, PyData.depth, pairD_can, Bool.true_and]
    exact decide_eq_true (by omega)
  refine eq_dataH (reads_list_at hl rfl rfl r) (reads_list_at hl' rfl rfl r') hs hs hu ?_
  have : PyData.eqv (.list (pairD K)) (.list (pairD K)) = true := by simp only [PyData.eqv, pairD_eqv]
  rw [this]
  exact h
end
end Mine
end

/-! ## LLT -/
section
open PySem PySem.W PySem.Spec PySem.Calls PyProof.Rows
set_option Elab.async false
set_option maxRecDepth 100000
set_option maxHeartbeats 8000000
namespace Mine
/-- lists of ints, one for each row -/
def LT (T : List (Addr × Obj)) (rows : List (List Int)) : Prop := ∀ (j : Nat) (p : Addr × Obj), T[j]? = some p → ∃ ys c r, p.2 = listOf (List.toArray ys) c ∧ rows[j]? = some r ∧ IntsAre ys r
def rowsD (rows : List (List Int)) : List PyData := rows.map fun r => .list (r.map .int)
theorem rowsD_can : ∀ rows : List (List Int), PyData.canLayAll0 (rowsD rows) = true
  | [] => rfl
  | r :: rows => by
    have := rowsD_can rows
    unfold rowsD at this ⊢
    simp only [List.map_cons, PyData.canLayAll0, PyData.canLay0, PyProof.Rows.canLayAll_ints, this, Bool.and_self]
theorem rowsD_depth : ∀ rows : List (List Int), PyData.depthAll (rowsD rows) ≤ 2
  | [] => Nat.zero_le _
  | r :: rows => by
    have := rowsD_depth rows
    unfold rowsD at this ⊢
    simp only [List.map_cons, PyData.depthAll, PyData.depth, PyProof.Rows.depthAll_ints]
    omega
theorem rowsD_eqv : ∀ rows : List (List Int), PyData.eqvAll (rowsD rows) (rowsD rows) = true
  | [] => by simp [rowsD, PyData.eqvAll]
  | r :: rows => by
    have := rowsD_eqv rows
    unfold rowsD at this ⊢
    simp only [List.map_cons, PyData.eqvAll, PyData.eqv, ked_eqvAll, this, decide_true, Bool.and_self]
theorem rowsD_reads {h : Heap} : ∀ {T : List (Addr × Obj)} {rows : List (List Int)}, LT T rows → T.length = rows.length → (∀ p ∈ T, h.get? p.1 = some p.2) → ∃ as, ReadsAll h ((T.map (·.1)).map Value.ref) (rowsD rows) as
  | [], [], _, _, _ => ⟨_, .nil⟩
  | [], _ :: _, _, hl, _ => by cases hl
  | _ :: _, [], _, hl, _ => by cases hl
  | p :: T, r :: rows, hT, hl, e => by
    obtain ⟨as, rr⟩ := rowsD_reads (T := T) (rows := rows) (fun j q hq => by simpa using hT (j + 1) q (by simpa using hq)) (by simpa using hl) fun q hq => e q (.tail _ hq)
    obtain ⟨ys, c, r', d, er, hi⟩ := hT 0 p rfl
    have er : r = r' := by simpa using er
    subst er
    have e1 := e p (.head _)
    rw [d] at e1
    exact ⟨_, .cons (reads_newData (PySem.IsL.isList (n := c) e1) (ke_carried hi)) rr⟩
section
variable {prog : Program} {w : World} {A : Around} {E : Value → Shared → Prop} {s : Shared}
theorem eq_lt {T T' : List (Addr × Obj)} {rows : List (List Int)} {l l' : Addr} {c c' : Nat} {Q : Value → Shared → Prop} (hT : LT T rows) (hT' : LT T' rows) (h1 : T.length = rows.length) (h2 : T'.length = rows.length) (e : ∀ p ∈ T, s.heap.get? p.1 = some p.2) (e' : ∀ p ∈ T', s.heap.get? p.1 = some p.2)
    (hl : s.heap.get? l = some (LO (T.map (·.1)) c)) (hl' : s.heap.get? l' = some (LO (T'.map (·.1)) c')) (hu : A.units + 64 < cLine) (h : Q (.bool true) s) : wpAny (model prog w) A (compareOp .Eq (.ref l) (.ref l')) Q E s := by
  obtain ⟨as, r⟩ := rowsD_reads hT h1 e
  obtain ⟨as', r'⟩ := rowsD_reads hT' h2 e'
  have hs : SeqAt.shaped (.list (rowsD rows)) = true := by
    unfold SeqAt.shaped
    have := rowsD_depth rows
    simp only [PyData.canLay0, PyData.depth, rowsD_can, Bool.true_and]
    exact decide_eq_true (by omega)
  refine eq_dataH (reads_list_at hl rfl rfl r) (reads_list_at hl' rfl rfl r') hs hs hu ?_
  have : PyData.eqv (.list (rowsD rows)) (.list (rowsD rows)) = true := by simp only [PyData.eqv, rowsD_eqv]
  rw [this]
  exact h
end
/-- the rows moved by 0 to 7 -/
def mvs (R : List Int) : List (List Int) := (List.range 8).map fun j : Nat => mv (j : Int) R
theorem mvs_at {R : List Int} {j : Nat} (h : j < 8) : (mvs R)[j]? = some (mv (j : Int) R) := by
  unfold mvs
  rw [List.getElem?_map, List.getElem?_range h]
  rfl
theorem lt_snoc {T : List (Addr × Obj)} {R : List Int} {i : Nat} {D : Addr} {ys : List Value} {c : Nat} (hT : LT T (mvs R)) (hl : T.length = i) (hi : i < 8) (h : IntsAre ys (mv (i : Int) R)) : LT (T ++ [(D, listOf (List.toArray ys) c)]) (mvs R) := fun j p hp => by
  rcases getElem?_snoc hp with hp | ⟨rfl, rfl⟩
  · exact hT j p hp
  · exact ⟨ys, c, _, rfl, mvs_at (by omega), by rw [hl]; exact h⟩
end Mine
end

/-! ## Pl -/
section
open PySem PySem.W PySem.Spec PySem.Calls PyProof.Rows
set_option Elab.async false
set_option maxRecDepth 100000
set_option maxHeartbeats 8000000
namespace Mine
theorem pl2 {row : List Int} {k : Int} (h8 : row.length = 8) (k0 : 0 ≤ k) (k1 : k < 8) : spec (mv k row) = (List.range 8).map fun i : Nat => if odd (Builtin.bitAnd (i : Int) k) ≠ 0 then -((spec row).getD i 0) else (spec row).getD i 0 := by
  have e : ∀ o : List Int, (List.range 8).map (fun i : Nat => if odd (Builtin.bitAnd (i : Int) k) ≠ 0 then -(o.getD i 0) else o.getD i 0) = sg k o := fun o => by
    have : List.range 8 = [0, 1, 2, 3, 4, 5, 6, 7] := rfl
    rw [this]
    unfold sg
    apply List.map_congr_left
    intro i _
    by_cases q : odd (Builtin.bitAnd (i : Int) k) = 0
    · rw [if_neg (fun h => h q), if_pos q]
    · rw [if_pos q, if_neg q]
  rw [e]
  exact c2 h8 k0 k1
theorem pl3 {row : List Int} {k : Int} (h8 : row.length = 8) (k0 : 0 ≤ k) (k1 : k < 8) : spec (pr (spec row) (spec (mv k row))) = (List.range 8).map fun i : Nat => 8 * (SM row k).getD i 0 := by
  refine (c3 h8 k0 k1).trans ?_
  rfl
theorem plb {row : List Int} (_h8 : row.length = 8) (hb : ∀ i, 0 ≤ row.getD i 0 ∧ row.getD i 0 < 4) (i : Nat) : ((spec row).getD i 0).natAbs < 4096 := wh_b hb i
theorem mv_left {row : List Int} {k : Int} (h8 : row.length = 8) (k0 : 0 ≤ k) (k1 : k < 8) : mv k row = row ↔ ∀ m ∈ leftI row, odd (Builtin.bitAnd m k) = 0 := by
  have e := c2 h8 k0 k1
  constructor
  · intro h m hm
    obtain ⟨i, hi, rfl⟩ := List.mem_map.mp hm
    obtain ⟨hr, hn⟩ := List.mem_filter.mp hi
    have hi8 := List.mem_range.mp hr
    have hn : (wh row).getD i 0 ≠ 0 := of_decide_eq_true hn
    rw [h] at e
    have a := congrArg (fun l : List Int => l.getD i 0) e
    (try dsimp only at a)
    rw [sg_at k _ hi8] at a
    by_cases q : odd (Builtin.bitAnd (i : Int) k) = 0
    · exact q
    · rw [if_neg q] at a
      omega
  · intro h
    refine wh_inj rfl h8 (e.trans (ext8 rfl rfl fun i hi => ?_))
    rw [sg_at k _ hi]
    by_cases z : (wh row).getD i 0 = 0
    · rw [z]; split <;> rfl
    · rw [if_pos (h i (List.mem_map.mpr ⟨i, List.mem_filter.mpr ⟨List.mem_range.mpr hi, decide_eq_true z⟩, rfl⟩))]
theorem xor_comm8 {a b : Int} (a0 : 0 ≤ a) (a1 : a < 8) (b0 : 0 ≤ b) (b1 : b < 8) : Builtin.bitXor a b = Builtin.bitXor b a := by
  obtain ⟨a, rfl⟩ := Int.eq_ofNat_of_zero_le a0
  obtain ⟨b, rfl⟩ := Int.eq_ofNat_of_zero_le b0
  rw [(bx8 a b (Int.ofNat_lt.mp a1) (Int.ofNat_lt.mp b1)).1, (bx8 b a (Int.ofNat_lt.mp b1) (Int.ofNat_lt.mp a1)).1, Nat.xor_comm]
theorem xor_self8 {a : Int} (a0 : 0 ≤ a) (a1 : a < 8) : Builtin.bitXor a a = 0 := by
  rcases k8 a0 a1 with rfl | rfl | rfl | rfl | rfl | rfl | rfl | rfl <;> rfl
theorem filter_map_eq {f : Nat → Int} {M : Int} : ∀ l : List Nat, (∀ i ∈ l, i < 8) → (l.map fun i : Nat => 8 * f i + (i : Int)).filter (fun z => decide (z / 8 = M)) = (l.filter fun i => decide (f i = M)).map fun i : Nat => 8 * M + (i : Int)
  | [], _ => rfl
  | i :: r, h => by
    have hi := h i (.head _)
    have e : (8 * f i + (i : Int)) / 8 = f i := by omega
    rw [List.map_cons, List.filter_cons, List.filter_cons, e, filter_map_eq r fun j hj => h j (.tail _ hj)]
    by_cases q : f i = M
    · rw [if_pos (decide_eq_true q), if_pos (decide_eq_true q), List.map_cons, q]
    · rw [if_neg (by simp [q]), if_neg (by simp [q])]
theorem best_of {f : Nat → Int} {K : List Int} (hp : K.Perm ((List.range 8).map fun i : Nat => 8 * f i + (i : Int))) (hs : K.Pairwise (· ≤ ·)) :
    bestK K = ((List.range 8).filter fun n : Nat => decide (f n = K.getD 0 0 / 8)).map fun n : Nat => (n : Int) := by
  have hl : K.length = 8 := by rw [hp.length_eq]; rfl
  have hK : (List.range 8).map (fun i => K.getD i 0) = K := by
    apply List.ext_getElem
    · simp [hl]
    · intro j h1 h2
      simp [h2]
  generalize hM : K.getD 0 0 / 8 = M
  have e1 : bestK K = (K.filter fun z => decide (z / 8 = M)).map fun z => z % 8 := by
    unfold bestK
    rw [hM]
    conv => rhs; rw [← hK]
    rw [List.filter_map, List.map_map]
    rfl
  have e2 : K.filter (fun z => decide (z / 8 = M)) = ((List.range 8).filter fun i => decide (f i = M)).map fun i : Nat => 8 * M + (i : Int) := by
    rw [← filter_map_eq (List.range 8) fun i hi => List.mem_range.mp hi]
    refine List.Perm.eq_of_pairwise (le := (· ≤ ·)) (fun a b _ _ h1 h2 => Int.le_antisymm h1 h2) (hs.filter _) ?_ (hp.filter _)
    rw [filter_map_eq (List.range 8) fun i hi => List.mem_range.mp hi]
    refine List.Pairwise.map _ (R := fun a b : Nat => a < b) (fun a b h => by omega) ?_
    exact List.pairwise_lt_range.filter _
  rw [e1, e2, List.map_map]
  apply List.map_congr_left
  intro i hi
  have := List.mem_range.mp (List.mem_filter.mp hi).1
  show (8 * M + (i : Int)) % 8 = i
  omega
section
variable {row K : List Int} {k : Int} (h8 : row.length = 8) (k0 : 0 ≤ k) (k1 : k < 8) (hp : K.Perm ((List.range 8).map fun i => 8 * (-((SM row k).getD i 0)) + (i : Int))) (hs : K.Pairwise (· ≤ ·))
include h8 k0 k1
theorem sm_at {n : Nat} (hn : n < 8) : (SM row k).getD n 0 = (pr row (mv (Builtin.bitXor k (n : Int)) row)).sum := by
  rw [← mv_mv h8 k0 k1 (by omega) (by omega)]
  unfold SM
  rw [List.getD_eq_getElem?_getD, List.getElem?_map, List.getElem?_range hn]
  rfl
include hp hs
theorem top_is : K.getD 0 0 / 8 = -(pr row row).sum := by
  have hl : K.length = 8 := by rw [hp.length_eq]; rfl
  obtain ⟨a, K', rfl⟩ : ∃ a K', K = a :: K' := by
    cases K with
    | nil => cases hl
    | cons a K' => exact ⟨a, K', rfl⟩
  show a / 8 = _
  have hm : a ∈ (List.range 8).map fun i : Nat => 8 * (-((SM row k).getD i 0)) + (i : Int) := hp.mem_iff.mp (.head _)
  obtain ⟨j, hj, rfl⟩ := List.mem_map.mp hm
  have hj8 := List.mem_range.mp hj
  have xj := x8 k0 k1 (show (0 : Int) ≤ (j : Int) by omega) (show (j : Int) < 8 by omega)
  have hSj := (sqx h8 xj.1 xj.2).1
  rw [← sm_at h8 k0 k1 hj8] at hSj
  obtain ⟨kn, rfl⟩ := Int.eq_ofNat_of_zero_le k0
  have hkm : 8 * (-((SM row (kn : Int)).getD kn 0)) + (kn : Int) ∈ (8 * (-((SM row (kn : Int)).getD j 0)) + (j : Int)) :: K' := hp.mem_iff.mpr (List.mem_map.mpr ⟨kn, List.mem_range.mpr (by omega), rfl⟩)
  have hle : 8 * (-((SM row (kn : Int)).getD j 0)) + (j : Int) ≤ 8 * (-((SM row (kn : Int)).getD kn 0)) + (kn : Int) := by
    rcases List.mem_cons.mp hkm with e | e
    · exact Int.le_of_eq e.symm
    · exact (List.pairwise_cons.mp hs).1 _ e
  have hSk := sm_at h8 k0 k1 (show kn < 8 by omega)
  rw [xor_self8 k0 k1, mv0 h8] at hSk
  omega
theorem pl5 : bestK K = ((List.range 8).filter fun n : Nat => decide (mv (n : Int) (mv k row) = row)).map fun n : Nat => (n : Int) := by
  rw [best_of hp hs, top_is h8 k0 k1 hp hs]
  congr 1
  apply List.filter_congr
  intro n hn
  have hn8 := List.mem_range.mp hn
  have xn := x8 k0 k1 (show (0 : Int) ≤ (n : Int) by omega) (show (n : Int) < 8 by omega)
  have q := (sqx h8 xn.1 xn.2).2
  rw [sm_at h8 k0 k1 hn8, mv_mv h8 k0 k1 (by omega) (by omega)]
  rw [decide_eq_decide, ← q]
  omega
theorem pl4 : bestK K = ((List.range 8).filter fun n : Nat => (leftI row).all fun m => decide (odd (Builtin.bitAnd m (Builtin.bitXor (n : Int) k)) = 0)).map fun n : Nat => (n : Int) := by
  rw [pl5 h8 k0 k1 hp hs]
  congr 1
  apply List.filter_congr
  intro n hn
  have hn8 := List.mem_range.mp hn
  have xn := x8 k0 k1 (show (0 : Int) ≤ (n : Int) by omega) (show (n : Int) < 8 by omega)
  rw [mv_mv h8 k0 k1 (by omega) (by omega), xor_comm8 (a := (n : Int)) (by omega) (by omega) k0 k1, Bool.eq_iff_iff, decide_eq_true_iff, List.all_eq_true, mv_left h8 xn.1 xn.2]
  constructor
  · intro h m hm
    exact decide_eq_true (h m hm)
  · intro h m hm
    exact of_decide_eq_true (h m hm)
theorem pl6 : -(K.getD 0 0 / 8) = (pr row row).sum := by
  rw [top_is h8 k0 k1 hp hs]
  omega
end
end Mine
end

/-! ## Hold -/
section
open PySem PySem.W PySem.Spec PySem.Calls PyProof.Rows
set_option Elab.async false
set_option maxRecDepth 100000
set_option maxHeartbeats 8000000
namespace Mine
example : True := by
  w_top off
  trivial
example (w : World) : Mine.hd.heap_39 w.params = Mine.hd.heap_39 w.params ∧ PySem.Challenge.rw_op0017_01.prog = PySem.Challenge.rw_op0017_01.prog := by
  k_fill
  exact ⟨rfl, rfl⟩
local macro_rules | `(tactic| walk_at "CompSrc") => `(tactic| (k_here; k_dflt (first | (refine LCg.CompSrc.ledger (by rfl) (by k_asm) (by k_asm) (by k_mem) (by simp only [List.size_toArray, sizeLine_eq]; omega) ?_; intro g') | (refine LCg.CompSrc.range (n := 8) (by rfl) (by k_asm) (by k_asm) (by assumption) (by first | decide | rfl) (by first | rfl | decide) (by first | size_fits | exact Nat.le_of_ble_eq_true rfl) ?_; intro g'))))
local macro_rules | `(tactic| walk_at "CompSrcT") => `(tactic| (k_here; k_dflt (refine LCt.CompSrcT.range (n := 8) (by rfl) (by k_asm) (by k_asm) (by assumption) (by first | decide | rfl) (by first | rfl | decide) (by first | size_fits | exact Nat.le_of_ble_eq_true rfl) ?_; intro g')))
section
variable {b : Bool} {prog : Program} {w : World} {mean : ExcName → Option Value} {mg mb : PySem.Str → Option Value}
   {dp un : Nat} {fr : Option (List Env)} {gd : Option (List Code)} {h₀ : Heap} {s : Shared} {Q E : Value → Shared → Prop}
   (X : (Mine.hd.heap_39 w.params).In h₀) (T : Top Mine.hd.view_39 (looseW Mine.hd.view_39 [PySem.Str.ofString "_initial_missing", PySem.Str.ofString "reduce"]) mean mg mb h₀)
   (hk : ∀ b o, h₀.get? b = some o → s.heap.get? b = some o)
include X T hk
theorem holds_c (hd : dp + 20 < recursionLimit) (hu : un + 1000 < cLine) {l l2 : Addr} {row ws : List Int} (hl : IL s.heap l row) (h8 : row.length = 8) (hb : ∀ i, 0 ≤ row.getD i 0 ∧ row.getD i 0 < 4) (hl2 : IL s.heap l2 ws) (h6 : ws.length = 6) (hw : ∀ y ∈ ws, isW y)
   (hret : ∀ h' tk', Keep s.heap h' → Q (.bool true) { s with heap := h', toks := tk' }) :
   wpN (model prog w) (AA dp un fr gd) (call (.ref 119) [.ref l, .ref l2]) Q E s := by
  refine wpN_call ?_
  k_dflt (refine' enterCN (news := []) X T hk (fun _ h => nomatch h) ?k6 ?k7 ?k8 ?k9 ?kB ?kD ?_ ?c2 ?c3 ?c4; (case k6 => k_is); (case k7 => k_is); (case k8 => exact (show dp < recursionLimit by omega)); (case k9 => first | exact BindsTo.of_eq rfl | exact binds_K (Frag.In.keeps X hk) rfl (by k_is) rfl rfl rfl); (case kB => exact rfl); (case kD => decide +kernel); (case c2 => exact rfl); (case c3 => exact rfl); (case c4 => exact rfl))
  intro g L' h₁ tk cells hg hg' F N Y X' T' hl'
  k_cells Y
  (try simp only [List.cons_append, List.nil_append] at N)
  have hkg : Keep s.heap g := fun b o e => hg b o e (by simp)
  (try dsimp only)
  (try k_fold)
  have hLr := hl.keep hkg
  have hLw := hl2.keep hkg
  have hbn : ∀ i, (row.getD i 0).natAbs < 4096 := fun i => by have := hb i; omega
  clear hg hg'
  rename_i o1 o2 o3 o4 o5 o6 o7 o8 d1 d2 d3 d4 d5 d6 d7 d8
  have hI0 : HI g L' l2 none none none none none none none (some (.ref l)) none none [] [] h₁ := by
    refine hi_in (o1 := o1) (o2 := o2) (o3 := o3) (o4 := o4) (o5 := o5) (o6 := o6) (o7 := o7) (o8 := o8) ?_ ?_ ?_ ?_ ?_ ?_ ?_ ?_ (fun p hp => by cases hp) (fun p hp => by cases hp) ?_ ?_
    all_goals first | assumption | (rw [d1]; rfl) | (rw [d2]; rfl) | (rw [d3]; rfl) | (rw [d4]; rfl) | (rw [d5]; rfl) | (rw [d6]; rfl) | (rw [d7]; rfl) | (rw [d8]; rfl) | skip
    refine ⟨Eq.mp (congrArg (fun m => h₁.Ns L' m) (funext fun y => ?_)) F.ns, F.keep, F.above⟩
    show (if y = PySem.Str.ofString "widths" then some (Value.ref l2) else none) = _
    by_cases e1 : y = PySem.Str.ofString "best"
    · subst e1; rfl
    · by_cases e2 : y = PySem.Str.ofString "theirs"
      · subst e2; rfl
      · show _ = (if y = PySem.Str.ofString "best" then none else if y = PySem.Str.ofString "theirs" then none else if y = PySem.Str.ofString "widths" then some (Value.ref l2) else none)
        rw [if_neg e1, if_neg e2]
  clear F N d1 d2 d3 d4 d5 d6 d7 d8 hl' hl hl2
  clear o1 o2 o3 o4 o5 o6 o7 o8
  refine wpN_execs_cons ?_
  refine wpN_mono (Q := fun f s' => f = Flow.next ∧ ∀ P : Prop, (∀ h' tk' y t', s' = { s with heap := h', toks := tk' } → KBw.bInts y = mv (lay ws) row → HI g L' l2 none none none none none none (some (.bytes y t')) (some (.ref l)) none none [] [] h' → P) → P) ?S1 ?C1 (fun _ _ x => x)
  case S1 =>
    refine hi_el hI0 ?_; intro o1 o2 o3 o4 o5 o6 o7 o8 d1 d2 d3 d4 d5 d6 d7 d8 hE hTE F N
    dsimp only [List.cons_append, List.nil_append] at N
    clear hE
    refine wpN_Assign_Name (CallN_ ?_)
    repeat' ((fail_if_success (with_reducible show Q _ _)); (fail_if_success (with_reducible show wpAny _ _ (call (Value.ref _) _) _ _ _)); first | (k_unfold; (try dsimp only)) | (with_reducible ((with_reducible show wpAny _ _ (subscriptTail _ _ (Value.ref _) (Value.int _ _)) _ _ _); first | ((with_reducible show wpAny _ _ (subscriptTail _ _ (Value.ref _) (Value.int 0 _)) _ _ _); first | (refine get_lo (by k_asm) (by k_mem) (by with_reducible assumption) ?_) | (refine get_tp (by with_reducible assumption) ?_; intro _)) | (refine get_li (by k_asm) (by k_mem) (by omega) (by omega) (by with_reducible assumption) ?_))) | ((with_reducible show wpAny _ _ (binaryOp .Mult _ _) _ _ _); with_reducible ((refine mul_int ?_ (mulOk (by decide))); (try dsimp only))) | (with_reducible ((with_reducible show wpAny _ _ (call (Value.type "bytes") [Value.ref _]) _ _ _); (refine bytes_row (by k_asm) (by k_asm) (by assumption) (by assumption) (by assumption) rfl ?_); intro _ _ _ _ _ _ _; (try dsimp only))) | walk1 | ((with_reducible show wpAny _ _ (subscriptTail _ _ (Value.ref _) (Value.int _ _)) _ _ _); first | ((with_reducible show wpAny _ _ (subscriptTail _ _ (Value.ref _) (Value.int 0 _)) _ _ _); first | (refine get_lo (by k_asm) (by k_mem) (by with_reducible assumption) ?_) | (refine get_tp (by with_reducible assumption) ?_; intro _)) | (refine get_li (by k_asm) (by k_mem) (by omega) (by omega) (by with_reducible assumption) ?_)) | (dsimp only; first | (with_reducible ((with_reducible show wpAny _ _ (subscriptTail _ _ (Value.ref _) (Value.int _ _)) _ _ _); first | ((with_reducible show wpAny _ _ (subscriptTail _ _ (Value.ref _) (Value.int 0 _)) _ _ _); first | (refine get_lo (by k_asm) (by k_mem) (by with_reducible assumption) ?_) | (refine get_tp (by with_reducible assumption) ?_; intro _)) | (refine get_li (by k_asm) (by k_mem) (by omega) (by omega) (by with_reducible assumption) ?_))) | ((with_reducible show wpAny _ _ (binaryOp .Mult _ _) _ _ _); with_reducible ((refine mul_int ?_ (mulOk (by decide))); (try dsimp only))) | (with_reducible ((with_reducible show wpAny _ _ (call (Value.type "bytes") [Value.ref _]) _ _ _); (refine bytes_row (by k_asm) (by k_asm) (by assumption) (by assumption) (by assumption) rfl ?_); intro _ _ _ _ _ _ _; (try dsimp only))) | walk1 | ((with_reducible show wpAny _ _ (subscriptTail _ _ (Value.ref _) (Value.int _ _)) _ _ _); first | ((with_reducible show wpAny _ _ (subscriptTail _ _ (Value.ref _) (Value.int 0 _)) _ _ _); first | (refine get_lo (by k_asm) (by k_mem) (by with_reducible assumption) ?_) | (refine get_tp (by with_reducible assumption) ?_; intro _)) | (refine get_li (by k_asm) (by k_mem) (by omega) (by omega) (by with_reducible assumption) ?_))) | (leave1; (try dsimp only)))
    refine callWithN_K (K := Mine.hd.heap_39 w.params) (by k_is) ?_
    repeat' ((fail_if_success (with_reducible show Q _ _)); (fail_if_success (with_reducible show wpAny _ _ (call (Value.ref _) _) _ _ _)); (fail_if_success (with_reducible show wpAny _ _ (binaryOp _ _ _) _ _ _)); first | (k_unfold; (try dsimp only)) | (with_reducible ((with_reducible show wpAny _ _ (subscriptTail _ _ (Value.ref _) (Value.int _ _)) _ _ _); first | ((with_reducible show wpAny _ _ (subscriptTail _ _ (Value.ref _) (Value.int 0 _)) _ _ _); first | (refine get_lo (by k_asm) (by k_mem) (by with_reducible assumption) ?_) | (refine get_tp (by with_reducible assumption) ?_; intro _)) | (refine get_li (by k_asm) (by k_mem) (by omega) (by omega) (by with_reducible assumption) ?_))) | ((with_reducible show wpAny _ _ (binaryOp .Mult _ _) _ _ _); with_reducible ((refine mul_int ?_ (mulOk (by decide))); (try dsimp only))) | (with_reducible ((with_reducible show wpAny _ _ (call (Value.type "bytes") [Value.ref _]) _ _ _); (refine bytes_row (by k_asm) (by k_asm) (by assumption) (by assumption) (by assumption) rfl ?_); intro _ _ _ _ _ _ _; (try dsimp only))) | walk1 | ((with_reducible show wpAny _ _ (subscriptTail _ _ (Value.ref _) (Value.int _ _)) _ _ _); first | ((with_reducible show wpAny _ _ (subscriptTail _ _ (Value.ref _) (Value.int 0 _)) _ _ _); first | (refine get_lo (by k_asm) (by k_mem) (by with_reducible assumption) ?_) | (refine get_tp (by with_reducible assumption) ?_; intro _)) | (refine get_li (by k_asm) (by k_mem) (by omega) (by omega) (by with_reducible assumption) ?_)) | (dsimp only; first | (with_reducible ((with_reducible show wpAny _ _ (subscriptTail _ _ (Value.ref _) (Value.int _ _)) _ _ _); first | ((with_reducible show wpAny _ _ (subscriptTail _ _ (Value.ref _) (Value.int 0 _)) _ _ _); first | (refine get_lo (by k_asm) (by k_mem) (by with_reducible assumption) ?_) | (refine get_tp (by with_reducible assumption) ?_; intro _)) | (refine get_li (by k_asm) (by k_mem) (by omega) (by omega) (by with_reducible assumption) ?_))) | ((with_reducible show wpAny _ _ (binaryOp .Mult _ _) _ _ _); with_reducible ((refine mul_int ?_ (mulOk (by decide))); (try dsimp only))) | (with_reducible ((with_reducible show wpAny _ _ (call (Value.type "bytes") [Value.ref _]) _ _ _); (refine bytes_row (by k_asm) (by k_asm) (by assumption) (by assumption) (by assumption) rfl ?_); intro _ _ _ _ _ _ _; (try dsimp only))) | walk1 | ((with_reducible show wpAny _ _ (subscriptTail _ _ (Value.ref _) (Value.int _ _)) _ _ _); first | ((with_reducible show wpAny _ _ (subscriptTail _ _ (Value.ref _) (Value.int 0 _)) _ _ _); first | (refine get_lo (by k_asm) (by k_mem) (by with_reducible assumption) ?_) | (refine get_tp (by with_reducible assumption) ?_; intro _)) | (refine get_li (by k_asm) (by k_mem) (by omega) (by omega) (by with_reducible assumption) ?_))) | (leave1; (try dsimp only)))
    rename_i y2 t2 k2 hy2 l3 h3 F3 N3 l1
    obtain ⟨vs, nn, ew, hi⟩ := hLw
    refine kmk_add_lit F3 N3 (News.isList N3 (.head _)) (PySem.IsL.isList (n := nn) (F3.keep _ _ ew)) rfl (fun D h4 F4 N4 l4 => ?_) (by simp [hi.length, h6, sizeLine_eq])
    repeat' ((fail_if_success (with_reducible show Q _ _)); (fail_if_success (with_reducible show wpAny _ _ (call (Value.ref _) _) _ _ _)); first | (k_unfold; (try dsimp only)) | (with_reducible ((with_reducible show wpAny _ _ (subscriptTail _ _ (Value.ref _) (Value.int _ _)) _ _ _); first | ((with_reducible show wpAny _ _ (subscriptTail _ _ (Value.ref _) (Value.int 0 _)) _ _ _); first | (refine get_lo (by k_asm) (by k_mem) (by with_reducible assumption) ?_) | (refine get_tp (by with_reducible assumption) ?_; intro _)) | (refine get_li (by k_asm) (by k_mem) (by omega) (by omega) (by with_reducible assumption) ?_))) | ((with_reducible show wpAny _ _ (binaryOp .Mult _ _) _ _ _); with_reducible ((refine mul_int ?_ (mulOk (by decide))); (try dsimp only))) | (with_reducible ((with_reducible show wpAny _ _ (call (Value.type "bytes") [Value.ref _]) _ _ _); (refine bytes_row (by k_asm) (by k_asm) (by assumption) (by assumption) (by assumption) rfl ?_); intro _ _ _ _ _ _ _; (try dsimp only))) | walk1 | ((with_reducible show wpAny _ _ (subscriptTail _ _ (Value.ref _) (Value.int _ _)) _ _ _); first | ((with_reducible show wpAny _ _ (subscriptTail _ _ (Value.ref _) (Value.int 0 _)) _ _ _); first | (refine get_lo (by k_asm) (by k_mem) (by with_reducible assumption) ?_) | (refine get_tp (by with_reducible assumption) ?_; intro _)) | (refine get_li (by k_asm) (by k_mem) (by omega) (by omega) (by with_reducible assumption) ?_)) | (dsimp only; first | (with_reducible ((with_reducible show wpAny _ _ (subscriptTail _ _ (Value.ref _) (Value.int _ _)) _ _ _); first | ((with_reducible show wpAny _ _ (subscriptTail _ _ (Value.ref _) (Value.int 0 _)) _ _ _); first | (refine get_lo (by k_asm) (by k_mem) (by with_reducible assumption) ?_) | (refine get_tp (by with_reducible assumption) ?_; intro _)) | (refine get_li (by k_asm) (by k_mem) (by omega) (by omega) (by with_reducible assumption) ?_))) | ((with_reducible show wpAny _ _ (binaryOp .Mult _ _) _ _ _); with_reducible ((refine mul_int ?_ (mulOk (by decide))); (try dsimp only))) | (with_reducible ((with_reducible show wpAny _ _ (call (Value.type "bytes") [Value.ref _]) _ _ _); (refine bytes_row (by k_asm) (by k_asm) (by assumption) (by assumption) (by assumption) rfl ?_); intro _ _ _ _ _ _ _; (try dsimp only))) | walk1 | ((with_reducible show wpAny _ _ (subscriptTail _ _ (Value.ref _) (Value.int _ _)) _ _ _); first | ((with_reducible show wpAny _ _ (subscriptTail _ _ (Value.ref _) (Value.int 0 _)) _ _ _); first | (refine get_lo (by k_asm) (by k_mem) (by with_reducible assumption) ?_) | (refine get_tp (by with_reducible assumption) ?_; intro _)) | (refine get_li (by k_asm) (by k_mem) (by omega) (by omega) (by with_reducible assumption) ?_))) | (leave1; (try dsimp only)))
    have N5 : News g L' h4 _ := fun p hp => N4 p (.tail _ (.tail _ hp))
    refine redswap2_c (h₀ := g) X' T' F4.keep (by show dp + 1 + 1 < _; omega) (by exact (N4 _ (.head _)).1) hi hw hy2 h8 fun y t h5 tk5 hy kk => ?_
    have F6 := F4.keeps kk
    have N6 := N5.keeps kk
    clear F4 N4 N5 F3 N3 l4
    repeat' ((fail_if_success (with_reducible show Q _ _)); (fail_if_success (with_reducible show wpAny _ _ (call (Value.ref _) _) _ _ _)); (fail_if_success (with_reducible show _ ∧ ∃ _, _)); (fail_if_success (with_reducible show _ ∧ ∀ P : Prop, _)); first | (k_unfold; (try dsimp only)) | (with_reducible ((with_reducible show wpAny _ _ (subscriptTail _ _ (Value.ref _) (Value.int _ _)) _ _ _); first | ((with_reducible show wpAny _ _ (subscriptTail _ _ (Value.ref _) (Value.int 0 _)) _ _ _); first | (refine get_lo (by k_asm) (by k_mem) (by with_reducible assumption) ?_) | (refine get_tp (by with_reducible assumption) ?_; intro _)) | (refine get_li (by k_asm) (by k_mem) (by omega) (by omega) (by with_reducible assumption) ?_))) | ((with_reducible show wpAny _ _ (binaryOp .Mult _ _) _ _ _); with_reducible ((refine mul_int ?_ (mulOk (by decide))); (try dsimp only))) | (with_reducible ((with_reducible show wpAny _ _ (call (Value.type "bytes") [Value.ref _]) _ _ _); (refine bytes_row (by k_asm) (by k_asm) (by assumption) (by assumption) (by assumption) rfl ?_); intro _ _ _ _ _ _ _; (try dsimp only))) | walk1 | ((with_reducible show wpAny _ _ (subscriptTail _ _ (Value.ref _) (Value.int _ _)) _ _ _); first | ((with_reducible show wpAny _ _ (subscriptTail _ _ (Value.ref _) (Value.int 0 _)) _ _ _); first | (refine get_lo (by k_asm) (by k_mem) (by with_reducible assumption) ?_) | (refine get_tp (by with_reducible assumption) ?_; intro _)) | (refine get_li (by k_asm) (by k_mem) (by omega) (by omega) (by with_reducible assumption) ?_)) | (dsimp only; first | (with_reducible ((with_reducible show wpAny _ _ (subscriptTail _ _ (Value.ref _) (Value.int _ _)) _ _ _); first | ((with_reducible show wpAny _ _ (subscriptTail _ _ (Value.ref _) (Value.int 0 _)) _ _ _); first | (refine get_lo (by k_asm) (by k_mem) (by with_reducible assumption) ?_) | (refine get_tp (by with_reducible assumption) ?_; intro _)) | (refine get_li (by k_asm) (by k_mem) (by omega) (by omega) (by with_reducible assumption) ?_))) | ((with_reducible show wpAny _ _ (binaryOp .Mult _ _) _ _ _); with_reducible ((refine mul_int ?_ (mulOk (by decide))); (try dsimp only))) | (with_reducible ((with_reducible show wpAny _ _ (call (Value.type "bytes") [Value.ref _]) _ _ _); (refine bytes_row (by k_asm) (by k_asm) (by assumption) (by assumption) (by assumption) rfl ?_); intro _ _ _ _ _ _ _; (try dsimp only))) | walk1 | ((with_reducible show wpAny _ _ (subscriptTail _ _ (Value.ref _) (Value.int _ _)) _ _ _); first | ((with_reducible show wpAny _ _ (subscriptTail _ _ (Value.ref _) (Value.int 0 _)) _ _ _); first | (refine get_lo (by k_asm) (by k_mem) (by with_reducible assumption) ?_) | (refine get_tp (by with_reducible assumption) ?_; intro _)) | (refine get_li (by k_asm) (by k_mem) (by omega) (by omega) (by with_reducible assumption) ?_))) | (leave1; (try dsimp only)))
    rename_i h9 o9 F9 N9 d9
    exact ⟨by first | rfl | trivial, fun _ kk => kk h9 _ y t rfl hy (hi_in d1 d2 d3 d4 d5 d6 d9 d8 (fun p hp => by cases hp) (fun p hp => by cases hp) F9 N9)⟩
  case C1 =>
  rintro f s' ⟨rfl, HP⟩
  refine HP _ ?_
  clear HP
  rintro h1 tk1 y t1 rfl hy hI1
  clear hI0
  have hmr : (mv (lay ws) row).length = 8 := mv_len _ _
  have hlay := lay_in ws 0 (by decide) (by decide) hw
  refine wpN_execs_cons ?_
  refine wpN_mono (Q := fun f s' => f = Flow.next ∧ ∀ P : Prop, (∀ h' tk' im ims, s' = { s with heap := h', toks := tk' } → ims.length = 8 → (∀ (i : Nat) v, ims[i]? = some v → ∃ y t, v = Value.bytes y t ∧ KBw.bInts y = mv (i : Int) (mv (lay ws) row)) → HI g L' l2 none none none none none (some (.ref im)) (some (.bytes y t1)) (some (.ref l)) none none [(im, LCg.lst ims)] [] h' → P) → P) ?S2 ?C2 (fun _ _ x => x)
  case S2 =>
    refine hi_el hI1 ?_; intro o1 o2 o3 o4 o5 o6 o7 o8 d1 d2 d3 d4 d5 d6 d7 d8 hE hTE F N
    dsimp only [List.cons_append, List.nil_append] at N
    clear hE
    refine wpN_Assign_Name ?_
    refine compB (b := true) rfl (by rfl) (by decide) rfl (by decide) (by decide) 8 (by rw [sizeLine_eq]; decide) (fun i v => ∃ y t, v = Value.bytes y t ∧ KBw.bInts y = mv (i : Int) (mv (lay ws) row)) ?_
    repeat' ((fail_if_success (with_reducible show Q _ _)); (fail_if_success (with_reducible show wpAny _ _ (call (Value.ref _) _) _ _ _)); (fail_if_success (with_reducible show ∃ _, _)); first | (k_unfold; (try dsimp only)) | (with_reducible ((with_reducible show wpAny _ _ (subscriptTail _ _ (Value.ref _) (Value.int _ _)) _ _ _); first | ((with_reducible show wpAny _ _ (subscriptTail _ _ (Value.ref _) (Value.int 0 _)) _ _ _); first | (refine get_lo (by k_asm) (by k_mem) (by with_reducible assumption) ?_) | (refine get_tp (by with_reducible assumption) ?_; intro _)) | (refine get_li (by k_asm) (by k_mem) (by omega) (by omega) (by with_reducible assumption) ?_))) | ((with_reducible show wpAny _ _ (binaryOp .Mult _ _) _ _ _); with_reducible ((refine mul_int ?_ (mulOk (by decide))); (try dsimp only))) | (with_reducible ((with_reducible show wpAny _ _ (call (Value.type "bytes") [Value.ref _]) _ _ _); (refine bytes_row (by k_asm) (by k_asm) (by assumption) (by assumption) (by assumption) rfl ?_); intro _ _ _ _ _ _ _; (try dsimp only))) | walk1 | ((with_reducible show wpAny _ _ (subscriptTail _ _ (Value.ref _) (Value.int _ _)) _ _ _); first | ((with_reducible show wpAny _ _ (subscriptTail _ _ (Value.ref _) (Value.int 0 _)) _ _ _); first | (refine get_lo (by k_asm) (by k_mem) (by with_reducible assumption) ?_) | (refine get_tp (by with_reducible assumption) ?_; intro _)) | (refine get_li (by k_asm) (by k_mem) (by omega) (by omega) (by with_reducible assumption) ?_)) | (dsimp only; first | (with_reducible ((with_reducible show wpAny _ _ (subscriptTail _ _ (Value.ref _) (Value.int _ _)) _ _ _); first | ((with_reducible show wpAny _ _ (subscriptTail _ _ (Value.ref _) (Value.int 0 _)) _ _ _); first | (refine get_lo (by k_asm) (by k_mem) (by with_reducible assumption) ?_) | (refine get_tp (by with_reducible assumption) ?_; intro _)) | (refine get_li (by k_asm) (by k_mem) (by omega) (by omega) (by with_reducible assumption) ?_))) | ((with_reducible show wpAny _ _ (binaryOp .Mult _ _) _ _ _); with_reducible ((refine mul_int ?_ (mulOk (by decide))); (try dsimp only))) | (with_reducible ((with_reducible show wpAny _ _ (call (Value.type "bytes") [Value.ref _]) _ _ _); (refine bytes_row (by k_asm) (by k_asm) (by assumption) (by assumption) (by assumption) rfl ?_); intro _ _ _ _ _ _ _; (try dsimp only))) | walk1 | ((with_reducible show wpAny _ _ (subscriptTail _ _ (Value.ref _) (Value.int _ _)) _ _ _); first | ((with_reducible show wpAny _ _ (subscriptTail _ _ (Value.ref _) (Value.int 0 _)) _ _ _); first | (refine get_lo (by k_asm) (by k_mem) (by with_reducible assumption) ?_) | (refine get_tp (by with_reducible assumption) ?_; intro _)) | (refine get_li (by k_asm) (by k_mem) (by omega) (by omega) (by with_reducible assumption) ?_))) | (leave1; (try dsimp only)))
    rename_i hz _ _ _ _ hr Fz Nz _
    refine ⟨_, _, _, _, _, rfl, hr, by decide, rfl, ?elem, ?done⟩
    case elem =>
      rintro i C m₂ ⟨h5, ge5, dr5, tk5, os5⟩ tki hi kk hC0 hns hx Q' hQ'
      dsimp only at kk hC0 hns hx hQ' ⊢
      have F5 := Fz.keeps kk
      obtain ⟨oC, eC, hoC⟩ := LCg.ns_obj hns
      have hCL : C ≠ L' := by
        rintro rfl
        obtain ⟨_, _, _, q, _⟩ := Fz.ns
        rw [hC0] at q; cases q
      have N5 : News g L' h5 ((C, oC) :: _) := fun p hp => by
        rcases List.mem_cons.mp hp with rfl | hp
        · exact ⟨eC, hCL, fresh_of Fz.keep hC0⟩
        · exact Nz.keeps kk p hp
      clear Fz Nz hr
      refine CallN_ ?_
      repeat' ((fail_if_success (with_reducible show Q _ _)); (fail_if_success (with_reducible show wpAny _ _ (call (Value.ref _) _) _ _ _)); (fail_if_success (with_reducible show ∃ _, _)); first | (k_unfold; (try dsimp only)) | (with_reducible ((with_reducible show wpAny _ _ (subscriptTail _ _ (Value.ref _) (Value.int _ _)) _ _ _); first | ((with_reducible show wpAny _ _ (subscriptTail _ _ (Value.ref _) (Value.int 0 _)) _ _ _); first | (refine get_lo (by k_asm) (by k_mem) (by with_reducible assumption) ?_) | (refine get_tp (by with_reducible assumption) ?_; intro _)) | (refine get_li (by k_asm) (by k_mem) (by omega) (by omega) (by with_reducible assumption) ?_))) | ((with_reducible show wpAny _ _ (binaryOp .Mult _ _) _ _ _); with_reducible ((refine mul_int ?_ (mulOk (by decide))); (try dsimp only))) | (with_reducible ((with_reducible show wpAny _ _ (call (Value.type "bytes") [Value.ref _]) _ _ _); (refine bytes_row (by k_asm) (by k_asm) (by assumption) (by assumption) (by assumption) rfl ?_); intro _ _ _ _ _ _ _; (try dsimp only))) | walk1 | ((with_reducible show wpAny _ _ (subscriptTail _ _ (Value.ref _) (Value.int _ _)) _ _ _); first | ((with_reducible show wpAny _ _ (subscriptTail _ _ (Value.ref _) (Value.int 0 _)) _ _ _); first | (refine get_lo (by k_asm) (by k_mem) (by with_reducible assumption) ?_) | (refine get_tp (by with_reducible assumption) ?_; intro _)) | (refine get_li (by k_asm) (by k_mem) (by omega) (by omega) (by with_reducible assumption) ?_)) | (dsimp only; first | (with_reducible ((with_reducible show wpAny _ _ (subscriptTail _ _ (Value.ref _) (Value.int _ _)) _ _ _); first | ((with_reducible show wpAny _ _ (subscriptTail _ _ (Value.ref _) (Value.int 0 _)) _ _ _); first | (refine get_lo (by k_asm) (by k_mem) (by with_reducible assumption) ?_) | (refine get_tp (by with_reducible assumption) ?_; intro _)) | (refine get_li (by k_asm) (by k_mem) (by omega) (by omega) (by with_reducible assumption) ?_))) | ((with_reducible show wpAny _ _ (binaryOp .Mult _ _) _ _ _); with_reducible ((refine mul_int ?_ (mulOk (by decide))); (try dsimp only))) | (with_reducible ((with_reducible show wpAny _ _ (call (Value.type "bytes") [Value.ref _]) _ _ _); (refine bytes_row (by k_asm) (by k_asm) (by assumption) (by assumption) (by assumption) rfl ?_); intro _ _ _ _ _ _ _; (try dsimp only))) | walk1 | ((with_reducible show wpAny _ _ (subscriptTail _ _ (Value.ref _) (Value.int _ _)) _ _ _); first | ((with_reducible show wpAny _ _ (subscriptTail _ _ (Value.ref _) (Value.int 0 _)) _ _ _); first | (refine get_lo (by k_asm) (by k_mem) (by with_reducible assumption) ?_) | (refine get_tp (by with_reducible assumption) ?_; intro _)) | (refine get_li (by k_asm) (by k_mem) (by omega) (by omega) (by with_reducible assumption) ?_))) | (leave1; (try dsimp only)))
      refine callWithN_K (K := Mine.hd.heap_39 w.params) (by k_is) ?_
      repeat' ((fail_if_success (with_reducible show Q _ _)); (fail_if_success (with_reducible show wpAny _ _ (call (Value.ref _) _) _ _ _)); (fail_if_success (with_reducible show ∃ _, _)); first | (k_unfold; (try dsimp only)) | (with_reducible ((with_reducible show wpAny _ _ (subscriptTail _ _ (Value.ref _) (Value.int _ _)) _ _ _); first | ((with_reducible show wpAny _ _ (subscriptTail _ _ (Value.ref _) (Value.int 0 _)) _ _ _); first | (refine get_lo (by k_asm) (by k_mem) (by with_reducible assumption) ?_) | (refine get_tp (by with_reducible assumption) ?_; intro _)) | (refine get_li (by k_asm) (by k_mem) (by omega) (by omega) (by with_reducible assumption) ?_))) | ((with_reducible show wpAny _ _ (binaryOp .Mult _ _) _ _ _); with_reducible ((refine mul_int ?_ (mulOk (by decide))); (try dsimp only))) | (with_reducible ((with_reducible show wpAny _ _ (call (Value.type "bytes") [Value.ref _]) _ _ _); (refine bytes_row (by k_asm) (by k_asm) (by assumption) (by assumption) (by assumption) rfl ?_); intro _ _ _ _ _ _ _; (try dsimp only))) | walk1 | ((with_reducible show wpAny _ _ (subscriptTail _ _ (Value.ref _) (Value.int _ _)) _ _ _); first | ((with_reducible show wpAny _ _ (subscriptTail _ _ (Value.ref _) (Value.int 0 _)) _ _ _); first | (refine get_lo (by k_asm) (by k_mem) (by with_reducible assumption) ?_) | (refine get_tp (by with_reducible assumption) ?_; intro _)) | (refine get_li (by k_asm) (by k_mem) (by omega) (by omega) (by with_reducible assumption) ?_)) | (dsimp only; first | (with_reducible ((with_reducible show wpAny _ _ (subscriptTail _ _ (Value.ref _) (Value.int _ _)) _ _ _); first | ((with_reducible show wpAny _ _ (subscriptTail _ _ (Value.ref _) (Value.int 0 _)) _ _ _); first | (refine get_lo (by k_asm) (by k_mem) (by with_reducible assumption) ?_) | (refine get_tp (by with_reducible assumption) ?_; intro _)) | (refine get_li (by k_asm) (by k_mem) (by omega) (by omega) (by with_reducible assumption) ?_))) | ((with_reducible show wpAny _ _ (binaryOp .Mult _ _) _ _ _); with_reducible ((refine mul_int ?_ (mulOk (by decide))); (try dsimp only))) | (with_reducible ((with_reducible show wpAny _ _ (call (Value.type "bytes") [Value.ref _]) _ _ _); (refine bytes_row (by k_asm) (by k_asm) (by assumption) (by assumption) (by assumption) rfl ?_); intro _ _ _ _ _ _ _; (try dsimp only))) | walk1 | ((with_reducible show wpAny _ _ (subscriptTail _ _ (Value.ref _) (Value.int _ _)) _ _ _); first | ((with_reducible show wpAny _ _ (subscriptTail _ _ (Value.ref _) (Value.int 0 _)) _ _ _); first | (refine get_lo (by k_asm) (by k_mem) (by with_reducible assumption) ?_) | (refine get_tp (by with_reducible assumption) ?_; intro _)) | (refine get_li (by k_asm) (by k_mem) (by omega) (by omega) (by with_reducible assumption) ?_))) | (leave1; (try dsimp only)))
      refine way_c (h₀ := g) X' T' F5.keep (by show dp + 1 < _; omega) (by omega) (by omega) fun ws' hw' hlw D ys h6 tk6 kk6 hi6 eD hD0 => ?_
      have F6 := F5.keeps kk6
      have N6 := (newsK F5 N5 kk6 eD hD0).1
      clear F5 N5
      repeat' ((fail_if_success (with_reducible show Q _ _)); (fail_if_success (with_reducible show wpAny _ _ (call (Value.ref _) _) _ _ _)); (fail_if_success (with_reducible show ∃ _, _)); first | (k_unfold; (try dsimp only)) | (with_reducible ((with_reducible show wpAny _ _ (subscriptTail _ _ (Value.ref _) (Value.int _ _)) _ _ _); first | ((with_reducible show wpAny _ _ (subscriptTail _ _ (Value.ref _) (Value.int 0 _)) _ _ _); first | (refine get_lo (by k_asm) (by k_mem) (by with_reducible assumption) ?_) | (refine get_tp (by with_reducible assumption) ?_; intro _)) | (refine get_li (by k_asm) (by k_mem) (by omega) (by omega) (by with_reducible assumption) ?_))) | ((with_reducible show wpAny _ _ (binaryOp .Mult _ _) _ _ _); with_reducible ((refine mul_int ?_ (mulOk (by decide))); (try dsimp only))) | (with_reducible ((with_reducible show wpAny _ _ (call (Value.type "bytes") [Value.ref _]) _ _ _); (refine bytes_row (by k_asm) (by k_asm) (by assumption) (by assumption) (by assumption) rfl ?_); intro _ _ _ _ _ _ _; (try dsimp only))) | walk1 | ((with_reducible show wpAny _ _ (subscriptTail _ _ (Value.ref _) (Value.int _ _)) _ _ _); first | ((with_reducible show wpAny _ _ (subscriptTail _ _ (Value.ref _) (Value.int 0 _)) _ _ _); first | (refine get_lo (by k_asm) (by k_mem) (by with_reducible assumption) ?_) | (refine get_tp (by with_reducible assumption) ?_; intro _)) | (refine get_li (by k_asm) (by k_mem) (by omega) (by omega) (by with_reducible assumption) ?_)) | (dsimp only; first | (with_reducible ((with_reducible show wpAny _ _ (subscriptTail _ _ (Value.ref _) (Value.int _ _)) _ _ _); first | ((with_reducible show wpAny _ _ (subscriptTail _ _ (Value.ref _) (Value.int 0 _)) _ _ _); first | (refine get_lo (by k_asm) (by k_mem) (by with_reducible assumption) ?_) | (refine get_tp (by with_reducible assumption) ?_; intro _)) | (refine get_li (by k_asm) (by k_mem) (by omega) (by omega) (by with_reducible assumption) ?_))) | ((with_reducible show wpAny _ _ (binaryOp .Mult _ _) _ _ _); with_reducible ((refine mul_int ?_ (mulOk (by decide))); (try dsimp only))) | (with_reducible ((with_reducible show wpAny _ _ (call (Value.type "bytes") [Value.ref _]) _ _ _); (refine bytes_row (by k_asm) (by k_asm) (by assumption) (by assumption) (by assumption) rfl ?_); intro _ _ _ _ _ _ _; (try dsimp only))) | walk1 | ((with_reducible show wpAny _ _ (subscriptTail _ _ (Value.ref _) (Value.int _ _)) _ _ _); first | ((with_reducible show wpAny _ _ (subscriptTail _ _ (Value.ref _) (Value.int 0 _)) _ _ _); first | (refine get_lo (by k_asm) (by k_mem) (by with_reducible assumption) ?_) | (refine get_tp (by with_reducible assumption) ?_; intro _)) | (refine get_li (by k_asm) (by k_mem) (by omega) (by omega) (by with_reducible assumption) ?_))) | (leave1; (try dsimp only)))
      refine redswap3_c (h₀ := g) X' T' F6.keep (by show dp + 1 + 1 < _; omega) (IL.of eD hi6) hw' hy hmr fun z tz h7 tk7 hz7 kk7 => ?_
      exact hQ' _ _ _ (fun b o e => kk7 _ _ (kk6 _ _ e)) ⟨z, tz, rfl, by rw [hz7, hlw]; rw [Int.zero_add]⟩
    case done =>
      intro D ys h5 tk5 kk5 eD hD0 hlen hP
      have F6 := Fz.keeps kk5
      have N6 := (newsK Fz Nz kk5 eD hD0).1
      have O6 := (newsK Fz Nz kk5 eD hD0).2
      clear Fz Nz hr
      have hOL : OffL L' D := offL_of (ex := []) (T := []) O6
      simp only [LCg.Off1] at O6
      repeat' ((fail_if_success (with_reducible show Q _ _)); (fail_if_success (with_reducible show wpAny _ _ (call (Value.ref _) _) _ _ _)); (fail_if_success (with_reducible show _ ∧ ∃ _, _)); (fail_if_success (with_reducible show _ ∧ ∀ P : Prop, _)); first | (k_unfold; (try dsimp only)) | (with_reducible ((with_reducible show wpAny _ _ (subscriptTail _ _ (Value.ref _) (Value.int _ _)) _ _ _); first | ((with_reducible show wpAny _ _ (subscriptTail _ _ (Value.ref _) (Value.int 0 _)) _ _ _); first | (refine get_lo (by k_asm) (by k_mem) (by with_reducible assumption) ?_) | (refine get_tp (by with_reducible assumption) ?_; intro _)) | (refine get_li (by k_asm) (by k_mem) (by omega) (by omega) (by with_reducible assumption) ?_))) | ((with_reducible show wpAny _ _ (binaryOp .Mult _ _) _ _ _); with_reducible ((refine mul_int ?_ (mulOk (by decide))); (try dsimp only))) | (with_reducible ((with_reducible show wpAny _ _ (call (Value.type "bytes") [Value.ref _]) _ _ _); (refine bytes_row (by k_asm) (by k_asm) (by assumption) (by assumption) (by assumption) rfl ?_); intro _ _ _ _ _ _ _; (try dsimp only))) | walk1 | ((with_reducible show wpAny _ _ (subscriptTail _ _ (Value.ref _) (Value.int _ _)) _ _ _); first | ((with_reducible show wpAny _ _ (subscriptTail _ _ (Value.ref _) (Value.int 0 _)) _ _ _); first | (refine get_lo (by k_asm) (by k_mem) (by with_reducible assumption) ?_) | (refine get_tp (by with_reducible assumption) ?_; intro _)) | (refine get_li (by k_asm) (by k_mem) (by omega) (by omega) (by with_reducible assumption) ?_)) | (dsimp only; first | (with_reducible ((with_reducible show wpAny _ _ (subscriptTail _ _ (Value.ref _) (Value.int _ _)) _ _ _); first | ((with_reducible show wpAny _ _ (subscriptTail _ _ (Value.ref _) (Value.int 0 _)) _ _ _); first | (refine get_lo (by k_asm) (by k_mem) (by with_reducible assumption) ?_) | (refine get_tp (by with_reducible assumption) ?_; intro _)) | (refine get_li (by k_asm) (by k_mem) (by omega) (by omega) (by with_reducible assumption) ?_))) | ((with_reducible show wpAny _ _ (binaryOp .Mult _ _) _ _ _); with_reducible ((refine mul_int ?_ (mulOk (by decide))); (try dsimp only))) | (with_reducible ((with_reducible show wpAny _ _ (call (Value.type "bytes") [Value.ref _]) _ _ _); (refine bytes_row (by k_asm) (by k_asm) (by assumption) (by assumption) (by assumption) rfl ?_); intro _ _ _ _ _ _ _; (try dsimp only))) | walk1 | ((with_reducible show wpAny _ _ (subscriptTail _ _ (Value.ref _) (Value.int _ _)) _ _ _); first | ((with_reducible show wpAny _ _ (subscriptTail _ _ (Value.ref _) (Value.int 0 _)) _ _ _); first | (refine get_lo (by k_asm) (by k_mem) (by with_reducible assumption) ?_) | (refine get_tp (by with_reducible assumption) ?_; intro _)) | (refine get_li (by k_asm) (by k_mem) (by omega) (by omega) (by with_reducible assumption) ?_))) | (leave1; (try dsimp only)))
      rename_i h9 o9 F9 N9 d9
      exact ⟨by first | rfl | trivial, fun _ kk => kk h9 _ D ys rfl hlen hP (hi_in d1 d2 d3 d4 d5 d9 d7 d8 (fun p hp => by rw [List.mem_singleton.mp hp]; exact hOL) (fun p hp => by cases hp) F9 N9)⟩
  case C2 =>
  rintro f s' ⟨rfl, HP⟩
  refine HP _ ?_
  clear HP
  rintro h2 tk2 im ims rfl him hims hI2
  clear hI1
  dsimp only
  refine wpN_of ?_
  refine wpAny_execs_cons ?_
  refine wpAny_mono (Q := fun f s' => f = Flow.next ∧ ∀ P : Prop, (∀ h' tk' t, s' = { s with heap := h', toks := tk' } → HI g L' l2 none none none none (some (.int (lay ws) t)) (some (.ref im)) (some (.bytes y t1)) (some (.ref l)) none none [(im, LCg.lst ims)] [] h' → P) → P) ?S3 ?C3 (fun _ _ x => x)
  case S3 =>
    refine hi_el hI2 ?_; intro o1 o2 o3 o4 o5 o6 o7 o8 d1 d2 d3 d4 d5 d6 d7 d8 hE hTE F N
    dsimp only [List.cons_append, List.nil_append] at N
    have hE' := hE
    simp only [List.forall_mem_cons, List.not_mem_nil, false_implies, implies_true, and_true, OffL] at hE'
    repeat' ((fail_if_success (with_reducible show Q _ _)); (fail_if_success (with_reducible show wpAny _ _ (call (Value.ref _) _) _ _ _)); (fail_if_success (with_reducible show _ ∧ ∃ _, _)); (fail_if_success (with_reducible show _ ∧ ∀ P : Prop, _)); first | (k_unfold; (try dsimp only)) | (with_reducible ((with_reducible show wpAny _ _ (subscriptTail _ _ (Value.ref _) (Value.int _ _)) _ _ _); first | ((with_reducible show wpAny _ _ (subscriptTail _ _ (Value.ref _) (Value.int 0 _)) _ _ _); first | (refine get_lo (by k_asm) (by k_mem) (by with_reducible assumption) ?_) | (refine get_tp (by with_reducible assumption) ?_; intro _)) | (refine get_li (by k_asm) (by k_mem) (by omega) (by omega) (by with_reducible assumption) ?_))) | ((with_reducible show wpAny _ _ (binaryOp .Mult _ _) _ _ _); with_reducible ((refine mul_int ?_ (mulOk (by decide))); (try dsimp only))) | (with_reducible ((with_reducible show wpAny _ _ (call (Value.type "bytes") [Value.ref _]) _ _ _); (refine bytes_row (by k_asm) (by k_asm) (by assumption) (by assumption) (by assumption) rfl ?_); intro _ _ _ _ _ _ _; (try dsimp only))) | walk1 | ((with_reducible show wpAny _ _ (subscriptTail _ _ (Value.ref _) (Value.int _ _)) _ _ _); first | ((with_reducible show wpAny _ _ (subscriptTail _ _ (Value.ref _) (Value.int 0 _)) _ _ _); first | (refine get_lo (by k_asm) (by k_mem) (by with_reducible assumption) ?_) | (refine get_tp (by with_reducible assumption) ?_; intro _)) | (refine get_li (by k_asm) (by k_mem) (by omega) (by omega) (by with_reducible assumption) ?_)) | (dsimp only; first | (with_reducible ((with_reducible show wpAny _ _ (subscriptTail _ _ (Value.ref _) (Value.int _ _)) _ _ _); first | ((with_reducible show wpAny _ _ (subscriptTail _ _ (Value.ref _) (Value.int 0 _)) _ _ _); first | (refine get_lo (by k_asm) (by k_mem) (by with_reducible assumption) ?_) | (refine get_tp (by with_reducible assumption) ?_; intro _)) | (refine get_li (by k_asm) (by k_mem) (by omega) (by omega) (by with_reducible assumption) ?_))) | ((with_reducible show wpAny _ _ (binaryOp .Mult _ _) _ _ _); with_reducible ((refine mul_int ?_ (mulOk (by decide))); (try dsimp only))) | (with_reducible ((with_reducible show wpAny _ _ (call (Value.type "bytes") [Value.ref _]) _ _ _); (refine bytes_row (by k_asm) (by k_asm) (by assumption) (by assumption) (by assumption) rfl ?_); intro _ _ _ _ _ _ _; (try dsimp only))) | walk1 | ((with_reducible show wpAny _ _ (subscriptTail _ _ (Value.ref _) (Value.int _ _)) _ _ _); first | ((with_reducible show wpAny _ _ (subscriptTail _ _ (Value.ref _) (Value.int 0 _)) _ _ _); first | (refine get_lo (by k_asm) (by k_mem) (by with_reducible assumption) ?_) | (refine get_tp (by with_reducible assumption) ?_; intro _)) | (refine get_li (by k_asm) (by k_mem) (by omega) (by omega) (by with_reducible assumption) ?_))) | (leave1; (try dsimp only)))
    refine mask_c (h₀ := g) X' T' F.keep (by show dp + 1 < _; omega) (hLw.keep F.keep) h6 fun t h5 tk5 kk => ?_
    have F6 := F.keeps kk
    have N6 := N.keeps kk
    clear F N
    refine storeX_C F6 N6 rfl (upd_laid (ex := [_]) (T := []) hE hTE) d5 ?_ rfl rfl
    intro h9 o9 F9 N9 d9
    (try dsimp only)
    repeat' ((fail_if_success (with_reducible show Q _ _)); (fail_if_success (with_reducible show wpAny _ _ (call (Value.ref _) _) _ _ _)); (fail_if_success (with_reducible show _ ∧ ∃ _, _)); (fail_if_success (with_reducible show _ ∧ ∀ P : Prop, _)); first | (k_unfold; (try dsimp only)) | (with_reducible ((with_reducible show wpAny _ _ (subscriptTail _ _ (Value.ref _) (Value.int _ _)) _ _ _); first | ((with_reducible show wpAny _ _ (subscriptTail _ _ (Value.ref _) (Value.int 0 _)) _ _ _); first | (refine get_lo (by k_asm) (by k_mem) (by with_reducible assumption) ?_) | (refine get_tp (by with_reducible assumption) ?_; intro _)) | (refine get_li (by k_asm) (by k_mem) (by omega) (by omega) (by with_reducible assumption) ?_))) | ((with_reducible show wpAny _ _ (binaryOp .Mult _ _) _ _ _); with_reducible ((refine mul_int ?_ (mulOk (by decide))); (try dsimp only))) | (with_reducible ((with_reducible show wpAny _ _ (call (Value.type "bytes") [Value.ref _]) _ _ _); (refine bytes_row (by k_asm) (by k_asm) (by assumption) (by assumption) (by assumption) rfl ?_); intro _ _ _ _ _ _ _; (try dsimp only))) | walk1 | ((with_reducible show wpAny _ _ (subscriptTail _ _ (Value.ref _) (Value.int _ _)) _ _ _); first | ((with_reducible show wpAny _ _ (subscriptTail _ _ (Value.ref _) (Value.int 0 _)) _ _ _); first | (refine get_lo (by k_asm) (by k_mem) (by with_reducible assumption) ?_) | (refine get_tp (by with_reducible assumption) ?_; intro _)) | (refine get_li (by k_asm) (by k_mem) (by omega) (by omega) (by with_reducible assumption) ?_)) | (dsimp only; first | (with_reducible ((with_reducible show wpAny _ _ (subscriptTail _ _ (Value.ref _) (Value.int _ _)) _ _ _); first | ((with_reducible show wpAny _ _ (subscriptTail _ _ (Value.ref _) (Value.int 0 _)) _ _ _); first | (refine get_lo (by k_asm) (by k_mem) (by with_reducible assumption) ?_) | (refine get_tp (by with_reducible assumption) ?_; intro _)) | (refine get_li (by k_asm) (by k_mem) (by omega) (by omega) (by with_reducible assumption) ?_))) | ((with_reducible show wpAny _ _ (binaryOp .Mult _ _) _ _ _); with_reducible ((refine mul_int ?_ (mulOk (by decide))); (try dsimp only))) | (with_reducible ((with_reducible show wpAny _ _ (call (Value.type "bytes") [Value.ref _]) _ _ _); (refine bytes_row (by k_asm) (by k_asm) (by assumption) (by assumption) (by assumption) rfl ?_); intro _ _ _ _ _ _ _; (try dsimp only))) | walk1 | ((with_reducible show wpAny _ _ (subscriptTail _ _ (Value.ref _) (Value.int _ _)) _ _ _); first | ((with_reducible show wpAny _ _ (subscriptTail _ _ (Value.ref _) (Value.int 0 _)) _ _ _); first | (refine get_lo (by k_asm) (by k_mem) (by with_reducible assumption) ?_) | (refine get_tp (by with_reducible assumption) ?_; intro _)) | (refine get_li (by k_asm) (by k_mem) (by omega) (by omega) (by with_reducible assumption) ?_))) | (leave1; (try dsimp only)))
    exact ⟨by first | rfl | trivial, fun _ kk => kk h9 _ t rfl (hi_in d1 d2 d3 d4 d9 d6 d7 d8 hE (fun p hp => by cases hp) F9 N9)⟩
  case C3 =>
  rintro f s' ⟨rfl, HP⟩
  refine HP _ ?_
  clear HP
  rintro h3 tk3 t3 rfl hI3
  clear hI2
  dsimp only
  refine wpAny_execs_cons ?_
  refine wpAny_mono (Q := fun f s' => f = Flow.next ∧ ∀ P : Prop, (∀ h' tk' sm sv, s' = { s with heap := h', toks := tk' } → IntsAre sv (SM row (lay ws)) → HI g L' l2 none none none (some (.ref sm)) (some (.int (lay ws) t3)) (some (.ref im)) (some (.bytes y t1)) (some (.ref l)) none none [(sm, LCg.lst sv), (im, LCg.lst ims)] [] h' → P) → P) ?S4 ?C4 (fun _ _ x => x)
  case S4 =>
    refine hi_el hI3 ?_; intro o1 o2 o3 o4 o5 o6 o7 o8 d1 d2 d3 d4 d5 d6 d7 d8 hE hTE F N
    dsimp only [List.cons_append, List.nil_append] at N
    have hE' := hE
    simp only [List.forall_mem_cons, List.not_mem_nil, false_implies, implies_true, and_true, OffL] at hE'
    repeat' ((fail_if_success (with_reducible show Q _ _)); (fail_if_success (with_reducible show wpAny _ _ (call (Value.ref _) _) _ _ _)); (fail_if_success (with_reducible show _ ∧ ∃ _, _)); (fail_if_success (with_reducible show _ ∧ ∀ P : Prop, _)); (fail_if_success (with_reducible show LCg.CompRest _ _ _ _ _ _ _ _ _ _ _ _ _ _ _ _ _ _ _)); first | (k_unfold; (try dsimp only)) | (with_reducible ((with_reducible show wpAny _ _ (subscriptTail _ _ (Value.ref _) (Value.int _ _)) _ _ _); first | ((with_reducible show wpAny _ _ (subscriptTail _ _ (Value.ref _) (Value.int 0 _)) _ _ _); first | (refine get_lo (by k_asm) (by k_mem) (by with_reducible assumption) ?_) | (refine get_tp (by with_reducible assumption) ?_; intro _)) | (refine get_li (by k_asm) (by k_mem) (by omega) (by omega) (by with_reducible assumption) ?_))) | ((with_reducible show wpAny _ _ (binaryOp .Mult _ _) _ _ _); with_reducible ((refine mul_int ?_ (mulOk (by decide))); (try dsimp only))) | (with_reducible ((with_reducible show wpAny _ _ (call (Value.type "bytes") [Value.ref _]) _ _ _); (refine bytes_row (by k_asm) (by k_asm) (by assumption) (by assumption) (by assumption) rfl ?_); intro _ _ _ _ _ _ _; (try dsimp only))) | walk1 | ((with_reducible show wpAny _ _ (subscriptTail _ _ (Value.ref _) (Value.int _ _)) _ _ _); first | ((with_reducible show wpAny _ _ (subscriptTail _ _ (Value.ref _) (Value.int 0 _)) _ _ _); first | (refine get_lo (by k_asm) (by k_mem) (by with_reducible assumption) ?_) | (refine get_tp (by with_reducible assumption) ?_; intro _)) | (refine get_li (by k_asm) (by k_mem) (by omega) (by omega) (by with_reducible assumption) ?_)) | (dsimp only; first | (with_reducible ((with_reducible show wpAny _ _ (subscriptTail _ _ (Value.ref _) (Value.int _ _)) _ _ _); first | ((with_reducible show wpAny _ _ (subscriptTail _ _ (Value.ref _) (Value.int 0 _)) _ _ _); first | (refine get_lo (by k_asm) (by k_mem) (by with_reducible assumption) ?_) | (refine get_tp (by with_reducible assumption) ?_; intro _)) | (refine get_li (by k_asm) (by k_mem) (by omega) (by omega) (by with_reducible assumption) ?_))) | ((with_reducible show wpAny _ _ (binaryOp .Mult _ _) _ _ _); with_reducible ((refine mul_int ?_ (mulOk (by decide))); (try dsimp only))) | (with_reducible ((with_reducible show wpAny _ _ (call (Value.type "bytes") [Value.ref _]) _ _ _); (refine bytes_row (by k_asm) (by k_asm) (by assumption) (by assumption) (by assumption) rfl ?_); intro _ _ _ _ _ _ _; (try dsimp only))) | walk1 | ((with_reducible show wpAny _ _ (subscriptTail _ _ (Value.ref _) (Value.int _ _)) _ _ _); first | ((with_reducible show wpAny _ _ (subscriptTail _ _ (Value.ref _) (Value.int 0 _)) _ _ _); first | (refine get_lo (by k_asm) (by k_mem) (by with_reducible assumption) ?_) | (refine get_tp (by with_reducible assumption) ?_; intro _)) | (refine get_li (by k_asm) (by k_mem) (by omega) (by omega) (by with_reducible assumption) ?_))) | (leave1; (try dsimp only)))
    refine restU 8 (fun i y => ∃ t, y = Value.int ((pr row (mv (i : Int) (mv (lay ws) row))).sum) t) ?turn ?fin _ 0 [] (by rw [List.size_toArray, him]) rfl (fun i y h => by simp at h)
    case turn =>
      rintro i v I oI C oC D m₂ h tk E' ys hi hv hC hx F2 N2 off ne
      obtain ⟨yi, ti, rfl, hyi⟩ := hims i v (by simpa using hv)
      repeat' ((fail_if_success (with_reducible show Q _ _)); (fail_if_success (with_reducible show wpAny _ _ (call (Value.ref _) _) _ _ _)); (fail_if_success (with_reducible show LCg.CompEnd _ _ _ _ _ _ _ _ _ _ _ _ _ _)); first | (k_unfold; (try dsimp only)) | (with_reducible ((with_reducible show wpAny _ _ (subscriptTail _ _ (Value.ref _) (Value.int _ _)) _ _ _); first | ((with_reducible show wpAny _ _ (subscriptTail _ _ (Value.ref _) (Value.int 0 _)) _ _ _); first | (refine get_lo (by k_asm) (by k_mem) (by with_reducible assumption) ?_) | (refine get_tp (by with_reducible assumption) ?_; intro _)) | (refine get_li (by k_asm) (by k_mem) (by omega) (by omega) (by with_reducible assumption) ?_))) | ((with_reducible show wpAny _ _ (binaryOp .Mult _ _) _ _ _); with_reducible ((refine mul_int ?_ (mulOk (by decide))); (try dsimp only))) | (with_reducible ((with_reducible show wpAny _ _ (call (Value.type "bytes") [Value.ref _]) _ _ _); (refine bytes_row (by k_asm) (by k_asm) (by assumption) (by assumption) (by assumption) rfl ?_); intro _ _ _ _ _ _ _; (try dsimp only))) | walk1 | ((with_reducible show wpAny _ _ (subscriptTail _ _ (Value.ref _) (Value.int _ _)) _ _ _); first | ((with_reducible show wpAny _ _ (subscriptTail _ _ (Value.ref _) (Value.int 0 _)) _ _ _); first | (refine get_lo (by k_asm) (by k_mem) (by with_reducible assumption) ?_) | (refine get_tp (by with_reducible assumption) ?_; intro _)) | (refine get_li (by k_asm) (by k_mem) (by omega) (by omega) (by with_reducible assumption) ?_)) | (dsimp only; first | (with_reducible ((with_reducible show wpAny _ _ (subscriptTail _ _ (Value.ref _) (Value.int _ _)) _ _ _); first | ((with_reducible show wpAny _ _ (subscriptTail _ _ (Value.ref _) (Value.int 0 _)) _ _ _); first | (refine get_lo (by k_asm) (by k_mem) (by with_reducible assumption) ?_) | (refine get_tp (by with_reducible assumption) ?_; intro _)) | (refine get_li (by k_asm) (by k_mem) (by omega) (by omega) (by with_reducible assumption) ?_))) | ((with_reducible show wpAny _ _ (binaryOp .Mult _ _) _ _ _); with_reducible ((refine mul_int ?_ (mulOk (by decide))); (try dsimp only))) | (with_reducible ((with_reducible show wpAny _ _ (call (Value.type "bytes") [Value.ref _]) _ _ _); (refine bytes_row (by k_asm) (by k_asm) (by assumption) (by assumption) (by assumption) rfl ?_); intro _ _ _ _ _ _ _; (try dsimp only))) | walk1 | ((with_reducible show wpAny _ _ (subscriptTail _ _ (Value.ref _) (Value.int _ _)) _ _ _); first | ((with_reducible show wpAny _ _ (subscriptTail _ _ (Value.ref _) (Value.int 0 _)) _ _ _); first | (refine get_lo (by k_asm) (by k_mem) (by with_reducible assumption) ?_) | (refine get_tp (by with_reducible assumption) ?_; intro _)) | (refine get_li (by k_asm) (by k_mem) (by omega) (by omega) (by with_reducible assumption) ?_))) | (leave1; (try dsimp only)))
      refine prodb_c (h₀ := g) (l2 := l) X' T' F2.keep (by show dp + 1 < _; omega) (hLr.keep F2.keep) h8 hyi (mv_len _ _) hbn fun D2 ys2 h5 tk5 kk5 hi5 eD5 hD5 => ?_
      have F6 := F2.keeps kk5
      have N6 := (newsK F2 N2 kk5 eD5 hD5).1
      repeat' ((fail_if_success (with_reducible show Q _ _)); (fail_if_success (with_reducible show wpAny _ _ (call (Value.ref _) _) _ _ _)); (fail_if_success (with_reducible show LCg.CompEnd _ _ _ _ _ _ _ _ _ _ _ _ _ _)); first | (k_unfold; (try dsimp only)) | (with_reducible ((with_reducible show wpAny _ _ (subscriptTail _ _ (Value.ref _) (Value.int _ _)) _ _ _); first | ((with_reducible show wpAny _ _ (subscriptTail _ _ (Value.ref _) (Value.int 0 _)) _ _ _); first | (refine get_lo (by k_asm) (by k_mem) (by with_reducible assumption) ?_) | (refine get_tp (by with_reducible assumption) ?_; intro _)) | (refine get_li (by k_asm) (by k_mem) (by omega) (by omega) (by with_reducible assumption) ?_))) | ((with_reducible show wpAny _ _ (binaryOp .Mult _ _) _ _ _); with_reducible ((refine mul_int ?_ (mulOk (by decide))); (try dsimp only))) | (with_reducible ((with_reducible show wpAny _ _ (call (Value.type "bytes") [Value.ref _]) _ _ _); (refine bytes_row (by k_asm) (by k_asm) (by assumption) (by assumption) (by assumption) rfl ?_); intro _ _ _ _ _ _ _; (try dsimp only))) | walk1 | ((with_reducible show wpAny _ _ (subscriptTail _ _ (Value.ref _) (Value.int _ _)) _ _ _); first | ((with_reducible show wpAny _ _ (subscriptTail _ _ (Value.ref _) (Value.int 0 _)) _ _ _); first | (refine get_lo (by k_asm) (by k_mem) (by with_reducible assumption) ?_) | (refine get_tp (by with_reducible assumption) ?_; intro _)) | (refine get_li (by k_asm) (by k_mem) (by omega) (by omega) (by with_reducible assumption) ?_)) | (dsimp only; first | (with_reducible ((with_reducible show wpAny _ _ (subscriptTail _ _ (Value.ref _) (Value.int _ _)) _ _ _); first | ((with_reducible show wpAny _ _ (subscriptTail _ _ (Value.ref _) (Value.int 0 _)) _ _ _); first | (refine get_lo (by k_asm) (by k_mem) (by with_reducible assumption) ?_) | (refine get_tp (by with_reducible assumption) ?_; intro _)) | (refine get_li (by k_asm) (by k_mem) (by omega) (by omega) (by with_reducible assumption) ?_))) | ((with_reducible show wpAny _ _ (binaryOp .Mult _ _) _ _ _); with_reducible ((refine mul_int ?_ (mulOk (by decide))); (try dsimp only))) | (with_reducible ((with_reducible show wpAny _ _ (call (Value.type "bytes") [Value.ref _]) _ _ _); (refine bytes_row (by k_asm) (by k_asm) (by assumption) (by assumption) (by assumption) rfl ?_); intro _ _ _ _ _ _ _; (try dsimp only))) | walk1 | ((with_reducible show wpAny _ _ (subscriptTail _ _ (Value.ref _) (Value.int _ _)) _ _ _); first | ((with_reducible show wpAny _ _ (subscriptTail _ _ (Value.ref _) (Value.int 0 _)) _ _ _); first | (refine get_lo (by k_asm) (by k_mem) (by with_reducible assumption) ?_) | (refine get_tp (by with_reducible assumption) ?_; intro _)) | (refine get_li (by k_asm) (by k_mem) (by omega) (by omega) (by with_reducible assumption) ?_))) | (leave1; (try dsimp only)))
      rename_i h7 tk7 t7 F7 N7
      exact LCg.CompEnd.intro F7 N7 _ (fun p hp => .tail _ hp) off (.inr ⟨_, .head _, rfl, _, rfl⟩) ⟨rfl, _, rfl⟩
    case fin =>
      intro ys hl9 hR9 D h5 tk5 F6 N6 O6
      have hOL : OffL L' D := offL_of (ex := [_]) (T := []) O6
      simp only [LCg.Off1] at O6
      (try dsimp only)
      refine storeX_C F6 N6 rfl (upd_sums (ex := [_, _]) (T := []) (offE hOL hE) hTE) d4 ?_ rfl rfl
      intro h9 o9 F9 N9 d9
      (try dsimp only)
      repeat' ((fail_if_success (with_reducible show Q _ _)); (fail_if_success (with_reducible show wpAny _ _ (call (Value.ref _) _) _ _ _)); (fail_if_success (with_reducible show _ ∧ ∃ _, _)); (fail_if_success (with_reducible show _ ∧ ∀ P : Prop, _)); first | (k_unfold; (try dsimp only)) | (with_reducible ((with_reducible show wpAny _ _ (subscriptTail _ _ (Value.ref _) (Value.int _ _)) _ _ _); first | ((with_reducible show wpAny _ _ (subscriptTail _ _ (Value.ref _) (Value.int 0 _)) _ _ _); first | (refine get_lo (by k_asm) (by k_mem) (by with_reducible assumption) ?_) | (refine get_tp (by with_reducible assumption) ?_; intro _)) | (refine get_li (by k_asm) (by k_mem) (by omega) (by omega) (by with_reducible assumption) ?_))) | ((with_reducible show wpAny _ _ (binaryOp .Mult _ _) _ _ _); with_reducible ((refine mul_int ?_ (mulOk (by decide))); (try dsimp only))) | (with_reducible ((with_reducible show wpAny _ _ (call (Value.type "bytes") [Value.ref _]) _ _ _); (refine bytes_row (by k_asm) (by k_asm) (by assumption) (by assumption) (by assumption) rfl ?_); intro _ _ _ _ _ _ _; (try dsimp only))) | walk1 | ((with_reducible show wpAny _ _ (subscriptTail _ _ (Value.ref _) (Value.int _ _)) _ _ _); first | ((with_reducible show wpAny _ _ (subscriptTail _ _ (Value.ref _) (Value.int 0 _)) _ _ _); first | (refine get_lo (by k_asm) (by k_mem) (by with_reducible assumption) ?_) | (refine get_tp (by with_reducible assumption) ?_; intro _)) | (refine get_li (by k_asm) (by k_mem) (by omega) (by omega) (by with_reducible assumption) ?_)) | (dsimp only; first | (with_reducible ((with_reducible show wpAny _ _ (subscriptTail _ _ (Value.ref _) (Value.int _ _)) _ _ _); first | ((with_reducible show wpAny _ _ (subscriptTail _ _ (Value.ref _) (Value.int 0 _)) _ _ _); first | (refine get_lo (by k_asm) (by k_mem) (by with_reducible assumption) ?_) | (refine get_tp (by with_reducible assumption) ?_; intro _)) | (refine get_li (by k_asm) (by k_mem) (by omega) (by omega) (by with_reducible assumption) ?_))) | ((with_reducible show wpAny _ _ (binaryOp .Mult _ _) _ _ _); with_reducible ((refine mul_int ?_ (mulOk (by decide))); (try dsimp only))) | (with_reducible ((with_reducible show wpAny _ _ (call (Value.type "bytes") [Value.ref _]) _ _ _); (refine bytes_row (by k_asm) (by k_asm) (by assumption) (by assumption) (by assumption) rfl ?_); intro _ _ _ _ _ _ _; (try dsimp only))) | walk1 | ((with_reducible show wpAny _ _ (subscriptTail _ _ (Value.ref _) (Value.int _ _)) _ _ _); first | ((with_reducible show wpAny _ _ (subscriptTail _ _ (Value.ref _) (Value.int 0 _)) _ _ _); first | (refine get_lo (by k_asm) (by k_mem) (by with_reducible assumption) ?_) | (refine get_tp (by with_reducible assumption) ?_; intro _)) | (refine get_li (by k_asm) (by k_mem) (by omega) (by omega) (by with_reducible assumption) ?_))) | (leave1; (try dsimp only)))
      exact ⟨by first | rfl | trivial, fun _ kk => kk h9 _ D ys rfl (ints_of hl9 hR9) (hi_in d1 d2 d3 d9 d5 d6 d7 d8 (offE hOL hE) (fun p hp => by cases hp) F9 N9)⟩
  case C4 =>
  rintro f s' ⟨rfl, HP⟩
  refine HP _ ?_
  clear HP
  rintro h4 tk4 sm sv rfl hsv hI4
  clear hI3
  dsimp only
  refine wpAny_execs_cons ?_
  refine wpAny_mono (Q := fun f s' => f = Flow.next ∧ ∀ P : Prop, (∀ h' tk' ou ov, s' = { s with heap := h', toks := tk' } → IntsAre ov (spec row) → HI g L' l2 none none (some (.ref ou)) (some (.ref sm)) (some (.int (lay ws) t3)) (some (.ref im)) (some (.bytes y t1)) (some (.ref l)) none none [(ou, LCg.lst ov), (sm, LCg.lst sv), (im, LCg.lst ims)] [] h' → P) → P) ?S5 ?C5 (fun _ _ x => x)
  case S5 =>
    refine hi_el hI4 ?_; intro o1 o2 o3 o4 o5 o6 o7 o8 d1 d2 d3 d4 d5 d6 d7 d8 hE hTE F N
    dsimp only [List.cons_append, List.nil_append] at N
    have hE' := hE
    simp only [List.forall_mem_cons, List.not_mem_nil, false_implies, implies_true, and_true, OffL] at hE'
    repeat' ((fail_if_success (with_reducible show Q _ _)); (fail_if_success (with_reducible show wpAny _ _ (call (Value.ref _) _) _ _ _)); (fail_if_success (with_reducible show _ ∧ ∃ _, _)); (fail_if_success (with_reducible show _ ∧ ∀ P : Prop, _)); first | (k_unfold; (try dsimp only)) | (with_reducible ((with_reducible show wpAny _ _ (subscriptTail _ _ (Value.ref _) (Value.int _ _)) _ _ _); first | ((with_reducible show wpAny _ _ (subscriptTail _ _ (Value.ref _) (Value.int 0 _)) _ _ _); first | (refine get_lo (by k_asm) (by k_mem) (by with_reducible assumption) ?_) | (refine get_tp (by with_reducible assumption) ?_; intro _)) | (refine get_li (by k_asm) (by k_mem) (by omega) (by omega) (by with_reducible assumption) ?_))) | ((with_reducible show wpAny _ _ (binaryOp .Mult _ _) _ _ _); with_reducible ((refine mul_int ?_ (mulOk (by decide))); (try dsimp only))) | (with_reducible ((with_reducible show wpAny _ _ (call (Value.type "bytes") [Value.ref _]) _ _ _); (refine bytes_row (by k_asm) (by k_asm) (by assumption) (by assumption) (by assumption) rfl ?_); intro _ _ _ _ _ _ _; (try dsimp only))) | walk1 | ((with_reducible show wpAny _ _ (subscriptTail _ _ (Value.ref _) (Value.int _ _)) _ _ _); first | ((with_reducible show wpAny _ _ (subscriptTail _ _ (Value.ref _) (Value.int 0 _)) _ _ _); first | (refine get_lo (by k_asm) (by k_mem) (by with_reducible assumption) ?_) | (refine get_tp (by with_reducible assumption) ?_; intro _)) | (refine get_li (by k_asm) (by k_mem) (by omega) (by omega) (by with_reducible assumption) ?_)) | (dsimp only; first | (with_reducible ((with_reducible show wpAny _ _ (subscriptTail _ _ (Value.ref _) (Value.int _ _)) _ _ _); first | ((with_reducible show wpAny _ _ (subscriptTail _ _ (Value.ref _) (Value.int 0 _)) _ _ _); first | (refine get_lo (by k_asm) (by k_mem) (by with_reducible assumption) ?_) | (refine get_tp (by with_reducible assumption) ?_; intro _)) | (refine get_li (by k_asm) (by k_mem) (by omega) (by omega) (by with_reducible assumption) ?_))) | ((with_reducible show wpAny _ _ (binaryOp .Mult _ _) _ _ _); with_reducible ((refine mul_int ?_ (mulOk (by decide))); (try dsimp only))) | (with_reducible ((with_reducible show wpAny _ _ (call (Value.type "bytes") [Value.ref _]) _ _ _); (refine bytes_row (by k_asm) (by k_asm) (by assumption) (by assumption) (by assumption) rfl ?_); intro _ _ _ _ _ _ _; (try dsimp only))) | walk1 | ((with_reducible show wpAny _ _ (subscriptTail _ _ (Value.ref _) (Value.int _ _)) _ _ _); first | ((with_reducible show wpAny _ _ (subscriptTail _ _ (Value.ref _) (Value.int 0 _)) _ _ _); first | (refine get_lo (by k_asm) (by k_mem) (by with_reducible assumption) ?_) | (refine get_tp (by with_reducible assumption) ?_; intro _)) | (refine get_li (by k_asm) (by k_mem) (by omega) (by omega) (by with_reducible assumption) ?_))) | (leave1; (try dsimp only)))
    refine spectrum_c (h₀ := g) X' T' F.keep (by show dp + 1 + 2 < _; omega) (hLr.keep F.keep) h8 fun D ys h5 tk5 kk5 hi5 eD5 hD5 => ?_
    have F6 := F.keeps kk5
    have N6 := (newsK F N kk5 eD5 hD5).1
    have O6 := (newsK F N kk5 eD5 hD5).2
    have hOL : OffL L' D := offL_of (ex := [_, _]) (T := []) O6
    simp only [LCg.Off1] at O6
    clear F N
    (try dsimp only)
    refine storeX_C F6 N6 rfl (upd_ours (ex := [_, _, _]) (T := []) (offE hOL hE) hTE) d3 ?_ rfl rfl
    intro h9 o9 F9 N9 d9
    (try dsimp only)
    repeat' ((fail_if_success (with_reducible show Q _ _)); (fail_if_success (with_reducible show wpAny _ _ (call (Value.ref _) _) _ _ _)); (fail_if_success (with_reducible show _ ∧ ∃ _, _)); (fail_if_success (with_reducible show _ ∧ ∀ P : Prop, _)); first | (k_unfold; (try dsimp only)) | (with_reducible ((with_reducible show wpAny _ _ (subscriptTail _ _ (Value.ref _) (Value.int _ _)) _ _ _); first | ((with_reducible show wpAny _ _ (subscriptTail _ _ (Value.ref _) (Value.int 0 _)) _ _ _); first | (refine get_lo (by k_asm) (by k_mem) (by with_reducible assumption) ?_) | (refine get_tp (by with_reducible assumption) ?_; intro _)) | (refine get_li (by k_asm) (by k_mem) (by omega) (by omega) (by with_reducible assumption) ?_))) | ((with_reducible show wpAny _ _ (binaryOp .Mult _ _) _ _ _); with_reducible ((refine mul_int ?_ (mulOk (by decide))); (try dsimp only))) | (with_reducible ((with_reducible show wpAny _ _ (call (Value.type "bytes") [Value.ref _]) _ _ _); (refine bytes_row (by k_asm) (by k_asm) (by assumption) (by assumption) (by assumption) rfl ?_); intro _ _ _ _ _ _ _; (try dsimp only))) | walk1 | ((with_reducible show wpAny _ _ (subscriptTail _ _ (Value.ref _) (Value.int _ _)) _ _ _); first | ((with_reducible show wpAny _ _ (subscriptTail _ _ (Value.ref _) (Value.int 0 _)) _ _ _); first | (refine get_lo (by k_asm) (by k_mem) (by with_reducible assumption) ?_) | (refine get_tp (by with_reducible assumption) ?_; intro _)) | (refine get_li (by k_asm) (by k_mem) (by omega) (by omega) (by with_reducible assumption) ?_)) | (dsimp only; first | (with_reducible ((with_reducible show wpAny _ _ (subscriptTail _ _ (Value.ref _) (Value.int _ _)) _ _ _); first | ((with_reducible show wpAny _ _ (subscriptTail _ _ (Value.ref _) (Value.int 0 _)) _ _ _); first | (refine get_lo (by k_asm) (by k_mem) (by with_reducible assumption) ?_) | (refine get_tp (by with_reducible assumption) ?_; intro _)) | (refine get_li (by k_asm) (by k_mem) (by omega) (by omega) (by with_reducible assumption) ?_))) | ((with_reducible show wpAny _ _ (binaryOp .Mult _ _) _ _ _); with_reducible ((refine mul_int ?_ (mulOk (by decide))); (try dsimp only))) | (with_reducible ((with_reducible show wpAny _ _ (call (Value.type "bytes") [Value.ref _]) _ _ _); (refine bytes_row (by k_asm) (by k_asm) (by assumption) (by assumption) (by assumption) rfl ?_); intro _ _ _ _ _ _ _; (try dsimp only))) | walk1 | ((with_reducible show wpAny _ _ (subscriptTail _ _ (Value.ref _) (Value.int _ _)) _ _ _); first | ((with_reducible show wpAny _ _ (subscriptTail _ _ (Value.ref _) (Value.int 0 _)) _ _ _); first | (refine get_lo (by k_asm) (by k_mem) (by with_reducible assumption) ?_) | (refine get_tp (by with_reducible assumption) ?_; intro _)) | (refine get_li (by k_asm) (by k_mem) (by omega) (by omega) (by with_reducible assumption) ?_))) | (leave1; (try dsimp only)))
    exact ⟨by first | rfl | trivial, fun _ kk => kk h9 _ D ys rfl hi5 (hi_in d1 d2 d9 d4 d5 d6 d7 d8 (offE hOL hE) (fun p hp => by cases hp) F9 N9)⟩
  case C5 =>
  rintro f s' ⟨rfl, HP⟩
  refine HP _ ?_
  clear HP
  rintro h5 tk5 ou ov rfl hov hI5
  clear hI4
  dsimp only
  refine wpAny_execs_cons ?_
  refine wpAny_mono (Q := fun f s' => f = Flow.next ∧ ∀ P : Prop, (∀ h' tk' th tv, s' = { s with heap := h', toks := tk' } → IntsAre tv (spec (mv (lay ws) row)) → HI g L' l2 none none (some (.ref ou)) (some (.ref sm)) (some (.int (lay ws) t3)) (some (.ref im)) (some (.bytes y t1)) (some (.ref l)) (some (.ref th)) none [(th, LCg.lst tv), (ou, LCg.lst ov), (sm, LCg.lst sv), (im, LCg.lst ims)] [] h' → P) → P) ?S6 ?C6 (fun _ _ x => x)
  case S6 =>
    refine hi_el hI5 ?_; intro o1 o2 o3 o4 o5 o6 o7 o8 d1 d2 d3 d4 d5 d6 d7 d8 hE hTE F N
    dsimp only [List.cons_append, List.nil_append] at N
    have hE' := hE
    simp only [List.forall_mem_cons, List.not_mem_nil, false_implies, implies_true, and_true, OffL] at hE'
    repeat' ((fail_if_success (with_reducible show Q _ _)); (fail_if_success (with_reducible show wpAny _ _ (call (Value.ref _) _) _ _ _)); (fail_if_success (with_reducible show _ ∧ ∃ _, _)); (fail_if_success (with_reducible show _ ∧ ∀ P : Prop, _)); first | (k_unfold; (try dsimp only)) | (with_reducible ((with_reducible show wpAny _ _ (subscriptTail _ _ (Value.ref _) (Value.int _ _)) _ _ _); first | ((with_reducible show wpAny _ _ (subscriptTail _ _ (Value.ref _) (Value.int 0 _)) _ _ _); first | (refine get_lo (by k_asm) (by k_mem) (by with_reducible assumption) ?_) | (refine get_tp (by with_reducible assumption) ?_; intro _)) | (refine get_li (by k_asm) (by k_mem) (by omega) (by omega) (by with_reducible assumption) ?_))) | ((with_reducible show wpAny _ _ (binaryOp .Mult _ _) _ _ _); with_reducible ((refine mul_int ?_ (mulOk (by decide))); (try dsimp only))) | (with_reducible ((with_reducible show wpAny _ _ (call (Value.type "bytes") [Value.ref _]) _ _ _); (refine bytes_row (by k_asm) (by k_asm) (by assumption) (by assumption) (by assumption) rfl ?_); intro _ _ _ _ _ _ _; (try dsimp only))) | walk1 | ((with_reducible show wpAny _ _ (subscriptTail _ _ (Value.ref _) (Value.int _ _)) _ _ _); first | ((with_reducible show wpAny _ _ (subscriptTail _ _ (Value.ref _) (Value.int 0 _)) _ _ _); first | (refine get_lo (by k_asm) (by k_mem) (by with_reducible assumption) ?_) | (refine get_tp (by with_reducible assumption) ?_; intro _)) | (refine get_li (by k_asm) (by k_mem) (by omega) (by omega) (by with_reducible assumption) ?_)) | (dsimp only; first | (with_reducible ((with_reducible show wpAny _ _ (subscriptTail _ _ (Value.ref _) (Value.int _ _)) _ _ _); first | ((with_reducible show wpAny _ _ (subscriptTail _ _ (Value.ref _) (Value.int 0 _)) _ _ _); first | (refine get_lo (by k_asm) (by k_mem) (by with_reducible assumption) ?_) | (refine get_tp (by with_reducible assumption) ?_; intro _)) | (refine get_li (by k_asm) (by k_mem) (by omega) (by omega) (by with_reducible assumption) ?_))) | ((with_reducible show wpAny _ _ (binaryOp .Mult _ _) _ _ _); with_reducible ((refine mul_int ?_ (mulOk (by decide))); (try dsimp only))) | (with_reducible ((with_reducible show wpAny _ _ (call (Value.type "bytes") [Value.ref _]) _ _ _); (refine bytes_row (by k_asm) (by k_asm) (by assumption) (by assumption) (by assumption) rfl ?_); intro _ _ _ _ _ _ _; (try dsimp only))) | walk1 | ((with_reducible show wpAny _ _ (subscriptTail _ _ (Value.ref _) (Value.int _ _)) _ _ _); first | ((with_reducible show wpAny _ _ (subscriptTail _ _ (Value.ref _) (Value.int 0 _)) _ _ _); first | (refine get_lo (by k_asm) (by k_mem) (by with_reducible assumption) ?_) | (refine get_tp (by with_reducible assumption) ?_; intro _)) | (refine get_li (by k_asm) (by k_mem) (by omega) (by omega) (by with_reducible assumption) ?_))) | (leave1; (try dsimp only)))
    refine list_b rfl hy hmr fun D0 ys0 c0 h5b tk5b kk0 hi0 eD0 hD0 => ?_
    have F1 := F.keeps kk0
    have N1 := (newsK F N kk0 eD0 hD0).1
    have N2 : News g L' h5b _ := fun p hp => N1 p (.tail _ hp)
    clear F N
    repeat' ((fail_if_success (with_reducible show Q _ _)); (fail_if_success (with_reducible show wpAny _ _ (call (Value.ref _) _) _ _ _)); (fail_if_success (with_reducible show _ ∧ ∃ _, _)); (fail_if_success (with_reducible show _ ∧ ∀ P : Prop, _)); first | (k_unfold; (try dsimp only)) | (with_reducible ((with_reducible show wpAny _ _ (subscriptTail _ _ (Value.ref _) (Value.int _ _)) _ _ _); first | ((with_reducible show wpAny _ _ (subscriptTail _ _ (Value.ref _) (Value.int 0 _)) _ _ _); first | (refine get_lo (by k_asm) (by k_mem) (by with_reducible assumption) ?_) | (refine get_tp (by with_reducible assumption) ?_; intro _)) | (refine get_li (by k_asm) (by k_mem) (by omega) (by omega) (by with_reducible assumption) ?_))) | ((with_reducible show wpAny _ _ (binaryOp .Mult _ _) _ _ _); with_reducible ((refine mul_int ?_ (mulOk (by decide))); (try dsimp only))) | (with_reducible ((with_reducible show wpAny _ _ (call (Value.type "bytes") [Value.ref _]) _ _ _); (refine bytes_row (by k_asm) (by k_asm) (by assumption) (by assumption) (by assumption) rfl ?_); intro _ _ _ _ _ _ _; (try dsimp only))) | walk1 | ((with_reducible show wpAny _ _ (subscriptTail _ _ (Value.ref _) (Value.int _ _)) _ _ _); first | ((with_reducible show wpAny _ _ (subscriptTail _ _ (Value.ref _) (Value.int 0 _)) _ _ _); first | (refine get_lo (by k_asm) (by k_mem) (by with_reducible assumption) ?_) | (refine get_tp (by with_reducible assumption) ?_; intro _)) | (refine get_li (by k_asm) (by k_mem) (by omega) (by omega) (by with_reducible assumption) ?_)) | (dsimp only; first | (with_reducible ((with_reducible show wpAny _ _ (subscriptTail _ _ (Value.ref _) (Value.int _ _)) _ _ _); first | ((with_reducible show wpAny _ _ (subscriptTail _ _ (Value.ref _) (Value.int 0 _)) _ _ _); first | (refine get_lo (by k_asm) (by k_mem) (by with_reducible assumption) ?_) | (refine get_tp (by with_reducible assumption) ?_; intro _)) | (refine get_li (by k_asm) (by k_mem) (by omega) (by omega) (by with_reducible assumption) ?_))) | ((with_reducible show wpAny _ _ (binaryOp .Mult _ _) _ _ _); with_reducible ((refine mul_int ?_ (mulOk (by decide))); (try dsimp only))) | (with_reducible ((with_reducible show wpAny _ _ (call (Value.type "bytes") [Value.ref _]) _ _ _); (refine bytes_row (by k_asm) (by k_asm) (by assumption) (by assumption) (by assumption) rfl ?_); intro _ _ _ _ _ _ _; (try dsimp only))) | walk1 | ((with_reducible show wpAny _ _ (subscriptTail _ _ (Value.ref _) (Value.int _ _)) _ _ _); first | ((with_reducible show wpAny _ _ (subscriptTail _ _ (Value.ref _) (Value.int 0 _)) _ _ _); first | (refine get_lo (by k_asm) (by k_mem) (by with_reducible assumption) ?_) | (refine get_tp (by with_reducible assumption) ?_; intro _)) | (refine get_li (by k_asm) (by k_mem) (by omega) (by omega) (by with_reducible assumption) ?_))) | (leave1; (try dsimp only)))
    refine spectrum_c (h₀ := g) X' T' F1.keep (by show dp + 1 + 2 < _; omega) ⟨ys0, c0, eD0, hi0⟩ hmr fun D ys h5 tk5 kk5 hi5 eD5 hD5 => ?_
    have F6 := F1.keeps kk5
    have N6 := (newsK F1 N2 kk5 eD5 hD5).1
    have O6 := (newsK F1 N2 kk5 eD5 hD5).2
    have hOL : OffL L' D := offL_of (ex := [_, _, _]) (T := []) O6
    simp only [LCg.Off1] at O6
    clear F1 N1 N2
    repeat' ((fail_if_success (with_reducible show Q _ _)); (fail_if_success (with_reducible show wpAny _ _ (call (Value.ref _) _) _ _ _)); (fail_if_success (with_reducible show _ ∧ ∃ _, _)); (fail_if_success (with_reducible show _ ∧ ∀ P : Prop, _)); first | (k_unfold; (try dsimp only)) | (with_reducible ((with_reducible show wpAny _ _ (subscriptTail _ _ (Value.ref _) (Value.int _ _)) _ _ _); first | ((with_reducible show wpAny _ _ (subscriptTail _ _ (Value.ref _) (Value.int 0 _)) _ _ _); first | (refine get_lo (by k_asm) (by k_mem) (by with_reducible assumption) ?_) | (refine get_tp (by with_reducible assumption) ?_; intro _)) | (refine get_li (by k_asm) (by k_mem) (by omega) (by omega) (by with_reducible assumption) ?_))) | ((with_reducible show wpAny _ _ (binaryOp .Mult _ _) _ _ _); with_reducible ((refine mul_int ?_ (mulOk (by decide))); (try dsimp only))) | (with_reducible ((with_reducible show wpAny _ _ (call (Value.type "bytes") [Value.ref _]) _ _ _); (refine bytes_row (by k_asm) (by k_asm) (by assumption) (by assumption) (by assumption) rfl ?_); intro _ _ _ _ _ _ _; (try dsimp only))) | walk1 | ((with_reducible show wpAny _ _ (subscriptTail _ _ (Value.ref _) (Value.int _ _)) _ _ _); first | ((with_reducible show wpAny _ _ (subscriptTail _ _ (Value.ref _) (Value.int 0 _)) _ _ _); first | (refine get_lo (by k_asm) (by k_mem) (by with_reducible assumption) ?_) | (refine get_tp (by with_reducible assumption) ?_; intro _)) | (refine get_li (by k_asm) (by k_mem) (by omega) (by omega) (by with_reducible assumption) ?_)) | (dsimp only; first | (with_reducible ((with_reducible show wpAny _ _ (subscriptTail _ _ (Value.ref _) (Value.int _ _)) _ _ _); first | ((with_reducible show wpAny _ _ (subscriptTail _ _ (Value.ref _) (Value.int 0 _)) _ _ _); first | (refine get_lo (by k_asm) (by k_mem) (by with_reducible assumption) ?_) | (refine get_tp (by with_reducible assumption) ?_; intro _)) | (refine get_li (by k_asm) (by k_mem) (by omega) (by omega) (by with_reducible assumption) ?_))) | ((with_reducible show wpAny _ _ (binaryOp .Mult _ _) _ _ _); with_reducible ((refine mul_int ?_ (mulOk (by decide))); (try dsimp only))) | (with_reducible ((with_reducible show wpAny _ _ (call (Value.type "bytes") [Value.ref _]) _ _ _); (refine bytes_row (by k_asm) (by k_asm) (by assumption) (by assumption) (by assumption) rfl ?_); intro _ _ _ _ _ _ _; (try dsimp only))) | walk1 | ((with_reducible show wpAny _ _ (subscriptTail _ _ (Value.ref _) (Value.int _ _)) _ _ _); first | ((with_reducible show wpAny _ _ (subscriptTail _ _ (Value.ref _) (Value.int 0 _)) _ _ _); first | (refine get_lo (by k_asm) (by k_mem) (by with_reducible assumption) ?_) | (refine get_tp (by with_reducible assumption) ?_; intro _)) | (refine get_li (by k_asm) (by k_mem) (by omega) (by omega) (by with_reducible assumption) ?_))) | (leave1; (try dsimp only)))
    rename_i h9 F9 N9
    refine ⟨by first | rfl | trivial, fun _ kk => kk h9 _ D ys rfl hi5 (hi_in d1 d2 d3 d4 d5 d6 d7 d8 (offE hOL hE) (fun p hp => by cases hp) ⟨Eq.mp (congrArg (fun m => h9.Ns L' m) (funext fun y => ?_)) F9.ns, F9.keep, F9.above⟩ N9)⟩
    by_cases e1 : y = PySem.Str.ofString "best"
    · subst e1; rfl
    · by_cases e2 : y = PySem.Str.ofString "theirs"
      · subst e2; rfl
      · simp only [HM, if_neg e1, if_neg e2]
  case C6 =>
  rintro f s' ⟨rfl, HP⟩
  refine HP _ ?_
  clear HP
  rintro h6 tk6 th tv rfl htv hI6
  clear hI5
  dsimp only
  refine wpAny_execs_cons ?_
  refine wpAny_mono (Q := fun f s' => f = Flow.next ∧ ∀ P : Prop, (∀ h' tk' td tn T K, s' = { s with heap := h', toks := tk' } → TU T K → K.Perm ((List.range 8).map fun i => 8 * (-((SM row (lay ws)).getD i 0)) + (i : Int)) → K.Pairwise (· ≤ ·) → T.length = K.length → HI g L' l2 none (some (.ref td)) (some (.ref ou)) (some (.ref sm)) (some (.int (lay ws) t3)) (some (.ref im)) (some (.bytes y t1)) (some (.ref l)) (some (.ref th)) none [(td, LO (T.map (·.1)) tn), (th, LCg.lst tv), (ou, LCg.lst ov), (sm, LCg.lst sv), (im, LCg.lst ims)] T h' → P) → P) ?S7 ?C7 (fun _ _ x => x)
  case S7 =>
    refine hi_el hI6 ?_; intro o1 o2 o3 o4 o5 o6 o7 o8 d1 d2 d3 d4 d5 d6 d7 d8 hE hTE F N'
    have N := N'
    dsimp only [List.cons_append, List.nil_append] at N
    repeat' ((fail_if_success (with_reducible show Q _ _)); (fail_if_success (with_reducible show wpAny _ _ (call (Value.ref _) _) _ _ _)); (fail_if_success (with_reducible show _ ∧ ∃ _, _)); (fail_if_success (with_reducible show _ ∧ ∀ P : Prop, _)); first | (k_unfold; (try dsimp only)) | (with_reducible ((with_reducible show wpAny _ _ (subscriptTail _ _ (Value.ref _) (Value.int _ _)) _ _ _); first | ((with_reducible show wpAny _ _ (subscriptTail _ _ (Value.ref _) (Value.int 0 _)) _ _ _); first | (refine get_lo (by k_asm) (by k_mem) (by with_reducible assumption) ?_) | (refine get_tp (by with_reducible assumption) ?_; intro _)) | (refine get_li (by k_asm) (by k_mem) (by omega) (by omega) (by with_reducible assumption) ?_))) | ((with_reducible show wpAny _ _ (binaryOp .Mult _ _) _ _ _); with_reducible ((refine mul_int ?_ (mulOk (by decide))); (try dsimp only))) | (with_reducible ((with_reducible show wpAny _ _ (call (Value.type "bytes") [Value.ref _]) _ _ _); (refine bytes_row (by k_asm) (by k_asm) (by assumption) (by assumption) (by assumption) rfl ?_); intro _ _ _ _ _ _ _; (try dsimp only))) | walk1 | ((with_reducible show wpAny _ _ (subscriptTail _ _ (Value.ref _) (Value.int _ _)) _ _ _); first | ((with_reducible show wpAny _ _ (subscriptTail _ _ (Value.ref _) (Value.int 0 _)) _ _ _); first | (refine get_lo (by k_asm) (by k_mem) (by with_reducible assumption) ?_) | (refine get_tp (by with_reducible assumption) ?_; intro _)) | (refine get_li (by k_asm) (by k_mem) (by omega) (by omega) (by with_reducible assumption) ?_)) | (dsimp only; first | (with_reducible ((with_reducible show wpAny _ _ (subscriptTail _ _ (Value.ref _) (Value.int _ _)) _ _ _); first | ((with_reducible show wpAny _ _ (subscriptTail _ _ (Value.ref _) (Value.int 0 _)) _ _ _); first | (refine get_lo (by k_asm) (by k_mem) (by with_reducible assumption) ?_) | (refine get_tp (by with_reducible assumption) ?_; intro _)) | (refine get_li (by k_asm) (by k_mem) (by omega) (by omega) (by with_reducible assumption) ?_))) | ((with_reducible show wpAny _ _ (binaryOp .Mult _ _) _ _ _); with_reducible ((refine mul_int ?_ (mulOk (by decide))); (try dsimp only))) | (with_reducible ((with_reducible show wpAny _ _ (call (Value.type "bytes") [Value.ref _]) _ _ _); (refine bytes_row (by k_asm) (by k_asm) (by assumption) (by assumption) (by assumption) rfl ?_); intro _ _ _ _ _ _ _; (try dsimp only))) | walk1 | ((with_reducible show wpAny _ _ (subscriptTail _ _ (Value.ref _) (Value.int _ _)) _ _ _); first | ((with_reducible show wpAny _ _ (subscriptTail _ _ (Value.ref _) (Value.int 0 _)) _ _ _); first | (refine get_lo (by k_asm) (by k_mem) (by with_reducible assumption) ?_) | (refine get_tp (by with_reducible assumption) ?_; intro _)) | (refine get_li (by k_asm) (by k_mem) (by omega) (by omega) (by with_reducible assumption) ?_))) | (leave1; (try dsimp only)))
    refine told_c (h₀ := g) X' T' F.keep (by show dp + 1 + 3 < _; omega) (by show un + 3 + 400 < _; omega) (IL.of (N' _ (.tail _ (.tail _ (.head _)))).1 hsv) (by simp [SM]) fun td ts tn h5 tk5 key kk etd hftd hts hperm hsort => ?_
    obtain ⟨Tt, rfl, hTg, hTU⟩ := mkT fun a ha => (hts a ha).2
    have hfT : ∀ p ∈ Tt, h6.get? p.1 = none := fun p hp => (hts p.1 (List.mem_map_of_mem hp)).1
    have F6 := F.keeps kk
    have hg0 : ∀ a, h6.get? a = none → g.get? a = none := fun a ha => fresh_of F.keep ha
    have hL0 : ∀ a, h6.get? a = none → a ≠ L' := fun a ha q => by
      obtain ⟨_, _, _, q2, _⟩ := F.ns
      rw [← q, ha] at q2; cases q2
    have hTE' : ∀ p ∈ Tt, OffL L' p.1 := fun p hp => offL_fresh (ex := [_, _, _, _]) (T := []) N' (hfT p hp)
    have hE2 := offE (o := LO (Tt.map (·.1)) tn) (offL_fresh (ex := [_, _, _, _]) (T := []) N' hftd) hE
    have N6 : News g L' h5 ([(td, LO (Tt.map (·.1)) tn), (th, LCg.lst tv), (ou, LCg.lst ov), (sm, LCg.lst sv), (im, LCg.lst ims)] ++ ([(L' + 1 + 1 + 1 + 1 + 1 + 1 + 1 + 1, o1), (L' + 1 + 1 + 1 + 1 + 1 + 1 + 1, o2), (L' + 1 + 1 + 1 + 1 + 1 + 1, o3), (L' + 1 + 1 + 1 + 1 + 1, o4), (L' + 1 + 1 + 1 + 1, o5), (L' + 1 + 1 + 1, o6), (L' + 1 + 1, o7), (L' + 1, o8)] ++ Tt)) := fun p hp => by
      rcases List.mem_append.mp hp with hp | hp
      · rcases List.mem_cons.mp hp with rfl | hp
        · exact ⟨etd, hL0 _ hftd, hg0 _ hftd⟩
        · have q := N' p (List.mem_append_left _ hp)
          exact ⟨kk _ _ q.1, q.2⟩
      · rcases List.mem_append.mp hp with hp | hp
        · have q := N' p (List.mem_append_right _ (List.mem_append_left _ hp))
          exact ⟨kk _ _ q.1, q.2⟩
        · exact ⟨hTg p hp, hL0 _ (hfT p hp), hg0 _ (hfT p hp)⟩
    clear F N N'
    refine storeX_C F6 N6 rfl (upd_told hE2 hTE') d2 ?_ rfl rfl
    intro h7 o9 F7 N7 d9
    exact ⟨by first | rfl | trivial, fun _ kk => kk h7 _ td tn Tt _ rfl hTU hperm hsort (by simp) (hi_in d1 d9 d3 d4 d5 d6 d7 d8 hE2 hTE' F7 N7)⟩
  case C7 =>
  rintro f s' ⟨rfl, HP⟩
  refine HP _ ?_
  clear HP
  rintro h7 tk7 td tn Tt K rfl hTU hperm hsort hTK hI7
  clear hI6
  dsimp only
  have hK8 : K.length = 8 := by rw [hperm.length_eq]; simp
  have hT8 : Tt.length = 8 := by omega
  refine wpAny_execs_cons ?_
  refine wpAny_mono (Q := fun f s' => f = Flow.next ∧ ∀ P : Prop, (∀ h' tk' be bv, s' = { s with heap := h', toks := tk' } → IntsAre bv (bestK K) → HI g L' l2 none (some (.ref td)) (some (.ref ou)) (some (.ref sm)) (some (.int (lay ws) t3)) (some (.ref im)) (some (.bytes y t1)) (some (.ref l)) (some (.ref th)) (some (.ref be)) [(be, LCg.lst bv), (td, LO (Tt.map (·.1)) tn), (th, LCg.lst tv), (ou, LCg.lst ov), (sm, LCg.lst sv), (im, LCg.lst ims)] Tt h' → P) → P) ?S8 ?C8 (fun _ _ x => x)
  case S8 =>
    refine hi_el hI7 ?_; intro o1 o2 o3 o4 o5 o6 o7 o8 d1 d2 d3 d4 d5 d6 d7 d8 hE hTE F N
    dsimp only [List.cons_append, List.nil_append] at N
    refine Assign_PT (h₀ := g) (L := L') (m := HM l2 (some (.ref th)) none) rfl (by rfl) (by rfl) (by decide) rfl (by decide) (by decide) (by decide) (by decide) (by decide) (by rfl) (by rfl) ?_
    repeat' ((fail_if_success (with_reducible show Q _ _)); (fail_if_success (with_reducible show wpAny _ _ (call (Value.ref _) _) _ _ _)); (fail_if_success (with_reducible show ∃ _, _)); first | (k_unfold; (try dsimp only)) | (with_reducible ((with_reducible show wpAny _ _ (subscriptTail _ _ (Value.ref _) (Value.int _ _)) _ _ _); first | ((with_reducible show wpAny _ _ (subscriptTail _ _ (Value.ref _) (Value.int 0 _)) _ _ _); first | (refine get_lo (by k_asm) (by k_mem) (by with_reducible assumption) ?_) | (refine get_tp (by with_reducible assumption) ?_; intro _)) | (refine get_li (by k_asm) (by k_mem) (by omega) (by omega) (by with_reducible assumption) ?_))) | ((with_reducible show wpAny _ _ (binaryOp .Mult _ _) _ _ _); with_reducible ((refine mul_int ?_ (mulOk (by decide))); (try dsimp only))) | (with_reducible ((with_reducible show wpAny _ _ (call (Value.type "bytes") [Value.ref _]) _ _ _); (refine bytes_row (by k_asm) (by k_asm) (by assumption) (by assumption) (by assumption) rfl ?_); intro _ _ _ _ _ _ _; (try dsimp only))) | walk1 | ((with_reducible show wpAny _ _ (subscriptTail _ _ (Value.ref _) (Value.int _ _)) _ _ _); first | ((with_reducible show wpAny _ _ (subscriptTail _ _ (Value.ref _) (Value.int 0 _)) _ _ _); first | (refine get_lo (by k_asm) (by k_mem) (by with_reducible assumption) ?_) | (refine get_tp (by with_reducible assumption) ?_; intro _)) | (refine get_li (by k_asm) (by k_mem) (by omega) (by omega) (by with_reducible assumption) ?_)) | (dsimp only; first | (with_reducible ((with_reducible show wpAny _ _ (subscriptTail _ _ (Value.ref _) (Value.int _ _)) _ _ _); first | ((with_reducible show wpAny _ _ (subscriptTail _ _ (Value.ref _) (Value.int 0 _)) _ _ _); first | (refine get_lo (by k_asm) (by k_mem) (by with_reducible assumption) ?_) | (refine get_tp (by with_reducible assumption) ?_; intro _)) | (refine get_li (by k_asm) (by k_mem) (by omega) (by omega) (by with_reducible assumption) ?_))) | ((with_reducible show wpAny _ _ (binaryOp .Mult _ _) _ _ _); with_reducible ((refine mul_int ?_ (mulOk (by decide))); (try dsimp only))) | (with_reducible ((with_reducible show wpAny _ _ (call (Value.type "bytes") [Value.ref _]) _ _ _); (refine bytes_row (by k_asm) (by k_asm) (by assumption) (by assumption) (by assumption) rfl ?_); intro _ _ _ _ _ _ _; (try dsimp only))) | walk1 | ((with_reducible show wpAny _ _ (subscriptTail _ _ (Value.ref _) (Value.int _ _)) _ _ _); first | ((with_reducible show wpAny _ _ (subscriptTail _ _ (Value.ref _) (Value.int 0 _)) _ _ _); first | (refine get_lo (by k_asm) (by k_mem) (by with_reducible assumption) ?_) | (refine get_tp (by with_reducible assumption) ?_; intro _)) | (refine get_li (by k_asm) (by k_mem) (by omega) (by omega) (by with_reducible assumption) ?_))) | (leave1; (try dsimp only)))
    have memT : ∀ p ∈ Tt, p ∈ (td, LO (Tt.map (·.1)) tn) :: (th, LCg.lst tv) :: (ou, LCg.lst ov) :: (sm, LCg.lst sv) :: (im, LCg.lst ims) :: (L' + 1 + 1 + 1 + 1 + 1 + 1 + 1 + 1, o1) :: (L' + 1 + 1 + 1 + 1 + 1 + 1 + 1, o2) :: (L' + 1 + 1 + 1 + 1 + 1 + 1, o3) :: (L' + 1 + 1 + 1 + 1 + 1, o4) :: (L' + 1 + 1 + 1 + 1, o5) :: (L' + 1 + 1 + 1, o6) :: (L' + 1 + 1, o7) :: (L' + 1, o8) :: Tt := fun p hp => by
      iterate 13 apply List.Mem.tail
      exact hp
    refine ⟨_, _, _, _, fst2 Tt 0, fst2 Tt 1, fun i => decide (K.getD i 0 / 8 = K.getD 0 0 / 8), rfl, rfl, F, N, .head _, (by simp [hT8, sizeLine_eq]), ?pairs, ?turn, ?fin⟩
    case pairs =>
      intro i v hv
      have hv2 : (Tt.map (·.1))[i]?.map Value.ref = some v := by simpa using hv
      obtain ⟨a, ha, rfl⟩ := Option.map_eq_some_iff.mp hv2
      rw [List.getElem?_map] at ha
      obtain ⟨p, hp, rfl⟩ := Option.map_eq_some_iff.mp ha
      obtain ⟨c, t, u, n, d, e0, e1⟩ := tu_at hTU i p hp
      exact ⟨p.1, p.2, n, rfl, memT _ (List.mem_of_getElem? hp), c, by rw [e0, e1]; exact d⟩
    case turn =>
      rintro g2 i I oI C oC D oD m₂ h tk hi hC hx hx2 F2 N2
      have hi : i < Tt.length := by simpa using hi
      obtain ⟨_, t, u, n, _, e0, e1⟩ := tu_at hTU i Tt[i] (by simp [hi])
      rw [e0] at hx
      have p0 := tu_tp hTU (j := 0) (by omega) (fun p hp => (N2 p (.tail _ (.tail _ (.tail _ (memT p hp))))).1)
      have l0 : 0 < (Tt.map (·.1)).length := by rw [List.length_map]; omega
      repeat' ((fail_if_success (with_reducible show Q _ _)); (fail_if_success (with_reducible show wpAny _ _ (call (Value.ref _) _) _ _ _)); (fail_if_success (with_reducible show _ ∧ ∃ _, _)); (fail_if_success (with_reducible show _ ∧ ∀ P : Prop, _)); first | (k_unfold; (try dsimp only)) | (with_reducible ((with_reducible show wpAny _ _ (subscriptTail _ _ (Value.ref _) (Value.int _ _)) _ _ _); first | ((with_reducible show wpAny _ _ (subscriptTail _ _ (Value.ref _) (Value.int 0 _)) _ _ _); first | (refine get_lo (by k_asm) (by k_mem) (by with_reducible assumption) ?_) | (refine get_tp (by with_reducible assumption) ?_; intro _)) | (refine get_li (by k_asm) (by k_mem) (by omega) (by omega) (by with_reducible assumption) ?_))) | ((with_reducible show wpAny _ _ (binaryOp .Mult _ _) _ _ _); with_reducible ((refine mul_int ?_ (mulOk (by decide))); (try dsimp only))) | (with_reducible ((with_reducible show wpAny _ _ (call (Value.type "bytes") [Value.ref _]) _ _ _); (refine bytes_row (by k_asm) (by k_asm) (by assumption) (by assumption) (by assumption) rfl ?_); intro _ _ _ _ _ _ _; (try dsimp only))) | walk1 | ((with_reducible show wpAny _ _ (subscriptTail _ _ (Value.ref _) (Value.int _ _)) _ _ _); first | ((with_reducible show wpAny _ _ (subscriptTail _ _ (Value.ref _) (Value.int 0 _)) _ _ _); first | (refine get_lo (by k_asm) (by k_mem) (by with_reducible assumption) ?_) | (refine get_tp (by with_reducible assumption) ?_; intro _)) | (refine get_li (by k_asm) (by k_mem) (by omega) (by omega) (by with_reducible assumption) ?_)) | (dsimp only; first | (with_reducible ((with_reducible show wpAny _ _ (subscriptTail _ _ (Value.ref _) (Value.int _ _)) _ _ _); first | ((with_reducible show wpAny _ _ (subscriptTail _ _ (Value.ref _) (Value.int 0 _)) _ _ _); first | (refine get_lo (by k_asm) (by k_mem) (by with_reducible assumption) ?_) | (refine get_tp (by with_reducible assumption) ?_; intro _)) | (refine get_li (by k_asm) (by k_mem) (by omega) (by omega) (by with_reducible assumption) ?_))) | ((with_reducible show wpAny _ _ (binaryOp .Mult _ _) _ _ _); with_reducible ((refine mul_int ?_ (mulOk (by decide))); (try dsimp only))) | (with_reducible ((with_reducible show wpAny _ _ (call (Value.type "bytes") [Value.ref _]) _ _ _); (refine bytes_row (by k_asm) (by k_asm) (by assumption) (by assumption) (by assumption) rfl ?_); intro _ _ _ _ _ _ _; (try dsimp only))) | walk1 | ((with_reducible show wpAny _ _ (subscriptTail _ _ (Value.ref _) (Value.int _ _)) _ _ _); first | ((with_reducible show wpAny _ _ (subscriptTail _ _ (Value.ref _) (Value.int 0 _)) _ _ _); first | (refine get_lo (by k_asm) (by k_mem) (by with_reducible assumption) ?_) | (refine get_tp (by with_reducible assumption) ?_; intro _)) | (refine get_li (by k_asm) (by k_mem) (by omega) (by omega) (by with_reducible assumption) ?_))) | (leave1; (try dsimp only)))
      exact ⟨rfl, _, rfl⟩
    case fin =>
      intro D h tk F6 N6 O6
      have hsz : (List.map Value.ref (Tt.map (·.1))).toArray.size = 8 := by simp [hT8]
      have hOL : OffL L' D := offL_of (ex := [_, _, _, _, _]) (T := Tt) O6
      refine ⟨rfl, fun _ kk => kk h _ D _ rfl ?_ (hi_in d1 d2 d3 d4 d5 d6 d7 d8 (offE hOL hE) hTE ⟨Eq.mp (congrArg (fun m => h.Ns L' m) (funext fun y => ?_)) F6.ns, F6.keep, F6.above⟩ N6)⟩
      · rw [hsz]
        refine ints_map fun i hi => ?_
        have hi8 : i < 8 := List.mem_range.mp (List.mem_filter.mp hi).1
        obtain ⟨_, t, u, n, _, e0, e1⟩ := tu_at hTU i Tt[i] (by simp)
        exact ⟨u, e1⟩
      · by_cases e1 : y = PySem.Str.ofString "best"
        · subst e1; rfl
        · simp only [HM, if_neg e1]
  case C8 =>
  rintro f s' ⟨rfl, HP⟩
  refine HP _ ?_
  clear HP
  rintro h8b tk8 be bv rfl hbv hI8
  clear hI7
  dsimp only
  have hsl : (spec row).length = 8 := rfl
  refine wpAny_execs_cons ?_
  refine wpAny_mono (Q := fun f s' => f = Flow.next ∧ ∀ P : Prop, (∀ h' tk' lf lv, s' = { s with heap := h', toks := tk' } → IntsAre lv (leftI row) → HI g L' l2 (some (.ref lf)) (some (.ref td)) (some (.ref ou)) (some (.ref sm)) (some (.int (lay ws) t3)) (some (.ref im)) (some (.bytes y t1)) (some (.ref l)) (some (.ref th)) (some (.ref be)) [(lf, LCg.lst lv), (be, LCg.lst bv), (td, LO (Tt.map (·.1)) tn), (th, LCg.lst tv), (ou, LCg.lst ov), (sm, LCg.lst sv), (im, LCg.lst ims)] Tt h' → P) → P) ?S9 ?C9 (fun _ _ x => x)
  case S9 =>
    refine hi_el hI8 ?_; intro o1 o2 o3 o4 o5 o6 o7 o8 d1 d2 d3 d4 d5 d6 d7 d8 hE hTE F N
    dsimp only [List.cons_append, List.nil_append] at N
    repeat' ((fail_if_success (with_reducible show Q _ _)); (fail_if_success (with_reducible show wpAny _ _ (call (Value.ref _) _) _ _ _)); (fail_if_success (with_reducible show LCt.CompRestT _ _ _ _ _ _ _ _ _ _ _ _ _ _ _ _ _ _ _ _)); first | (k_unfold; (try dsimp only)) | (with_reducible ((with_reducible show wpAny _ _ (subscriptTail _ _ (Value.ref _) (Value.int _ _)) _ _ _); first | ((with_reducible show wpAny _ _ (subscriptTail _ _ (Value.ref _) (Value.int 0 _)) _ _ _); first | (refine get_lo (by k_asm) (by k_mem) (by with_reducible assumption) ?_) | (refine get_tp (by with_reducible assumption) ?_; intro _)) | (refine get_li (by k_asm) (by k_mem) (by omega) (by omega) (by with_reducible assumption) ?_))) | ((with_reducible show wpAny _ _ (binaryOp .Mult _ _) _ _ _); with_reducible ((refine mul_int ?_ (mulOk (by decide))); (try dsimp only))) | (with_reducible ((with_reducible show wpAny _ _ (call (Value.type "bytes") [Value.ref _]) _ _ _); (refine bytes_row (by k_asm) (by k_asm) (by assumption) (by assumption) (by assumption) rfl ?_); intro _ _ _ _ _ _ _; (try dsimp only))) | walk1 | ((with_reducible show wpAny _ _ (subscriptTail _ _ (Value.ref _) (Value.int _ _)) _ _ _); first | ((with_reducible show wpAny _ _ (subscriptTail _ _ (Value.ref _) (Value.int 0 _)) _ _ _); first | (refine get_lo (by k_asm) (by k_mem) (by with_reducible assumption) ?_) | (refine get_tp (by with_reducible assumption) ?_; intro _)) | (refine get_li (by k_asm) (by k_mem) (by omega) (by omega) (by with_reducible assumption) ?_)) | (dsimp only; first | (with_reducible ((with_reducible show wpAny _ _ (subscriptTail _ _ (Value.ref _) (Value.int _ _)) _ _ _); first | ((with_reducible show wpAny _ _ (subscriptTail _ _ (Value.ref _) (Value.int 0 _)) _ _ _); first | (refine get_lo (by k_asm) (by k_mem) (by with_reducible assumption) ?_) | (refine get_tp (by with_reducible assumption) ?_; intro _)) | (refine get_li (by k_asm) (by k_mem) (by omega) (by omega) (by with_reducible assumption) ?_))) | ((with_reducible show wpAny _ _ (binaryOp .Mult _ _) _ _ _); with_reducible ((refine mul_int ?_ (mulOk (by decide))); (try dsimp only))) | (with_reducible ((with_reducible show wpAny _ _ (call (Value.type "bytes") [Value.ref _]) _ _ _); (refine bytes_row (by k_asm) (by k_asm) (by assumption) (by assumption) (by assumption) rfl ?_); intro _ _ _ _ _ _ _; (try dsimp only))) | walk1 | ((with_reducible show wpAny _ _ (subscriptTail _ _ (Value.ref _) (Value.int _ _)) _ _ _); first | ((with_reducible show wpAny _ _ (subscriptTail _ _ (Value.ref _) (Value.int 0 _)) _ _ _); first | (refine get_lo (by k_asm) (by k_mem) (by with_reducible assumption) ?_) | (refine get_tp (by with_reducible assumption) ?_; intro _)) | (refine get_li (by k_asm) (by k_mem) (by omega) (by omega) (by with_reducible assumption) ?_))) | (leave1; (try dsimp only)))
    refine restT 8 (fun i => decide ((spec row).getD i 0 ≠ 0)) (fun i => (i : Int)) ?turn ?fin _ 0 [] rfl .nil
    case turn =>
      rintro i v I oI C oC D m₂ h tk E' ys hi ⟨t9, rfl⟩ hC hx F2 N2 off ne
      repeat' ((fail_if_success (with_reducible show Q _ _)); (fail_if_success (with_reducible show wpAny _ _ (call (Value.ref _) _) _ _ _)); (fail_if_success (with_reducible show _ ∧ ∃ _, _)); (fail_if_success (with_reducible show _ ∧ ∀ P : Prop, _)); (fail_if_success (with_reducible show LCg.CompEnd _ _ _ _ _ _ _ _ _ _ _ _ _ _)); first | (k_unfold; (try dsimp only)) | (with_reducible ((with_reducible show wpAny _ _ (subscriptTail _ _ (Value.ref _) (Value.int _ _)) _ _ _); first | ((with_reducible show wpAny _ _ (subscriptTail _ _ (Value.ref _) (Value.int 0 _)) _ _ _); first | (refine get_lo (by k_asm) (by k_mem) (by with_reducible assumption) ?_) | (refine get_tp (by with_reducible assumption) ?_; intro _)) | (refine get_li (by k_asm) (by k_mem) (by omega) (by omega) (by with_reducible assumption) ?_))) | ((with_reducible show wpAny _ _ (binaryOp .Mult _ _) _ _ _); with_reducible ((refine mul_int ?_ (mulOk (by decide))); (try dsimp only))) | (with_reducible ((with_reducible show wpAny _ _ (call (Value.type "bytes") [Value.ref _]) _ _ _); (refine bytes_row (by k_asm) (by k_asm) (by assumption) (by assumption) (by assumption) rfl ?_); intro _ _ _ _ _ _ _; (try dsimp only))) | walk1 | ((with_reducible show wpAny _ _ (subscriptTail _ _ (Value.ref _) (Value.int _ _)) _ _ _); first | ((with_reducible show wpAny _ _ (subscriptTail _ _ (Value.ref _) (Value.int 0 _)) _ _ _); first | (refine get_lo (by k_asm) (by k_mem) (by with_reducible assumption) ?_) | (refine get_tp (by with_reducible assumption) ?_; intro _)) | (refine get_li (by k_asm) (by k_mem) (by omega) (by omega) (by with_reducible assumption) ?_)) | (dsimp only; first | (with_reducible ((with_reducible show wpAny _ _ (subscriptTail _ _ (Value.ref _) (Value.int _ _)) _ _ _); first | ((with_reducible show wpAny _ _ (subscriptTail _ _ (Value.ref _) (Value.int 0 _)) _ _ _); first | (refine get_lo (by k_asm) (by k_mem) (by with_reducible assumption) ?_) | (refine get_tp (by with_reducible assumption) ?_; intro _)) | (refine get_li (by k_asm) (by k_mem) (by omega) (by omega) (by with_reducible assumption) ?_))) | ((with_reducible show wpAny _ _ (binaryOp .Mult _ _) _ _ _); with_reducible ((refine mul_int ?_ (mulOk (by decide))); (try dsimp only))) | (with_reducible ((with_reducible show wpAny _ _ (call (Value.type "bytes") [Value.ref _]) _ _ _); (refine bytes_row (by k_asm) (by k_asm) (by assumption) (by assumption) (by assumption) rfl ?_); intro _ _ _ _ _ _ _; (try dsimp only))) | walk1 | ((with_reducible show wpAny _ _ (subscriptTail _ _ (Value.ref _) (Value.int _ _)) _ _ _); first | ((with_reducible show wpAny _ _ (subscriptTail _ _ (Value.ref _) (Value.int 0 _)) _ _ _); first | (refine get_lo (by k_asm) (by k_mem) (by with_reducible assumption) ?_) | (refine get_tp (by with_reducible assumption) ?_; intro _)) | (refine get_li (by k_asm) (by k_mem) (by omega) (by omega) (by with_reducible assumption) ?_))) | (leave1; (try dsimp only)))
      · simp only [Int.zero_add, Int.toNat_natCast]
        exact bne_dec _
      · exact LCg.CompEnd.intro F2 N2 _ (fun _ hp => hp) off trivial ⟨rfl, t9, by rw [Int.zero_add]⟩
      · exact LCg.CompEnd.intro F2 N2 _ (fun _ hp => hp) off trivial rfl
    case fin =>
      intro ys hys D h5 tk5 F6 N6 O6
      have hOL : OffL L' D := offL_of (ex := [_, _, _, _, _, _]) (T := Tt) O6
      have N7 : News g L' h5 ([(D, LCg.lst ys), (be, LCg.lst bv), (td, LO (Tt.map (·.1)) tn), (th, LCg.lst tv), (ou, LCg.lst ov), (sm, LCg.lst sv), (im, LCg.lst ims)] ++ ([(L' + 1 + 1 + 1 + 1 + 1 + 1 + 1 + 1, o1), (L' + 1 + 1 + 1 + 1 + 1 + 1 + 1, o2), (L' + 1 + 1 + 1 + 1 + 1 + 1, o3), (L' + 1 + 1 + 1 + 1 + 1, o4), (L' + 1 + 1 + 1 + 1, o5), (L' + 1 + 1 + 1, o6), (L' + 1 + 1, o7), (L' + 1, o8)] ++ Tt)) := N6
      refine storeX_C F6 N7 rfl (upd_left (offE hOL hE) hTE) d1 ?_ rfl rfl
      intro h7 o9 F9 N9 d9
      exact ⟨by first | rfl | trivial, fun _ kk => kk h7 _ D ys rfl hys (hi_in d9 d2 d3 d4 d5 d6 d7 d8 (offE hOL hE) hTE F9 N9)⟩
  case C9 =>
  rintro f s' ⟨rfl, HP⟩
  refine HP _ ?_
  clear HP
  rintro h9 tk9 lf lv rfl hlv hI9
  clear hI8
  dsimp only
  have hsvl : sv.length = 8 := by rw [hsv.length]; rfl
  have hlvl : lv.length ≤ 8 := by rw [hlv.length]; unfold leftI; rw [List.length_map]; exact Nat.le_trans (List.length_filter_le _ _) (by simp)
  refine wpAny_execs_cons (wpAny_Return_some ?_)
  generalize hPP : HI g L' l2 (some (.ref lf)) (some (.ref td)) (some (.ref ou)) (some (.ref sm)) (some (.int (lay ws) t3)) (some (.ref im)) (some (.bytes y t1)) (some (.ref l)) (some (.ref th)) (some (.ref be)) [(lf, LCg.lst lv), (be, LCg.lst bv), (td, LO (Tt.map (·.1)) tn), (th, LCg.lst tv), (ou, LCg.lst ov), (sm, LCg.lst sv), (im, LCg.lst ims)] Tt = PP at hI9
  refine andC PP ?R1 ?D1
  case R1 =>
    clear hret
    subst hPP
    have HX := hI9
    refine hi_el HX ?_; intro o1 o2 o3 o4 o5 o6 o7 o8 d1 d2 d3 d4 d5 d6 d7 d8 hE hTE F N
    dsimp only [List.cons_append, List.nil_append] at N
    repeat' ((fail_if_success (with_reducible show Q _ _)); (fail_if_success (with_reducible show wpAny _ _ (call (Value.ref _) _) _ _ _)); (fail_if_success (with_reducible show _ ∧ ∃ _, _)); (fail_if_success (with_reducible show LCg.CompRest _ _ _ _ _ _ _ _ _ _ _ _ _ _ _ _ _ _ _)); first | (k_unfold; (try dsimp only)) | (with_reducible ((with_reducible show wpAny _ _ (subscriptTail _ _ (Value.ref _) (Value.int _ _)) _ _ _); first | ((with_reducible show wpAny _ _ (subscriptTail _ _ (Value.ref _) (Value.int 0 _)) _ _ _); first | (refine get_lo (by k_asm) (by k_mem) (by with_reducible assumption) ?_) | (refine get_tp (by with_reducible assumption) ?_; intro _)) | (refine get_li (by k_asm) (by k_mem) (by omega) (by omega) (by with_reducible assumption) ?_))) | ((with_reducible show wpAny _ _ (binaryOp .Mult _ _) _ _ _); with_reducible ((refine mul_int ?_ (mulOk (by decide))); (try dsimp only))) | (with_reducible ((with_reducible show wpAny _ _ (call (Value.type "bytes") [Value.ref _]) _ _ _); (refine bytes_row (by k_asm) (by k_asm) (by assumption) (by assumption) (by assumption) rfl ?_); intro _ _ _ _ _ _ _; (try dsimp only))) | walk1 | ((with_reducible show wpAny _ _ (subscriptTail _ _ (Value.ref _) (Value.int _ _)) _ _ _); first | ((with_reducible show wpAny _ _ (subscriptTail _ _ (Value.ref _) (Value.int 0 _)) _ _ _); first | (refine get_lo (by k_asm) (by k_mem) (by with_reducible assumption) ?_) | (refine get_tp (by with_reducible assumption) ?_; intro _)) | (refine get_li (by k_asm) (by k_mem) (by omega) (by omega) (by with_reducible assumption) ?_)) | (dsimp only; first | (with_reducible ((with_reducible show wpAny _ _ (subscriptTail _ _ (Value.ref _) (Value.int _ _)) _ _ _); first | ((with_reducible show wpAny _ _ (subscriptTail _ _ (Value.ref _) (Value.int 0 _)) _ _ _); first | (refine get_lo (by k_asm) (by k_mem) (by with_reducible assumption) ?_) | (refine get_tp (by with_reducible assumption) ?_; intro _)) | (refine get_li (by k_asm) (by k_mem) (by omega) (by omega) (by with_reducible assumption) ?_))) | ((with_reducible show wpAny _ _ (binaryOp .Mult _ _) _ _ _); with_reducible ((refine mul_int ?_ (mulOk (by decide))); (try dsimp only))) | (with_reducible ((with_reducible show wpAny _ _ (call (Value.type "bytes") [Value.ref _]) _ _ _); (refine bytes_row (by k_asm) (by k_asm) (by assumption) (by assumption) (by assumption) rfl ?_); intro _ _ _ _ _ _ _; (try dsimp only))) | walk1 | ((with_reducible show wpAny _ _ (subscriptTail _ _ (Value.ref _) (Value.int _ _)) _ _ _); first | ((with_reducible show wpAny _ _ (subscriptTail _ _ (Value.ref _) (Value.int 0 _)) _ _ _); first | (refine get_lo (by k_asm) (by k_mem) (by with_reducible assumption) ?_) | (refine get_tp (by with_reducible assumption) ?_; intro _)) | (refine get_li (by k_asm) (by k_mem) (by omega) (by omega) (by with_reducible assumption) ?_))) | (leave1; (try dsimp only)))
    refine restU 8 (fun i y => y = Value.bool true) ?turn1 ?fin1 _ 0 [] (by rw [List.size_toArray, him]) rfl (fun i y h => by simp at h)
    case turn1 =>
      rintro i v I oI C oC D m₂ h tk E' ys hi hv hC hx F2 N2 off ne
      obtain ⟨yi, ti, rfl, hyi⟩ := hims i v (by simpa using hv)
      repeat' ((fail_if_success (with_reducible show Q _ _)); (fail_if_success (with_reducible show wpAny _ _ (call (Value.ref _) _) _ _ _)); (fail_if_success (with_reducible show LCg.CompEnd _ _ _ _ _ _ _ _ _ _ _ _ _ _)); first | (k_unfold; (try dsimp only)) | (with_reducible ((with_reducible show wpAny _ _ (subscriptTail _ _ (Value.ref _) (Value.int _ _)) _ _ _); first | ((with_reducible show wpAny _ _ (subscriptTail _ _ (Value.ref _) (Value.int 0 _)) _ _ _); first | (refine get_lo (by k_asm) (by k_mem) (by with_reducible assumption) ?_) | (refine get_tp (by with_reducible assumption) ?_; intro _)) | (refine get_li (by k_asm) (by k_mem) (by omega) (by omega) (by with_reducible assumption) ?_))) | ((with_reducible show wpAny _ _ (binaryOp .Mult _ _) _ _ _); with_reducible ((refine mul_int ?_ (mulOk (by decide))); (try dsimp only))) | (with_reducible ((with_reducible show wpAny _ _ (call (Value.type "bytes") [Value.ref _]) _ _ _); (refine bytes_row (by k_asm) (by k_asm) (by assumption) (by assumption) (by assumption) rfl ?_); intro _ _ _ _ _ _ _; (try dsimp only))) | walk1 | ((with_reducible show wpAny _ _ (subscriptTail _ _ (Value.ref _) (Value.int _ _)) _ _ _); first | ((with_reducible show wpAny _ _ (subscriptTail _ _ (Value.ref _) (Value.int 0 _)) _ _ _); first | (refine get_lo (by k_asm) (by k_mem) (by with_reducible assumption) ?_) | (refine get_tp (by with_reducible assumption) ?_; intro _)) | (refine get_li (by k_asm) (by k_mem) (by omega) (by omega) (by with_reducible assumption) ?_)) | (dsimp only; first | (with_reducible ((with_reducible show wpAny _ _ (subscriptTail _ _ (Value.ref _) (Value.int _ _)) _ _ _); first | ((with_reducible show wpAny _ _ (subscriptTail _ _ (Value.ref _) (Value.int 0 _)) _ _ _); first | (refine get_lo (by k_asm) (by k_mem) (by with_reducible assumption) ?_) | (refine get_tp (by with_reducible assumption) ?_; intro _)) | (refine get_li (by k_asm) (by k_mem) (by omega) (by omega) (by with_reducible assumption) ?_))) | ((with_reducible show wpAny _ _ (binaryOp .Mult _ _) _ _ _); with_reducible ((refine mul_int ?_ (mulOk (by decide))); (try dsimp only))) | (with_reducible ((with_reducible show wpAny _ _ (call (Value.type "bytes") [Value.ref _]) _ _ _); (refine bytes_row (by k_asm) (by k_asm) (by assumption) (by assumption) (by assumption) rfl ?_); intro _ _ _ _ _ _ _; (try dsimp only))) | walk1 | ((with_reducible show wpAny _ _ (subscriptTail _ _ (Value.ref _) (Value.int _ _)) _ _ _); first | ((with_reducible show wpAny _ _ (subscriptTail _ _ (Value.ref _) (Value.int 0 _)) _ _ _); first | (refine get_lo (by k_asm) (by k_mem) (by with_reducible assumption) ?_) | (refine get_tp (by with_reducible assumption) ?_; intro _)) | (refine get_li (by k_asm) (by k_mem) (by omega) (by omega) (by with_reducible assumption) ?_))) | (leave1; (try dsimp only)))
      exact LCg.CompEnd.intro F2 N2 _ (fun _ hp => hp) off (.inr ⟨_, by k_mem, rfl, _, rfl⟩) ⟨rfl, rfl⟩
    case fin1 =>
      intro ys hl9 hR9 D h5 tk5 F6 N6 O6
      repeat' ((fail_if_success (with_reducible show Q _ _)); (fail_if_success (with_reducible show wpAny _ _ (call (Value.ref _) _) _ _ _)); (fail_if_success (with_reducible show _ ∧ ∃ _, _)); (fail_if_success (with_reducible show wpAny _ _ (call (Value.builtin "all") _) _ _ _)); first | (k_unfold; (try dsimp only)) | (with_reducible ((with_reducible show wpAny _ _ (subscriptTail _ _ (Value.ref _) (Value.int _ _)) _ _ _); first | ((with_reducible show wpAny _ _ (subscriptTail _ _ (Value.ref _) (Value.int 0 _)) _ _ _); first | (refine get_lo (by k_asm) (by k_mem) (by with_reducible assumption) ?_) | (refine get_tp (by with_reducible assumption) ?_; intro _)) | (refine get_li (by k_asm) (by k_mem) (by omega) (by omega) (by with_reducible assumption) ?_))) | ((with_reducible show wpAny _ _ (binaryOp .Mult _ _) _ _ _); with_reducible ((refine mul_int ?_ (mulOk (by decide))); (try dsimp only))) | (with_reducible ((with_reducible show wpAny _ _ (call (Value.type "bytes") [Value.ref _]) _ _ _); (refine bytes_row (by k_asm) (by k_asm) (by assumption) (by assumption) (by assumption) rfl ?_); intro _ _ _ _ _ _ _; (try dsimp only))) | walk1 | ((with_reducible show wpAny _ _ (subscriptTail _ _ (Value.ref _) (Value.int _ _)) _ _ _); first | ((with_reducible show wpAny _ _ (subscriptTail _ _ (Value.ref _) (Value.int 0 _)) _ _ _); first | (refine get_lo (by k_asm) (by k_mem) (by with_reducible assumption) ?_) | (refine get_tp (by with_reducible assumption) ?_; intro _)) | (refine get_li (by k_asm) (by k_mem) (by omega) (by omega) (by with_reducible assumption) ?_)) | (dsimp only; first | (with_reducible ((with_reducible show wpAny _ _ (subscriptTail _ _ (Value.ref _) (Value.int _ _)) _ _ _); first | ((with_reducible show wpAny _ _ (subscriptTail _ _ (Value.ref _) (Value.int 0 _)) _ _ _); first | (refine get_lo (by k_asm) (by k_mem) (by with_reducible assumption) ?_) | (refine get_tp (by with_reducible assumption) ?_; intro _)) | (refine get_li (by k_asm) (by k_mem) (by omega) (by omega) (by with_reducible assumption) ?_))) | ((with_reducible show wpAny _ _ (binaryOp .Mult _ _) _ _ _); with_reducible ((refine mul_int ?_ (mulOk (by decide))); (try dsimp only))) | (with_reducible ((with_reducible show wpAny _ _ (call (Value.type "bytes") [Value.ref _]) _ _ _); (refine bytes_row (by k_asm) (by k_asm) (by assumption) (by assumption) (by assumption) rfl ?_); intro _ _ _ _ _ _ _; (try dsimp only))) | walk1 | ((with_reducible show wpAny _ _ (subscriptTail _ _ (Value.ref _) (Value.int _ _)) _ _ _); first | ((with_reducible show wpAny _ _ (subscriptTail _ _ (Value.ref _) (Value.int 0 _)) _ _ _); first | (refine get_lo (by k_asm) (by k_mem) (by with_reducible assumption) ?_) | (refine get_tp (by with_reducible assumption) ?_; intro _)) | (refine get_li (by k_asm) (by k_mem) (by omega) (by omega) (by with_reducible assumption) ?_))) | (leave1; (try dsimp only)))
      refine LSm.all_bools F6 N6 rfl (PySem.IsL.isList (N6 _ (.head _)).1) (bools_ext (bs := List.replicate 8 true) (by simpa using hl9) fun i y hy => ?_) fun h7 tk7 F7 N7 => ?_
      · have hi : i < 8 := by
          rcases Nat.lt_or_ge i 8 with q | q
          · exact q
          · rw [List.getElem?_eq_none (by omega)] at hy; cases hy
        rw [hR9 i y hy, rep8 i hi]
      · exact ⟨rfl, h7, tk7, rfl, hi_mk d1 d2 d3 d4 d5 d6 d7 d8 hE hTE F7 N7 fun _ hp => .tail _ hp⟩

  case D1 =>
  clear hI9
  intro h9 tk9 hI9
  refine andC PP ?R2 ?D2
  case R2 =>
    clear hret
    subst hPP
    have HX := hI9
    refine hi_el HX ?_; intro o1 o2 o3 o4 o5 o6 o7 o8 d1 d2 d3 d4 d5 d6 d7 d8 hE hTE F N
    dsimp only [List.cons_append, List.nil_append] at N
    repeat' ((fail_if_success (with_reducible show Q _ _)); (fail_if_success (with_reducible show wpAny _ _ (call (Value.ref _) _) _ _ _)); (fail_if_success (with_reducible show _ ∧ ∃ _, _)); (fail_if_success (with_reducible show LCg.CompRest _ _ _ _ _ _ _ _ _ _ _ _ _ _ _ _ _ _ _)); first | (k_unfold; (try dsimp only)) | (with_reducible ((with_reducible show wpAny _ _ (subscriptTail _ _ (Value.ref _) (Value.int _ _)) _ _ _); first | ((with_reducible show wpAny _ _ (subscriptTail _ _ (Value.ref _) (Value.int 0 _)) _ _ _); first | (refine get_lo (by k_asm) (by k_mem) (by with_reducible assumption) ?_) | (refine get_tp (by with_reducible assumption) ?_; intro _)) | (refine get_li (by k_asm) (by k_mem) (by omega) (by omega) (by with_reducible assumption) ?_))) | ((with_reducible show wpAny _ _ (binaryOp .Mult _ _) _ _ _); with_reducible ((refine mul_int ?_ (mulOk (by decide))); (try dsimp only))) | (with_reducible ((with_reducible show wpAny _ _ (call (Value.type "bytes") [Value.ref _]) _ _ _); (refine bytes_row (by k_asm) (by k_asm) (by assumption) (by assumption) (by assumption) rfl ?_); intro _ _ _ _ _ _ _; (try dsimp only))) | walk1 | ((with_reducible show wpAny _ _ (subscriptTail _ _ (Value.ref _) (Value.int _ _)) _ _ _); first | ((with_reducible show wpAny _ _ (subscriptTail _ _ (Value.ref _) (Value.int 0 _)) _ _ _); first | (refine get_lo (by k_asm) (by k_mem) (by with_reducible assumption) ?_) | (refine get_tp (by with_reducible assumption) ?_; intro _)) | (refine get_li (by k_asm) (by k_mem) (by omega) (by omega) (by with_reducible assumption) ?_)) | (dsimp only; first | (with_reducible ((with_reducible show wpAny _ _ (subscriptTail _ _ (Value.ref _) (Value.int _ _)) _ _ _); first | ((with_reducible show wpAny _ _ (subscriptTail _ _ (Value.ref _) (Value.int 0 _)) _ _ _); first | (refine get_lo (by k_asm) (by k_mem) (by with_reducible assumption) ?_) | (refine get_tp (by with_reducible assumption) ?_; intro _)) | (refine get_li (by k_asm) (by k_mem) (by omega) (by omega) (by with_reducible assumption) ?_))) | ((with_reducible show wpAny _ _ (binaryOp .Mult _ _) _ _ _); with_reducible ((refine mul_int ?_ (mulOk (by decide))); (try dsimp only))) | (with_reducible ((with_reducible show wpAny _ _ (call (Value.type "bytes") [Value.ref _]) _ _ _); (refine bytes_row (by k_asm) (by k_asm) (by assumption) (by assumption) (by assumption) rfl ?_); intro _ _ _ _ _ _ _; (try dsimp only))) | walk1 | ((with_reducible show wpAny _ _ (subscriptTail _ _ (Value.ref _) (Value.int _ _)) _ _ _); first | ((with_reducible show wpAny _ _ (subscriptTail _ _ (Value.ref _) (Value.int 0 _)) _ _ _); first | (refine get_lo (by k_asm) (by k_mem) (by with_reducible assumption) ?_) | (refine get_tp (by with_reducible assumption) ?_; intro _)) | (refine get_li (by k_asm) (by k_mem) (by omega) (by omega) (by with_reducible assumption) ?_))) | (leave1; (try dsimp only)))
    refine restU 8 (fun i y => ∃ t, y = Value.int (if odd (Builtin.bitAnd (i : Int) (lay ws)) ≠ 0 then -((spec row).getD i 0) else (spec row).getD i 0) t) ?turn2 ?fin2 _ 0 [] rfl rfl (fun i y h => by simp at h)
    case turn2 =>
      rintro i v I oI C oC D m₂ h tk E' ys hi ⟨t9, rfl⟩ hC hx F2 N2 off ne
      repeat' ((fail_if_success (with_reducible show Q _ _)); (fail_if_success (with_reducible show wpAny _ _ (call (Value.ref _) _) _ _ _)); (fail_if_success (with_reducible show LCg.CompEnd _ _ _ _ _ _ _ _ _ _ _ _ _ _)); first | (k_unfold; (try dsimp only)) | (with_reducible ((with_reducible show wpAny _ _ (subscriptTail _ _ (Value.ref _) (Value.int _ _)) _ _ _); first | ((with_reducible show wpAny _ _ (subscriptTail _ _ (Value.ref _) (Value.int 0 _)) _ _ _); first | (refine get_lo (by k_asm) (by k_mem) (by with_reducible assumption) ?_) | (refine get_tp (by with_reducible assumption) ?_; intro _)) | (refine get_li (by k_asm) (by k_mem) (by omega) (by omega) (by with_reducible assumption) ?_))) | ((with_reducible show wpAny _ _ (binaryOp .Mult _ _) _ _ _); with_reducible ((refine mul_int ?_ (mulOk (by decide))); (try dsimp only))) | (with_reducible ((with_reducible show wpAny _ _ (call (Value.type "bytes") [Value.ref _]) _ _ _); (refine bytes_row (by k_asm) (by k_asm) (by assumption) (by assumption) (by assumption) rfl ?_); intro _ _ _ _ _ _ _; (try dsimp only))) | walk1 | ((with_reducible show wpAny _ _ (subscriptTail _ _ (Value.ref _) (Value.int _ _)) _ _ _); first | ((with_reducible show wpAny _ _ (subscriptTail _ _ (Value.ref _) (Value.int 0 _)) _ _ _); first | (refine get_lo (by k_asm) (by k_mem) (by with_reducible assumption) ?_) | (refine get_tp (by with_reducible assumption) ?_; intro _)) | (refine get_li (by k_asm) (by k_mem) (by omega) (by omega) (by with_reducible assumption) ?_)) | (dsimp only; first | (with_reducible ((with_reducible show wpAny _ _ (subscriptTail _ _ (Value.ref _) (Value.int _ _)) _ _ _); first | ((with_reducible show wpAny _ _ (subscriptTail _ _ (Value.ref _) (Value.int 0 _)) _ _ _); first | (refine get_lo (by k_asm) (by k_mem) (by with_reducible assumption) ?_) | (refine get_tp (by with_reducible assumption) ?_; intro _)) | (refine get_li (by k_asm) (by k_mem) (by omega) (by omega) (by with_reducible assumption) ?_))) | ((with_reducible show wpAny _ _ (binaryOp .Mult _ _) _ _ _); with_reducible ((refine mul_int ?_ (mulOk (by decide))); (try dsimp only))) | (with_reducible ((with_reducible show wpAny _ _ (call (Value.type "bytes") [Value.ref _]) _ _ _); (refine bytes_row (by k_asm) (by k_asm) (by assumption) (by assumption) (by assumption) rfl ?_); intro _ _ _ _ _ _ _; (try dsimp only))) | walk1 | ((with_reducible show wpAny _ _ (subscriptTail _ _ (Value.ref _) (Value.int _ _)) _ _ _); first | ((with_reducible show wpAny _ _ (subscriptTail _ _ (Value.ref _) (Value.int 0 _)) _ _ _); first | (refine get_lo (by k_asm) (by k_mem) (by with_reducible assumption) ?_) | (refine get_tp (by with_reducible assumption) ?_; intro _)) | (refine get_li (by k_asm) (by k_mem) (by omega) (by omega) (by with_reducible assumption) ?_))) | (leave1; (try dsimp only)))
      refine odd_c (h₀ := g) X' T' F2.keep (by show dp + 1 < _; omega) fun t5 h5 tk5 kk => ?_
      have F6 := F2.keeps kk
      have N6 := N2.keeps kk
      clear F2 N2
      repeat' ((fail_if_success (with_reducible show Q _ _)); (fail_if_success (with_reducible show wpAny _ _ (call (Value.ref _) _) _ _ _)); (fail_if_success (with_reducible show LCg.CompEnd _ _ _ _ _ _ _ _ _ _ _ _ _ _)); first | (k_unfold; (try dsimp only)) | (with_reducible ((with_reducible show wpAny _ _ (subscriptTail _ _ (Value.ref _) (Value.int _ _)) _ _ _); first | ((with_reducible show wpAny _ _ (subscriptTail _ _ (Value.ref _) (Value.int 0 _)) _ _ _); first | (refine get_lo (by k_asm) (by k_mem) (by with_reducible assumption) ?_) | (refine get_tp (by with_reducible assumption) ?_; intro _)) | (refine get_li (by k_asm) (by k_mem) (by omega) (by omega) (by with_reducible assumption) ?_))) | ((with_reducible show wpAny _ _ (binaryOp .Mult _ _) _ _ _); with_reducible ((refine mul_int ?_ (mulOk (by decide))); (try dsimp only))) | (with_reducible ((with_reducible show wpAny _ _ (call (Value.type "bytes") [Value.ref _]) _ _ _); (refine bytes_row (by k_asm) (by k_asm) (by assumption) (by assumption) (by assumption) rfl ?_); intro _ _ _ _ _ _ _; (try dsimp only))) | walk1 | ((with_reducible show wpAny _ _ (subscriptTail _ _ (Value.ref _) (Value.int _ _)) _ _ _); first | ((with_reducible show wpAny _ _ (subscriptTail _ _ (Value.ref _) (Value.int 0 _)) _ _ _); first | (refine get_lo (by k_asm) (by k_mem) (by with_reducible assumption) ?_) | (refine get_tp (by with_reducible assumption) ?_; intro _)) | (refine get_li (by k_asm) (by k_mem) (by omega) (by omega) (by with_reducible assumption) ?_)) | (dsimp only; first | (with_reducible ((with_reducible show wpAny _ _ (subscriptTail _ _ (Value.ref _) (Value.int _ _)) _ _ _); first | ((with_reducible show wpAny _ _ (subscriptTail _ _ (Value.ref _) (Value.int 0 _)) _ _ _); first | (refine get_lo (by k_asm) (by k_mem) (by with_reducible assumption) ?_) | (refine get_tp (by with_reducible assumption) ?_; intro _)) | (refine get_li (by k_asm) (by k_mem) (by omega) (by omega) (by with_reducible assumption) ?_))) | ((with_reducible show wpAny _ _ (binaryOp .Mult _ _) _ _ _); with_reducible ((refine mul_int ?_ (mulOk (by decide))); (try dsimp only))) | (with_reducible ((with_reducible show wpAny _ _ (call (Value.type "bytes") [Value.ref _]) _ _ _); (refine bytes_row (by k_asm) (by k_asm) (by assumption) (by assumption) (by assumption) rfl ?_); intro _ _ _ _ _ _ _; (try dsimp only))) | walk1 | ((with_reducible show wpAny _ _ (subscriptTail _ _ (Value.ref _) (Value.int _ _)) _ _ _); first | ((with_reducible show wpAny _ _ (subscriptTail _ _ (Value.ref _) (Value.int 0 _)) _ _ _); first | (refine get_lo (by k_asm) (by k_mem) (by with_reducible assumption) ?_) | (refine get_tp (by with_reducible assumption) ?_; intro _)) | (refine get_li (by k_asm) (by k_mem) (by omega) (by omega) (by with_reducible assumption) ?_))) | (leave1; (try dsimp only)))
      · rename_i hc _
        exact LCg.CompEnd.intro F6 N6 _ (fun _ hp => hp) off trivial ⟨rfl, _, congrArg (fun z => Value.int z _) (by simp only [Int.zero_add, Int.toNat_natCast] at hc ⊢; rw [if_pos hc])⟩
      · rename_i hc _
        exact LCg.CompEnd.intro F6 N6 _ (fun _ hp => hp) off trivial ⟨rfl, _, congrArg (fun z => Value.int z _) (by simp only [Int.zero_add, Int.toNat_natCast] at hc ⊢; rw [if_neg (not_not_intro hc)])⟩
    case fin2 =>
      intro ys hl9 hR9 D h5 tk5 F6 N6 O6
      repeat' ((fail_if_success (with_reducible show Q _ _)); (fail_if_success (with_reducible show wpAny _ _ (call (Value.ref _) _) _ _ _)); (fail_if_success (with_reducible show _ ∧ ∃ _, _)); (fail_if_success (with_reducible show wpAny _ _ (compareOp _ _ _) _ _ _)); first | (k_unfold; (try dsimp only)) | (with_reducible ((with_reducible show wpAny _ _ (subscriptTail _ _ (Value.ref _) (Value.int _ _)) _ _ _); first | ((with_reducible show wpAny _ _ (subscriptTail _ _ (Value.ref _) (Value.int 0 _)) _ _ _); first | (refine get_lo (by k_asm) (by k_mem) (by with_reducible assumption) ?_) | (refine get_tp (by with_reducible assumption) ?_; intro _)) | (refine get_li (by k_asm) (by k_mem) (by omega) (by omega) (by with_reducible assumption) ?_))) | ((with_reducible show wpAny _ _ (binaryOp .Mult _ _) _ _ _); with_reducible ((refine mul_int ?_ (mulOk (by decide))); (try dsimp only))) | (with_reducible ((with_reducible show wpAny _ _ (call (Value.type "bytes") [Value.ref _]) _ _ _); (refine bytes_row (by k_asm) (by k_asm) (by assumption) (by assumption) (by assumption) rfl ?_); intro _ _ _ _ _ _ _; (try dsimp only))) | walk1 | ((with_reducible show wpAny _ _ (subscriptTail _ _ (Value.ref _) (Value.int _ _)) _ _ _); first | ((with_reducible show wpAny _ _ (subscriptTail _ _ (Value.ref _) (Value.int 0 _)) _ _ _); first | (refine get_lo (by k_asm) (by k_mem) (by with_reducible assumption) ?_) | (refine get_tp (by with_reducible assumption) ?_; intro _)) | (refine get_li (by k_asm) (by k_mem) (by omega) (by omega) (by with_reducible assumption) ?_)) | (dsimp only; first | (with_reducible ((with_reducible show wpAny _ _ (subscriptTail _ _ (Value.ref _) (Value.int _ _)) _ _ _); first | ((with_reducible show wpAny _ _ (subscriptTail _ _ (Value.ref _) (Value.int 0 _)) _ _ _); first | (refine get_lo (by k_asm) (by k_mem) (by with_reducible assumption) ?_) | (refine get_tp (by with_reducible assumption) ?_; intro _)) | (refine get_li (by k_asm) (by k_mem) (by omega) (by omega) (by with_reducible assumption) ?_))) | ((with_reducible show wpAny _ _ (binaryOp .Mult _ _) _ _ _); with_reducible ((refine mul_int ?_ (mulOk (by decide))); (try dsimp only))) | (with_reducible ((with_reducible show wpAny _ _ (call (Value.type "bytes") [Value.ref _]) _ _ _); (refine bytes_row (by k_asm) (by k_asm) (by assumption) (by assumption) (by assumption) rfl ?_); intro _ _ _ _ _ _ _; (try dsimp only))) | walk1 | ((with_reducible show wpAny _ _ (subscriptTail _ _ (Value.ref _) (Value.int _ _)) _ _ _); first | ((with_reducible show wpAny _ _ (subscriptTail _ _ (Value.ref _) (Value.int 0 _)) _ _ _); first | (refine get_lo (by k_asm) (by k_mem) (by with_reducible assumption) ?_) | (refine get_tp (by with_reducible assumption) ?_; intro _)) | (refine get_li (by k_asm) (by k_mem) (by omega) (by omega) (by with_reducible assumption) ?_))) | (leave1; (try dsimp only)))
      refine ke_eq_ints (News.isList N6 (.tail _ (.tail _ (.tail _ (.tail _ (.head _)))))) (News.isList N6 (.head _)) htv (ints_of hl9 hR9) (by show un + 3 + 64 < _; omega) ?_
      exact ⟨congrArg Value.bool (decide_eq_true (pl2 h8 hlay.1 hlay.2)), h5, _, rfl, hi_mk d1 d2 d3 d4 d5 d6 d7 d8 hE hTE F6 N6 fun _ hp => .tail _ hp⟩

  case D2 =>
  clear hI9
  intro h9 tk9 hI9
  refine andC PP ?R3 ?D3
  case R3 =>
    clear hret
    subst hPP
    have HX := hI9
    refine hi_el HX ?_; intro o1 o2 o3 o4 o5 o6 o7 o8 d1 d2 d3 d4 d5 d6 d7 d8 hE hTE F N
    dsimp only [List.cons_append, List.nil_append] at N
    repeat' ((fail_if_success (with_reducible show Q _ _)); (fail_if_success (with_reducible show wpAny _ _ (call (Value.ref _) _) _ _ _)); (fail_if_success (with_reducible show _ ∧ ∃ _, _)); (fail_if_success (with_reducible show LCg.CompRest _ _ _ _ _ _ _ _ _ _ _ _ _ _ _ _ _ _ _)); first | (k_unfold; (try dsimp only)) | (with_reducible ((with_reducible show wpAny _ _ (subscriptTail _ _ (Value.ref _) (Value.int _ _)) _ _ _); first | ((with_reducible show wpAny _ _ (subscriptTail _ _ (Value.ref _) (Value.int 0 _)) _ _ _); first | (refine get_lo (by k_asm) (by k_mem) (by with_reducible assumption) ?_) | (refine get_tp (by with_reducible assumption) ?_; intro _)) | (refine get_li (by k_asm) (by k_mem) (by omega) (by omega) (by with_reducible assumption) ?_))) | ((with_reducible show wpAny _ _ (binaryOp .Mult _ _) _ _ _); with_reducible ((refine mul_int ?_ (mulOk (by decide))); (try dsimp only))) | (with_reducible ((with_reducible show wpAny _ _ (call (Value.type "bytes") [Value.ref _]) _ _ _); (refine bytes_row (by k_asm) (by k_asm) (by assumption) (by assumption) (by assumption) rfl ?_); intro _ _ _ _ _ _ _; (try dsimp only))) | walk1 | ((with_reducible show wpAny _ _ (subscriptTail _ _ (Value.ref _) (Value.int _ _)) _ _ _); first | ((with_reducible show wpAny _ _ (subscriptTail _ _ (Value.ref _) (Value.int 0 _)) _ _ _); first | (refine get_lo (by k_asm) (by k_mem) (by with_reducible assumption) ?_) | (refine get_tp (by with_reducible assumption) ?_; intro _)) | (refine get_li (by k_asm) (by k_mem) (by omega) (by omega) (by with_reducible assumption) ?_)) | (dsimp only; first | (with_reducible ((with_reducible show wpAny _ _ (subscriptTail _ _ (Value.ref _) (Value.int _ _)) _ _ _); first | ((with_reducible show wpAny _ _ (subscriptTail _ _ (Value.ref _) (Value.int 0 _)) _ _ _); first | (refine get_lo (by k_asm) (by k_mem) (by with_reducible assumption) ?_) | (refine get_tp (by with_reducible assumption) ?_; intro _)) | (refine get_li (by k_asm) (by k_mem) (by omega) (by omega) (by with_reducible assumption) ?_))) | ((with_reducible show wpAny _ _ (binaryOp .Mult _ _) _ _ _); with_reducible ((refine mul_int ?_ (mulOk (by decide))); (try dsimp only))) | (with_reducible ((with_reducible show wpAny _ _ (call (Value.type "bytes") [Value.ref _]) _ _ _); (refine bytes_row (by k_asm) (by k_asm) (by assumption) (by assumption) (by assumption) rfl ?_); intro _ _ _ _ _ _ _; (try dsimp only))) | walk1 | ((with_reducible show wpAny _ _ (subscriptTail _ _ (Value.ref _) (Value.int _ _)) _ _ _); first | ((with_reducible show wpAny _ _ (subscriptTail _ _ (Value.ref _) (Value.int 0 _)) _ _ _); first | (refine get_lo (by k_asm) (by k_mem) (by with_reducible assumption) ?_) | (refine get_tp (by with_reducible assumption) ?_; intro _)) | (refine get_li (by k_asm) (by k_mem) (by omega) (by omega) (by with_reducible assumption) ?_))) | (leave1; (try dsimp only)))
    refine prod_c (h₀ := g) (x := #[]) (t := 0) X' T' F.keep (by show dp + 1 < _; omega) (IL.of (N _ (.tail _ (.tail _ (.tail _ (.tail _ (.head _)))))).1 hov) hsl (IL.of (N _ (.tail _ (.tail _ (.tail _ (.head _))))).1 htv) rfl (plb h8 hb) fun D1 ys1 h5 tk5 kk5 hi5 eD5 hD5 => ?_
    have F1 := F.keeps kk5
    have N1 := (newsK F N kk5 eD5 hD5).1
    clear F N
    repeat' ((fail_if_success (with_reducible show Q _ _)); (fail_if_success (with_reducible show wpAny _ _ (call (Value.ref _) _) _ _ _)); (fail_if_success (with_reducible show _ ∧ ∃ _, _)); (fail_if_success (with_reducible show LCg.CompRest _ _ _ _ _ _ _ _ _ _ _ _ _ _ _ _ _ _ _)); first | (k_unfold; (try dsimp only)) | (with_reducible ((with_reducible show wpAny _ _ (subscriptTail _ _ (Value.ref _) (Value.int _ _)) _ _ _); first | ((with_reducible show wpAny _ _ (subscriptTail _ _ (Value.ref _) (Value.int 0 _)) _ _ _); first | (refine get_lo (by k_asm) (by k_mem) (by with_reducible assumption) ?_) | (refine get_tp (by with_reducible assumption) ?_; intro _)) | (refine get_li (by k_asm) (by k_mem) (by omega) (by omega) (by with_reducible assumption) ?_))) | ((with_reducible show wpAny _ _ (binaryOp .Mult _ _) _ _ _); with_reducible ((refine mul_int ?_ (mulOk (by decide))); (try dsimp only))) | (with_reducible ((with_reducible show wpAny _ _ (call (Value.type "bytes") [Value.ref _]) _ _ _); (refine bytes_row (by k_asm) (by k_asm) (by assumption) (by assumption) (by assumption) rfl ?_); intro _ _ _ _ _ _ _; (try dsimp only))) | walk1 | ((with_reducible show wpAny _ _ (subscriptTail _ _ (Value.ref _) (Value.int _ _)) _ _ _); first | ((with_reducible show wpAny _ _ (subscriptTail _ _ (Value.ref _) (Value.int 0 _)) _ _ _); first | (refine get_lo (by k_asm) (by k_mem) (by with_reducible assumption) ?_) | (refine get_tp (by with_reducible assumption) ?_; intro _)) | (refine get_li (by k_asm) (by k_mem) (by omega) (by omega) (by with_reducible assumption) ?_)) | (dsimp only; first | (with_reducible ((with_reducible show wpAny _ _ (subscriptTail _ _ (Value.ref _) (Value.int _ _)) _ _ _); first | ((with_reducible show wpAny _ _ (subscriptTail _ _ (Value.ref _) (Value.int 0 _)) _ _ _); first | (refine get_lo (by k_asm) (by k_mem) (by with_reducible assumption) ?_) | (refine get_tp (by with_reducible assumption) ?_; intro _)) | (refine get_li (by k_asm) (by k_mem) (by omega) (by omega) (by with_reducible assumption) ?_))) | ((with_reducible show wpAny _ _ (binaryOp .Mult _ _) _ _ _); with_reducible ((refine mul_int ?_ (mulOk (by decide))); (try dsimp only))) | (with_reducible ((with_reducible show wpAny _ _ (call (Value.type "bytes") [Value.ref _]) _ _ _); (refine bytes_row (by k_asm) (by k_asm) (by assumption) (by assumption) (by assumption) rfl ?_); intro _ _ _ _ _ _ _; (try dsimp only))) | walk1 | ((with_reducible show wpAny _ _ (subscriptTail _ _ (Value.ref _) (Value.int _ _)) _ _ _); first | ((with_reducible show wpAny _ _ (subscriptTail _ _ (Value.ref _) (Value.int 0 _)) _ _ _); first | (refine get_lo (by k_asm) (by k_mem) (by with_reducible assumption) ?_) | (refine get_tp (by with_reducible assumption) ?_; intro _)) | (refine get_li (by k_asm) (by k_mem) (by omega) (by omega) (by with_reducible assumption) ?_))) | (leave1; (try dsimp only)))
    refine spectrum_c (h₀ := g) X' T' F1.keep (by show dp + 1 + 2 < _; omega) (IL.of eD5 hi5) (pr_len _ _) fun D2 ys2 h6 tk6 kk6 hi6 eD6 hD6 => ?_
    have F2 := F1.keeps kk6
    have N2 := (newsK F1 N1 kk6 eD6 hD6).1
    clear F1 N1
    repeat' ((fail_if_success (with_reducible show Q _ _)); (fail_if_success (with_reducible show wpAny _ _ (call (Value.ref _) _) _ _ _)); (fail_if_success (with_reducible show _ ∧ ∃ _, _)); (fail_if_success (with_reducible show LCg.CompRest _ _ _ _ _ _ _ _ _ _ _ _ _ _ _ _ _ _ _)); (fail_if_success (with_reducible show wpAny _ _ (eval (Expr.ListComp _ _ _ _) _) _ _ _)); first | (k_unfold; (try dsimp only)) | (with_reducible ((with_reducible show wpAny _ _ (subscriptTail _ _ (Value.ref _) (Value.int _ _)) _ _ _); first | ((with_reducible show wpAny _ _ (subscriptTail _ _ (Value.ref _) (Value.int 0 _)) _ _ _); first | (refine get_lo (by k_asm) (by k_mem) (by with_reducible assumption) ?_) | (refine get_tp (by with_reducible assumption) ?_; intro _)) | (refine get_li (by k_asm) (by k_mem) (by omega) (by omega) (by with_reducible assumption) ?_))) | ((with_reducible show wpAny _ _ (binaryOp .Mult _ _) _ _ _); with_reducible ((refine mul_int ?_ (mulOk (by decide))); (try dsimp only))) | (with_reducible ((with_reducible show wpAny _ _ (call (Value.type "bytes") [Value.ref _]) _ _ _); (refine bytes_row (by k_asm) (by k_asm) (by assumption) (by assumption) (by assumption) rfl ?_); intro _ _ _ _ _ _ _; (try dsimp only))) | walk1 | ((with_reducible show wpAny _ _ (subscriptTail _ _ (Value.ref _) (Value.int _ _)) _ _ _); first | ((with_reducible show wpAny _ _ (subscriptTail _ _ (Value.ref _) (Value.int 0 _)) _ _ _); first | (refine get_lo (by k_asm) (by k_mem) (by with_reducible assumption) ?_) | (refine get_tp (by with_reducible assumption) ?_; intro _)) | (refine get_li (by k_asm) (by k_mem) (by omega) (by omega) (by with_reducible assumption) ?_)) | (dsimp only; first | (with_reducible ((with_reducible show wpAny _ _ (subscriptTail _ _ (Value.ref _) (Value.int _ _)) _ _ _); first | ((with_reducible show wpAny _ _ (subscriptTail _ _ (Value.ref _) (Value.int 0 _)) _ _ _); first | (refine get_lo (by k_asm) (by k_mem) (by with_reducible assumption) ?_) | (refine get_tp (by with_reducible assumption) ?_; intro _)) | (refine get_li (by k_asm) (by k_mem) (by omega) (by omega) (by with_reducible assumption) ?_))) | ((with_reducible show wpAny _ _ (binaryOp .Mult _ _) _ _ _); with_reducible ((refine mul_int ?_ (mulOk (by decide))); (try dsimp only))) | (with_reducible ((with_reducible show wpAny _ _ (call (Value.type "bytes") [Value.ref _]) _ _ _); (refine bytes_row (by k_asm) (by k_asm) (by assumption) (by assumption) (by assumption) rfl ?_); intro _ _ _ _ _ _ _; (try dsimp only))) | walk1 | ((with_reducible show wpAny _ _ (subscriptTail _ _ (Value.ref _) (Value.int _ _)) _ _ _); first | ((with_reducible show wpAny _ _ (subscriptTail _ _ (Value.ref _) (Value.int 0 _)) _ _ _); first | (refine get_lo (by k_asm) (by k_mem) (by with_reducible assumption) ?_) | (refine get_tp (by with_reducible assumption) ?_; intro _)) | (refine get_li (by k_asm) (by k_mem) (by omega) (by omega) (by with_reducible assumption) ?_))) | (leave1; (try dsimp only)))
    refine LCg.ListComp_U (F₀ := F2) (by with_unfolding_all rfl) (by decide) (by rfl) (by decide) (by rfl) ?_
    repeat' ((fail_if_success (with_reducible show Q _ _)); (fail_if_success (with_reducible show wpAny _ _ (call (Value.ref _) _) _ _ _)); (fail_if_success (with_reducible show _ ∧ ∃ _, _)); (fail_if_success (with_reducible show LCg.CompRest _ _ _ _ _ _ _ _ _ _ _ _ _ _ _ _ _ _ _)); first | (k_unfold; (try dsimp only)) | (with_reducible ((with_reducible show wpAny _ _ (subscriptTail _ _ (Value.ref _) (Value.int _ _)) _ _ _); first | ((with_reducible show wpAny _ _ (subscriptTail _ _ (Value.ref _) (Value.int 0 _)) _ _ _); first | (refine get_lo (by k_asm) (by k_mem) (by with_reducible assumption) ?_) | (refine get_tp (by with_reducible assumption) ?_; intro _)) | (refine get_li (by k_asm) (by k_mem) (by omega) (by omega) (by with_reducible assumption) ?_))) | ((with_reducible show wpAny _ _ (binaryOp .Mult _ _) _ _ _); with_reducible ((refine mul_int ?_ (mulOk (by decide))); (try dsimp only))) | (with_reducible ((with_reducible show wpAny _ _ (call (Value.type "bytes") [Value.ref _]) _ _ _); (refine bytes_row (by k_asm) (by k_asm) (by assumption) (by assumption) (by assumption) rfl ?_); intro _ _ _ _ _ _ _; (try dsimp only))) | walk1 | ((with_reducible show wpAny _ _ (subscriptTail _ _ (Value.ref _) (Value.int _ _)) _ _ _); first | ((with_reducible show wpAny _ _ (subscriptTail _ _ (Value.ref _) (Value.int 0 _)) _ _ _); first | (refine get_lo (by k_asm) (by k_mem) (by with_reducible assumption) ?_) | (refine get_tp (by with_reducible assumption) ?_; intro _)) | (refine get_li (by k_asm) (by k_mem) (by omega) (by omega) (by with_reducible assumption) ?_)) | (dsimp only; first | (with_reducible ((with_reducible show wpAny _ _ (subscriptTail _ _ (Value.ref _) (Value.int _ _)) _ _ _); first | ((with_reducible show wpAny _ _ (subscriptTail _ _ (Value.ref _) (Value.int 0 _)) _ _ _); first | (refine get_lo (by k_asm) (by k_mem) (by with_reducible assumption) ?_) | (refine get_tp (by with_reducible assumption) ?_; intro _)) | (refine get_li (by k_asm) (by k_mem) (by omega) (by omega) (by with_reducible assumption) ?_))) | ((with_reducible show wpAny _ _ (binaryOp .Mult _ _) _ _ _); with_reducible ((refine mul_int ?_ (mulOk (by decide))); (try dsimp only))) | (with_reducible ((with_reducible show wpAny _ _ (call (Value.type "bytes") [Value.ref _]) _ _ _); (refine bytes_row (by k_asm) (by k_asm) (by assumption) (by assumption) (by assumption) rfl ?_); intro _ _ _ _ _ _ _; (try dsimp only))) | walk1 | ((with_reducible show wpAny _ _ (subscriptTail _ _ (Value.ref _) (Value.int _ _)) _ _ _); first | ((with_reducible show wpAny _ _ (subscriptTail _ _ (Value.ref _) (Value.int 0 _)) _ _ _); first | (refine get_lo (by k_asm) (by k_mem) (by with_reducible assumption) ?_) | (refine get_tp (by with_reducible assumption) ?_; intro _)) | (refine get_li (by k_asm) (by k_mem) (by omega) (by omega) (by with_reducible assumption) ?_))) | (leave1; (try dsimp only)))
    refine restU 8 (fun i y => ∃ t, y = Value.int (8 * (SM row (lay ws)).getD i 0) t) ?turn3 ?fin3 _ 0 [] (by rw [List.size_toArray, hsvl]) rfl (fun i y h => by simp at h)
    case turn3 =>
      rintro i v I oI C oC D m₂ h tk E' ys hi hv hC hx F3 N3 off ne
      obtain ⟨z, tz, rfl, hz⟩ := IntsAre.at hsv i v (by simpa using hv)
      repeat' ((fail_if_success (with_reducible show Q _ _)); (fail_if_success (with_reducible show wpAny _ _ (call (Value.ref _) _) _ _ _)); (fail_if_success (with_reducible show LCg.CompEnd _ _ _ _ _ _ _ _ _ _ _ _ _ _)); first | (k_unfold; (try dsimp only)) | (with_reducible ((with_reducible show wpAny _ _ (subscriptTail _ _ (Value.ref _) (Value.int _ _)) _ _ _); first | ((with_reducible show wpAny _ _ (subscriptTail _ _ (Value.ref _) (Value.int 0 _)) _ _ _); first | (refine get_lo (by k_asm) (by k_mem) (by with_reducible assumption) ?_) | (refine get_tp (by with_reducible assumption) ?_; intro _)) | (refine get_li (by k_asm) (by k_mem) (by omega) (by omega) (by with_reducible assumption) ?_))) | ((with_reducible show wpAny _ _ (binaryOp .Mult _ _) _ _ _); with_reducible ((refine mul_int ?_ (mulOk (by decide))); (try dsimp only))) | (with_reducible ((with_reducible show wpAny _ _ (call (Value.type "bytes") [Value.ref _]) _ _ _); (refine bytes_row (by k_asm) (by k_asm) (by assumption) (by assumption) (by assumption) rfl ?_); intro _ _ _ _ _ _ _; (try dsimp only))) | walk1 | ((with_reducible show wpAny _ _ (subscriptTail _ _ (Value.ref _) (Value.int _ _)) _ _ _); first | ((with_reducible show wpAny _ _ (subscriptTail _ _ (Value.ref _) (Value.int 0 _)) _ _ _); first | (refine get_lo (by k_asm) (by k_mem) (by with_reducible assumption) ?_) | (refine get_tp (by with_reducible assumption) ?_; intro _)) | (refine get_li (by k_asm) (by k_mem) (by omega) (by omega) (by with_reducible assumption) ?_)) | (dsimp only; first | (with_reducible ((with_reducible show wpAny _ _ (subscriptTail _ _ (Value.ref _) (Value.int _ _)) _ _ _); first | ((with_reducible show wpAny _ _ (subscriptTail _ _ (Value.ref _) (Value.int 0 _)) _ _ _); first | (refine get_lo (by k_asm) (by k_mem) (by with_reducible assumption) ?_) | (refine get_tp (by with_reducible assumption) ?_; intro _)) | (refine get_li (by k_asm) (by k_mem) (by omega) (by omega) (by with_reducible assumption) ?_))) | ((with_reducible show wpAny _ _ (binaryOp .Mult _ _) _ _ _); with_reducible ((refine mul_int ?_ (mulOk (by decide))); (try dsimp only))) | (with_reducible ((with_reducible show wpAny _ _ (call (Value.type "bytes") [Value.ref _]) _ _ _); (refine bytes_row (by k_asm) (by k_asm) (by assumption) (by assumption) (by assumption) rfl ?_); intro _ _ _ _ _ _ _; (try dsimp only))) | walk1 | ((with_reducible show wpAny _ _ (subscriptTail _ _ (Value.ref _) (Value.int _ _)) _ _ _); first | ((with_reducible show wpAny _ _ (subscriptTail _ _ (Value.ref _) (Value.int 0 _)) _ _ _); first | (refine get_lo (by k_asm) (by k_mem) (by with_reducible assumption) ?_) | (refine get_tp (by with_reducible assumption) ?_; intro _)) | (refine get_li (by k_asm) (by k_mem) (by omega) (by omega) (by with_reducible assumption) ?_))) | (leave1; (try dsimp only)))
      exact LCg.CompEnd.intro F3 N3 _ (fun _ hp => hp) off (.inr ⟨_, by k_mem, rfl, _, rfl⟩) ⟨rfl, _, congrArg (fun q => Value.int (8 * q) _) (by rw [List.getD_eq_getElem?_getD, hz]; rfl)⟩
    case fin3 =>
      intro ys hl9 hR9 D h5 tk5 F6 N6 O6
      repeat' ((fail_if_success (with_reducible show Q _ _)); (fail_if_success (with_reducible show wpAny _ _ (call (Value.ref _) _) _ _ _)); (fail_if_success (with_reducible show _ ∧ ∃ _, _)); (fail_if_success (with_reducible show wpAny _ _ (compareOp _ _ _) _ _ _)); first | (k_unfold; (try dsimp only)) | (with_reducible ((with_reducible show wpAny _ _ (subscriptTail _ _ (Value.ref _) (Value.int _ _)) _ _ _); first | ((with_reducible show wpAny _ _ (subscriptTail _ _ (Value.ref _) (Value.int 0 _)) _ _ _); first | (refine get_lo (by k_asm) (by k_mem) (by with_reducible assumption) ?_) | (refine get_tp (by with_reducible assumption) ?_; intro _)) | (refine get_li (by k_asm) (by k_mem) (by omega) (by omega) (by with_reducible assumption) ?_))) | ((with_reducible show wpAny _ _ (binaryOp .Mult _ _) _ _ _); with_reducible ((refine mul_int ?_ (mulOk (by decide))); (try dsimp only))) | (with_reducible ((with_reducible show wpAny _ _ (call (Value.type "bytes") [Value.ref _]) _ _ _); (refine bytes_row (by k_asm) (by k_asm) (by assumption) (by assumption) (by assumption) rfl ?_); intro _ _ _ _ _ _ _; (try dsimp only))) | walk1 | ((with_reducible show wpAny _ _ (subscriptTail _ _ (Value.ref _) (Value.int _ _)) _ _ _); first | ((with_reducible show wpAny _ _ (subscriptTail _ _ (Value.ref _) (Value.int 0 _)) _ _ _); first | (refine get_lo (by k_asm) (by k_mem) (by with_reducible assumption) ?_) | (refine get_tp (by with_reducible assumption) ?_; intro _)) | (refine get_li (by k_asm) (by k_mem) (by omega) (by omega) (by with_reducible assumption) ?_)) | (dsimp only; first | (with_reducible ((with_reducible show wpAny _ _ (subscriptTail _ _ (Value.ref _) (Value.int _ _)) _ _ _); first | ((with_reducible show wpAny _ _ (subscriptTail _ _ (Value.ref _) (Value.int 0 _)) _ _ _); first | (refine get_lo (by k_asm) (by k_mem) (by with_reducible assumption) ?_) | (refine get_tp (by with_reducible assumption) ?_; intro _)) | (refine get_li (by k_asm) (by k_mem) (by omega) (by omega) (by with_reducible assumption) ?_))) | ((with_reducible show wpAny _ _ (binaryOp .Mult _ _) _ _ _); with_reducible ((refine mul_int ?_ (mulOk (by decide))); (try dsimp only))) | (with_reducible ((with_reducible show wpAny _ _ (call (Value.type "bytes") [Value.ref _]) _ _ _); (refine bytes_row (by k_asm) (by k_asm) (by assumption) (by assumption) (by assumption) rfl ?_); intro _ _ _ _ _ _ _; (try dsimp only))) | walk1 | ((with_reducible show wpAny _ _ (subscriptTail _ _ (Value.ref _) (Value.int _ _)) _ _ _); first | ((with_reducible show wpAny _ _ (subscriptTail _ _ (Value.ref _) (Value.int 0 _)) _ _ _); first | (refine get_lo (by k_asm) (by k_mem) (by with_reducible assumption) ?_) | (refine get_tp (by with_reducible assumption) ?_; intro _)) | (refine get_li (by k_asm) (by k_mem) (by omega) (by omega) (by with_reducible assumption) ?_))) | (leave1; (try dsimp only)))
      refine ke_eq_ints (News.isList N6 (.tail _ (.head _))) (News.isList N6 (.head _)) hi6 (ints_of hl9 hR9) (by show un + 3 + 64 < _; omega) ?_
      exact ⟨congrArg Value.bool (decide_eq_true (pl3 h8 hlay.1 hlay.2)), h5, _, rfl, hi_mk d1 d2 d3 d4 d5 d6 d7 d8 hE hTE F6 N6 fun _ hp => .tail _ (.tail _ (.tail _ hp))⟩

  case D3 =>
  clear hI9
  intro h9 tk9 hI9
  refine andC PP ?R4 ?D4
  case R4 =>
    clear hret
    subst hPP
    have HX := hI9
    refine hi_el HX ?_; intro o1 o2 o3 o4 o5 o6 o7 o8 d1 d2 d3 d4 d5 d6 d7 d8 hE hTE F N
    dsimp only [List.cons_append, List.nil_append] at N
    repeat' ((fail_if_success (with_reducible show Q _ _)); (fail_if_success (with_reducible show wpAny _ _ (call (Value.ref _) _) _ _ _)); (fail_if_success (with_reducible show _ ∧ ∃ _, _)); (fail_if_success (with_reducible show LCg.CompRest _ _ _ _ _ _ _ _ _ _ _ _ _ _ _ _ _ _ _)); (fail_if_success (with_reducible show LCt.CompRestT _ _ _ _ _ _ _ _ _ _ _ _ _ _ _ _ _ _ _ _)); (fail_if_success (with_reducible show wpAny _ _ (eval (Expr.ListComp _ _ _ _) _) _ _ _)); first | (k_unfold; (try dsimp only)) | (with_reducible ((with_reducible show wpAny _ _ (subscriptTail _ _ (Value.ref _) (Value.int _ _)) _ _ _); first | ((with_reducible show wpAny _ _ (subscriptTail _ _ (Value.ref _) (Value.int 0 _)) _ _ _); first | (refine get_lo (by k_asm) (by k_mem) (by with_reducible assumption) ?_) | (refine get_tp (by with_reducible assumption) ?_; intro _)) | (refine get_li (by k_asm) (by k_mem) (by omega) (by omega) (by with_reducible assumption) ?_))) | ((with_reducible show wpAny _ _ (binaryOp .Mult _ _) _ _ _); with_reducible ((refine mul_int ?_ (mulOk (by decide))); (try dsimp only))) | (with_reducible ((with_reducible show wpAny _ _ (call (Value.type "bytes") [Value.ref _]) _ _ _); (refine bytes_row (by k_asm) (by k_asm) (by assumption) (by assumption) (by assumption) rfl ?_); intro _ _ _ _ _ _ _; (try dsimp only))) | walk1 | ((with_reducible show wpAny _ _ (subscriptTail _ _ (Value.ref _) (Value.int _ _)) _ _ _); first | ((with_reducible show wpAny _ _ (subscriptTail _ _ (Value.ref _) (Value.int 0 _)) _ _ _); first | (refine get_lo (by k_asm) (by k_mem) (by with_reducible assumption) ?_) | (refine get_tp (by with_reducible assumption) ?_; intro _)) | (refine get_li (by k_asm) (by k_mem) (by omega) (by omega) (by with_reducible assumption) ?_)) | (dsimp only; first | (with_reducible ((with_reducible show wpAny _ _ (subscriptTail _ _ (Value.ref _) (Value.int _ _)) _ _ _); first | ((with_reducible show wpAny _ _ (subscriptTail _ _ (Value.ref _) (Value.int 0 _)) _ _ _); first | (refine get_lo (by k_asm) (by k_mem) (by with_reducible assumption) ?_) | (refine get_tp (by with_reducible assumption) ?_; intro _)) | (refine get_li (by k_asm) (by k_mem) (by omega) (by omega) (by with_reducible assumption) ?_))) | ((with_reducible show wpAny _ _ (binaryOp .Mult _ _) _ _ _); with_reducible ((refine mul_int ?_ (mulOk (by decide))); (try dsimp only))) | (with_reducible ((with_reducible show wpAny _ _ (call (Value.type "bytes") [Value.ref _]) _ _ _); (refine bytes_row (by k_asm) (by k_asm) (by assumption) (by assumption) (by assumption) rfl ?_); intro _ _ _ _ _ _ _; (try dsimp only))) | walk1 | ((with_reducible show wpAny _ _ (subscriptTail _ _ (Value.ref _) (Value.int _ _)) _ _ _); first | ((with_reducible show wpAny _ _ (subscriptTail _ _ (Value.ref _) (Value.int 0 _)) _ _ _); first | (refine get_lo (by k_asm) (by k_mem) (by with_reducible assumption) ?_) | (refine get_tp (by with_reducible assumption) ?_; intro _)) | (refine get_li (by k_asm) (by k_mem) (by omega) (by omega) (by with_reducible assumption) ?_))) | (leave1; (try dsimp only)))
    refine compCell (h₀ := g) (L := L') (m := HM l2 (some (.ref th)) (some (.ref be))) rfl (by rfl) rfl (fun _ => rfl) (fun _ => rfl) (fun _ _ => by rfl) (by rfl) (by decide) 8 (by rw [sizeLine_eq]; decide) ?_
    repeat' ((fail_if_success (with_reducible show Q _ _)); (fail_if_success (with_reducible show wpAny _ _ (call (Value.ref _) _) _ _ _)); (fail_if_success (with_reducible show ∃ _, _)); first | (k_unfold; (try dsimp only)) | (with_reducible ((with_reducible show wpAny _ _ (subscriptTail _ _ (Value.ref _) (Value.int _ _)) _ _ _); first | ((with_reducible show wpAny _ _ (subscriptTail _ _ (Value.ref _) (Value.int 0 _)) _ _ _); first | (refine get_lo (by k_asm) (by k_mem) (by with_reducible assumption) ?_) | (refine get_tp (by with_reducible assumption) ?_; intro _)) | (refine get_li (by k_asm) (by k_mem) (by omega) (by omega) (by with_reducible assumption) ?_))) | ((with_reducible show wpAny _ _ (binaryOp .Mult _ _) _ _ _); with_reducible ((refine mul_int ?_ (mulOk (by decide))); (try dsimp only))) | (with_reducible ((with_reducible show wpAny _ _ (call (Value.type "bytes") [Value.ref _]) _ _ _); (refine bytes_row (by k_asm) (by k_asm) (by assumption) (by assumption) (by assumption) rfl ?_); intro _ _ _ _ _ _ _; (try dsimp only))) | walk1 | ((with_reducible show wpAny _ _ (subscriptTail _ _ (Value.ref _) (Value.int _ _)) _ _ _); first | ((with_reducible show wpAny _ _ (subscriptTail _ _ (Value.ref _) (Value.int 0 _)) _ _ _); first | (refine get_lo (by k_asm) (by k_mem) (by with_reducible assumption) ?_) | (refine get_tp (by with_reducible assumption) ?_; intro _)) | (refine get_li (by k_asm) (by k_mem) (by omega) (by omega) (by with_reducible assumption) ?_)) | (dsimp only; first | (with_reducible ((with_reducible show wpAny _ _ (subscriptTail _ _ (Value.ref _) (Value.int _ _)) _ _ _); first | ((with_reducible show wpAny _ _ (subscriptTail _ _ (Value.ref _) (Value.int 0 _)) _ _ _); first | (refine get_lo (by k_asm) (by k_mem) (by with_reducible assumption) ?_) | (refine get_tp (by with_reducible assumption) ?_; intro _)) | (refine get_li (by k_asm) (by k_mem) (by omega) (by omega) (by with_reducible assumption) ?_))) | ((with_reducible show wpAny _ _ (binaryOp .Mult _ _) _ _ _); with_reducible ((refine mul_int ?_ (mulOk (by decide))); (try dsimp only))) | (with_reducible ((with_reducible show wpAny _ _ (call (Value.type "bytes") [Value.ref _]) _ _ _); (refine bytes_row (by k_asm) (by k_asm) (by assumption) (by assumption) (by assumption) rfl ?_); intro _ _ _ _ _ _ _; (try dsimp only))) | walk1 | ((with_reducible show wpAny _ _ (subscriptTail _ _ (Value.ref _) (Value.int _ _)) _ _ _); first | ((with_reducible show wpAny _ _ (subscriptTail _ _ (Value.ref _) (Value.int 0 _)) _ _ _); first | (refine get_lo (by k_asm) (by k_mem) (by with_reducible assumption) ?_) | (refine get_tp (by with_reducible assumption) ?_; intro _)) | (refine get_li (by k_asm) (by k_mem) (by omega) (by omega) (by with_reducible assumption) ?_))) | (leave1; (try dsimp only)))
    rename_i hr Fz Nz _
    refine ⟨_, _, _, _, _, _, fun n => (leftI row).all fun m => decide (odd (Builtin.bitAnd m (Builtin.bitXor (n : Int) (lay ws))) = 0), rfl, hr, by decide, rfl, Fz, Nz, ?turn4, ?fin4⟩
    case turn4 =>
      rintro i t I oI C oC X oX D oD h tk hi dX F2 N2
      repeat' ((fail_if_success (with_reducible show Q _ _)); (fail_if_success (with_reducible show wpAny _ _ (call (Value.ref _) _) _ _ _)); (fail_if_success (with_reducible show _ ∧ ∃ _, _)); (fail_if_success (with_reducible show LCg.CompEnd _ _ _ _ _ _ _ _ _ _ _ _ _ _)); (fail_if_success (with_reducible show LCg.CompRest _ _ _ _ _ _ _ _ _ _ _ _ _ _ _ _ _ _ _)); (fail_if_success (with_reducible show wpAny _ _ (eval (Expr.ListComp _ _ _ _) _) _ _ _)); first | (k_unfold; (try dsimp only)) | (with_reducible ((with_reducible show wpAny _ _ (subscriptTail _ _ (Value.ref _) (Value.int _ _)) _ _ _); first | ((with_reducible show wpAny _ _ (subscriptTail _ _ (Value.ref _) (Value.int 0 _)) _ _ _); first | (refine get_lo (by k_asm) (by k_mem) (by with_reducible assumption) ?_) | (refine get_tp (by with_reducible assumption) ?_; intro _)) | (refine get_li (by k_asm) (by k_mem) (by omega) (by omega) (by with_reducible assumption) ?_))) | ((with_reducible show wpAny _ _ (binaryOp .Mult _ _) _ _ _); with_reducible ((refine mul_int ?_ (mulOk (by decide))); (try dsimp only))) | (with_reducible ((with_reducible show wpAny _ _ (call (Value.type "bytes") [Value.ref _]) _ _ _); (refine bytes_row (by k_asm) (by k_asm) (by assumption) (by assumption) (by assumption) rfl ?_); intro _ _ _ _ _ _ _; (try dsimp only))) | walk1 | ((with_reducible show wpAny _ _ (subscriptTail _ _ (Value.ref _) (Value.int _ _)) _ _ _); first | ((with_reducible show wpAny _ _ (subscriptTail _ _ (Value.ref _) (Value.int 0 _)) _ _ _); first | (refine get_lo (by k_asm) (by k_mem) (by with_reducible assumption) ?_) | (refine get_tp (by with_reducible assumption) ?_; intro _)) | (refine get_li (by k_asm) (by k_mem) (by omega) (by omega) (by with_reducible assumption) ?_)) | (dsimp only; first | (with_reducible ((with_reducible show wpAny _ _ (subscriptTail _ _ (Value.ref _) (Value.int _ _)) _ _ _); first | ((with_reducible show wpAny _ _ (subscriptTail _ _ (Value.ref _) (Value.int 0 _)) _ _ _); first | (refine get_lo (by k_asm) (by k_mem) (by with_reducible assumption) ?_) | (refine get_tp (by with_reducible assumption) ?_; intro _)) | (refine get_li (by k_asm) (by k_mem) (by omega) (by omega) (by with_reducible assumption) ?_))) | ((with_reducible show wpAny _ _ (binaryOp .Mult _ _) _ _ _); with_reducible ((refine mul_int ?_ (mulOk (by decide))); (try dsimp only))) | (with_reducible ((with_reducible show wpAny _ _ (call (Value.type "bytes") [Value.ref _]) _ _ _); (refine bytes_row (by k_asm) (by k_asm) (by assumption) (by assumption) (by assumption) rfl ?_); intro _ _ _ _ _ _ _; (try dsimp only))) | walk1 | ((with_reducible show wpAny _ _ (subscriptTail _ _ (Value.ref _) (Value.int _ _)) _ _ _); first | ((with_reducible show wpAny _ _ (subscriptTail _ _ (Value.ref _) (Value.int 0 _)) _ _ _); first | (refine get_lo (by k_asm) (by k_mem) (by with_reducible assumption) ?_) | (refine get_tp (by with_reducible assumption) ?_; intro _)) | (refine get_li (by k_asm) (by k_mem) (by omega) (by omega) (by with_reducible assumption) ?_))) | (leave1; (try dsimp only)))
      refine LCg.ListComp_U (F₀ := F2) (by with_unfolding_all rfl) (by decide) (by rfl) (by decide) (by rfl) ?_
      repeat' ((fail_if_success (with_reducible show Q _ _)); (fail_if_success (with_reducible show wpAny _ _ (call (Value.ref _) _) _ _ _)); (fail_if_success (with_reducible show _ ∧ ∃ _, _)); (fail_if_success (with_reducible show LCg.CompEnd _ _ _ _ _ _ _ _ _ _ _ _ _ _)); (fail_if_success (with_reducible show LCg.CompRest _ _ _ _ _ _ _ _ _ _ _ _ _ _ _ _ _ _ _)); first | (k_unfold; (try dsimp only)) | (with_reducible ((with_reducible show wpAny _ _ (subscriptTail _ _ (Value.ref _) (Value.int _ _)) _ _ _); first | ((with_reducible show wpAny _ _ (subscriptTail _ _ (Value.ref _) (Value.int 0 _)) _ _ _); first | (refine get_lo (by k_asm) (by k_mem) (by with_reducible assumption) ?_) | (refine get_tp (by with_reducible assumption) ?_; intro _)) | (refine get_li (by k_asm) (by k_mem) (by omega) (by omega) (by with_reducible assumption) ?_))) | ((with_reducible show wpAny _ _ (binaryOp .Mult _ _) _ _ _); with_reducible ((refine mul_int ?_ (mulOk (by decide))); (try dsimp only))) | (with_reducible ((with_reducible show wpAny _ _ (call (Value.type "bytes") [Value.ref _]) _ _ _); (refine bytes_row (by k_asm) (by k_asm) (by assumption) (by assumption) (by assumption) rfl ?_); intro _ _ _ _ _ _ _; (try dsimp only))) | walk1 | ((with_reducible show wpAny _ _ (subscriptTail _ _ (Value.ref _) (Value.int _ _)) _ _ _); first | ((with_reducible show wpAny _ _ (subscriptTail _ _ (Value.ref _) (Value.int 0 _)) _ _ _); first | (refine get_lo (by k_asm) (by k_mem) (by with_reducible assumption) ?_) | (refine get_tp (by with_reducible assumption) ?_; intro _)) | (refine get_li (by k_asm) (by k_mem) (by omega) (by omega) (by with_reducible assumption) ?_)) | (dsimp only; first | (with_reducible ((with_reducible show wpAny _ _ (subscriptTail _ _ (Value.ref _) (Value.int _ _)) _ _ _); first | ((with_reducible show wpAny _ _ (subscriptTail _ _ (Value.ref _) (Value.int 0 _)) _ _ _); first | (refine get_lo (by k_asm) (by k_mem) (by with_reducible assumption) ?_) | (refine get_tp (by with_reducible assumption) ?_; intro _)) | (refine get_li (by k_asm) (by k_mem) (by omega) (by omega) (by with_reducible assumption) ?_))) | ((with_reducible show wpAny _ _ (binaryOp .Mult _ _) _ _ _); with_reducible ((refine mul_int ?_ (mulOk (by decide))); (try dsimp only))) | (with_reducible ((with_reducible show wpAny _ _ (call (Value.type "bytes") [Value.ref _]) _ _ _); (refine bytes_row (by k_asm) (by k_asm) (by assumption) (by assumption) (by assumption) rfl ?_); intro _ _ _ _ _ _ _; (try dsimp only))) | walk1 | ((with_reducible show wpAny _ _ (subscriptTail _ _ (Value.ref _) (Value.int _ _)) _ _ _); first | ((with_reducible show wpAny _ _ (subscriptTail _ _ (Value.ref _) (Value.int 0 _)) _ _ _); first | (refine get_lo (by k_asm) (by k_mem) (by with_reducible assumption) ?_) | (refine get_tp (by with_reducible assumption) ?_; intro _)) | (refine get_li (by k_asm) (by k_mem) (by omega) (by omega) (by with_reducible assumption) ?_))) | (leave1; (try dsimp only)))
      refine restU lv.toArray.size (fun j y => y = Value.bool (decide (odd (Builtin.bitAnd ((leftI row).getD j 0) (Builtin.bitXor (i : Int) (lay ws))) = 0))) ?turn5 ?fin5 _ 0 [] (Nat.zero_add _) rfl (fun i y h => by simp at h)
      case turn5 =>
        rintro j v I2 oI2 C2 oC2 D2 m2 h2 tk2 E2 ys hj hv hC2 hx2 F3 N3 off3 ne3
        obtain ⟨z, tz, rfl, hz⟩ := IntsAre.at hlv j v (by simpa using hv)
        repeat' ((fail_if_success (with_reducible show Q _ _)); (fail_if_success (with_reducible show wpAny _ _ (call (Value.ref _) _) _ _ _)); (fail_if_success (with_reducible show LCg.CompEnd _ _ _ _ _ _ _ _ _ _ _ _ _ _)); first | (k_unfold; (try dsimp only)) | (with_reducible ((with_reducible show wpAny _ _ (subscriptTail _ _ (Value.ref _) (Value.int _ _)) _ _ _); first | ((with_reducible show wpAny _ _ (subscriptTail _ _ (Value.ref _) (Value.int 0 _)) _ _ _); first | (refine get_lo (by k_asm) (by k_mem) (by with_reducible assumption) ?_) | (refine get_tp (by with_reducible assumption) ?_; intro _)) | (refine get_li (by k_asm) (by k_mem) (by omega) (by omega) (by with_reducible assumption) ?_))) | ((with_reducible show wpAny _ _ (binaryOp .Mult _ _) _ _ _); with_reducible ((refine mul_int ?_ (mulOk (by decide))); (try dsimp only))) | (with_reducible ((with_reducible show wpAny _ _ (call (Value.type "bytes") [Value.ref _]) _ _ _); (refine bytes_row (by k_asm) (by k_asm) (by assumption) (by assumption) (by assumption) rfl ?_); intro _ _ _ _ _ _ _; (try dsimp only))) | walk1 | ((with_reducible show wpAny _ _ (subscriptTail _ _ (Value.ref _) (Value.int _ _)) _ _ _); first | ((with_reducible show wpAny _ _ (subscriptTail _ _ (Value.ref _) (Value.int 0 _)) _ _ _); first | (refine get_lo (by k_asm) (by k_mem) (by with_reducible assumption) ?_) | (refine get_tp (by with_reducible assumption) ?_; intro _)) | (refine get_li (by k_asm) (by k_mem) (by omega) (by omega) (by with_reducible assumption) ?_)) | (dsimp only; first | (with_reducible ((with_reducible show wpAny _ _ (subscriptTail _ _ (Value.ref _) (Value.int _ _)) _ _ _); first | ((with_reducible show wpAny _ _ (subscriptTail _ _ (Value.ref _) (Value.int 0 _)) _ _ _); first | (refine get_lo (by k_asm) (by k_mem) (by with_reducible assumption) ?_) | (refine get_tp (by with_reducible assumption) ?_; intro _)) | (refine get_li (by k_asm) (by k_mem) (by omega) (by omega) (by with_reducible assumption) ?_))) | ((with_reducible show wpAny _ _ (binaryOp .Mult _ _) _ _ _); with_reducible ((refine mul_int ?_ (mulOk (by decide))); (try dsimp only))) | (with_reducible ((with_reducible show wpAny _ _ (call (Value.type "bytes") [Value.ref _]) _ _ _); (refine bytes_row (by k_asm) (by k_asm) (by assumption) (by assumption) (by assumption) rfl ?_); intro _ _ _ _ _ _ _; (try dsimp only))) | walk1 | ((with_reducible show wpAny _ _ (subscriptTail _ _ (Value.ref _) (Value.int _ _)) _ _ _); first | ((with_reducible show wpAny _ _ (subscriptTail _ _ (Value.ref _) (Value.int 0 _)) _ _ _); first | (refine get_lo (by k_asm) (by k_mem) (by with_reducible assumption) ?_) | (refine get_tp (by with_reducible assumption) ?_; intro _)) | (refine get_li (by k_asm) (by k_mem) (by omega) (by omega) (by with_reducible assumption) ?_))) | (leave1; (try dsimp only)))
        refine odd_c (h₀ := g) X' T' F3.keep (by show dp + 1 < _; omega) fun t5 h5 tk5 kk => ?_
        have F6 := F3.keeps kk
        have N6 := N3.keeps kk
        clear F3 N3
        repeat' ((fail_if_success (with_reducible show Q _ _)); (fail_if_success (with_reducible show wpAny _ _ (call (Value.ref _) _) _ _ _)); (fail_if_success (with_reducible show LCg.CompEnd _ _ _ _ _ _ _ _ _ _ _ _ _ _)); first | (k_unfold; (try dsimp only)) | (with_reducible ((with_reducible show wpAny _ _ (subscriptTail _ _ (Value.ref _) (Value.int _ _)) _ _ _); first | ((with_reducible show wpAny _ _ (subscriptTail _ _ (Value.ref _) (Value.int 0 _)) _ _ _); first | (refine get_lo (by k_asm) (by k_mem) (by with_reducible assumption) ?_) | (refine get_tp (by with_reducible assumption) ?_; intro _)) | (refine get_li (by k_asm) (by k_mem) (by omega) (by omega) (by with_reducible assumption) ?_))) | ((with_reducible show wpAny _ _ (binaryOp .Mult _ _) _ _ _); with_reducible ((refine mul_int ?_ (mulOk (by decide))); (try dsimp only))) | (with_reducible ((with_reducible show wpAny _ _ (call (Value.type "bytes") [Value.ref _]) _ _ _); (refine bytes_row (by k_asm) (by k_asm) (by assumption) (by assumption) (by assumption) rfl ?_); intro _ _ _ _ _ _ _; (try dsimp only))) | walk1 | ((with_reducible show wpAny _ _ (subscriptTail _ _ (Value.ref _) (Value.int _ _)) _ _ _); first | ((with_reducible show wpAny _ _ (subscriptTail _ _ (Value.ref _) (Value.int 0 _)) _ _ _); first | (refine get_lo (by k_asm) (by k_mem) (by with_reducible assumption) ?_) | (refine get_tp (by with_reducible assumption) ?_; intro _)) | (refine get_li (by k_asm) (by k_mem) (by omega) (by omega) (by with_reducible assumption) ?_)) | (dsimp only; first | (with_reducible ((with_reducible show wpAny _ _ (subscriptTail _ _ (Value.ref _) (Value.int _ _)) _ _ _); first | ((with_reducible show wpAny _ _ (subscriptTail _ _ (Value.ref _) (Value.int 0 _)) _ _ _); first | (refine get_lo (by k_asm) (by k_mem) (by with_reducible assumption) ?_) | (refine get_tp (by with_reducible assumption) ?_; intro _)) | (refine get_li (by k_asm) (by k_mem) (by omega) (by omega) (by with_reducible assumption) ?_))) | ((with_reducible show wpAny _ _ (binaryOp .Mult _ _) _ _ _); with_reducible ((refine mul_int ?_ (mulOk (by decide))); (try dsimp only))) | (with_reducible ((with_reducible show wpAny _ _ (call (Value.type "bytes") [Value.ref _]) _ _ _); (refine bytes_row (by k_asm) (by k_asm) (by assumption) (by assumption) (by assumption) rfl ?_); intro _ _ _ _ _ _ _; (try dsimp only))) | walk1 | ((with_reducible show wpAny _ _ (subscriptTail _ _ (Value.ref _) (Value.int _ _)) _ _ _); first | ((with_reducible show wpAny _ _ (subscriptTail _ _ (Value.ref _) (Value.int 0 _)) _ _ _); first | (refine get_lo (by k_asm) (by k_mem) (by with_reducible assumption) ?_) | (refine get_tp (by with_reducible assumption) ?_; intro _)) | (refine get_li (by k_asm) (by k_mem) (by omega) (by omega) (by with_reducible assumption) ?_))) | (leave1; (try dsimp only)))
        have hz2 : (leftI row).getD j 0 = z := by rw [List.getD_eq_getElem?_getD, hz]; rfl
        exact LCg.CompEnd.intro F6 N6 _ (fun _ hp => hp) off3 (.inr ⟨_, by k_mem, rfl, _, rfl⟩) ⟨rfl, congrArg Value.bool (by rw [hz2, Int.zero_add]; rfl)⟩
      case fin5 =>
        intro ys hl9 hR9 D3 h3 tk3 F6 N6 O6
        repeat' ((fail_if_success (with_reducible show Q _ _)); (fail_if_success (with_reducible show wpAny _ _ (call (Value.ref _) _) _ _ _)); (fail_if_success (with_reducible show _ ∧ ∃ _, _)); (fail_if_success (with_reducible show wpAny _ _ (call (Value.builtin "all") _) _ _ _)); first | (k_unfold; (try dsimp only)) | (with_reducible ((with_reducible show wpAny _ _ (subscriptTail _ _ (Value.ref _) (Value.int _ _)) _ _ _); first | ((with_reducible show wpAny _ _ (subscriptTail _ _ (Value.ref _) (Value.int 0 _)) _ _ _); first | (refine get_lo (by k_asm) (by k_mem) (by with_reducible assumption) ?_) | (refine get_tp (by with_reducible assumption) ?_; intro _)) | (refine get_li (by k_asm) (by k_mem) (by omega) (by omega) (by with_reducible assumption) ?_))) | ((with_reducible show wpAny _ _ (binaryOp .Mult _ _) _ _ _); with_reducible ((refine mul_int ?_ (mulOk (by decide))); (try dsimp only))) | (with_reducible ((with_reducible show wpAny _ _ (call (Value.type "bytes") [Value.ref _]) _ _ _); (refine bytes_row (by k_asm) (by k_asm) (by assumption) (by assumption) (by assumption) rfl ?_); intro _ _ _ _ _ _ _; (try dsimp only))) | walk1 | ((with_reducible show wpAny _ _ (subscriptTail _ _ (Value.ref _) (Value.int _ _)) _ _ _); first | ((with_reducible show wpAny _ _ (subscriptTail _ _ (Value.ref _) (Value.int 0 _)) _ _ _); first | (refine get_lo (by k_asm) (by k_mem) (by with_reducible assumption) ?_) | (refine get_tp (by with_reducible assumption) ?_; intro _)) | (refine get_li (by k_asm) (by k_mem) (by omega) (by omega) (by with_reducible assumption) ?_)) | (dsimp only; first | (with_reducible ((with_reducible show wpAny _ _ (subscriptTail _ _ (Value.ref _) (Value.int _ _)) _ _ _); first | ((with_reducible show wpAny _ _ (subscriptTail _ _ (Value.ref _) (Value.int 0 _)) _ _ _); first | (refine get_lo (by k_asm) (by k_mem) (by with_reducible assumption) ?_) | (refine get_tp (by with_reducible assumption) ?_; intro _)) | (refine get_li (by k_asm) (by k_mem) (by omega) (by omega) (by with_reducible assumption) ?_))) | ((with_reducible show wpAny _ _ (binaryOp .Mult _ _) _ _ _); with_reducible ((refine mul_int ?_ (mulOk (by decide))); (try dsimp only))) | (with_reducible ((with_reducible show wpAny _ _ (call (Value.type "bytes") [Value.ref _]) _ _ _); (refine bytes_row (by k_asm) (by k_asm) (by assumption) (by assumption) (by assumption) rfl ?_); intro _ _ _ _ _ _ _; (try dsimp only))) | walk1 | ((with_reducible show wpAny _ _ (subscriptTail _ _ (Value.ref _) (Value.int _ _)) _ _ _); first | ((with_reducible show wpAny _ _ (subscriptTail _ _ (Value.ref _) (Value.int 0 _)) _ _ _); first | (refine get_lo (by k_asm) (by k_mem) (by with_reducible assumption) ?_) | (refine get_tp (by with_reducible assumption) ?_; intro _)) | (refine get_li (by k_asm) (by k_mem) (by omega) (by omega) (by with_reducible assumption) ?_))) | (leave1; (try dsimp only)))
        have hl9 : ys.length = (leftI row).length := by rw [hl9, List.size_toArray, hlv.length]
        refine LSm.all_bools F6 N6 rfl (PySem.IsL.isList (N6 _ (.head _)).1) (bools_ext (bs := (leftI row).map fun m => decide (odd (Builtin.bitAnd m (Builtin.bitXor (i : Int) (lay ws))) = 0)) (by simpa using hl9) fun j y hy => ?_) fun h7 tk7 F7 N7 => ?_
        · have hj : j < (leftI row).length := by
            rcases Nat.lt_or_ge j (leftI row).length with q | q
            · exact q
            · rw [List.getElem?_eq_none (by omega)] at hy; cases hy
          rw [hR9 j y hy, getD_map hj]
        · repeat' ((fail_if_success (with_reducible show Q _ _)); (fail_if_success (with_reducible show wpAny _ _ (call (Value.ref _) _) _ _ _)); (fail_if_success (with_reducible show _ ∧ ∃ _, _)); (fail_if_success (with_reducible show qk _ _)); first | (k_unfold; (try dsimp only)) | (with_reducible ((with_reducible show wpAny _ _ (subscriptTail _ _ (Value.ref _) (Value.int _ _)) _ _ _); first | ((with_reducible show wpAny _ _ (subscriptTail _ _ (Value.ref _) (Value.int 0 _)) _ _ _); first | (refine get_lo (by k_asm) (by k_mem) (by with_reducible assumption) ?_) | (refine get_tp (by with_reducible assumption) ?_; intro _)) | (refine get_li (by k_asm) (by k_mem) (by omega) (by omega) (by with_reducible assumption) ?_))) | ((with_reducible show wpAny _ _ (binaryOp .Mult _ _) _ _ _); with_reducible ((refine mul_int ?_ (mulOk (by decide))); (try dsimp only))) | (with_reducible ((with_reducible show wpAny _ _ (call (Value.type "bytes") [Value.ref _]) _ _ _); (refine bytes_row (by k_asm) (by k_asm) (by assumption) (by assumption) (by assumption) rfl ?_); intro _ _ _ _ _ _ _; (try dsimp only))) | walk1 | ((with_reducible show wpAny _ _ (subscriptTail _ _ (Value.ref _) (Value.int _ _)) _ _ _); first | ((with_reducible show wpAny _ _ (subscriptTail _ _ (Value.ref _) (Value.int 0 _)) _ _ _); first | (refine get_lo (by k_asm) (by k_mem) (by with_reducible assumption) ?_) | (refine get_tp (by with_reducible assumption) ?_; intro _)) | (refine get_li (by k_asm) (by k_mem) (by omega) (by omega) (by with_reducible assumption) ?_)) | (dsimp only; first | (with_reducible ((with_reducible show wpAny _ _ (subscriptTail _ _ (Value.ref _) (Value.int _ _)) _ _ _); first | ((with_reducible show wpAny _ _ (subscriptTail _ _ (Value.ref _) (Value.int 0 _)) _ _ _); first | (refine get_lo (by k_asm) (by k_mem) (by with_reducible assumption) ?_) | (refine get_tp (by with_reducible assumption) ?_; intro _)) | (refine get_li (by k_asm) (by k_mem) (by omega) (by omega) (by with_reducible assumption) ?_))) | ((with_reducible show wpAny _ _ (binaryOp .Mult _ _) _ _ _); with_reducible ((refine mul_int ?_ (mulOk (by decide))); (try dsimp only))) | (with_reducible ((with_reducible show wpAny _ _ (call (Value.type "bytes") [Value.ref _]) _ _ _); (refine bytes_row (by k_asm) (by k_asm) (by assumption) (by assumption) (by assumption) rfl ?_); intro _ _ _ _ _ _ _; (try dsimp only))) | walk1 | ((with_reducible show wpAny _ _ (subscriptTail _ _ (Value.ref _) (Value.int _ _)) _ _ _); first | ((with_reducible show wpAny _ _ (subscriptTail _ _ (Value.ref _) (Value.int 0 _)) _ _ _); first | (refine get_lo (by k_asm) (by k_mem) (by with_reducible assumption) ?_) | (refine get_tp (by with_reducible assumption) ?_; intro _)) | (refine get_li (by k_asm) (by k_mem) (by omega) (by omega) (by with_reducible assumption) ?_))) | (leave1; (try dsimp only)))
          exact ⟨by rw [List.all_map]; rfl, h7, _, rfl, F7, fun p hp => N7 p (.tail _ hp)⟩
    case fin4 =>
      intro D ys h5 tk5 hys F6 N6 O6
      repeat' ((fail_if_success (with_reducible show Q _ _)); (fail_if_success (with_reducible show wpAny _ _ (call (Value.ref _) _) _ _ _)); (fail_if_success (with_reducible show _ ∧ ∃ _, _)); (fail_if_success (with_reducible show wpAny _ _ (compareOp _ _ _) _ _ _)); first | (k_unfold; (try dsimp only)) | (with_reducible ((with_reducible show wpAny _ _ (subscriptTail _ _ (Value.ref _) (Value.int _ _)) _ _ _); first | ((with_reducible show wpAny _ _ (subscriptTail _ _ (Value.ref _) (Value.int 0 _)) _ _ _); first | (refine get_lo (by k_asm) (by k_mem) (by with_reducible assumption) ?_) | (refine get_tp (by with_reducible assumption) ?_; intro _)) | (refine get_li (by k_asm) (by k_mem) (by omega) (by omega) (by with_reducible assumption) ?_))) | ((with_reducible show wpAny _ _ (binaryOp .Mult _ _) _ _ _); with_reducible ((refine mul_int ?_ (mulOk (by decide))); (try dsimp only))) | (with_reducible ((with_reducible show wpAny _ _ (call (Value.type "bytes") [Value.ref _]) _ _ _); (refine bytes_row (by k_asm) (by k_asm) (by assumption) (by assumption) (by assumption) rfl ?_); intro _ _ _ _ _ _ _; (try dsimp only))) | walk1 | ((with_reducible show wpAny _ _ (subscriptTail _ _ (Value.ref _) (Value.int _ _)) _ _ _); first | ((with_reducible show wpAny _ _ (subscriptTail _ _ (Value.ref _) (Value.int 0 _)) _ _ _); first | (refine get_lo (by k_asm) (by k_mem) (by with_reducible assumption) ?_) | (refine get_tp (by with_reducible assumption) ?_; intro _)) | (refine get_li (by k_asm) (by k_mem) (by omega) (by omega) (by with_reducible assumption) ?_)) | (dsimp only; first | (with_reducible ((with_reducible show wpAny _ _ (subscriptTail _ _ (Value.ref _) (Value.int _ _)) _ _ _); first | ((with_reducible show wpAny _ _ (subscriptTail _ _ (Value.ref _) (Value.int 0 _)) _ _ _); first | (refine get_lo (by k_asm) (by k_mem) (by with_reducible assumption) ?_) | (refine get_tp (by with_reducible assumption) ?_; intro _)) | (refine get_li (by k_asm) (by k_mem) (by omega) (by omega) (by with_reducible assumption) ?_))) | ((with_reducible show wpAny _ _ (binaryOp .Mult _ _) _ _ _); with_reducible ((refine mul_int ?_ (mulOk (by decide))); (try dsimp only))) | (with_reducible ((with_reducible show wpAny _ _ (call (Value.type "bytes") [Value.ref _]) _ _ _); (refine bytes_row (by k_asm) (by k_asm) (by assumption) (by assumption) (by assumption) rfl ?_); intro _ _ _ _ _ _ _; (try dsimp only))) | walk1 | ((with_reducible show wpAny _ _ (subscriptTail _ _ (Value.ref _) (Value.int _ _)) _ _ _); first | ((with_reducible show wpAny _ _ (subscriptTail _ _ (Value.ref _) (Value.int 0 _)) _ _ _); first | (refine get_lo (by k_asm) (by k_mem) (by with_reducible assumption) ?_) | (refine get_tp (by with_reducible assumption) ?_; intro _)) | (refine get_li (by k_asm) (by k_mem) (by omega) (by omega) (by with_reducible assumption) ?_))) | (leave1; (try dsimp only)))
      refine ke_eq_ints (News.isList N6 (.tail _ (.tail _ (.head _)))) (News.isList N6 (.head _)) hbv hys (by show un + 3 + 64 < _; omega) ?_
      exact ⟨congrArg Value.bool (decide_eq_true (pl4 h8 hlay.1 hlay.2 hperm hsort)), h5, _, rfl, hi_mk d1 d2 d3 d4 d5 d6 d7 d8 hE hTE F6 N6 fun _ hp => .tail _ hp⟩

  case D4 =>
  clear hI9
  intro h9 tk9 hI9
  refine andC PP ?R5 ?D5
  case R5 =>
    clear hret
    subst hPP
    have HX := hI9
    refine hi_el HX ?_; intro o1 o2 o3 o4 o5 o6 o7 o8 d1 d2 d3 d4 d5 d6 d7 d8 hE hTE F N
    dsimp only [List.cons_append, List.nil_append] at N
    repeat' ((fail_if_success (with_reducible show Q _ _)); (fail_if_success (with_reducible show wpAny _ _ (call (Value.ref _) _) _ _ _)); (fail_if_success (with_reducible show _ ∧ ∃ _, _)); (fail_if_success (with_reducible show LCg.CompRest _ _ _ _ _ _ _ _ _ _ _ _ _ _ _ _ _ _ _)); (fail_if_success (with_reducible show LCt.CompRestT _ _ _ _ _ _ _ _ _ _ _ _ _ _ _ _ _ _ _ _)); (fail_if_success (with_reducible show wpAny _ _ (eval (Expr.ListComp _ _ _ _) _) _ _ _)); first | (k_unfold; (try dsimp only)) | (with_reducible ((with_reducible show wpAny _ _ (subscriptTail _ _ (Value.ref _) (Value.int _ _)) _ _ _); first | ((with_reducible show wpAny _ _ (subscriptTail _ _ (Value.ref _) (Value.int 0 _)) _ _ _); first | (refine get_lo (by k_asm) (by k_mem) (by with_reducible assumption) ?_) | (refine get_tp (by with_reducible assumption) ?_; intro _)) | (refine get_li (by k_asm) (by k_mem) (by omega) (by omega) (by with_reducible assumption) ?_))) | ((with_reducible show wpAny _ _ (binaryOp .Mult _ _) _ _ _); with_reducible ((refine mul_int ?_ (mulOk (by decide))); (try dsimp only))) | (with_reducible ((with_reducible show wpAny _ _ (call (Value.type "bytes") [Value.ref _]) _ _ _); (refine bytes_row (by k_asm) (by k_asm) (by assumption) (by assumption) (by assumption) rfl ?_); intro _ _ _ _ _ _ _; (try dsimp only))) | walk1 | ((with_reducible show wpAny _ _ (subscriptTail _ _ (Value.ref _) (Value.int _ _)) _ _ _); first | ((with_reducible show wpAny _ _ (subscriptTail _ _ (Value.ref _) (Value.int 0 _)) _ _ _); first | (refine get_lo (by k_asm) (by k_mem) (by with_reducible assumption) ?_) | (refine get_tp (by with_reducible assumption) ?_; intro _)) | (refine get_li (by k_asm) (by k_mem) (by omega) (by omega) (by with_reducible assumption) ?_)) | (dsimp only; first | (with_reducible ((with_reducible show wpAny _ _ (subscriptTail _ _ (Value.ref _) (Value.int _ _)) _ _ _); first | ((with_reducible show wpAny _ _ (subscriptTail _ _ (Value.ref _) (Value.int 0 _)) _ _ _); first | (refine get_lo (by k_asm) (by k_mem) (by with_reducible assumption) ?_) | (refine get_tp (by with_reducible assumption) ?_; intro _)) | (refine get_li (by k_asm) (by k_mem) (by omega) (by omega) (by with_reducible assumption) ?_))) | ((with_reducible show wpAny _ _ (binaryOp .Mult _ _) _ _ _); with_reducible ((refine mul_int ?_ (mulOk (by decide))); (try dsimp only))) | (with_reducible ((with_reducible show wpAny _ _ (call (Value.type "bytes") [Value.ref _]) _ _ _); (refine bytes_row (by k_asm) (by k_asm) (by assumption) (by assumption) (by assumption) rfl ?_); intro _ _ _ _ _ _ _; (try dsimp only))) | walk1 | ((with_reducible show wpAny _ _ (subscriptTail _ _ (Value.ref _) (Value.int _ _)) _ _ _); first | ((with_reducible show wpAny _ _ (subscriptTail _ _ (Value.ref _) (Value.int 0 _)) _ _ _); first | (refine get_lo (by k_asm) (by k_mem) (by with_reducible assumption) ?_) | (refine get_tp (by with_reducible assumption) ?_; intro _)) | (refine get_li (by k_asm) (by k_mem) (by omega) (by omega) (by with_reducible assumption) ?_))) | (leave1; (try dsimp only)))
    refine LCt.ListComp_T (F₀ := F) (by with_unfolding_all rfl) (by decide) (by rfl) (by decide) (by rfl) ?_
    repeat' ((fail_if_success (with_reducible show Q _ _)); (fail_if_success (with_reducible show wpAny _ _ (call (Value.ref _) _) _ _ _)); (fail_if_success (with_reducible show _ ∧ ∃ _, _)); (fail_if_success (with_reducible show LCg.CompRest _ _ _ _ _ _ _ _ _ _ _ _ _ _ _ _ _ _ _)); (fail_if_success (with_reducible show LCt.CompRestT _ _ _ _ _ _ _ _ _ _ _ _ _ _ _ _ _ _ _ _)); first | (k_unfold; (try dsimp only)) | (with_reducible ((with_reducible show wpAny _ _ (subscriptTail _ _ (Value.ref _) (Value.int _ _)) _ _ _); first | ((with_reducible show wpAny _ _ (subscriptTail _ _ (Value.ref _) (Value.int 0 _)) _ _ _); first | (refine get_lo (by k_asm) (by k_mem) (by with_reducible assumption) ?_) | (refine get_tp (by with_reducible assumption) ?_; intro _)) | (refine get_li (by k_asm) (by k_mem) (by omega) (by omega) (by with_reducible assumption) ?_))) | ((with_reducible show wpAny _ _ (binaryOp .Mult _ _) _ _ _); with_reducible ((refine mul_int ?_ (mulOk (by decide))); (try dsimp only))) | (with_reducible ((with_reducible show wpAny _ _ (call (Value.type "bytes") [Value.ref _]) _ _ _); (refine bytes_row (by k_asm) (by k_asm) (by assumption) (by assumption) (by assumption) rfl ?_); intro _ _ _ _ _ _ _; (try dsimp only))) | walk1 | ((with_reducible show wpAny _ _ (subscriptTail _ _ (Value.ref _) (Value.int _ _)) _ _ _); first | ((with_reducible show wpAny _ _ (subscriptTail _ _ (Value.ref _) (Value.int 0 _)) _ _ _); first | (refine get_lo (by k_asm) (by k_mem) (by with_reducible assumption) ?_) | (refine get_tp (by with_reducible assumption) ?_; intro _)) | (refine get_li (by k_asm) (by k_mem) (by omega) (by omega) (by with_reducible assumption) ?_)) | (dsimp only; first | (with_reducible ((with_reducible show wpAny _ _ (subscriptTail _ _ (Value.ref _) (Value.int _ _)) _ _ _); first | ((with_reducible show wpAny _ _ (subscriptTail _ _ (Value.ref _) (Value.int 0 _)) _ _ _); first | (refine get_lo (by k_asm) (by k_mem) (by with_reducible assumption) ?_) | (refine get_tp (by with_reducible assumption) ?_; intro _)) | (refine get_li (by k_asm) (by k_mem) (by omega) (by omega) (by with_reducible assumption) ?_))) | ((with_reducible show wpAny _ _ (binaryOp .Mult _ _) _ _ _); with_reducible ((refine mul_int ?_ (mulOk (by decide))); (try dsimp only))) | (with_reducible ((with_reducible show wpAny _ _ (call (Value.type "bytes") [Value.ref _]) _ _ _); (refine bytes_row (by k_asm) (by k_asm) (by assumption) (by assumption) (by assumption) rfl ?_); intro _ _ _ _ _ _ _; (try dsimp only))) | walk1 | ((with_reducible show wpAny _ _ (subscriptTail _ _ (Value.ref _) (Value.int _ _)) _ _ _); first | ((with_reducible show wpAny _ _ (subscriptTail _ _ (Value.ref _) (Value.int 0 _)) _ _ _); first | (refine get_lo (by k_asm) (by k_mem) (by with_reducible assumption) ?_) | (refine get_tp (by with_reducible assumption) ?_; intro _)) | (refine get_li (by k_asm) (by k_mem) (by omega) (by omega) (by with_reducible assumption) ?_))) | (leave1; (try dsimp only)))
    refine restT 8 (fun n => decide (mv (n : Int) (mv (lay ws) row) = row)) (fun i => (i : Int)) ?turn6 ?fin6 _ 0 [] rfl .nil
    case turn6 =>
      rintro i v I oI C oC D m₂ h tk E' ys hi ⟨t9, rfl⟩ hC hx F2 N2 off ne
      obtain ⟨v, hv⟩ : ∃ v, ims[i]? = some v := ⟨ims[i], by simp⟩
      obtain ⟨yi, ti, rfl, hyi⟩ := hims i v hv
      have hv2 : ims[(0 + (i : Int)).toNat]? = some (Value.bytes yi ti) := by rw [Int.zero_add, Int.toNat_natCast]; exact hv
      clear hv
      repeat' ((fail_if_success (with_reducible show Q _ _)); (fail_if_success (with_reducible show wpAny _ _ (call (Value.ref _) _) _ _ _)); (fail_if_success (with_reducible show _ ∧ ∃ _, _)); (fail_if_success (with_reducible show LCg.CompEnd _ _ _ _ _ _ _ _ _ _ _ _ _ _)); (fail_if_success (with_reducible show wpAny _ _ (compareOp _ _ _) _ _ _)); first | (k_unfold; (try dsimp only)) | (with_reducible ((with_reducible show wpAny _ _ (subscriptTail _ _ (Value.ref _) (Value.int _ _)) _ _ _); first | ((with_reducible show wpAny _ _ (subscriptTail _ _ (Value.ref _) (Value.int 0 _)) _ _ _); first | (refine get_lo (by k_asm) (by k_mem) (by with_reducible assumption) ?_) | (refine get_tp (by with_reducible assumption) ?_; intro _)) | (refine get_li (by k_asm) (by k_mem) (by omega) (by omega) (by with_reducible assumption) ?_))) | ((with_reducible show wpAny _ _ (binaryOp .Mult _ _) _ _ _); with_reducible ((refine mul_int ?_ (mulOk (by decide))); (try dsimp only))) | (with_reducible ((with_reducible show wpAny _ _ (call (Value.type "bytes") [Value.ref _]) _ _ _); (refine bytes_row (by k_asm) (by k_asm) (by assumption) (by assumption) (by assumption) rfl ?_); intro _ _ _ _ _ _ _; (try dsimp only))) | walk1 | ((with_reducible show wpAny _ _ (subscriptTail _ _ (Value.ref _) (Value.int _ _)) _ _ _); first | ((with_reducible show wpAny _ _ (subscriptTail _ _ (Value.ref _) (Value.int 0 _)) _ _ _); first | (refine get_lo (by k_asm) (by k_mem) (by with_reducible assumption) ?_) | (refine get_tp (by with_reducible assumption) ?_; intro _)) | (refine get_li (by k_asm) (by k_mem) (by omega) (by omega) (by with_reducible assumption) ?_)) | (dsimp only; first | (with_reducible ((with_reducible show wpAny _ _ (subscriptTail _ _ (Value.ref _) (Value.int _ _)) _ _ _); first | ((with_reducible show wpAny _ _ (subscriptTail _ _ (Value.ref _) (Value.int 0 _)) _ _ _); first | (refine get_lo (by k_asm) (by k_mem) (by with_reducible assumption) ?_) | (refine get_tp (by with_reducible assumption) ?_; intro _)) | (refine get_li (by k_asm) (by k_mem) (by omega) (by omega) (by with_reducible assumption) ?_))) | ((with_reducible show wpAny _ _ (binaryOp .Mult _ _) _ _ _); with_reducible ((refine mul_int ?_ (mulOk (by decide))); (try dsimp only))) | (with_reducible ((with_reducible show wpAny _ _ (call (Value.type "bytes") [Value.ref _]) _ _ _); (refine bytes_row (by k_asm) (by k_asm) (by assumption) (by assumption) (by assumption) rfl ?_); intro _ _ _ _ _ _ _; (try dsimp only))) | walk1 | ((with_reducible show wpAny _ _ (subscriptTail _ _ (Value.ref _) (Value.int _ _)) _ _ _); first | ((with_reducible show wpAny _ _ (subscriptTail _ _ (Value.ref _) (Value.int 0 _)) _ _ _); first | (refine get_lo (by k_asm) (by k_mem) (by with_reducible assumption) ?_) | (refine get_tp (by with_reducible assumption) ?_; intro _)) | (refine get_li (by k_asm) (by k_mem) (by omega) (by omega) (by with_reducible assumption) ?_))) | (leave1; (try dsimp only)))
      rename_i h5 y5 t5 k5 F5 N5 b5
      refine PySem.W.eq_bytes ?_
      rw [beq_ints hyi b5]
      repeat' ((fail_if_success (with_reducible show Q _ _)); (fail_if_success (with_reducible show wpAny _ _ (call (Value.ref _) _) _ _ _)); (fail_if_success (with_reducible show _ ∧ ∃ _, _)); (fail_if_success (with_reducible show LCg.CompEnd _ _ _ _ _ _ _ _ _ _ _ _ _ _)); (fail_if_success (with_reducible show qk _ _)); first | (k_unfold; (try dsimp only)) | (with_reducible ((with_reducible show wpAny _ _ (subscriptTail _ _ (Value.ref _) (Value.int _ _)) _ _ _); first | ((with_reducible show wpAny _ _ (subscriptTail _ _ (Value.ref _) (Value.int 0 _)) _ _ _); first | (refine get_lo (by k_asm) (by k_mem) (by with_reducible assumption) ?_) | (refine get_tp (by with_reducible assumption) ?_; intro _)) | (refine get_li (by k_asm) (by k_mem) (by omega) (by omega) (by with_reducible assumption) ?_))) | ((with_reducible show wpAny _ _ (binaryOp .Mult _ _) _ _ _); with_reducible ((refine mul_int ?_ (mulOk (by decide))); (try dsimp only))) | (with_reducible ((with_reducible show wpAny _ _ (call (Value.type "bytes") [Value.ref _]) _ _ _); (refine bytes_row (by k_asm) (by k_asm) (by assumption) (by assumption) (by assumption) rfl ?_); intro _ _ _ _ _ _ _; (try dsimp only))) | walk1 | ((with_reducible show wpAny _ _ (subscriptTail _ _ (Value.ref _) (Value.int _ _)) _ _ _); first | ((with_reducible show wpAny _ _ (subscriptTail _ _ (Value.ref _) (Value.int 0 _)) _ _ _); first | (refine get_lo (by k_asm) (by k_mem) (by with_reducible assumption) ?_) | (refine get_tp (by with_reducible assumption) ?_; intro _)) | (refine get_li (by k_asm) (by k_mem) (by omega) (by omega) (by with_reducible assumption) ?_)) | (dsimp only; first | (with_reducible ((with_reducible show wpAny _ _ (subscriptTail _ _ (Value.ref _) (Value.int _ _)) _ _ _); first | ((with_reducible show wpAny _ _ (subscriptTail _ _ (Value.ref _) (Value.int 0 _)) _ _ _); first | (refine get_lo (by k_asm) (by k_mem) (by with_reducible assumption) ?_) | (refine get_tp (by with_reducible assumption) ?_; intro _)) | (refine get_li (by k_asm) (by k_mem) (by omega) (by omega) (by with_reducible assumption) ?_))) | ((with_reducible show wpAny _ _ (binaryOp .Mult _ _) _ _ _); with_reducible ((refine mul_int ?_ (mulOk (by decide))); (try dsimp only))) | (with_reducible ((with_reducible show wpAny _ _ (call (Value.type "bytes") [Value.ref _]) _ _ _); (refine bytes_row (by k_asm) (by k_asm) (by assumption) (by assumption) (by assumption) rfl ?_); intro _ _ _ _ _ _ _; (try dsimp only))) | walk1 | ((with_reducible show wpAny _ _ (subscriptTail _ _ (Value.ref _) (Value.int _ _)) _ _ _); first | ((with_reducible show wpAny _ _ (subscriptTail _ _ (Value.ref _) (Value.int 0 _)) _ _ _); first | (refine get_lo (by k_asm) (by k_mem) (by with_reducible assumption) ?_) | (refine get_tp (by with_reducible assumption) ?_; intro _)) | (refine get_li (by k_asm) (by k_mem) (by omega) (by omega) (by with_reducible assumption) ?_))) | (leave1; (try dsimp only)))
      refine ⟨rfl, fun _ => ?_, fun _ => ?_⟩
      · repeat' ((fail_if_success (with_reducible show Q _ _)); (fail_if_success (with_reducible show wpAny _ _ (call (Value.ref _) _) _ _ _)); (fail_if_success (with_reducible show _ ∧ ∃ _, _)); (fail_if_success (with_reducible show LCg.CompEnd _ _ _ _ _ _ _ _ _ _ _ _ _ _)); first | (k_unfold; (try dsimp only)) | (with_reducible ((with_reducible show wpAny _ _ (subscriptTail _ _ (Value.ref _) (Value.int _ _)) _ _ _); first | ((with_reducible show wpAny _ _ (subscriptTail _ _ (Value.ref _) (Value.int 0 _)) _ _ _); first | (refine get_lo (by k_asm) (by k_mem) (by with_reducible assumption) ?_) | (refine get_tp (by with_reducible assumption) ?_; intro _)) | (refine get_li (by k_asm) (by k_mem) (by omega) (by omega) (by with_reducible assumption) ?_))) | ((with_reducible show wpAny _ _ (binaryOp .Mult _ _) _ _ _); with_reducible ((refine mul_int ?_ (mulOk (by decide))); (try dsimp only))) | (with_reducible ((with_reducible show wpAny _ _ (call (Value.type "bytes") [Value.ref _]) _ _ _); (refine bytes_row (by k_asm) (by k_asm) (by assumption) (by assumption) (by assumption) rfl ?_); intro _ _ _ _ _ _ _; (try dsimp only))) | walk1 | ((with_reducible show wpAny _ _ (subscriptTail _ _ (Value.ref _) (Value.int _ _)) _ _ _); first | ((with_reducible show wpAny _ _ (subscriptTail _ _ (Value.ref _) (Value.int 0 _)) _ _ _); first | (refine get_lo (by k_asm) (by k_mem) (by with_reducible assumption) ?_) | (refine get_tp (by with_reducible assumption) ?_; intro _)) | (refine get_li (by k_asm) (by k_mem) (by omega) (by omega) (by with_reducible assumption) ?_)) | (dsimp only; first | (with_reducible ((with_reducible show wpAny _ _ (subscriptTail _ _ (Value.ref _) (Value.int _ _)) _ _ _); first | ((with_reducible show wpAny _ _ (subscriptTail _ _ (Value.ref _) (Value.int 0 _)) _ _ _); first | (refine get_lo (by k_asm) (by k_mem) (by with_reducible assumption) ?_) | (refine get_tp (by with_reducible assumption) ?_; intro _)) | (refine get_li (by k_asm) (by k_mem) (by omega) (by omega) (by with_reducible assumption) ?_))) | ((with_reducible show wpAny _ _ (binaryOp .Mult _ _) _ _ _); with_reducible ((refine mul_int ?_ (mulOk (by decide))); (try dsimp only))) | (with_reducible ((with_reducible show wpAny _ _ (call (Value.type "bytes") [Value.ref _]) _ _ _); (refine bytes_row (by k_asm) (by k_asm) (by assumption) (by assumption) (by assumption) rfl ?_); intro _ _ _ _ _ _ _; (try dsimp only))) | walk1 | ((with_reducible show wpAny _ _ (subscriptTail _ _ (Value.ref _) (Value.int _ _)) _ _ _); first | ((with_reducible show wpAny _ _ (subscriptTail _ _ (Value.ref _) (Value.int 0 _)) _ _ _); first | (refine get_lo (by k_asm) (by k_mem) (by with_reducible assumption) ?_) | (refine get_tp (by with_reducible assumption) ?_; intro _)) | (refine get_li (by k_asm) (by k_mem) (by omega) (by omega) (by with_reducible assumption) ?_))) | (leave1; (try dsimp only)))
        exact LCg.CompEnd.intro F5 N5 _ (fun _ hp => hp) off trivial ⟨rfl, t9, by rw [Int.zero_add]⟩
      · exact LCg.CompEnd.intro F5 N5 _ (fun _ hp => hp) off trivial rfl
    case fin6 =>
      intro ys hys D h5 tk5 F6 N6 O6
      repeat' ((fail_if_success (with_reducible show Q _ _)); (fail_if_success (with_reducible show wpAny _ _ (call (Value.ref _) _) _ _ _)); (fail_if_success (with_reducible show _ ∧ ∃ _, _)); (fail_if_success (with_reducible show wpAny _ _ (compareOp _ _ _) _ _ _)); first | (k_unfold; (try dsimp only)) | (with_reducible ((with_reducible show wpAny _ _ (subscriptTail _ _ (Value.ref _) (Value.int _ _)) _ _ _); first | ((with_reducible show wpAny _ _ (subscriptTail _ _ (Value.ref _) (Value.int 0 _)) _ _ _); first | (refine get_lo (by k_asm) (by k_mem) (by with_reducible assumption) ?_) | (refine get_tp (by with_reducible assumption) ?_; intro _)) | (refine get_li (by k_asm) (by k_mem) (by omega) (by omega) (by with_reducible assumption) ?_))) | ((with_reducible show wpAny _ _ (binaryOp .Mult _ _) _ _ _); with_reducible ((refine mul_int ?_ (mulOk (by decide))); (try dsimp only))) | (with_reducible ((with_reducible show wpAny _ _ (call (Value.type "bytes") [Value.ref _]) _ _ _); (refine bytes_row (by k_asm) (by k_asm) (by assumption) (by assumption) (by assumption) rfl ?_); intro _ _ _ _ _ _ _; (try dsimp only))) | walk1 | ((with_reducible show wpAny _ _ (subscriptTail _ _ (Value.ref _) (Value.int _ _)) _ _ _); first | ((with_reducible show wpAny _ _ (subscriptTail _ _ (Value.ref _) (Value.int 0 _)) _ _ _); first | (refine get_lo (by k_asm) (by k_mem) (by with_reducible assumption) ?_) | (refine get_tp (by with_reducible assumption) ?_; intro _)) | (refine get_li (by k_asm) (by k_mem) (by omega) (by omega) (by with_reducible assumption) ?_)) | (dsimp only; first | (with_reducible ((with_reducible show wpAny _ _ (subscriptTail _ _ (Value.ref _) (Value.int _ _)) _ _ _); first | ((with_reducible show wpAny _ _ (subscriptTail _ _ (Value.ref _) (Value.int 0 _)) _ _ _); first | (refine get_lo (by k_asm) (by k_mem) (by with_reducible assumption) ?_) | (refine get_tp (by with_reducible assumption) ?_; intro _)) | (refine get_li (by k_asm) (by k_mem) (by omega) (by omega) (by with_reducible assumption) ?_))) | ((with_reducible show wpAny _ _ (binaryOp .Mult _ _) _ _ _); with_reducible ((refine mul_int ?_ (mulOk (by decide))); (try dsimp only))) | (with_reducible ((with_reducible show wpAny _ _ (call (Value.type "bytes") [Value.ref _]) _ _ _); (refine bytes_row (by k_asm) (by k_asm) (by assumption) (by assumption) (by assumption) rfl ?_); intro _ _ _ _ _ _ _; (try dsimp only))) | walk1 | ((with_reducible show wpAny _ _ (subscriptTail _ _ (Value.ref _) (Value.int _ _)) _ _ _); first | ((with_reducible show wpAny _ _ (subscriptTail _ _ (Value.ref _) (Value.int 0 _)) _ _ _); first | (refine get_lo (by k_asm) (by k_mem) (by with_reducible assumption) ?_) | (refine get_tp (by with_reducible assumption) ?_; intro _)) | (refine get_li (by k_asm) (by k_mem) (by omega) (by omega) (by with_reducible assumption) ?_))) | (leave1; (try dsimp only)))
      refine ke_eq_ints (News.isList N6 (.tail _ (.tail _ (.head _)))) (News.isList N6 (.head _)) hbv hys (by show un + 3 + 64 < _; omega) ?_
      exact ⟨congrArg Value.bool (decide_eq_true (pl5 h8 hlay.1 hlay.2 hperm hsort)), h5, _, rfl, hi_mk d1 d2 d3 d4 d5 d6 d7 d8 hE hTE F6 N6 fun _ hp => .tail _ hp⟩

  case D5 =>
  clear hI9
  intro h9 tk9 hI9
  refine andC PP ?R6 ?D6
  case R6 =>
    clear hret
    subst hPP
    have HX := hI9
    refine hi_el HX ?_; intro o1 o2 o3 o4 o5 o6 o7 o8 d1 d2 d3 d4 d5 d6 d7 d8 hE hTE F N
    dsimp only [List.cons_append, List.nil_append] at N
    repeat' ((fail_if_success (with_reducible show Q _ _)); (fail_if_success (with_reducible show wpAny _ _ (call (Value.ref _) _) _ _ _)); (fail_if_success (with_reducible show _ ∧ ∃ _, _)); (fail_if_success (with_reducible show wpAny _ _ (subscriptTail _ _ _ _) _ _ _)); first | (k_unfold; (try dsimp only)) | (with_reducible ((with_reducible show wpAny _ _ (subscriptTail _ _ (Value.ref _) (Value.int _ _)) _ _ _); first | ((with_reducible show wpAny _ _ (subscriptTail _ _ (Value.ref _) (Value.int 0 _)) _ _ _); first | (refine get_lo (by k_asm) (by k_mem) (by with_reducible assumption) ?_) | (refine get_tp (by with_reducible assumption) ?_; intro _)) | (refine get_li (by k_asm) (by k_mem) (by omega) (by omega) (by with_reducible assumption) ?_))) | ((with_reducible show wpAny _ _ (binaryOp .Mult _ _) _ _ _); with_reducible ((refine mul_int ?_ (mulOk (by decide))); (try dsimp only))) | (with_reducible ((with_reducible show wpAny _ _ (call (Value.type "bytes") [Value.ref _]) _ _ _); (refine bytes_row (by k_asm) (by k_asm) (by assumption) (by assumption) (by assumption) rfl ?_); intro _ _ _ _ _ _ _; (try dsimp only))) | walk1 | ((with_reducible show wpAny _ _ (subscriptTail _ _ (Value.ref _) (Value.int _ _)) _ _ _); first | ((with_reducible show wpAny _ _ (subscriptTail _ _ (Value.ref _) (Value.int 0 _)) _ _ _); first | (refine get_lo (by k_asm) (by k_mem) (by with_reducible assumption) ?_) | (refine get_tp (by with_reducible assumption) ?_; intro _)) | (refine get_li (by k_asm) (by k_mem) (by omega) (by omega) (by with_reducible assumption) ?_)) | (dsimp only; first | (with_reducible ((with_reducible show wpAny _ _ (subscriptTail _ _ (Value.ref _) (Value.int _ _)) _ _ _); first | ((with_reducible show wpAny _ _ (subscriptTail _ _ (Value.ref _) (Value.int 0 _)) _ _ _); first | (refine get_lo (by k_asm) (by k_mem) (by with_reducible assumption) ?_) | (refine get_tp (by with_reducible assumption) ?_; intro _)) | (refine get_li (by k_asm) (by k_mem) (by omega) (by omega) (by with_reducible assumption) ?_))) | ((with_reducible show wpAny _ _ (binaryOp .Mult _ _) _ _ _); with_reducible ((refine mul_int ?_ (mulOk (by decide))); (try dsimp only))) | (with_reducible ((with_reducible show wpAny _ _ (call (Value.type "bytes") [Value.ref _]) _ _ _); (refine bytes_row (by k_asm) (by k_asm) (by assumption) (by assumption) (by assumption) rfl ?_); intro _ _ _ _ _ _ _; (try dsimp only))) | walk1 | ((with_reducible show wpAny _ _ (subscriptTail _ _ (Value.ref _) (Value.int _ _)) _ _ _); first | ((with_reducible show wpAny _ _ (subscriptTail _ _ (Value.ref _) (Value.int 0 _)) _ _ _); first | (refine get_lo (by k_asm) (by k_mem) (by with_reducible assumption) ?_) | (refine get_tp (by with_reducible assumption) ?_; intro _)) | (refine get_li (by k_asm) (by k_mem) (by omega) (by omega) (by with_reducible assumption) ?_))) | (leave1; (try dsimp only)))
    have p0 := tu_tp hTU (j := 0) (by omega) (fun p hp => (N p (by iterate 15 apply List.Mem.tail
                                                                   exact hp)).1)
    have l0 : 0 < (Tt.map (·.1)).length := by rw [List.length_map]; omega
    repeat' ((fail_if_success (with_reducible show Q _ _)); (fail_if_success (with_reducible show wpAny _ _ (call (Value.ref _) _) _ _ _)); (fail_if_success (with_reducible show _ ∧ ∃ _, _)); first | (k_unfold; (try dsimp only)) | (with_reducible ((with_reducible show wpAny _ _ (subscriptTail _ _ (Value.ref _) (Value.int _ _)) _ _ _); first | ((with_reducible show wpAny _ _ (subscriptTail _ _ (Value.ref _) (Value.int 0 _)) _ _ _); first | (refine get_lo (by k_asm) (by k_mem) (by with_reducible assumption) ?_) | (refine get_tp (by with_reducible assumption) ?_; intro _)) | (refine get_li (by k_asm) (by k_mem) (by omega) (by omega) (by with_reducible assumption) ?_))) | ((with_reducible show wpAny _ _ (binaryOp .Mult _ _) _ _ _); with_reducible ((refine mul_int ?_ (mulOk (by decide))); (try dsimp only))) | (with_reducible ((with_reducible show wpAny _ _ (call (Value.type "bytes") [Value.ref _]) _ _ _); (refine bytes_row (by k_asm) (by k_asm) (by assumption) (by assumption) (by assumption) rfl ?_); intro _ _ _ _ _ _ _; (try dsimp only))) | walk1 | ((with_reducible show wpAny _ _ (subscriptTail _ _ (Value.ref _) (Value.int _ _)) _ _ _); first | ((with_reducible show wpAny _ _ (subscriptTail _ _ (Value.ref _) (Value.int 0 _)) _ _ _); first | (refine get_lo (by k_asm) (by k_mem) (by with_reducible assumption) ?_) | (refine get_tp (by with_reducible assumption) ?_; intro _)) | (refine get_li (by k_asm) (by k_mem) (by omega) (by omega) (by with_reducible assumption) ?_)) | (dsimp only; first | (with_reducible ((with_reducible show wpAny _ _ (subscriptTail _ _ (Value.ref _) (Value.int _ _)) _ _ _); first | ((with_reducible show wpAny _ _ (subscriptTail _ _ (Value.ref _) (Value.int 0 _)) _ _ _); first | (refine get_lo (by k_asm) (by k_mem) (by with_reducible assumption) ?_) | (refine get_tp (by with_reducible assumption) ?_; intro _)) | (refine get_li (by k_asm) (by k_mem) (by omega) (by omega) (by with_reducible assumption) ?_))) | ((with_reducible show wpAny _ _ (binaryOp .Mult _ _) _ _ _); with_reducible ((refine mul_int ?_ (mulOk (by decide))); (try dsimp only))) | (with_reducible ((with_reducible show wpAny _ _ (call (Value.type "bytes") [Value.ref _]) _ _ _); (refine bytes_row (by k_asm) (by k_asm) (by assumption) (by assumption) (by assumption) rfl ?_); intro _ _ _ _ _ _ _; (try dsimp only))) | walk1 | ((with_reducible show wpAny _ _ (subscriptTail _ _ (Value.ref _) (Value.int _ _)) _ _ _); first | ((with_reducible show wpAny _ _ (subscriptTail _ _ (Value.ref _) (Value.int 0 _)) _ _ _); first | (refine get_lo (by k_asm) (by k_mem) (by with_reducible assumption) ?_) | (refine get_tp (by with_reducible assumption) ?_; intro _)) | (refine get_li (by k_asm) (by k_mem) (by omega) (by omega) (by with_reducible assumption) ?_))) | (leave1; (try dsimp only)))
    refine prod_c (h₀ := g) (x := #[]) (t := 0) X' T' F.keep (by show dp + 1 < _; omega) (hLr.keep F.keep) h8 (hLr.keep F.keep) h8 hbn fun D1 ys1 h5 tk5 kk5 hi5 eD5 hD5 => ?_
    have F1 := F.keeps kk5
    have N1 := (newsK F N kk5 eD5 hD5).1
    clear F N
    repeat' ((fail_if_success (with_reducible show Q _ _)); (fail_if_success (with_reducible show wpAny _ _ (call (Value.ref _) _) _ _ _)); (fail_if_success (with_reducible show _ ∧ ∃ _, _)); first | (k_unfold; (try dsimp only)) | (with_reducible ((with_reducible show wpAny _ _ (subscriptTail _ _ (Value.ref _) (Value.int _ _)) _ _ _); first | ((with_reducible show wpAny _ _ (subscriptTail _ _ (Value.ref _) (Value.int 0 _)) _ _ _); first | (refine get_lo (by k_asm) (by k_mem) (by with_reducible assumption) ?_) | (refine get_tp (by with_reducible assumption) ?_; intro _)) | (refine get_li (by k_asm) (by k_mem) (by omega) (by omega) (by with_reducible assumption) ?_))) | ((with_reducible show wpAny _ _ (binaryOp .Mult _ _) _ _ _); with_reducible ((refine mul_int ?_ (mulOk (by decide))); (try dsimp only))) | (with_reducible ((with_reducible show wpAny _ _ (call (Value.type "bytes") [Value.ref _]) _ _ _); (refine bytes_row (by k_asm) (by k_asm) (by assumption) (by assumption) (by assumption) rfl ?_); intro _ _ _ _ _ _ _; (try dsimp only))) | walk1 | ((with_reducible show wpAny _ _ (subscriptTail _ _ (Value.ref _) (Value.int _ _)) _ _ _); first | ((with_reducible show wpAny _ _ (subscriptTail _ _ (Value.ref _) (Value.int 0 _)) _ _ _); first | (refine get_lo (by k_asm) (by k_mem) (by with_reducible assumption) ?_) | (refine get_tp (by with_reducible assumption) ?_; intro _)) | (refine get_li (by k_asm) (by k_mem) (by omega) (by omega) (by with_reducible assumption) ?_)) | (dsimp only; first | (with_reducible ((with_reducible show wpAny _ _ (subscriptTail _ _ (Value.ref _) (Value.int _ _)) _ _ _); first | ((with_reducible show wpAny _ _ (subscriptTail _ _ (Value.ref _) (Value.int 0 _)) _ _ _); first | (refine get_lo (by k_asm) (by k_mem) (by with_reducible assumption) ?_) | (refine get_tp (by with_reducible assumption) ?_; intro _)) | (refine get_li (by k_asm) (by k_mem) (by omega) (by omega) (by with_reducible assumption) ?_))) | ((with_reducible show wpAny _ _ (binaryOp .Mult _ _) _ _ _); with_reducible ((refine mul_int ?_ (mulOk (by decide))); (try dsimp only))) | (with_reducible ((with_reducible show wpAny _ _ (call (Value.type "bytes") [Value.ref _]) _ _ _); (refine bytes_row (by k_asm) (by k_asm) (by assumption) (by assumption) (by assumption) rfl ?_); intro _ _ _ _ _ _ _; (try dsimp only))) | walk1 | ((with_reducible show wpAny _ _ (subscriptTail _ _ (Value.ref _) (Value.int _ _)) _ _ _); first | ((with_reducible show wpAny _ _ (subscriptTail _ _ (Value.ref _) (Value.int 0 _)) _ _ _); first | (refine get_lo (by k_asm) (by k_mem) (by with_reducible assumption) ?_) | (refine get_tp (by with_reducible assumption) ?_; intro _)) | (refine get_li (by k_asm) (by k_mem) (by omega) (by omega) (by with_reducible assumption) ?_))) | (leave1; (try dsimp only)))
    rename_i h7 tk7 t7 F7 N7
    exact ⟨congrArg Value.bool (by rw [pl6 h8 hlay.1 hlay.2 hperm hsort]; exact beq_self_eq_true _), h7, _, rfl, hi_mk d1 d2 d3 d4 d5 d6 d7 d8 hE hTE F7 N7 fun _ hp => .tail _ hp⟩

  case D6 =>
  clear hI9
  intro h9 tk9 hI9
  refine andC PP ?R7 ?D7
  case R7 =>
    clear hret
    subst hPP
    have HX := hI9
    refine hi_el HX ?_; intro o1 o2 o3 o4 o5 o6 o7 o8 d1 d2 d3 d4 d5 d6 d7 d8 hE hTE F N
    dsimp only [List.cons_append, List.nil_append] at N
    repeat' ((fail_if_success (with_reducible show Q _ _)); (fail_if_success (with_reducible show wpAny _ _ (call (Value.ref _) _) _ _ _)); (fail_if_success (with_reducible show _ ∧ ∃ _, _)); (fail_if_success (with_reducible show wpAny _ _ (eval (Expr.ListComp _ _ _ _) _) _ _ _)); first | (k_unfold; (try dsimp only)) | (with_reducible ((with_reducible show wpAny _ _ (subscriptTail _ _ (Value.ref _) (Value.int _ _)) _ _ _); first | ((with_reducible show wpAny _ _ (subscriptTail _ _ (Value.ref _) (Value.int 0 _)) _ _ _); first | (refine get_lo (by k_asm) (by k_mem) (by with_reducible assumption) ?_) | (refine get_tp (by with_reducible assumption) ?_; intro _)) | (refine get_li (by k_asm) (by k_mem) (by omega) (by omega) (by with_reducible assumption) ?_))) | ((with_reducible show wpAny _ _ (binaryOp .Mult _ _) _ _ _); with_reducible ((refine mul_int ?_ (mulOk (by decide))); (try dsimp only))) | (with_reducible ((with_reducible show wpAny _ _ (call (Value.type "bytes") [Value.ref _]) _ _ _); (refine bytes_row (by k_asm) (by k_asm) (by assumption) (by assumption) (by assumption) rfl ?_); intro _ _ _ _ _ _ _; (try dsimp only))) | walk1 | ((with_reducible show wpAny _ _ (subscriptTail _ _ (Value.ref _) (Value.int _ _)) _ _ _); first | ((with_reducible show wpAny _ _ (subscriptTail _ _ (Value.ref _) (Value.int 0 _)) _ _ _); first | (refine get_lo (by k_asm) (by k_mem) (by with_reducible assumption) ?_) | (refine get_tp (by with_reducible assumption) ?_; intro _)) | (refine get_li (by k_asm) (by k_mem) (by omega) (by omega) (by with_reducible assumption) ?_)) | (dsimp only; first | (with_reducible ((with_reducible show wpAny _ _ (subscriptTail _ _ (Value.ref _) (Value.int _ _)) _ _ _); first | ((with_reducible show wpAny _ _ (subscriptTail _ _ (Value.ref _) (Value.int 0 _)) _ _ _); first | (refine get_lo (by k_asm) (by k_mem) (by with_reducible assumption) ?_) | (refine get_tp (by with_reducible assumption) ?_; intro _)) | (refine get_li (by k_asm) (by k_mem) (by omega) (by omega) (by with_reducible assumption) ?_))) | ((with_reducible show wpAny _ _ (binaryOp .Mult _ _) _ _ _); with_reducible ((refine mul_int ?_ (mulOk (by decide))); (try dsimp only))) | (with_reducible ((with_reducible show wpAny _ _ (call (Value.type "bytes") [Value.ref _]) _ _ _); (refine bytes_row (by k_asm) (by k_asm) (by assumption) (by assumption) (by assumption) rfl ?_); intro _ _ _ _ _ _ _; (try dsimp only))) | walk1 | ((with_reducible show wpAny _ _ (subscriptTail _ _ (Value.ref _) (Value.int _ _)) _ _ _); first | ((with_reducible show wpAny _ _ (subscriptTail _ _ (Value.ref _) (Value.int 0 _)) _ _ _); first | (refine get_lo (by k_asm) (by k_mem) (by with_reducible assumption) ?_) | (refine get_tp (by with_reducible assumption) ?_; intro _)) | (refine get_li (by k_asm) (by k_mem) (by omega) (by omega) (by with_reducible assumption) ?_))) | (leave1; (try dsimp only)))
    have hsml : (SM row (lay ws)).length = 8 := rfl
    refine LCg.ListComp_U (F₀ := F) (by with_unfolding_all rfl) (by decide) (by rfl) (by decide) (by rfl) ?_
    repeat' ((fail_if_success (with_reducible show Q _ _)); (fail_if_success (with_reducible show wpAny _ _ (call (Value.ref _) _) _ _ _)); (fail_if_success (with_reducible show _ ∧ ∃ _, _)); (fail_if_success (with_reducible show LCg.CompRest _ _ _ _ _ _ _ _ _ _ _ _ _ _ _ _ _ _ _)); first | (k_unfold; (try dsimp only)) | (with_reducible ((with_reducible show wpAny _ _ (subscriptTail _ _ (Value.ref _) (Value.int _ _)) _ _ _); first | ((with_reducible show wpAny _ _ (subscriptTail _ _ (Value.ref _) (Value.int 0 _)) _ _ _); first | (refine get_lo (by k_asm) (by k_mem) (by with_reducible assumption) ?_) | (refine get_tp (by with_reducible assumption) ?_; intro _)) | (refine get_li (by k_asm) (by k_mem) (by omega) (by omega) (by with_reducible assumption) ?_))) | ((with_reducible show wpAny _ _ (binaryOp .Mult _ _) _ _ _); with_reducible ((refine mul_int ?_ (mulOk (by decide))); (try dsimp only))) | (with_reducible ((with_reducible show wpAny _ _ (call (Value.type "bytes") [Value.ref _]) _ _ _); (refine bytes_row (by k_asm) (by k_asm) (by assumption) (by assumption) (by assumption) rfl ?_); intro _ _ _ _ _ _ _; (try dsimp only))) | walk1 | ((with_reducible show wpAny _ _ (subscriptTail _ _ (Value.ref _) (Value.int _ _)) _ _ _); first | ((with_reducible show wpAny _ _ (subscriptTail _ _ (Value.ref _) (Value.int 0 _)) _ _ _); first | (refine get_lo (by k_asm) (by k_mem) (by with_reducible assumption) ?_) | (refine get_tp (by with_reducible assumption) ?_; intro _)) | (refine get_li (by k_asm) (by k_mem) (by omega) (by omega) (by with_reducible assumption) ?_)) | (dsimp only; first | (with_reducible ((with_reducible show wpAny _ _ (subscriptTail _ _ (Value.ref _) (Value.int _ _)) _ _ _); first | ((with_reducible show wpAny _ _ (subscriptTail _ _ (Value.ref _) (Value.int 0 _)) _ _ _); first | (refine get_lo (by k_asm) (by k_mem) (by with_reducible assumption) ?_) | (refine get_tp (by with_reducible assumption) ?_; intro _)) | (refine get_li (by k_asm) (by k_mem) (by omega) (by omega) (by with_reducible assumption) ?_))) | ((with_reducible show wpAny _ _ (binaryOp .Mult _ _) _ _ _); with_reducible ((refine mul_int ?_ (mulOk (by decide))); (try dsimp only))) | (with_reducible ((with_reducible show wpAny _ _ (call (Value.type "bytes") [Value.ref _]) _ _ _); (refine bytes_row (by k_asm) (by k_asm) (by assumption) (by assumption) (by assumption) rfl ?_); intro _ _ _ _ _ _ _; (try dsimp only))) | walk1 | ((with_reducible show wpAny _ _ (subscriptTail _ _ (Value.ref _) (Value.int _ _)) _ _ _); first | ((with_reducible show wpAny _ _ (subscriptTail _ _ (Value.ref _) (Value.int 0 _)) _ _ _); first | (refine get_lo (by k_asm) (by k_mem) (by with_reducible assumption) ?_) | (refine get_tp (by with_reducible assumption) ?_; intro _)) | (refine get_li (by k_asm) (by k_mem) (by omega) (by omega) (by with_reducible assumption) ?_))) | (leave1; (try dsimp only)))
    refine restJ 8 (fun i ys nws => ∃ T2 : List (Addr × Obj), nws = [(lf, LCg.lst lv), (be, LCg.lst bv), (td, LO (Tt.map (·.1)) tn), (th, LCg.lst tv), (ou, LCg.lst ov), (sm, LCg.lst sv), (im, LCg.lst ims)] ++ ([(L' + 1 + 1 + 1 + 1 + 1 + 1 + 1 + 1, o1), (L' + 1 + 1 + 1 + 1 + 1 + 1 + 1, o2), (L' + 1 + 1 + 1 + 1 + 1 + 1, o3), (L' + 1 + 1 + 1 + 1 + 1, o4), (L' + 1 + 1 + 1 + 1, o5), (L' + 1 + 1 + 1, o6), (L' + 1 + 1, o7), (L' + 1, o8)] ++ (Tt ++ T2)) ∧ TT T2 (SM row (lay ws)) ∧ T2.length = i ∧ ys = T2.map fun p => Value.ref p.1) ?turn7 ?fin7 8 0 [] _ rfl ⟨[], by rw [List.append_nil]; rfl, fun j p h => by simp at h, rfl, rfl⟩
    case turn7 =>
      rintro i v I oI C oC D m₂ h tk E' ys nws hi ⟨t9, rfl⟩ ⟨T2, rfl, hT2, hTl, rfl⟩ hC hx F2 N2 off ne
      have N3 := N2
      simp only [List.cons_append, List.nil_append] at N3
      repeat' ((fail_if_success (with_reducible show Q _ _)); (fail_if_success (with_reducible show wpAny _ _ (call (Value.ref _) _) _ _ _)); (fail_if_success (with_reducible show LCg.CompEnd _ _ _ _ _ _ _ _ _ _ _ _ _ _)); first | (k_unfold; (try dsimp only)) | (with_reducible ((with_reducible show wpAny _ _ (subscriptTail _ _ (Value.ref _) (Value.int _ _)) _ _ _); first | ((with_reducible show wpAny _ _ (subscriptTail _ _ (Value.ref _) (Value.int 0 _)) _ _ _); first | (refine get_lo (by k_asm) (by k_mem) (by with_reducible assumption) ?_) | (refine get_tp (by with_reducible assumption) ?_; intro _)) | (refine get_li (by k_asm) (by k_mem) (by omega) (by omega) (by with_reducible assumption) ?_))) | ((with_reducible show wpAny _ _ (binaryOp .Mult _ _) _ _ _); with_reducible ((refine mul_int ?_ (mulOk (by decide))); (try dsimp only))) | (with_reducible ((with_reducible show wpAny _ _ (call (Value.type "bytes") [Value.ref _]) _ _ _); (refine bytes_row (by k_asm) (by k_asm) (by assumption) (by assumption) (by assumption) rfl ?_); intro _ _ _ _ _ _ _; (try dsimp only))) | walk1 | ((with_reducible show wpAny _ _ (subscriptTail _ _ (Value.ref _) (Value.int _ _)) _ _ _); first | ((with_reducible show wpAny _ _ (subscriptTail _ _ (Value.ref _) (Value.int 0 _)) _ _ _); first | (refine get_lo (by k_asm) (by k_mem) (by with_reducible assumption) ?_) | (refine get_tp (by with_reducible assumption) ?_; intro _)) | (refine get_li (by k_asm) (by k_mem) (by omega) (by omega) (by with_reducible assumption) ?_)) | (dsimp only; first | (with_reducible ((with_reducible show wpAny _ _ (subscriptTail _ _ (Value.ref _) (Value.int _ _)) _ _ _); first | ((with_reducible show wpAny _ _ (subscriptTail _ _ (Value.ref _) (Value.int 0 _)) _ _ _); first | (refine get_lo (by k_asm) (by k_mem) (by with_reducible assumption) ?_) | (refine get_tp (by with_reducible assumption) ?_; intro _)) | (refine get_li (by k_asm) (by k_mem) (by omega) (by omega) (by with_reducible assumption) ?_))) | ((with_reducible show wpAny _ _ (binaryOp .Mult _ _) _ _ _); with_reducible ((refine mul_int ?_ (mulOk (by decide))); (try dsimp only))) | (with_reducible ((with_reducible show wpAny _ _ (call (Value.type "bytes") [Value.ref _]) _ _ _); (refine bytes_row (by k_asm) (by k_asm) (by assumption) (by assumption) (by assumption) rfl ?_); intro _ _ _ _ _ _ _; (try dsimp only))) | walk1 | ((with_reducible show wpAny _ _ (subscriptTail _ _ (Value.ref _) (Value.int _ _)) _ _ _); first | ((with_reducible show wpAny _ _ (subscriptTail _ _ (Value.ref _) (Value.int 0 _)) _ _ _); first | (refine get_lo (by k_asm) (by k_mem) (by with_reducible assumption) ?_) | (refine get_tp (by with_reducible assumption) ?_; intro _)) | (refine get_li (by k_asm) (by k_mem) (by omega) (by omega) (by with_reducible assumption) ?_))) | (leave1; (try dsimp only)))
      rename_i t2 D2 h2 F4 N4 l1
      simp only [Int.zero_add, Int.toNat_natCast] at N4
      obtain ⟨oo, N5, hoc, hod⟩ : ∃ oo : Obj, News g L' h2 ((D2, oo) :: (I, oI) :: (C, oC) :: (D, _) :: ([(lf, LCg.lst lv), (be, LCg.lst bv), (td, LO (Tt.map (·.1)) tn), (th, LCg.lst tv), (ou, LCg.lst ov), (sm, LCg.lst sv), (im, LCg.lst ims)] ++ ([(L' + 1 + 1 + 1 + 1 + 1 + 1 + 1 + 1, o1), (L' + 1 + 1 + 1 + 1 + 1 + 1 + 1, o2), (L' + 1 + 1 + 1 + 1 + 1 + 1, o3), (L' + 1 + 1 + 1 + 1 + 1, o4), (L' + 1 + 1 + 1 + 1, o5), (L' + 1 + 1 + 1, o6), (L' + 1 + 1, o7), (L' + 1, o8)] ++ (Tt ++ T2)))) ∧ oo.cls = Value.type "tuple" ∧ ∃ t u n, oo.data = .seq #[Value.int (-((SM row (lay ws)).getD i 0)) t, Value.int (i : Int) u] n := ⟨_, N4, rfl, _, _, _, rfl⟩
      refine LCg.CompEnd.intro F4 N5 ([(lf, LCg.lst lv), (be, LCg.lst bv), (td, LO (Tt.map (·.1)) tn), (th, LCg.lst tv), (ou, LCg.lst ov), (sm, LCg.lst sv), (im, LCg.lst ims)] ++ ([(L' + 1 + 1 + 1 + 1 + 1 + 1 + 1 + 1, o1), (L' + 1 + 1 + 1 + 1 + 1 + 1 + 1, o2), (L' + 1 + 1 + 1 + 1 + 1 + 1, o3), (L' + 1 + 1 + 1 + 1 + 1, o4), (L' + 1 + 1 + 1 + 1, o5), (L' + 1 + 1 + 1, o6), (L' + 1 + 1, o7), (L' + 1, o8)] ++ (Tt ++ (T2 ++ [(D2, oo)])))) (fun p hp => ?_) (LCg.Off3.of fun p hp => ?_) trivial ⟨T2 ++ [(D2, oo)], rfl, fun j p hp => ?_, by simp [hTl], by simp⟩
      · rcases List.mem_cons.mp hp with rfl | hp
        · exact .tail _ (.head _)
        · rcases List.mem_cons.mp hp with rfl | hp
          · exact .tail _ (.tail _ (.head _))
          · rcases List.mem_cons.mp hp with rfl | hp
            · exact .tail _ (.tail _ (.tail _ (.head _)))
            · rcases mem_snoc3 hp with rfl | hp
              · exact .head _
              · exact .tail _ (.tail _ (.tail _ (.tail _ hp)))
      · rcases mem_snoc3 hp with rfl | hp
        · exact ⟨Nat.ne_of_gt l1.1, Nat.ne_of_gt l1.2.1, Nat.ne_of_gt l1.2.2.1⟩
        · exact LCg.Off3.mem off p hp
      · rcases getElem?_snoc hp with hp | ⟨rfl, rfl⟩
        · exact hT2 j p hp
        · rw [hTl]; exact ⟨hoc, hod⟩
    case fin7 =>
      rintro ys nws ⟨T2, rfl, hT2, hTl, rfl⟩
      intro D h tk F6 N6 O6
      have eD : LCg.lst (T2.map fun p => Value.ref p.1) = LO (T2.map (·.1)) 8 := by
        show listOf _ (List.length _) = listOf _ 8
        rw [List.length_map, hTl, List.map_map]; rfl
      rw [eD] at N6
      repeat' ((fail_if_success (with_reducible show Q _ _)); (fail_if_success (with_reducible show wpAny _ _ (call (Value.ref _) _) _ _ _)); (fail_if_success (with_reducible show _ ∧ ∃ _, _)); (fail_if_success (with_reducible show wpAny _ _ (call (Value.builtin "sorted") _) _ _ _)); first | (k_unfold; (try dsimp only)) | (with_reducible ((with_reducible show wpAny _ _ (subscriptTail _ _ (Value.ref _) (Value.int _ _)) _ _ _); first | ((with_reducible show wpAny _ _ (subscriptTail _ _ (Value.ref _) (Value.int 0 _)) _ _ _); first | (refine get_lo (by k_asm) (by k_mem) (by with_reducible assumption) ?_) | (refine get_tp (by with_reducible assumption) ?_; intro _)) | (refine get_li (by k_asm) (by k_mem) (by omega) (by omega) (by with_reducible assumption) ?_))) | ((with_reducible show wpAny _ _ (binaryOp .Mult _ _) _ _ _); with_reducible ((refine mul_int ?_ (mulOk (by decide))); (try dsimp only))) | (with_reducible ((with_reducible show wpAny _ _ (call (Value.type "bytes") [Value.ref _]) _ _ _); (refine bytes_row (by k_asm) (by k_asm) (by assumption) (by assumption) (by assumption) rfl ?_); intro _ _ _ _ _ _ _; (try dsimp only))) | walk1 | ((with_reducible show wpAny _ _ (subscriptTail _ _ (Value.ref _) (Value.int _ _)) _ _ _); first | ((with_reducible show wpAny _ _ (subscriptTail _ _ (Value.ref _) (Value.int 0 _)) _ _ _); first | (refine get_lo (by k_asm) (by k_mem) (by with_reducible assumption) ?_) | (refine get_tp (by with_reducible assumption) ?_; intro _)) | (refine get_li (by k_asm) (by k_mem) (by omega) (by omega) (by with_reducible assumption) ?_)) | (dsimp only; first | (with_reducible ((with_reducible show wpAny _ _ (subscriptTail _ _ (Value.ref _) (Value.int _ _)) _ _ _); first | ((with_reducible show wpAny _ _ (subscriptTail _ _ (Value.ref _) (Value.int 0 _)) _ _ _); first | (refine get_lo (by k_asm) (by k_mem) (by with_reducible assumption) ?_) | (refine get_tp (by with_reducible assumption) ?_; intro _)) | (refine get_li (by k_asm) (by k_mem) (by omega) (by omega) (by with_reducible assumption) ?_))) | ((with_reducible show wpAny _ _ (binaryOp .Mult _ _) _ _ _); with_reducible ((refine mul_int ?_ (mulOk (by decide))); (try dsimp only))) | (with_reducible ((with_reducible show wpAny _ _ (call (Value.type "bytes") [Value.ref _]) _ _ _); (refine bytes_row (by k_asm) (by k_asm) (by assumption) (by assumption) (by assumption) rfl ?_); intro _ _ _ _ _ _ _; (try dsimp only))) | walk1 | ((with_reducible show wpAny _ _ (subscriptTail _ _ (Value.ref _) (Value.int _ _)) _ _ _); first | ((with_reducible show wpAny _ _ (subscriptTail _ _ (Value.ref _) (Value.int 0 _)) _ _ _); first | (refine get_lo (by k_asm) (by k_mem) (by with_reducible assumption) ?_) | (refine get_tp (by with_reducible assumption) ?_; intro _)) | (refine get_li (by k_asm) (by k_mem) (by omega) (by omega) (by with_reducible assumption) ?_))) | (leave1; (try dsimp only)))
      refine sorted_tp (T := T2) (sums := SM row (lay ws)) F6 N6 (.head _) hT2 hTl (fun p hp => .tail _ (mem_end hp)) fun D3 h3 c3 T3 K3 F7 N7 hsub hTU3 h38 hp3 hs3 => ?_
      repeat' ((fail_if_success (with_reducible show Q _ _)); (fail_if_success (with_reducible show wpAny _ _ (call (Value.ref _) _) _ _ _)); (fail_if_success (with_reducible show _ ∧ ∃ _, _)); (fail_if_success (with_reducible show wpAny _ _ (compareOp _ _ _) _ _ _)); first | (k_unfold; (try dsimp only)) | (with_reducible ((with_reducible show wpAny _ _ (subscriptTail _ _ (Value.ref _) (Value.int _ _)) _ _ _); first | ((with_reducible show wpAny _ _ (subscriptTail _ _ (Value.ref _) (Value.int 0 _)) _ _ _); first | (refine get_lo (by k_asm) (by k_mem) (by with_reducible assumption) ?_) | (refine get_tp (by with_reducible assumption) ?_; intro _)) | (refine get_li (by k_asm) (by k_mem) (by omega) (by omega) (by with_reducible assumption) ?_))) | ((with_reducible show wpAny _ _ (binaryOp .Mult _ _) _ _ _); with_reducible ((refine mul_int ?_ (mulOk (by decide))); (try dsimp only))) | (with_reducible ((with_reducible show wpAny _ _ (call (Value.type "bytes") [Value.ref _]) _ _ _); (refine bytes_row (by k_asm) (by k_asm) (by assumption) (by assumption) (by assumption) rfl ?_); intro _ _ _ _ _ _ _; (try dsimp only))) | walk1 | ((with_reducible show wpAny _ _ (subscriptTail _ _ (Value.ref _) (Value.int _ _)) _ _ _); first | ((with_reducible show wpAny _ _ (subscriptTail _ _ (Value.ref _) (Value.int 0 _)) _ _ _); first | (refine get_lo (by k_asm) (by k_mem) (by with_reducible assumption) ?_) | (refine get_tp (by with_reducible assumption) ?_; intro _)) | (refine get_li (by k_asm) (by k_mem) (by omega) (by omega) (by with_reducible assumption) ?_)) | (dsimp only; first | (with_reducible ((with_reducible show wpAny _ _ (subscriptTail _ _ (Value.ref _) (Value.int _ _)) _ _ _); first | ((with_reducible show wpAny _ _ (subscriptTail _ _ (Value.ref _) (Value.int 0 _)) _ _ _); first | (refine get_lo (by k_asm) (by k_mem) (by with_reducible assumption) ?_) | (refine get_tp (by with_reducible assumption) ?_; intro _)) | (refine get_li (by k_asm) (by k_mem) (by omega) (by omega) (by with_reducible assumption) ?_))) | ((with_reducible show wpAny _ _ (binaryOp .Mult _ _) _ _ _); with_reducible ((refine mul_int ?_ (mulOk (by decide))); (try dsimp only))) | (with_reducible ((with_reducible show wpAny _ _ (call (Value.type "bytes") [Value.ref _]) _ _ _); (refine bytes_row (by k_asm) (by k_asm) (by assumption) (by assumption) (by assumption) rfl ?_); intro _ _ _ _ _ _ _; (try dsimp only))) | walk1 | ((with_reducible show wpAny _ _ (subscriptTail _ _ (Value.ref _) (Value.int _ _)) _ _ _); first | ((with_reducible show wpAny _ _ (subscriptTail _ _ (Value.ref _) (Value.int 0 _)) _ _ _); first | (refine get_lo (by k_asm) (by k_mem) (by with_reducible assumption) ?_) | (refine get_tp (by with_reducible assumption) ?_; intro _)) | (refine get_li (by k_asm) (by k_mem) (by omega) (by omega) (by with_reducible assumption) ?_))) | (leave1; (try dsimp only)))
      have hKK : K3 = K := List.Perm.eq_of_pairwise (le := (· ≤ ·)) (fun a b _ _ h1 h2 => Int.le_antisymm h1 h2) hs3 hsort (hp3.trans hperm.symm)
      subst hKK
      refine eq_tu hTU hTU3 hTK (by omega) (fun p hp => (N7 p (.tail _ (.tail _ (mem_mid hp)))).1) (fun p hp => (N7 p (.tail _ (.tail _ (mem_end (hsub p hp))))).1) (N7 _ (.tail _ (.tail _ (.tail _ (.tail _ (.head _)))))).1 (N7 _ (.head _)).1 (by show un + 3 + 64 < _; omega) ?_
      exact ⟨rfl, h3, _, rfl, hi_mk d1 d2 d3 d4 d5 d6 d7 d8 hE hTE F7 N7 fun _ hp => .tail _ (.tail _ (mem_more hp))⟩

  case D7 =>
  clear hI9
  intro h9 tk9 hI9
  refine andC PP ?R8 ?D8
  case R8 =>
    clear hret
    subst hPP
    have HX := hI9
    refine hi_el HX ?_; intro o1 o2 o3 o4 o5 o6 o7 o8 d1 d2 d3 d4 d5 d6 d7 d8 hE hTE F N
    dsimp only [List.cons_append, List.nil_append] at N
    repeat' ((fail_if_success (with_reducible show Q _ _)); (fail_if_success (with_reducible show wpAny _ _ (call (Value.ref _) _) _ _ _)); (fail_if_success (with_reducible show _ ∧ ∃ _, _)); (fail_if_success (with_reducible show wpAny _ _ (eval (Expr.ListComp _ _ _ _) _) _ _ _)); first | (k_unfold; (try dsimp only)) | (with_reducible ((with_reducible show wpAny _ _ (subscriptTail _ _ (Value.ref _) (Value.int _ _)) _ _ _); first | ((with_reducible show wpAny _ _ (subscriptTail _ _ (Value.ref _) (Value.int 0 _)) _ _ _); first | (refine get_lo (by k_asm) (by k_mem) (by with_reducible assumption) ?_) | (refine get_tp (by with_reducible assumption) ?_; intro _)) | (refine get_li (by k_asm) (by k_mem) (by omega) (by omega) (by with_reducible assumption) ?_))) | ((with_reducible show wpAny _ _ (binaryOp .Mult _ _) _ _ _); with_reducible ((refine mul_int ?_ (mulOk (by decide))); (try dsimp only))) | (with_reducible ((with_reducible show wpAny _ _ (call (Value.type "bytes") [Value.ref _]) _ _ _); (refine bytes_row (by k_asm) (by k_asm) (by assumption) (by assumption) (by assumption) rfl ?_); intro _ _ _ _ _ _ _; (try dsimp only))) | walk1 | ((with_reducible show wpAny _ _ (subscriptTail _ _ (Value.ref _) (Value.int _ _)) _ _ _); first | ((with_reducible show wpAny _ _ (subscriptTail _ _ (Value.ref _) (Value.int 0 _)) _ _ _); first | (refine get_lo (by k_asm) (by k_mem) (by with_reducible assumption) ?_) | (refine get_tp (by with_reducible assumption) ?_; intro _)) | (refine get_li (by k_asm) (by k_mem) (by omega) (by omega) (by with_reducible assumption) ?_)) | (dsimp only; first | (with_reducible ((with_reducible show wpAny _ _ (subscriptTail _ _ (Value.ref _) (Value.int _ _)) _ _ _); first | ((with_reducible show wpAny _ _ (subscriptTail _ _ (Value.ref _) (Value.int 0 _)) _ _ _); first | (refine get_lo (by k_asm) (by k_mem) (by with_reducible assumption) ?_) | (refine get_tp (by with_reducible assumption) ?_; intro _)) | (refine get_li (by k_asm) (by k_mem) (by omega) (by omega) (by with_reducible assumption) ?_))) | ((with_reducible show wpAny _ _ (binaryOp .Mult _ _) _ _ _); with_reducible ((refine mul_int ?_ (mulOk (by decide))); (try dsimp only))) | (with_reducible ((with_reducible show wpAny _ _ (call (Value.type "bytes") [Value.ref _]) _ _ _); (refine bytes_row (by k_asm) (by k_asm) (by assumption) (by assumption) (by assumption) rfl ?_); intro _ _ _ _ _ _ _; (try dsimp only))) | walk1 | ((with_reducible show wpAny _ _ (subscriptTail _ _ (Value.ref _) (Value.int _ _)) _ _ _); first | ((with_reducible show wpAny _ _ (subscriptTail _ _ (Value.ref _) (Value.int 0 _)) _ _ _); first | (refine get_lo (by k_asm) (by k_mem) (by with_reducible assumption) ?_) | (refine get_tp (by with_reducible assumption) ?_; intro _)) | (refine get_li (by k_asm) (by k_mem) (by omega) (by omega) (by with_reducible assumption) ?_))) | (leave1; (try dsimp only)))
    refine list_b rfl hy hmr fun D0 ys0 c0 h5b tk5b kk0 hi0 eD0 hD0 => ?_
    have F1 := F.keeps kk0
    have N1 := (newsK F N kk0 eD0 hD0).1
    clear F N
    repeat' ((fail_if_success (with_reducible show Q _ _)); (fail_if_success (with_reducible show wpAny _ _ (call (Value.ref _) _) _ _ _)); (fail_if_success (with_reducible show _ ∧ ∃ _, _)); first | (k_unfold; (try dsimp only)) | (with_reducible ((with_reducible show wpAny _ _ (subscriptTail _ _ (Value.ref _) (Value.int _ _)) _ _ _); first | ((with_reducible show wpAny _ _ (subscriptTail _ _ (Value.ref _) (Value.int 0 _)) _ _ _); first | (refine get_lo (by k_asm) (by k_mem) (by with_reducible assumption) ?_) | (refine get_tp (by with_reducible assumption) ?_; intro _)) | (refine get_li (by k_asm) (by k_mem) (by omega) (by omega) (by with_reducible assumption) ?_))) | ((with_reducible show wpAny _ _ (binaryOp .Mult _ _) _ _ _); with_reducible ((refine mul_int ?_ (mulOk (by decide))); (try dsimp only))) | (with_reducible ((with_reducible show wpAny _ _ (call (Value.type "bytes") [Value.ref _]) _ _ _); (refine bytes_row (by k_asm) (by k_asm) (by assumption) (by assumption) (by assumption) rfl ?_); intro _ _ _ _ _ _ _; (try dsimp only))) | walk1 | ((with_reducible show wpAny _ _ (subscriptTail _ _ (Value.ref _) (Value.int _ _)) _ _ _); first | ((with_reducible show wpAny _ _ (subscriptTail _ _ (Value.ref _) (Value.int 0 _)) _ _ _); first | (refine get_lo (by k_asm) (by k_mem) (by with_reducible assumption) ?_) | (refine get_tp (by with_reducible assumption) ?_; intro _)) | (refine get_li (by k_asm) (by k_mem) (by omega) (by omega) (by with_reducible assumption) ?_)) | (dsimp only; first | (with_reducible ((with_reducible show wpAny _ _ (subscriptTail _ _ (Value.ref _) (Value.int _ _)) _ _ _); first | ((with_reducible show wpAny _ _ (subscriptTail _ _ (Value.ref _) (Value.int 0 _)) _ _ _); first | (refine get_lo (by k_asm) (by k_mem) (by with_reducible assumption) ?_) | (refine get_tp (by with_reducible assumption) ?_; intro _)) | (refine get_li (by k_asm) (by k_mem) (by omega) (by omega) (by with_reducible assumption) ?_))) | ((with_reducible show wpAny _ _ (binaryOp .Mult _ _) _ _ _); with_reducible ((refine mul_int ?_ (mulOk (by decide))); (try dsimp only))) | (with_reducible ((with_reducible show wpAny _ _ (call (Value.type "bytes") [Value.ref _]) _ _ _); (refine bytes_row (by k_asm) (by k_asm) (by assumption) (by assumption) (by assumption) rfl ?_); intro _ _ _ _ _ _ _; (try dsimp only))) | walk1 | ((with_reducible show wpAny _ _ (subscriptTail _ _ (Value.ref _) (Value.int _ _)) _ _ _); first | ((with_reducible show wpAny _ _ (subscriptTail _ _ (Value.ref _) (Value.int 0 _)) _ _ _); first | (refine get_lo (by k_asm) (by k_mem) (by with_reducible assumption) ?_) | (refine get_tp (by with_reducible assumption) ?_; intro _)) | (refine get_li (by k_asm) (by k_mem) (by omega) (by omega) (by with_reducible assumption) ?_))) | (leave1; (try dsimp only)))
    refine moved_c (h₀ := g) X' T' F1.keep (by show dp + 1 < _; omega) (hLr.keep F1.keep) h8 hlay.1 hlay.2 fun D1 ys1 h5 tk5 kk5 hi5 eD5 hD5 => ?_
    have F2 := F1.keeps kk5
    have N2 := (newsK F1 N1 kk5 eD5 hD5).1
    clear F1 N1
    repeat' ((fail_if_success (with_reducible show Q _ _)); (fail_if_success (with_reducible show wpAny _ _ (call (Value.ref _) _) _ _ _)); (fail_if_success (with_reducible show _ ∧ ∃ _, _)); (fail_if_success (with_reducible show wpAny _ _ (compareOp _ _ _) _ _ _)); first | (k_unfold; (try dsimp only)) | (with_reducible ((with_reducible show wpAny _ _ (subscriptTail _ _ (Value.ref _) (Value.int _ _)) _ _ _); first | ((with_reducible show wpAny _ _ (subscriptTail _ _ (Value.ref _) (Value.int 0 _)) _ _ _); first | (refine get_lo (by k_asm) (by k_mem) (by with_reducible assumption) ?_) | (refine get_tp (by with_reducible assumption) ?_; intro _)) | (refine get_li (by k_asm) (by k_mem) (by omega) (by omega) (by with_reducible assumption) ?_))) | ((with_reducible show wpAny _ _ (binaryOp .Mult _ _) _ _ _); with_reducible ((refine mul_int ?_ (mulOk (by decide))); (try dsimp only))) | (with_reducible ((with_reducible show wpAny _ _ (call (Value.type "bytes") [Value.ref _]) _ _ _); (refine bytes_row (by k_asm) (by k_asm) (by assumption) (by assumption) (by assumption) rfl ?_); intro _ _ _ _ _ _ _; (try dsimp only))) | walk1 | ((with_reducible show wpAny _ _ (subscriptTail _ _ (Value.ref _) (Value.int _ _)) _ _ _); first | ((with_reducible show wpAny _ _ (subscriptTail _ _ (Value.ref _) (Value.int 0 _)) _ _ _); first | (refine get_lo (by k_asm) (by k_mem) (by with_reducible assumption) ?_) | (refine get_tp (by with_reducible assumption) ?_; intro _)) | (refine get_li (by k_asm) (by k_mem) (by omega) (by omega) (by with_reducible assumption) ?_)) | (dsimp only; first | (with_reducible ((with_reducible show wpAny _ _ (subscriptTail _ _ (Value.ref _) (Value.int _ _)) _ _ _); first | ((with_reducible show wpAny _ _ (subscriptTail _ _ (Value.ref _) (Value.int 0 _)) _ _ _); first | (refine get_lo (by k_asm) (by k_mem) (by with_reducible assumption) ?_) | (refine get_tp (by with_reducible assumption) ?_; intro _)) | (refine get_li (by k_asm) (by k_mem) (by omega) (by omega) (by with_reducible assumption) ?_))) | ((with_reducible show wpAny _ _ (binaryOp .Mult _ _) _ _ _); with_reducible ((refine mul_int ?_ (mulOk (by decide))); (try dsimp only))) | (with_reducible ((with_reducible show wpAny _ _ (call (Value.type "bytes") [Value.ref _]) _ _ _); (refine bytes_row (by k_asm) (by k_asm) (by assumption) (by assumption) (by assumption) rfl ?_); intro _ _ _ _ _ _ _; (try dsimp only))) | walk1 | ((with_reducible show wpAny _ _ (subscriptTail _ _ (Value.ref _) (Value.int _ _)) _ _ _); first | ((with_reducible show wpAny _ _ (subscriptTail _ _ (Value.ref _) (Value.int 0 _)) _ _ _); first | (refine get_lo (by k_asm) (by k_mem) (by with_reducible assumption) ?_) | (refine get_tp (by with_reducible assumption) ?_; intro _)) | (refine get_li (by k_asm) (by k_mem) (by omega) (by omega) (by with_reducible assumption) ?_))) | (leave1; (try dsimp only)))
    refine ke_eq_ints (News.isList N2 (.tail _ (.head _))) (News.isList N2 (.head _)) hi0 hi5 (by show un + 3 + 64 < _; omega) ?_
    exact ⟨congrArg Value.bool (decide_eq_true rfl), h5, _, rfl, hi_mk d1 d2 d3 d4 d5 d6 d7 d8 hE hTE F2 N2 fun _ hp => .tail _ (.tail _ hp)⟩

  case D8 =>
  clear hI9
  intro h9 tk9 hI9
  refine BoolOp_one ?_
  refine wpAny_mono (Q := fun v s' => v = .bool true ∧ ∃ h' tk', s' = { s with heap := h', toks := tk' } ∧ PP h') ?R9 ?D9 (fun _ _ x => x)
  case R9 =>
    clear hret
    subst hPP
    have HX := hI9
    refine hi_el HX ?_; intro o1 o2 o3 o4 o5 o6 o7 o8 d1 d2 d3 d4 d5 d6 d7 d8 hE hTE F N
    dsimp only [List.cons_append, List.nil_append] at N
    repeat' ((fail_if_success (with_reducible show Q _ _)); (fail_if_success (with_reducible show wpAny _ _ (call (Value.ref _) _) _ _ _)); (fail_if_success (with_reducible show _ ∧ ∃ _, _)); (fail_if_success (with_reducible show wpAny _ _ (eval (Expr.ListComp _ _ _ _) _) _ _ _)); first | (k_unfold; (try dsimp only)) | (with_reducible ((with_reducible show wpAny _ _ (subscriptTail _ _ (Value.ref _) (Value.int _ _)) _ _ _); first | ((with_reducible show wpAny _ _ (subscriptTail _ _ (Value.ref _) (Value.int 0 _)) _ _ _); first | (refine get_lo (by k_asm) (by k_mem) (by with_reducible assumption) ?_) | (refine get_tp (by with_reducible assumption) ?_; intro _)) | (refine get_li (by k_asm) (by k_mem) (by omega) (by omega) (by with_reducible assumption) ?_))) | ((with_reducible show wpAny _ _ (binaryOp .Mult _ _) _ _ _); with_reducible ((refine mul_int ?_ (mulOk (by decide))); (try dsimp only))) | (with_reducible ((with_reducible show wpAny _ _ (call (Value.type "bytes") [Value.ref _]) _ _ _); (refine bytes_row (by k_asm) (by k_asm) (by assumption) (by assumption) (by assumption) rfl ?_); intro _ _ _ _ _ _ _; (try dsimp only))) | walk1 | ((with_reducible show wpAny _ _ (subscriptTail _ _ (Value.ref _) (Value.int _ _)) _ _ _); first | ((with_reducible show wpAny _ _ (subscriptTail _ _ (Value.ref _) (Value.int 0 _)) _ _ _); first | (refine get_lo (by k_asm) (by k_mem) (by with_reducible assumption) ?_) | (refine get_tp (by with_reducible assumption) ?_; intro _)) | (refine get_li (by k_asm) (by k_mem) (by omega) (by omega) (by with_reducible assumption) ?_)) | (dsimp only; first | (with_reducible ((with_reducible show wpAny _ _ (subscriptTail _ _ (Value.ref _) (Value.int _ _)) _ _ _); first | ((with_reducible show wpAny _ _ (subscriptTail _ _ (Value.ref _) (Value.int 0 _)) _ _ _); first | (refine get_lo (by k_asm) (by k_mem) (by with_reducible assumption) ?_) | (refine get_tp (by with_reducible assumption) ?_; intro _)) | (refine get_li (by k_asm) (by k_mem) (by omega) (by omega) (by with_reducible assumption) ?_))) | ((with_reducible show wpAny _ _ (binaryOp .Mult _ _) _ _ _); with_reducible ((refine mul_int ?_ (mulOk (by decide))); (try dsimp only))) | (with_reducible ((with_reducible show wpAny _ _ (call (Value.type "bytes") [Value.ref _]) _ _ _); (refine bytes_row (by k_asm) (by k_asm) (by assumption) (by assumption) (by assumption) rfl ?_); intro _ _ _ _ _ _ _; (try dsimp only))) | walk1 | ((with_reducible show wpAny _ _ (subscriptTail _ _ (Value.ref _) (Value.int _ _)) _ _ _); first | ((with_reducible show wpAny _ _ (subscriptTail _ _ (Value.ref _) (Value.int 0 _)) _ _ _); first | (refine get_lo (by k_asm) (by k_mem) (by with_reducible assumption) ?_) | (refine get_tp (by with_reducible assumption) ?_; intro _)) | (refine get_li (by k_asm) (by k_mem) (by omega) (by omega) (by with_reducible assumption) ?_))) | (leave1; (try dsimp only)))
    refine LCg.ListComp_U (F₀ := F) (by with_unfolding_all rfl) (by decide) (by rfl) (by decide) (by rfl) ?_
    repeat' ((fail_if_success (with_reducible show Q _ _)); (fail_if_success (with_reducible show wpAny _ _ (call (Value.ref _) _) _ _ _)); (fail_if_success (with_reducible show _ ∧ ∃ _, _)); (fail_if_success (with_reducible show LCg.CompRest _ _ _ _ _ _ _ _ _ _ _ _ _ _ _ _ _ _ _)); first | (k_unfold; (try dsimp only)) | (with_reducible ((with_reducible show wpAny _ _ (subscriptTail _ _ (Value.ref _) (Value.int _ _)) _ _ _); first | ((with_reducible show wpAny _ _ (subscriptTail _ _ (Value.ref _) (Value.int 0 _)) _ _ _); first | (refine get_lo (by k_asm) (by k_mem) (by with_reducible assumption) ?_) | (refine get_tp (by with_reducible assumption) ?_; intro _)) | (refine get_li (by k_asm) (by k_mem) (by omega) (by omega) (by with_reducible assumption) ?_))) | ((with_reducible show wpAny _ _ (binaryOp .Mult _ _) _ _ _); with_reducible ((refine mul_int ?_ (mulOk (by decide))); (try dsimp only))) | (with_reducible ((with_reducible show wpAny _ _ (call (Value.type "bytes") [Value.ref _]) _ _ _); (refine bytes_row (by k_asm) (by k_asm) (by assumption) (by assumption) (by assumption) rfl ?_); intro _ _ _ _ _ _ _; (try dsimp only))) | walk1 | ((with_reducible show wpAny _ _ (subscriptTail _ _ (Value.ref _) (Value.int _ _)) _ _ _); first | ((with_reducible show wpAny _ _ (subscriptTail _ _ (Value.ref _) (Value.int 0 _)) _ _ _); first | (refine get_lo (by k_asm) (by k_mem) (by with_reducible assumption) ?_) | (refine get_tp (by with_reducible assumption) ?_; intro _)) | (refine get_li (by k_asm) (by k_mem) (by omega) (by omega) (by with_reducible assumption) ?_)) | (dsimp only; first | (with_reducible ((with_reducible show wpAny _ _ (subscriptTail _ _ (Value.ref _) (Value.int _ _)) _ _ _); first | ((with_reducible show wpAny _ _ (subscriptTail _ _ (Value.ref _) (Value.int 0 _)) _ _ _); first | (refine get_lo (by k_asm) (by k_mem) (by with_reducible assumption) ?_) | (refine get_tp (by with_reducible assumption) ?_; intro _)) | (refine get_li (by k_asm) (by k_mem) (by omega) (by omega) (by with_reducible assumption) ?_))) | ((with_reducible show wpAny _ _ (binaryOp .Mult _ _) _ _ _); with_reducible ((refine mul_int ?_ (mulOk (by decide))); (try dsimp only))) | (with_reducible ((with_reducible show wpAny _ _ (call (Value.type "bytes") [Value.ref _]) _ _ _); (refine bytes_row (by k_asm) (by k_asm) (by assumption) (by assumption) (by assumption) rfl ?_); intro _ _ _ _ _ _ _; (try dsimp only))) | walk1 | ((with_reducible show wpAny _ _ (subscriptTail _ _ (Value.ref _) (Value.int _ _)) _ _ _); first | ((with_reducible show wpAny _ _ (subscriptTail _ _ (Value.ref _) (Value.int 0 _)) _ _ _); first | (refine get_lo (by k_asm) (by k_mem) (by with_reducible assumption) ?_) | (refine get_tp (by with_reducible assumption) ?_; intro _)) | (refine get_li (by k_asm) (by k_mem) (by omega) (by omega) (by with_reducible assumption) ?_))) | (leave1; (try dsimp only)))
    refine restJ 8 (fun i ys nws => ∃ T2 : List (Addr × Obj), nws = [(lf, LCg.lst lv), (be, LCg.lst bv), (td, LO (Tt.map (·.1)) tn), (th, LCg.lst tv), (ou, LCg.lst ov), (sm, LCg.lst sv), (im, LCg.lst ims)] ++ ([(L' + 1 + 1 + 1 + 1 + 1 + 1 + 1 + 1, o1), (L' + 1 + 1 + 1 + 1 + 1 + 1 + 1, o2), (L' + 1 + 1 + 1 + 1 + 1 + 1, o3), (L' + 1 + 1 + 1 + 1 + 1, o4), (L' + 1 + 1 + 1 + 1, o5), (L' + 1 + 1 + 1, o6), (L' + 1 + 1, o7), (L' + 1, o8)] ++ (Tt ++ T2)) ∧ LT T2 (mvs (mv (lay ws) row)) ∧ T2.length = i ∧ ys = T2.map fun p => Value.ref p.1) ?turn9 ?fin9 _ 0 [] _ (by rw [List.size_toArray, him]) ⟨[], by rw [List.append_nil]; rfl, fun j p h => by simp at h, rfl, rfl⟩
    case turn9 =>
      rintro i v I oI C oC D m₂ h tk E' ys nws hi hv ⟨T2, rfl, hT2, hTl, rfl⟩ hC hx F2 N2 off ne
      obtain ⟨yi, ti, rfl, hyi⟩ := hims i v (by simpa using hv)
      have N3 := N2
      simp only [List.cons_append, List.nil_append] at N3
      repeat' ((fail_if_success (with_reducible show Q _ _)); (fail_if_success (with_reducible show wpAny _ _ (call (Value.ref _) _) _ _ _)); (fail_if_success (with_reducible show LCg.CompEnd _ _ _ _ _ _ _ _ _ _ _ _ _ _)); first | (k_unfold; (try dsimp only)) | (with_reducible ((with_reducible show wpAny _ _ (subscriptTail _ _ (Value.ref _) (Value.int _ _)) _ _ _); first | ((with_reducible show wpAny _ _ (subscriptTail _ _ (Value.ref _) (Value.int 0 _)) _ _ _); first | (refine get_lo (by k_asm) (by k_mem) (by with_reducible assumption) ?_) | (refine get_tp (by with_reducible assumption) ?_; intro _)) | (refine get_li (by k_asm) (by k_mem) (by omega) (by omega) (by with_reducible assumption) ?_))) | ((with_reducible show wpAny _ _ (binaryOp .Mult _ _) _ _ _); with_reducible ((refine mul_int ?_ (mulOk (by decide))); (try dsimp only))) | (with_reducible ((with_reducible show wpAny _ _ (call (Value.type "bytes") [Value.ref _]) _ _ _); (refine bytes_row (by k_asm) (by k_asm) (by assumption) (by assumption) (by assumption) rfl ?_); intro _ _ _ _ _ _ _; (try dsimp only))) | walk1 | ((with_reducible show wpAny _ _ (subscriptTail _ _ (Value.ref _) (Value.int _ _)) _ _ _); first | ((with_reducible show wpAny _ _ (subscriptTail _ _ (Value.ref _) (Value.int 0 _)) _ _ _); first | (refine get_lo (by k_asm) (by k_mem) (by with_reducible assumption) ?_) | (refine get_tp (by with_reducible assumption) ?_; intro _)) | (refine get_li (by k_asm) (by k_mem) (by omega) (by omega) (by with_reducible assumption) ?_)) | (dsimp only; first | (with_reducible ((with_reducible show wpAny _ _ (subscriptTail _ _ (Value.ref _) (Value.int _ _)) _ _ _); first | ((with_reducible show wpAny _ _ (subscriptTail _ _ (Value.ref _) (Value.int 0 _)) _ _ _); first | (refine get_lo (by k_asm) (by k_mem) (by with_reducible assumption) ?_) | (refine get_tp (by with_reducible assumption) ?_; intro _)) | (refine get_li (by k_asm) (by k_mem) (by omega) (by omega) (by with_reducible assumption) ?_))) | ((with_reducible show wpAny _ _ (binaryOp .Mult _ _) _ _ _); with_reducible ((refine mul_int ?_ (mulOk (by decide))); (try dsimp only))) | (with_reducible ((with_reducible show wpAny _ _ (call (Value.type "bytes") [Value.ref _]) _ _ _); (refine bytes_row (by k_asm) (by k_asm) (by assumption) (by assumption) (by assumption) rfl ?_); intro _ _ _ _ _ _ _; (try dsimp only))) | walk1 | ((with_reducible show wpAny _ _ (subscriptTail _ _ (Value.ref _) (Value.int _ _)) _ _ _); first | ((with_reducible show wpAny _ _ (subscriptTail _ _ (Value.ref _) (Value.int 0 _)) _ _ _); first | (refine get_lo (by k_asm) (by k_mem) (by with_reducible assumption) ?_) | (refine get_tp (by with_reducible assumption) ?_; intro _)) | (refine get_li (by k_asm) (by k_mem) (by omega) (by omega) (by with_reducible assumption) ?_))) | (leave1; (try dsimp only)))
      refine list_b rfl hyi (mv_len _ _) fun D2 ys2 c2 h2 tk2 kk2 hi2 eD2 hD2 => ?_
      have F4 := F2.keeps kk2
      have N5 := (newsK F2 N2 kk2 eD2 hD2).1
      have l1 : ∀ p ∈ (I, oI) :: (C, oC) :: (D, _) :: ([(lf, LCg.lst lv), (be, LCg.lst bv), (td, LO (Tt.map (·.1)) tn), (th, LCg.lst tv), (ou, LCg.lst ov), (sm, LCg.lst sv), (im, LCg.lst ims)] ++ ([(L' + 1 + 1 + 1 + 1 + 1 + 1 + 1 + 1, o1), (L' + 1 + 1 + 1 + 1 + 1 + 1 + 1, o2), (L' + 1 + 1 + 1 + 1 + 1 + 1, o3), (L' + 1 + 1 + 1 + 1 + 1, o4), (L' + 1 + 1 + 1 + 1, o5), (L' + 1 + 1 + 1, o6), (L' + 1 + 1, o7), (L' + 1, o8)] ++ (Tt ++ T2))), p.1 ≠ D2 := off1_mem (newsK F2 N2 kk2 eD2 hD2).2
      repeat' ((fail_if_success (with_reducible show Q _ _)); (fail_if_success (with_reducible show wpAny _ _ (call (Value.ref _) _) _ _ _)); (fail_if_success (with_reducible show LCg.CompEnd _ _ _ _ _ _ _ _ _ _ _ _ _ _)); first | (k_unfold; (try dsimp only)) | (with_reducible ((with_reducible show wpAny _ _ (subscriptTail _ _ (Value.ref _) (Value.int _ _)) _ _ _); first | ((with_reducible show wpAny _ _ (subscriptTail _ _ (Value.ref _) (Value.int 0 _)) _ _ _); first | (refine get_lo (by k_asm) (by k_mem) (by with_reducible assumption) ?_) | (refine get_tp (by with_reducible assumption) ?_; intro _)) | (refine get_li (by k_asm) (by k_mem) (by omega) (by omega) (by with_reducible assumption) ?_))) | ((with_reducible show wpAny _ _ (binaryOp .Mult _ _) _ _ _); with_reducible ((refine mul_int ?_ (mulOk (by decide))); (try dsimp only))) | (with_reducible ((with_reducible show wpAny _ _ (call (Value.type "bytes") [Value.ref _]) _ _ _); (refine bytes_row (by k_asm) (by k_asm) (by assumption) (by assumption) (by assumption) rfl ?_); intro _ _ _ _ _ _ _; (try dsimp only))) | walk1 | ((with_reducible show wpAny _ _ (subscriptTail _ _ (Value.ref _) (Value.int _ _)) _ _ _); first | ((with_reducible show wpAny _ _ (subscriptTail _ _ (Value.ref _) (Value.int 0 _)) _ _ _); first | (refine get_lo (by k_asm) (by k_mem) (by with_reducible assumption) ?_) | (refine get_tp (by with_reducible assumption) ?_; intro _)) | (refine get_li (by k_asm) (by k_mem) (by omega) (by omega) (by with_reducible assumption) ?_)) | (dsimp only; first | (with_reducible ((with_reducible show wpAny _ _ (subscriptTail _ _ (Value.ref _) (Value.int _ _)) _ _ _); first | ((with_reducible show wpAny _ _ (subscriptTail _ _ (Value.ref _) (Value.int 0 _)) _ _ _); first | (refine get_lo (by k_asm) (by k_mem) (by with_reducible assumption) ?_) | (refine get_tp (by with_reducible assumption) ?_; intro _)) | (refine get_li (by k_asm) (by k_mem) (by omega) (by omega) (by with_reducible assumption) ?_))) | ((with_reducible show wpAny _ _ (binaryOp .Mult _ _) _ _ _); with_reducible ((refine mul_int ?_ (mulOk (by decide))); (try dsimp only))) | (with_reducible ((with_reducible show wpAny _ _ (call (Value.type "bytes") [Value.ref _]) _ _ _); (refine bytes_row (by k_asm) (by k_asm) (by assumption) (by assumption) (by assumption) rfl ?_); intro _ _ _ _ _ _ _; (try dsimp only))) | walk1 | ((with_reducible show wpAny _ _ (subscriptTail _ _ (Value.ref _) (Value.int _ _)) _ _ _); first | ((with_reducible show wpAny _ _ (subscriptTail _ _ (Value.ref _) (Value.int 0 _)) _ _ _); first | (refine get_lo (by k_asm) (by k_mem) (by with_reducible assumption) ?_) | (refine get_tp (by with_reducible assumption) ?_; intro _)) | (refine get_li (by k_asm) (by k_mem) (by omega) (by omega) (by with_reducible assumption) ?_))) | (leave1; (try dsimp only)))
      refine LCg.CompEnd.intro F4 N5 ([(lf, LCg.lst lv), (be, LCg.lst bv), (td, LO (Tt.map (·.1)) tn), (th, LCg.lst tv), (ou, LCg.lst ov), (sm, LCg.lst sv), (im, LCg.lst ims)] ++ ([(L' + 1 + 1 + 1 + 1 + 1 + 1 + 1 + 1, o1), (L' + 1 + 1 + 1 + 1 + 1 + 1 + 1, o2), (L' + 1 + 1 + 1 + 1 + 1 + 1, o3), (L' + 1 + 1 + 1 + 1 + 1, o4), (L' + 1 + 1 + 1 + 1, o5), (L' + 1 + 1 + 1, o6), (L' + 1 + 1, o7), (L' + 1, o8)] ++ (Tt ++ (T2 ++ [(D2, listOf ys2.toArray c2)])))) (fun p hp => ?_) (LCg.Off3.of fun p hp => ?_) (.inr ⟨_, List.mem_append_left _ (by k_mem), rfl, _, rfl⟩) ⟨T2 ++ [(D2, listOf ys2.toArray c2)], rfl, lt_snoc hT2 hTl hi hi2, by simp [hTl], by simp⟩
      · rcases List.mem_cons.mp hp with rfl | hp
        · exact .tail _ (.head _)
        · rcases List.mem_cons.mp hp with rfl | hp
          · exact .tail _ (.tail _ (.head _))
          · rcases List.mem_cons.mp hp with rfl | hp
            · exact .tail _ (.tail _ (.tail _ (.head _)))
            · rcases mem_snoc3 hp with rfl | hp
              · exact .head _
              · exact .tail _ (.tail _ (.tail _ (.tail _ hp)))
      · rcases mem_snoc3 hp with rfl | hp
        · exact ⟨Ne.symm (l1 _ (.head _)), Ne.symm (l1 _ (.tail _ (.head _))), Ne.symm (l1 _ (.tail _ (.tail _ (.head _))))⟩
        · exact LCg.Off3.mem off p hp
    case fin9 =>
      rintro ys nws ⟨T2, rfl, hT2, hTl, rfl⟩
      intro D1 h tk F6 N6 O6
      have eD : LCg.lst (T2.map fun p => Value.ref p.1) = LO (T2.map (·.1)) 8 := by
        show listOf _ (List.length _) = listOf _ 8
        rw [List.length_map, hTl, List.map_map]; rfl
      rw [eD] at N6
      have N6' := N6
      simp only [List.cons_append, List.nil_append] at N6'
      repeat' ((fail_if_success (with_reducible show Q _ _)); (fail_if_success (with_reducible show wpAny _ _ (call (Value.ref _) _) _ _ _)); (fail_if_success (with_reducible show _ ∧ ∃ _, _)); (fail_if_success (with_reducible show wpAny _ _ (eval (Expr.ListComp _ _ _ _) _) _ _ _)); first | (k_unfold; (try dsimp only)) | (with_reducible ((with_reducible show wpAny _ _ (subscriptTail _ _ (Value.ref _) (Value.int _ _)) _ _ _); first | ((with_reducible show wpAny _ _ (subscriptTail _ _ (Value.ref _) (Value.int 0 _)) _ _ _); first | (refine get_lo (by k_asm) (by k_mem) (by with_reducible assumption) ?_) | (refine get_tp (by with_reducible assumption) ?_; intro _)) | (refine get_li (by k_asm) (by k_mem) (by omega) (by omega) (by with_reducible assumption) ?_))) | ((with_reducible show wpAny _ _ (binaryOp .Mult _ _) _ _ _); with_reducible ((refine mul_int ?_ (mulOk (by decide))); (try dsimp only))) | (with_reducible ((with_reducible show wpAny _ _ (call (Value.type "bytes") [Value.ref _]) _ _ _); (refine bytes_row (by k_asm) (by k_asm) (by assumption) (by assumption) (by assumption) rfl ?_); intro _ _ _ _ _ _ _; (try dsimp only))) | walk1 | ((with_reducible show wpAny _ _ (subscriptTail _ _ (Value.ref _) (Value.int _ _)) _ _ _); first | ((with_reducible show wpAny _ _ (subscriptTail _ _ (Value.ref _) (Value.int 0 _)) _ _ _); first | (refine get_lo (by k_asm) (by k_mem) (by with_reducible assumption) ?_) | (refine get_tp (by with_reducible assumption) ?_; intro _)) | (refine get_li (by k_asm) (by k_mem) (by omega) (by omega) (by with_reducible assumption) ?_)) | (dsimp only; first | (with_reducible ((with_reducible show wpAny _ _ (subscriptTail _ _ (Value.ref _) (Value.int _ _)) _ _ _); first | ((with_reducible show wpAny _ _ (subscriptTail _ _ (Value.ref _) (Value.int 0 _)) _ _ _); first | (refine get_lo (by k_asm) (by k_mem) (by with_reducible assumption) ?_) | (refine get_tp (by with_reducible assumption) ?_; intro _)) | (refine get_li (by k_asm) (by k_mem) (by omega) (by omega) (by with_reducible assumption) ?_))) | ((with_reducible show wpAny _ _ (binaryOp .Mult _ _) _ _ _); with_reducible ((refine mul_int ?_ (mulOk (by decide))); (try dsimp only))) | (with_reducible ((with_reducible show wpAny _ _ (call (Value.type "bytes") [Value.ref _]) _ _ _); (refine bytes_row (by k_asm) (by k_asm) (by assumption) (by assumption) (by assumption) rfl ?_); intro _ _ _ _ _ _ _; (try dsimp only))) | walk1 | ((with_reducible show wpAny _ _ (subscriptTail _ _ (Value.ref _) (Value.int _ _)) _ _ _); first | ((with_reducible show wpAny _ _ (subscriptTail _ _ (Value.ref _) (Value.int 0 _)) _ _ _); first | (refine get_lo (by k_asm) (by k_mem) (by with_reducible assumption) ?_) | (refine get_tp (by with_reducible assumption) ?_; intro _)) | (refine get_li (by k_asm) (by k_mem) (by omega) (by omega) (by with_reducible assumption) ?_))) | (leave1; (try dsimp only)))
      refine LCg.ListComp_U (F₀ := F6) (by with_unfolding_all rfl) (by decide) (by rfl) (by decide) (by rfl) ?_
      repeat' ((fail_if_success (with_reducible show Q _ _)); (fail_if_success (with_reducible show wpAny _ _ (call (Value.ref _) _) _ _ _)); (fail_if_success (with_reducible show _ ∧ ∃ _, _)); (fail_if_success (with_reducible show LCg.CompRest _ _ _ _ _ _ _ _ _ _ _ _ _ _ _ _ _ _ _)); first | (k_unfold; (try dsimp only)) | (with_reducible ((with_reducible show wpAny _ _ (subscriptTail _ _ (Value.ref _) (Value.int _ _)) _ _ _); first | ((with_reducible show wpAny _ _ (subscriptTail _ _ (Value.ref _) (Value.int 0 _)) _ _ _); first | (refine get_lo (by k_asm) (by k_mem) (by with_reducible assumption) ?_) | (refine get_tp (by with_reducible assumption) ?_; intro _)) | (refine get_li (by k_asm) (by k_mem) (by omega) (by omega) (by with_reducible assumption) ?_))) | ((with_reducible show wpAny _ _ (binaryOp .Mult _ _) _ _ _); with_reducible ((refine mul_int ?_ (mulOk (by decide))); (try dsimp only))) | (with_reducible ((with_reducible show wpAny _ _ (call (Value.type "bytes") [Value.ref _]) _ _ _); (refine bytes_row (by k_asm) (by k_asm) (by assumption) (by assumption) (by assumption) rfl ?_); intro _ _ _ _ _ _ _; (try dsimp only))) | walk1 | ((with_reducible show wpAny _ _ (subscriptTail _ _ (Value.ref _) (Value.int _ _)) _ _ _); first | ((with_reducible show wpAny _ _ (subscriptTail _ _ (Value.ref _) (Value.int 0 _)) _ _ _); first | (refine get_lo (by k_asm) (by k_mem) (by with_reducible assumption) ?_) | (refine get_tp (by with_reducible assumption) ?_; intro _)) | (refine get_li (by k_asm) (by k_mem) (by omega) (by omega) (by with_reducible assumption) ?_)) | (dsimp only; first | (with_reducible ((with_reducible show wpAny _ _ (subscriptTail _ _ (Value.ref _) (Value.int _ _)) _ _ _); first | ((with_reducible show wpAny _ _ (subscriptTail _ _ (Value.ref _) (Value.int 0 _)) _ _ _); first | (refine get_lo (by k_asm) (by k_mem) (by with_reducible assumption) ?_) | (refine get_tp (by with_reducible assumption) ?_; intro _)) | (refine get_li (by k_asm) (by k_mem) (by omega) (by omega) (by with_reducible assumption) ?_))) | ((with_reducible show wpAny _ _ (binaryOp .Mult _ _) _ _ _); with_reducible ((refine mul_int ?_ (mulOk (by decide))); (try dsimp only))) | (with_reducible ((with_reducible show wpAny _ _ (call (Value.type "bytes") [Value.ref _]) _ _ _); (refine bytes_row (by k_asm) (by k_asm) (by assumption) (by assumption) (by assumption) rfl ?_); intro _ _ _ _ _ _ _; (try dsimp only))) | walk1 | ((with_reducible show wpAny _ _ (subscriptTail _ _ (Value.ref _) (Value.int _ _)) _ _ _); first | ((with_reducible show wpAny _ _ (subscriptTail _ _ (Value.ref _) (Value.int 0 _)) _ _ _); first | (refine get_lo (by k_asm) (by k_mem) (by with_reducible assumption) ?_) | (refine get_tp (by with_reducible assumption) ?_; intro _)) | (refine get_li (by k_asm) (by k_mem) (by omega) (by omega) (by with_reducible assumption) ?_))) | (leave1; (try dsimp only)))
      refine restJ 8 (fun i ys nws => ∃ T4 : List (Addr × Obj), nws = ((D1, LO (T2.map (·.1)) 8) :: [(lf, LCg.lst lv), (be, LCg.lst bv), (td, LO (Tt.map (·.1)) tn), (th, LCg.lst tv), (ou, LCg.lst ov), (sm, LCg.lst sv), (im, LCg.lst ims)]) ++ ([(L' + 1 + 1 + 1 + 1 + 1 + 1 + 1 + 1, o1), (L' + 1 + 1 + 1 + 1 + 1 + 1 + 1, o2), (L' + 1 + 1 + 1 + 1 + 1 + 1, o3), (L' + 1 + 1 + 1 + 1 + 1, o4), (L' + 1 + 1 + 1 + 1, o5), (L' + 1 + 1 + 1, o6), (L' + 1 + 1, o7), (L' + 1, o8)] ++ ((Tt ++ T2) ++ T4)) ∧ LT T4 (mvs (mv (lay ws) row)) ∧ T4.length = i ∧ ys = T4.map fun p => Value.ref p.1) ?turn10 ?fin10 _ 0 [] _ rfl ⟨[], by rw [List.append_nil]; rfl, fun j p h => by simp at h, rfl, rfl⟩
      case turn10 =>
        rintro i v I oI C oC D m₂ h tk E' ys nws hi ⟨t9, rfl⟩ ⟨T4, rfl, hT4, hT4l, rfl⟩ hC hx F2 N2 off ne
        have N3 := N2
        simp only [List.cons_append, List.nil_append] at N3
        repeat' ((fail_if_success (with_reducible show Q _ _)); (fail_if_success (with_reducible show wpAny _ _ (call (Value.ref _) _) _ _ _)); (fail_if_success (with_reducible show LCg.CompEnd _ _ _ _ _ _ _ _ _ _ _ _ _ _)); first | (k_unfold; (try dsimp only)) | (with_reducible ((with_reducible show wpAny _ _ (subscriptTail _ _ (Value.ref _) (Value.int _ _)) _ _ _); first | ((with_reducible show wpAny _ _ (subscriptTail _ _ (Value.ref _) (Value.int 0 _)) _ _ _); first | (refine get_lo (by k_asm) (by k_mem) (by with_reducible assumption) ?_) | (refine get_tp (by with_reducible assumption) ?_; intro _)) | (refine get_li (by k_asm) (by k_mem) (by omega) (by omega) (by with_reducible assumption) ?_))) | ((with_reducible show wpAny _ _ (binaryOp .Mult _ _) _ _ _); with_reducible ((refine mul_int ?_ (mulOk (by decide))); (try dsimp only))) | (with_reducible ((with_reducible show wpAny _ _ (call (Value.type "bytes") [Value.ref _]) _ _ _); (refine bytes_row (by k_asm) (by k_asm) (by assumption) (by assumption) (by assumption) rfl ?_); intro _ _ _ _ _ _ _; (try dsimp only))) | walk1 | ((with_reducible show wpAny _ _ (subscriptTail _ _ (Value.ref _) (Value.int _ _)) _ _ _); first | ((with_reducible show wpAny _ _ (subscriptTail _ _ (Value.ref _) (Value.int 0 _)) _ _ _); first | (refine get_lo (by k_asm) (by k_mem) (by with_reducible assumption) ?_) | (refine get_tp (by with_reducible assumption) ?_; intro _)) | (refine get_li (by k_asm) (by k_mem) (by omega) (by omega) (by with_reducible assumption) ?_)) | (dsimp only; first | (with_reducible ((with_reducible show wpAny _ _ (subscriptTail _ _ (Value.ref _) (Value.int _ _)) _ _ _); first | ((with_reducible show wpAny _ _ (subscriptTail _ _ (Value.ref _) (Value.int 0 _)) _ _ _); first | (refine get_lo (by k_asm) (by k_mem) (by with_reducible assumption) ?_) | (refine get_tp (by with_reducible assumption) ?_; intro _)) | (refine get_li (by k_asm) (by k_mem) (by omega) (by omega) (by with_reducible assumption) ?_))) | ((with_reducible show wpAny _ _ (binaryOp .Mult _ _) _ _ _); with_reducible ((refine mul_int ?_ (mulOk (by decide))); (try dsimp only))) | (with_reducible ((with_reducible show wpAny _ _ (call (Value.type "bytes") [Value.ref _]) _ _ _); (refine bytes_row (by k_asm) (by k_asm) (by assumption) (by assumption) (by assumption) rfl ?_); intro _ _ _ _ _ _ _; (try dsimp only))) | walk1 | ((with_reducible show wpAny _ _ (subscriptTail _ _ (Value.ref _) (Value.int _ _)) _ _ _); first | ((with_reducible show wpAny _ _ (subscriptTail _ _ (Value.ref _) (Value.int 0 _)) _ _ _); first | (refine get_lo (by k_asm) (by k_mem) (by with_reducible assumption) ?_) | (refine get_tp (by with_reducible assumption) ?_; intro _)) | (refine get_li (by k_asm) (by k_mem) (by omega) (by omega) (by with_reducible assumption) ?_))) | (leave1; (try dsimp only)))
        refine movedb_c (h₀ := g) X' T' F2.keep (by show dp + 1 < _; omega) hy hmr (by omega) (by omega) fun D2 ys2 h2 tk2 kk2 hi2 eD2 hD2 => ?_
        rw [Int.zero_add] at hi2
        have F4 := F2.keeps kk2
        have N5 := (newsK F2 N2 kk2 eD2 hD2).1
        have l1 : ∀ p ∈ (I, oI) :: (C, oC) :: (D, _) :: (((D1, LO (T2.map (·.1)) 8) :: [(lf, LCg.lst lv), (be, LCg.lst bv), (td, LO (Tt.map (·.1)) tn), (th, LCg.lst tv), (ou, LCg.lst ov), (sm, LCg.lst sv), (im, LCg.lst ims)]) ++ ([(L' + 1 + 1 + 1 + 1 + 1 + 1 + 1 + 1, o1), (L' + 1 + 1 + 1 + 1 + 1 + 1 + 1, o2), (L' + 1 + 1 + 1 + 1 + 1 + 1, o3), (L' + 1 + 1 + 1 + 1 + 1, o4), (L' + 1 + 1 + 1 + 1, o5), (L' + 1 + 1 + 1, o6), (L' + 1 + 1, o7), (L' + 1, o8)] ++ ((Tt ++ T2) ++ T4))), p.1 ≠ D2 := off1_mem (newsK F2 N2 kk2 eD2 hD2).2
        repeat' ((fail_if_success (with_reducible show Q _ _)); (fail_if_success (with_reducible show wpAny _ _ (call (Value.ref _) _) _ _ _)); (fail_if_success (with_reducible show LCg.CompEnd _ _ _ _ _ _ _ _ _ _ _ _ _ _)); first | (k_unfold; (try dsimp only)) | (with_reducible ((with_reducible show wpAny _ _ (subscriptTail _ _ (Value.ref _) (Value.int _ _)) _ _ _); first | ((with_reducible show wpAny _ _ (subscriptTail _ _ (Value.ref _) (Value.int 0 _)) _ _ _); first | (refine get_lo (by k_asm) (by k_mem) (by with_reducible assumption) ?_) | (refine get_tp (by with_reducible assumption) ?_; intro _)) | (refine get_li (by k_asm) (by k_mem) (by omega) (by omega) (by with_reducible assumption) ?_))) | ((with_reducible show wpAny _ _ (binaryOp .Mult _ _) _ _ _); with_reducible ((refine mul_int ?_ (mulOk (by decide))); (try dsimp only))) | (with_reducible ((with_reducible show wpAny _ _ (call (Value.type "bytes") [Value.ref _]) _ _ _); (refine bytes_row (by k_asm) (by k_asm) (by assumption) (by assumption) (by assumption) rfl ?_); intro _ _ _ _ _ _ _; (try dsimp only))) | walk1 | ((with_reducible show wpAny _ _ (subscriptTail _ _ (Value.ref _) (Value.int _ _)) _ _ _); first | ((with_reducible show wpAny _ _ (subscriptTail _ _ (Value.ref _) (Value.int 0 _)) _ _ _); first | (refine get_lo (by k_asm) (by k_mem) (by with_reducible assumption) ?_) | (refine get_tp (by with_reducible assumption) ?_; intro _)) | (refine get_li (by k_asm) (by k_mem) (by omega) (by omega) (by with_reducible assumption) ?_)) | (dsimp only; first | (with_reducible ((with_reducible show wpAny _ _ (subscriptTail _ _ (Value.ref _) (Value.int _ _)) _ _ _); first | ((with_reducible show wpAny _ _ (subscriptTail _ _ (Value.ref _) (Value.int 0 _)) _ _ _); first | (refine get_lo (by k_asm) (by k_mem) (by with_reducible assumption) ?_) | (refine get_tp (by with_reducible assumption) ?_; intro _)) | (refine get_li (by k_asm) (by k_mem) (by omega) (by omega) (by with_reducible assumption) ?_))) | ((with_reducible show wpAny _ _ (binaryOp .Mult _ _) _ _ _); with_reducible ((refine mul_int ?_ (mulOk (by decide))); (try dsimp only))) | (with_reducible ((with_reducible show wpAny _ _ (call (Value.type "bytes") [Value.ref _]) _ _ _); (refine bytes_row (by k_asm) (by k_asm) (by assumption) (by assumption) (by assumption) rfl ?_); intro _ _ _ _ _ _ _; (try dsimp only))) | walk1 | ((with_reducible show wpAny _ _ (subscriptTail _ _ (Value.ref _) (Value.int _ _)) _ _ _); first | ((with_reducible show wpAny _ _ (subscriptTail _ _ (Value.ref _) (Value.int 0 _)) _ _ _); first | (refine get_lo (by k_asm) (by k_mem) (by with_reducible assumption) ?_) | (refine get_tp (by with_reducible assumption) ?_; intro _)) | (refine get_li (by k_asm) (by k_mem) (by omega) (by omega) (by with_reducible assumption) ?_))) | (leave1; (try dsimp only)))
        refine LCg.CompEnd.intro F4 N5 (((D1, LO (T2.map (·.1)) 8) :: [(lf, LCg.lst lv), (be, LCg.lst bv), (td, LO (Tt.map (·.1)) tn), (th, LCg.lst tv), (ou, LCg.lst ov), (sm, LCg.lst sv), (im, LCg.lst ims)]) ++ ([(L' + 1 + 1 + 1 + 1 + 1 + 1 + 1 + 1, o1), (L' + 1 + 1 + 1 + 1 + 1 + 1 + 1, o2), (L' + 1 + 1 + 1 + 1 + 1 + 1, o3), (L' + 1 + 1 + 1 + 1 + 1, o4), (L' + 1 + 1 + 1 + 1, o5), (L' + 1 + 1 + 1, o6), (L' + 1 + 1, o7), (L' + 1, o8)] ++ ((Tt ++ T2) ++ (T4 ++ [(D2, listOf ys2.toArray ys2.length)])))) (fun p hp => ?_) (LCg.Off3.of fun p hp => ?_) trivial ⟨T4 ++ [(D2, listOf ys2.toArray ys2.length)], rfl, lt_snoc hT4 hT4l hi hi2, by simp [hT4l], by simp⟩
        · rcases List.mem_cons.mp hp with rfl | hp
          · exact .tail _ (.head _)
          · rcases List.mem_cons.mp hp with rfl | hp
            · exact .tail _ (.tail _ (.head _))
            · rcases List.mem_cons.mp hp with rfl | hp
              · exact .tail _ (.tail _ (.tail _ (.head _)))
              · rcases mem_snoc3 hp with rfl | hp
                · exact .head _
                · exact .tail _ (.tail _ (.tail _ (.tail _ hp)))
        · rcases mem_snoc3 hp with rfl | hp
          · exact ⟨Ne.symm (l1 _ (.head _)), Ne.symm (l1 _ (.tail _ (.head _))), Ne.symm (l1 _ (.tail _ (.tail _ (.head _))))⟩
          · exact LCg.Off3.mem off p hp
      case fin10 =>
        rintro ys nws ⟨T4, rfl, hT4, hT4l, rfl⟩
        intro D2 h tk F8 N8 O8
        have eD2 : LCg.lst (T4.map fun p => Value.ref p.1) = LO (T4.map (·.1)) 8 := by
          show listOf _ (List.length _) = listOf _ 8
          rw [List.length_map, hT4l, List.map_map]; rfl
        rw [eD2] at N8
        repeat' ((fail_if_success (with_reducible show Q _ _)); (fail_if_success (with_reducible show wpAny _ _ (call (Value.ref _) _) _ _ _)); (fail_if_success (with_reducible show _ ∧ ∃ _, _)); (fail_if_success (with_reducible show wpAny _ _ (compareOp _ _ _) _ _ _)); first | (k_unfold; (try dsimp only)) | (with_reducible ((with_reducible show wpAny _ _ (subscriptTail _ _ (Value.ref _) (Value.int _ _)) _ _ _); first | ((with_reducible show wpAny _ _ (subscriptTail _ _ (Value.ref _) (Value.int 0 _)) _ _ _); first | (refine get_lo (by k_asm) (by k_mem) (by with_reducible assumption) ?_) | (refine get_tp (by with_reducible assumption) ?_; intro _)) | (refine get_li (by k_asm) (by k_mem) (by omega) (by omega) (by with_reducible assumption) ?_))) | ((with_reducible show wpAny _ _ (binaryOp .Mult _ _) _ _ _); with_reducible ((refine mul_int ?_ (mulOk (by decide))); (try dsimp only))) | (with_reducible ((with_reducible show wpAny _ _ (call (Value.type "bytes") [Value.ref _]) _ _ _); (refine bytes_row (by k_asm) (by k_asm) (by assumption) (by assumption) (by assumption) rfl ?_); intro _ _ _ _ _ _ _; (try dsimp only))) | walk1 | ((with_reducible show wpAny _ _ (subscriptTail _ _ (Value.ref _) (Value.int _ _)) _ _ _); first | ((with_reducible show wpAny _ _ (subscriptTail _ _ (Value.ref _) (Value.int 0 _)) _ _ _); first | (refine get_lo (by k_asm) (by k_mem) (by with_reducible assumption) ?_) | (refine get_tp (by with_reducible assumption) ?_; intro _)) | (refine get_li (by k_asm) (by k_mem) (by omega) (by omega) (by with_reducible assumption) ?_)) | (dsimp only; first | (with_reducible ((with_reducible show wpAny _ _ (subscriptTail _ _ (Value.ref _) (Value.int _ _)) _ _ _); first | ((with_reducible show wpAny _ _ (subscriptTail _ _ (Value.ref _) (Value.int 0 _)) _ _ _); first | (refine get_lo (by k_asm) (by k_mem) (by with_reducible assumption) ?_) | (refine get_tp (by with_reducible assumption) ?_; intro _)) | (refine get_li (by k_asm) (by k_mem) (by omega) (by omega) (by with_reducible assumption) ?_))) | ((with_reducible show wpAny _ _ (binaryOp .Mult _ _) _ _ _); with_reducible ((refine mul_int ?_ (mulOk (by decide))); (try dsimp only))) | (with_reducible ((with_reducible show wpAny _ _ (call (Value.type "bytes") [Value.ref _]) _ _ _); (refine bytes_row (by k_asm) (by k_asm) (by assumption) (by assumption) (by assumption) rfl ?_); intro _ _ _ _ _ _ _; (try dsimp only))) | walk1 | ((with_reducible show wpAny _ _ (subscriptTail _ _ (Value.ref _) (Value.int _ _)) _ _ _); first | ((with_reducible show wpAny _ _ (subscriptTail _ _ (Value.ref _) (Value.int 0 _)) _ _ _); first | (refine get_lo (by k_asm) (by k_mem) (by with_reducible assumption) ?_) | (refine get_tp (by with_reducible assumption) ?_; intro _)) | (refine get_li (by k_asm) (by k_mem) (by omega) (by omega) (by with_reducible assumption) ?_))) | (leave1; (try dsimp only)))
        refine eq_lt hT2 hT4 (by rw [hTl]; rfl) (by rw [hT4l]; rfl) (fun p hp => (N8 p (.tail _ (mem_mid (List.mem_append_right _ hp)))).1) (fun p hp => (N8 p (.tail _ (mem_end hp))).1) (N8 _ (.tail _ (.head _))).1 (N8 _ (.head _)).1 (by show un + 3 + 64 < _; omega) ?_
        exact ⟨rfl, h, _, rfl, hi_mk d1 d2 d3 d4 d5 d6 d7 d8 hE hTE F8 N8 fun _ hp => .tail _ (.tail _ (mem_more2 hp))⟩

  case D9 =>
  rintro v s' ⟨rfl, h9, tk9, rfl, hI9⟩
  subst hPP
  refine hi_el hI9 ?_; intro o1 o2 o3 o4 o5 o6 o7 o8 d1 d2 d3 d4 d5 d6 d7 d8 hE hTE F N
  exact hret _ _ fun b o e => F.keep _ _ (hkg _ _ e)
end
end Mine
end

/-! ## Num -/
section
open PySem PySem.W PySem.Spec PySem.Calls PyProof.Rows
set_option Elab.async false
set_option maxRecDepth 100000
set_option maxHeartbeats 8000000
namespace Mine
example : True := by
  w_top off
  trivial
example (w : World) : Mine.hd.heap_39 w.params = Mine.hd.heap_39 w.params ∧ PySem.Challenge.rw_op0017_01.prog = PySem.Challenge.rw_op0017_01.prog := by
  k_fill
  exact ⟨rfl, rfl⟩
theorem ints_self : ∀ {ys : List Value}, (∀ v ∈ ys, ∃ z t, v = Value.int z t) → IntsAre ys (ys.map fun v => match v with | .int z _ => z | _ => 0)
  | [], _ => .nil
  | v :: ys, h => by
    obtain ⟨z, t, rfl⟩ := h v (.head _)
    exact .cons z t (ints_self fun w hw => h w (.tail _ hw))
section
variable {b : Bool} {prog : Program} {w : World} {mean : ExcName → Option Value} {mg mb : PySem.Str → Option Value}
   {dp un : Nat} {fr : Option (List Env)} {gd : Option (List Code)} {h₀ : Heap} {s : Shared} {Q E : Value → Shared → Prop}
   (X : (Mine.hd.heap_39 w.params).In h₀) (T : Top Mine.hd.view_39 (looseW Mine.hd.view_39 [PySem.Str.ofString "_initial_missing", PySem.Str.ofString "reduce"]) mean mg mb h₀)
   (hk : ∀ b o, h₀.get? b = some o → s.heap.get? b = some o)
include X T hk
theorem num_c (hd : dp < recursionLimit) {l : Addr} {vs : List Value} {ns : List Int} (hl : h₀.IsList l vs.toArray) (hi : IntsAre vs ns) (hn : ns.length ≤ 63)
   (hret : ∀ R, R.length = 3 → RetL s Q R) :
   wpAny (model prog w) (AA dp un fr gd) (call (.ref 63) [.ref l]) Q E s := by
  refine wpAny_call ?_
  k_dflt (refine' enterC (news := []) X T hk (fun _ h => nomatch h) ?k6 ?k7 ?k8 ?k9 ?kB ?kD ?_ ?c2 ?c3 ?c4; (case k6 => k_is); (case k7 => k_is); (case k8 => exact hd); (case k9 => first | exact BindsTo.of_eq rfl | exact binds_K (Frag.In.keeps X hk) rfl (by k_is) rfl rfl rfl); (case kB => exact rfl); (case kD => decide +kernel); (case c2 => exact rfl); (case c3 => exact rfl); (case c4 => exact rfl))
  intro g L' h₁ tk cells hg hg' F N Y X' T' hl'
  k_cells Y
  (try simp only [List.cons_append, List.nil_append] at N)
  have hkg : Keep s.heap g := fun b o e => hg b o e (by simp)
  (try dsimp only)
  (try k_fold)
  have hL : g.IsList l vs.toArray := by
    obtain ⟨o, e, c, n, d⟩ := hl
    exact ⟨o, hkg _ _ (hk _ _ e), c, n, d⟩
  have hvl : vs.length ≤ 63 := by rw [hi.length]; exact hn
  repeat' ((fail_if_success (with_reducible show Q _ _)); (fail_if_success (with_reducible show wpAny _ _ (call (Value.ref _) _) _ _ _)); (fail_if_success (with_reducible show wpAny _ _ (eval (Expr.ListComp _ _ _ _) _) _ _ _)); first | (k_unfold; (try dsimp only)) | ((with_reducible show LCg.CompSrc ..); k_dflt (refine LCg.CompSrc.range (n := 3) (by rfl) (by k_asm) (by k_asm) (by assumption) (by first | decide | rfl) (by first | rfl | decide) (by first | size_fits | exact Nat.le_of_ble_eq_true rfl) ?_; intro g')) | walk1 | (dsimp only; first | ((with_reducible show LCg.CompSrc ..); k_dflt (refine LCg.CompSrc.range (n := 3) (by rfl) (by k_asm) (by k_asm) (by assumption) (by first | decide | rfl) (by first | rfl | decide) (by first | size_fits | exact Nat.le_of_ble_eq_true rfl) ?_; intro g')) | walk1) | (leave1; (try dsimp only)))
  rename_i F1 N1 _
  refine LCg.ListComp_U (F₀ := F1) (by with_unfolding_all rfl) (by decide) (by rfl) (by decide) (by rfl) ?_
  repeat' ((fail_if_success (with_reducible show Q _ _)); (fail_if_success (with_reducible show wpAny _ _ (call (Value.ref _) _) _ _ _)); (fail_if_success (with_reducible show LCg.CompRest _ _ _ _ _ _ _ _ _ _ _ _ _ _ _ _ _ _ _)); first | (k_unfold; (try dsimp only)) | ((with_reducible show LCg.CompSrc ..); k_dflt (refine LCg.CompSrc.range (n := 3) (by rfl) (by k_asm) (by k_asm) (by assumption) (by first | decide | rfl) (by first | rfl | decide) (by first | size_fits | exact Nat.le_of_ble_eq_true rfl) ?_; intro g')) | walk1 | (dsimp only; first | ((with_reducible show LCg.CompSrc ..); k_dflt (refine LCg.CompSrc.range (n := 3) (by rfl) (by k_asm) (by k_asm) (by assumption) (by first | decide | rfl) (by first | rfl | decide) (by first | size_fits | exact Nat.le_of_ble_eq_true rfl) ?_; intro g')) | walk1) | (leave1; (try dsimp only)))
  refine restU 3 (fun i y => ∃ z t, y = Value.int z t) ?turn ?fin _ 0 [] rfl rfl (fun i y h => by simp at h)
  case turn =>
    rintro i v I oI C oC D m₂ h tk E' ys hlt ⟨t9, rfl⟩ hC hx F2 N2 off ne
    have i3 : i = 0 ∨ i = 1 ∨ i = 2 := by omega
    rcases i3 with rfl | rfl | rfl
    · have hx : m₂ (PySem.Str.ofString "place") = some (.int 0 t9) := hx
      repeat' ((fail_if_success (with_reducible show Q _ _)); (fail_if_success (with_reducible show wpAny _ _ (call (Value.ref _) _) _ _ _)); (fail_if_success (with_reducible show LCg.CompEnd _ _ _ _ _ _ _ _ _ _ _ _ _ _)); (fail_if_success (with_reducible show wpAny _ _ (call (Value.builtin "sum") _) _ _ _)); first | (k_unfold; (try dsimp only)) | ((with_reducible show LCg.CompSrc ..); k_dflt (refine LCg.CompSrc.range (n := 3) (by rfl) (by k_asm) (by k_asm) (by assumption) (by first | decide | rfl) (by first | rfl | decide) (by first | size_fits | exact Nat.le_of_ble_eq_true rfl) ?_; intro g')) | walk1 | (dsimp only; first | ((with_reducible show LCg.CompSrc ..); k_dflt (refine LCg.CompSrc.range (n := 3) (by rfl) (by k_asm) (by k_asm) (by assumption) (by first | decide | rfl) (by first | rfl | decide) (by first | size_fits | exact Nat.le_of_ble_eq_true rfl) ?_; intro g')) | walk1) | (leave1; (try dsimp only)))
      rename_i F3 N3
      have hp := IntsAre.pick hi (some 0) none (some 3)
      refine sumK (by with_unfolding_all rfl) F3 N3 (vs := (slicePick vs.toArray (some 0) none (some 3)).toList) (by rw [Array.toArray_toList]; exact ⟨_, (N3 _ (.head _)).1, rfl, _, rfl⟩) hp ?_
      intro h7 tk7 t7 F7 N7
      clear F3 N3
      repeat' ((fail_if_success (with_reducible show Q _ _)); (fail_if_success (with_reducible show wpAny _ _ (call (Value.ref _) _) _ _ _)); (fail_if_success (with_reducible show LCg.CompEnd _ _ _ _ _ _ _ _ _ _ _ _ _ _)); (fail_if_success (with_reducible show wpAny _ _ (call (Value.builtin "sum") _) _ _ _)); first | (k_unfold; (try dsimp only)) | ((with_reducible show LCg.CompSrc ..); k_dflt (refine LCg.CompSrc.range (n := 3) (by rfl) (by k_asm) (by k_asm) (by assumption) (by first | decide | rfl) (by first | rfl | decide) (by first | size_fits | exact Nat.le_of_ble_eq_true rfl) ?_; intro g')) | walk1 | (dsimp only; first | ((with_reducible show LCg.CompSrc ..); k_dflt (refine LCg.CompSrc.range (n := 3) (by rfl) (by k_asm) (by k_asm) (by assumption) (by first | decide | rfl) (by first | rfl | decide) (by first | size_fits | exact Nat.le_of_ble_eq_true rfl) ?_; intro g')) | walk1) | (leave1; (try dsimp only)))
      exact LCg.CompEnd.intro F7 N7 _ (fun _ hp => .tail _ hp) off trivial ⟨rfl, _, _, rfl⟩
    · have hx : m₂ (PySem.Str.ofString "place") = some (.int 1 t9) := hx
      repeat' ((fail_if_success (with_reducible show Q _ _)); (fail_if_success (with_reducible show wpAny _ _ (call (Value.ref _) _) _ _ _)); (fail_if_success (with_reducible show LCg.CompEnd _ _ _ _ _ _ _ _ _ _ _ _ _ _)); (fail_if_success (with_reducible show wpAny _ _ (call (Value.builtin "sum") _) _ _ _)); first | (k_unfold; (try dsimp only)) | ((with_reducible show LCg.CompSrc ..); k_dflt (refine LCg.CompSrc.range (n := 3) (by rfl) (by k_asm) (by k_asm) (by assumption) (by first | decide | rfl) (by first | rfl | decide) (by first | size_fits | exact Nat.le_of_ble_eq_true rfl) ?_; intro g')) | walk1 | (dsimp only; first | ((with_reducible show LCg.CompSrc ..); k_dflt (refine LCg.CompSrc.range (n := 3) (by rfl) (by k_asm) (by k_asm) (by assumption) (by first | decide | rfl) (by first | rfl | decide) (by first | size_fits | exact Nat.le_of_ble_eq_true rfl) ?_; intro g')) | walk1) | (leave1; (try dsimp only)))
      rename_i F3 N3
      have hp := IntsAre.pick hi (some 1) none (some 3)
      refine sumK (by with_unfolding_all rfl) F3 N3 (vs := (slicePick vs.toArray (some 1) none (some 3)).toList) (by rw [Array.toArray_toList]; exact ⟨_, (N3 _ (.head _)).1, rfl, _, rfl⟩) hp ?_
      intro h7 tk7 t7 F7 N7
      clear F3 N3
      repeat' ((fail_if_success (with_reducible show Q _ _)); (fail_if_success (with_reducible show wpAny _ _ (call (Value.ref _) _) _ _ _)); (fail_if_success (with_reducible show LCg.CompEnd _ _ _ _ _ _ _ _ _ _ _ _ _ _)); (fail_if_success (with_reducible show wpAny _ _ (call (Value.builtin "sum") _) _ _ _)); first | (k_unfold; (try dsimp only)) | ((with_reducible show LCg.CompSrc ..); k_dflt (refine LCg.CompSrc.range (n := 3) (by rfl) (by k_asm) (by k_asm) (by assumption) (by first | decide | rfl) (by first | rfl | decide) (by first | size_fits | exact Nat.le_of_ble_eq_true rfl) ?_; intro g')) | walk1 | (dsimp only; first | ((with_reducible show LCg.CompSrc ..); k_dflt (refine LCg.CompSrc.range (n := 3) (by rfl) (by k_asm) (by k_asm) (by assumption) (by first | decide | rfl) (by first | rfl | decide) (by first | size_fits | exact Nat.le_of_ble_eq_true rfl) ?_; intro g')) | walk1) | (leave1; (try dsimp only)))
      exact LCg.CompEnd.intro F7 N7 _ (fun _ hp => .tail _ hp) off trivial ⟨rfl, _, _, rfl⟩
    · have hx : m₂ (PySem.Str.ofString "place") = some (.int 2 t9) := hx
      repeat' ((fail_if_success (with_reducible show Q _ _)); (fail_if_success (with_reducible show wpAny _ _ (call (Value.ref _) _) _ _ _)); (fail_if_success (with_reducible show LCg.CompEnd _ _ _ _ _ _ _ _ _ _ _ _ _ _)); (fail_if_success (with_reducible show wpAny _ _ (call (Value.builtin "sum") _) _ _ _)); first | (k_unfold; (try dsimp only)) | ((with_reducible show LCg.CompSrc ..); k_dflt (refine LCg.CompSrc.range (n := 3) (by rfl) (by k_asm) (by k_asm) (by assumption) (by first | decide | rfl) (by first | rfl | decide) (by first | size_fits | exact Nat.le_of_ble_eq_true rfl) ?_; intro g')) | walk1 | (dsimp only; first | ((with_reducible show LCg.CompSrc ..); k_dflt (refine LCg.CompSrc.range (n := 3) (by rfl) (by k_asm) (by k_asm) (by assumption) (by first | decide | rfl) (by first | rfl | decide) (by first | size_fits | exact Nat.le_of_ble_eq_true rfl) ?_; intro g')) | walk1) | (leave1; (try dsimp only)))
      rename_i F3 N3
      have hp := IntsAre.pick hi (some 2) none (some 3)
      refine sumK (by with_unfolding_all rfl) F3 N3 (vs := (slicePick vs.toArray (some 2) none (some 3)).toList) (by rw [Array.toArray_toList]; exact ⟨_, (N3 _ (.head _)).1, rfl, _, rfl⟩) hp ?_
      intro h7 tk7 t7 F7 N7
      clear F3 N3
      repeat' ((fail_if_success (with_reducible show Q _ _)); (fail_if_success (with_reducible show wpAny _ _ (call (Value.ref _) _) _ _ _)); (fail_if_success (with_reducible show LCg.CompEnd _ _ _ _ _ _ _ _ _ _ _ _ _ _)); (fail_if_success (with_reducible show wpAny _ _ (call (Value.builtin "sum") _) _ _ _)); first | (k_unfold; (try dsimp only)) | ((with_reducible show LCg.CompSrc ..); k_dflt (refine LCg.CompSrc.range (n := 3) (by rfl) (by k_asm) (by k_asm) (by assumption) (by first | decide | rfl) (by first | rfl | decide) (by first | size_fits | exact Nat.le_of_ble_eq_true rfl) ?_; intro g')) | walk1 | (dsimp only; first | ((with_reducible show LCg.CompSrc ..); k_dflt (refine LCg.CompSrc.range (n := 3) (by rfl) (by k_asm) (by k_asm) (by assumption) (by first | decide | rfl) (by first | rfl | decide) (by first | size_fits | exact Nat.le_of_ble_eq_true rfl) ?_; intro g')) | walk1) | (leave1; (try dsimp only)))
      exact LCg.CompEnd.intro F7 N7 _ (fun _ hp => .tail _ hp) off trivial ⟨rfl, _, _, rfl⟩
  case fin =>
    intro ys hl9 hR9 D h5 tk5 F6 N6 O6
    repeat' ((fail_if_success (with_reducible show Q _ _)); (fail_if_success (with_reducible show wpAny _ _ (call (Value.ref _) _) _ _ _)); first | (k_unfold; (try dsimp only)) | ((with_reducible show LCg.CompSrc ..); k_dflt (refine LCg.CompSrc.range (n := 3) (by rfl) (by k_asm) (by k_asm) (by assumption) (by first | decide | rfl) (by first | rfl | decide) (by first | size_fits | exact Nat.le_of_ble_eq_true rfl) ?_; intro g')) | walk1 | (dsimp only; first | ((with_reducible show LCg.CompSrc ..); k_dflt (refine LCg.CompSrc.range (n := 3) (by rfl) (by k_asm) (by k_asm) (by assumption) (by first | decide | rfl) (by first | rfl | decide) (by first | size_fits | exact Nat.le_of_ble_eq_true rfl) ?_; intro g')) | walk1) | (leave1; (try dsimp only)))
    obtain ⟨R, hR, hRi⟩ : ∃ R : List Int, R.length = 3 ∧ IntsAre ys R := by
      refine ⟨ys.map fun v => match v with | .int z _ => z | _ => 0, by rw [List.length_map]; exact hl9, ints_self fun v hv => ?_⟩
      obtain ⟨i, hi, rfl⟩ := List.mem_iff_getElem.mp hv
      exact hR9 i _ (by simp [hi])
    exact hret R hR _ _ _ _ (fun b o e => F6.keep b o (hkg b o e)) hRi (N6 _ (.head _)).1 (fresh_of hkg (N6 _ (.head _)).2.2)
end
end Mine
end

/-! ## LawC -/
section
open PySem PySem.W PySem.Spec PySem.Calls PyProof.Rows
set_option Elab.async false
set_option maxRecDepth 100000
set_option maxHeartbeats 8000000
namespace Mine
example : True := by
  w_top off
  trivial
example (w : World) : Mine.hd.heap_39 w.params = Mine.hd.heap_39 w.params ∧ PySem.Challenge.rw_op0017_01.prog = PySem.Challenge.rw_op0017_01.prog := by
  k_fill
  exact ⟨rfl, rfl⟩
theorem pz_ne {b : Int} (hb : 0 < b) (n : Nat) : b ^ n ≠ 0 := Int.ne_of_gt (Int.pow_pos hb)
theorem pz_lt {b : Int} {n : Nat} (hb : b = 4 ∨ b = 8) (h : n ≤ 8) : (b ^ n).natAbs < 1073741824 := by
  have : ∀ n : Nat, n < 9 → ((4 : Int) ^ n).natAbs < 1073741824 ∧ ((8 : Int) ^ n).natAbs < 1073741824 := by decide +kernel
  rcases hb with rfl | rfl
  · exact (this n (by omega)).1
  · exact (this n (by omega)).2
theorem isW_pow {z : Int} (h0 : 0 ≤ z) (h1 : z < 4) : isW (2 ^ z.toNat) := by
  have : z = 0 ∨ z = 1 ∨ z = 2 ∨ z = 3 := by omega
  rcases this with rfl | rfl | rfl | rfl
  · exact .inl rfl
  · exact .inr (.inl rfl)
  · exact .inr (.inr (.inl rfl))
  · exact .inr (.inr (.inr rfl))
section
variable {b : Bool} {prog : Program} {w : World} {mean : ExcName → Option Value} {mg mb : PySem.Str → Option Value}
   {dp un : Nat} {fr : Option (List Env)} {gd : Option (List Code)} {h₀ : Heap} {s : Shared} {Q E : Value → Shared → Prop}
   (X : (Mine.hd.heap_39 w.params).In h₀) (T : Top Mine.hd.view_39 (looseW Mine.hd.view_39 [PySem.Str.ofString "_initial_missing", PySem.Str.ofString "reduce"]) mean mg mb h₀)
   (hk : ∀ b o, h₀.get? b = some o → s.heap.get? b = some o)
include X T hk
theorem law_c (hd : dp + 30 < recursionLimit) (hu : un + 1100 < cLine) {l : Addr} {vs : List Value} {ns : List Int} (hl : h₀.IsList l vs.toArray) (hi : IntsAre vs ns) (hn : ns.length ≤ 63)
   (hret : ∀ h' tk', Keep s.heap h' → Q (.bool true) { s with heap := h', toks := tk' }) :
   wpN (model prog w) (AA dp un fr gd) (call (.ref 124) [.ref l]) Q E s := by
  refine wpN_call ?_
  k_dflt (refine' enterCN (news := []) X T hk (fun _ h => nomatch h) ?k6 ?k7 ?k8 ?k9 ?kB ?kD ?_ ?c2 ?c3 ?c4; (case k6 => k_is); (case k7 => k_is); (case k8 => exact (show dp < recursionLimit by omega)); (case k9 => first | exact BindsTo.of_eq rfl | exact binds_K (Frag.In.keeps X hk) rfl (by k_is) rfl rfl rfl); (case kB => exact rfl); (case kD => decide +kernel); (case c2 => exact rfl); (case c3 => exact rfl); (case c4 => exact rfl))
  intro g L' h₁ tk cells hg hg' F N Y X' T' hl'
  k_cells Y
  (try simp only [List.cons_append, List.nil_append] at N)
  have hkg : Keep s.heap g := fun b o e => hg b o e (by simp)
  (try dsimp only)
  (try k_fold)
  have hL : g.IsList l vs.toArray := by
    obtain ⟨o, e, c, n, d⟩ := hl
    exact ⟨o, hkg _ _ (hk _ _ e), c, n, d⟩
  refine wpN_execs_cons (wpN_Return_some (CallN_ ?_))
  repeat' ((fail_if_success (with_reducible show Q _ _)); (fail_if_success (with_reducible show wpAny _ _ (call (Value.ref _) _) _ _ _)); (fail_if_success (with_reducible show wpAny _ _ (eval (Expr.ListComp _ _ _ _) _) _ _ _)); first | (k_unfold; (try dsimp only)) | walk1 | (dsimp only; walk1) | (leave1; (try dsimp only)))
  refine callWithN_K (K := Mine.hd.heap_39 w.params) (by k_is) ?_
  repeat' ((fail_if_success (with_reducible show Q _ _)); (fail_if_success (with_reducible show wpAny _ _ (call (Value.ref _) _) _ _ _)); (fail_if_success (with_reducible show wpAny _ _ (eval (Expr.ListComp _ _ _ _) _) _ _ _)); first | (k_unfold; (try dsimp only)) | walk1 | (dsimp only; walk1) | (leave1; (try dsimp only)))
  refine LCg.ListComp_U (F₀ := F) (by with_unfolding_all rfl) (by decide) (by rfl) (by decide) (by rfl) ?_
  repeat' ((fail_if_success (with_reducible show Q _ _)); (fail_if_success (with_reducible show wpAny _ _ (call (Value.ref _) _) _ _ _)); (fail_if_success (with_reducible show LCg.CompRest _ _ _ _ _ _ _ _ _ _ _ _ _ _ _ _ _ _ _)); first | (k_unfold; (try dsimp only)) | ((with_reducible show LCg.CompSrc ..); k_dflt (refine LCg.CompSrc.range (n := 3) (by rfl) (by k_asm) (by k_asm) (by assumption) (by first | decide | rfl) (by first | rfl | decide) (by first | size_fits | exact Nat.le_of_ble_eq_true rfl) ?_; intro g')) | walk1 | (dsimp only; first | ((with_reducible show LCg.CompSrc ..); k_dflt (refine LCg.CompSrc.range (n := 3) (by rfl) (by k_asm) (by k_asm) (by assumption) (by first | decide | rfl) (by first | rfl | decide) (by first | size_fits | exact Nat.le_of_ble_eq_true rfl) ?_; intro g')) | walk1) | (leave1; (try dsimp only)))
  refine restU 3 (fun i y => ∃ z t, y = Value.int z t) ?turn1 ?fin1 _ 0 [] rfl rfl (fun i y h => by simp at h)
  case turn1 =>
    rintro i v I oI C oC D m₂ h tk E' ys hlt ⟨t9, rfl⟩ hC hx F2 N2 off ne
    repeat' ((fail_if_success (with_reducible show Q _ _)); (fail_if_success (with_reducible show wpAny _ _ (call (Value.ref _) _) _ _ _)); (fail_if_success (with_reducible show LCg.CompEnd _ _ _ _ _ _ _ _ _ _ _ _ _ _)); first | (k_unfold; (try dsimp only)) | walk1 | (dsimp only; walk1) | (leave1; (try dsimp only)))
    refine num_c (h₀ := g) X' T' F2.keep (by show dp + 1 < _; omega) hL hi hn fun R hR D2 ys2 h5 tk5 kk5 hi5 eD5 hD5 => ?_
    have F6 := F2.keeps kk5
    have N6 := (newsK F2 N2 kk5 eD5 hD5).1
    clear F2 N2
    repeat' ((fail_if_success (with_reducible show Q _ _)); (fail_if_success (with_reducible show wpAny _ _ (call (Value.ref _) _) _ _ _)); (fail_if_success (with_reducible show LCg.CompEnd _ _ _ _ _ _ _ _ _ _ _ _ _ _)); first | (k_unfold; (try dsimp only)) | ((with_reducible show wpAny _ _ (binaryOp .Pow _ _) _ _ _); refine pow_int_small (by first | omega | exact Int.fmod_nonneg_of_pos _ (by decide)) (by first | omega | exact Int.le_trans (Int.le_of_lt (Int.fmod_lt_of_pos _ (by decide))) (by decide)) (by decide) ?_) | ((with_reducible show wpAny _ _ (binaryOp .FloorDiv _ _) _ _ _); refine floordiv_int (pz_ne (by decide) _) ?_ (Or.inl (PyProof.noPylong_small (pz_lt (by first | exact .inl rfl | exact .inr rfl) (by omega))))) | ((with_reducible show wpAny _ _ (binaryOp .Mod _ _) _ _ _); refine mod_int' (by decide) ?_) | walk1 | (dsimp only; first | ((with_reducible show wpAny _ _ (binaryOp .Pow _ _) _ _ _); refine pow_int_small (by first | omega | exact Int.fmod_nonneg_of_pos _ (by decide)) (by first | omega | exact Int.le_trans (Int.le_of_lt (Int.fmod_lt_of_pos _ (by decide))) (by decide)) (by decide) ?_) | ((with_reducible show wpAny _ _ (binaryOp .FloorDiv _ _) _ _ _); refine floordiv_int (pz_ne (by decide) _) ?_ (Or.inl (PyProof.noPylong_small (pz_lt (by first | exact .inl rfl | exact .inr rfl) (by omega))))) | ((with_reducible show wpAny _ _ (binaryOp .Mod _ _) _ _ _); refine mod_int' (by decide) ?_) | walk1) | (leave1; (try dsimp only)))
    exact LCg.CompEnd.intro F6 N6 _ (fun _ hp => .tail _ hp) off trivial ⟨rfl, _, _, rfl⟩
  intro ys1 hl1 hR1 D1 h51 tk51 F61 N61 O61
  repeat' ((fail_if_success (with_reducible show Q _ _)); (fail_if_success (with_reducible show wpAny _ _ (call (Value.ref _) _) _ _ _)); (fail_if_success (with_reducible show wpAny _ _ (eval (Expr.ListComp _ _ _ _) _) _ _ _)); first | (k_unfold; (try dsimp only)) | walk1 | (dsimp only; walk1) | (leave1; (try dsimp only)))
  refine LCg.ListComp_U (F₀ := F61) (by with_unfolding_all rfl) (by decide) (by rfl) (by decide) (by rfl) ?_
  repeat' ((fail_if_success (with_reducible show Q _ _)); (fail_if_success (with_reducible show wpAny _ _ (call (Value.ref _) _) _ _ _)); (fail_if_success (with_reducible show LCg.CompRest _ _ _ _ _ _ _ _ _ _ _ _ _ _ _ _ _ _ _)); first | (k_unfold; (try dsimp only)) | ((with_reducible show LCg.CompSrc ..); k_dflt (refine LCg.CompSrc.range (n := 8) (by rfl) (by k_asm) (by k_asm) (by assumption) (by first | decide | rfl) (by first | rfl | decide) (by first | size_fits | exact Nat.le_of_ble_eq_true rfl) ?_; intro g')) | walk1 | (dsimp only; first | ((with_reducible show LCg.CompSrc ..); k_dflt (refine LCg.CompSrc.range (n := 8) (by rfl) (by k_asm) (by k_asm) (by assumption) (by first | decide | rfl) (by first | rfl | decide) (by first | size_fits | exact Nat.le_of_ble_eq_true rfl) ?_; intro g')) | walk1) | (leave1; (try dsimp only)))
  refine restU 8 (fun i y => ∃ z t, y = Value.int z t ∧ 0 ≤ z ∧ z < 4) ?turn2 ?fin2 _ 0 [] rfl rfl (fun i y h => by simp at h)
  case turn2 =>
    rintro i v I oI C oC D m₂ h tk E' ys hlt ⟨t9, rfl⟩ hC hx F2 N2 off ne
    repeat' ((fail_if_success (with_reducible show Q _ _)); (fail_if_success (with_reducible show wpAny _ _ (call (Value.ref _) _) _ _ _)); (fail_if_success (with_reducible show LCg.CompEnd _ _ _ _ _ _ _ _ _ _ _ _ _ _)); first | (k_unfold; (try dsimp only)) | walk1 | (dsimp only; walk1) | (leave1; (try dsimp only)))
    refine num_c (h₀ := g) X' T' F2.keep (by show dp + 1 < _; omega) hL hi hn fun R hR D2 ys2 h5 tk5 kk5 hi5 eD5 hD5 => ?_
    have F6 := F2.keeps kk5
    have N6 := (newsK F2 N2 kk5 eD5 hD5).1
    clear F2 N2
    repeat' ((fail_if_success (with_reducible show Q _ _)); (fail_if_success (with_reducible show wpAny _ _ (call (Value.ref _) _) _ _ _)); (fail_if_success (with_reducible show LCg.CompEnd _ _ _ _ _ _ _ _ _ _ _ _ _ _)); first | (k_unfold; (try dsimp only)) | ((with_reducible show wpAny _ _ (binaryOp .Pow _ _) _ _ _); refine pow_int_small (by first | omega | exact Int.fmod_nonneg_of_pos _ (by decide)) (by first | omega | exact Int.le_trans (Int.le_of_lt (Int.fmod_lt_of_pos _ (by decide))) (by decide)) (by decide) ?_) | ((with_reducible show wpAny _ _ (binaryOp .FloorDiv _ _) _ _ _); refine floordiv_int (pz_ne (by decide) _) ?_ (Or.inl (PyProof.noPylong_small (pz_lt (by first | exact .inl rfl | exact .inr rfl) (by omega))))) | ((with_reducible show wpAny _ _ (binaryOp .Mod _ _) _ _ _); refine mod_int' (by decide) ?_) | walk1 | (dsimp only; first | ((with_reducible show wpAny _ _ (binaryOp .Pow _ _) _ _ _); refine pow_int_small (by first | omega | exact Int.fmod_nonneg_of_pos _ (by decide)) (by first | omega | exact Int.le_trans (Int.le_of_lt (Int.fmod_lt_of_pos _ (by decide))) (by decide)) (by decide) ?_) | ((with_reducible show wpAny _ _ (binaryOp .FloorDiv _ _) _ _ _); refine floordiv_int (pz_ne (by decide) _) ?_ (Or.inl (PyProof.noPylong_small (pz_lt (by first | exact .inl rfl | exact .inr rfl) (by omega))))) | ((with_reducible show wpAny _ _ (binaryOp .Mod _ _) _ _ _); refine mod_int' (by decide) ?_) | walk1) | (leave1; (try dsimp only)))
    exact LCg.CompEnd.intro F6 N6 _ (fun _ hp => .tail _ hp) off trivial ⟨rfl, _, _, rfl, Int.fmod_nonneg_of_pos _ (by decide), Int.fmod_lt_of_pos _ (by decide)⟩
  intro ys2 hl2 hR2 D2 h52 tk52 F62 N62 O62
  repeat' ((fail_if_success (with_reducible show Q _ _)); (fail_if_success (with_reducible show wpAny _ _ (call (Value.ref _) _) _ _ _)); (fail_if_success (with_reducible show wpAny _ _ (eval (Expr.ListComp _ _ _ _) _) _ _ _)); first | (k_unfold; (try dsimp only)) | walk1 | (dsimp only; walk1) | (leave1; (try dsimp only)))
  obtain ⟨M, hM3, hMi⟩ : ∃ M : List Int, M.length = 3 ∧ IntsAre ys1 M := by
    refine ⟨ys1.map fun v => match v with | .int z _ => z | _ => 0, by rw [List.length_map]; exact hl1, ints_self fun v hv => ?_⟩
    obtain ⟨i, hi, rfl⟩ := List.mem_iff_getElem.mp hv
    exact hR1 i _ (by simp [hi])
  obtain ⟨V, hV8, hVb, hVi⟩ : ∃ V : List Int, V.length = 8 ∧ (∀ i, 0 ≤ V.getD i 0 ∧ V.getD i 0 < 4) ∧ IntsAre ys2 V := by
    refine ⟨ys2.map fun v => match v with | .int z _ => z | _ => 0, by rw [List.length_map]; exact hl2, fun i => ?_, ints_self fun v hv => ?_⟩
    · rw [List.getD_eq_getElem?_getD, List.getElem?_map]
      cases q : ys2[i]? with
      | none => exact ⟨by decide, by decide⟩
      | some y =>
        obtain ⟨z, t, rfl, b0, b1⟩ := hR2 i y q
        exact ⟨b0, b1⟩
    · obtain ⟨i, hi, rfl⟩ := List.mem_iff_getElem.mp hv
      obtain ⟨z, t, e, _⟩ := hR2 i _ (by simp [hi] : ys2[i]? = some ys2[i])
      exact ⟨z, t, e⟩
  refine row_c (h₀ := g) X' T' F62.keep (by show dp + 1 + 1 < _; omega) ⟨ys1, _, (N62 _ (.tail _ (.head _))).1, hMi⟩ hM3 ⟨ys2, _, (N62 _ (.head _)).1, hVi⟩ hV8 hVb fun row h8 hb DR ysR h53 tk53 kk53 hi53 eR hfR => ?_
  have F63 := F62.keeps kk53
  have N63 := (newsK F62 N62 kk53 eR hfR).1
  clear F62 N62
  repeat' ((fail_if_success (with_reducible show Q _ _)); (fail_if_success (with_reducible show wpAny _ _ (call (Value.ref _) _) _ _ _)); (fail_if_success (with_reducible show wpAny _ _ (eval (Expr.ListComp _ _ _ _) _) _ _ _)); first | (k_unfold; (try dsimp only)) | walk1 | (dsimp only; walk1) | (leave1; (try dsimp only)))
  refine LCg.ListComp_U (F₀ := F63) (by with_unfolding_all rfl) (by decide) (by rfl) (by decide) (by rfl) ?_
  repeat' ((fail_if_success (with_reducible show Q _ _)); (fail_if_success (with_reducible show wpAny _ _ (call (Value.ref _) _) _ _ _)); (fail_if_success (with_reducible show LCg.CompRest _ _ _ _ _ _ _ _ _ _ _ _ _ _ _ _ _ _ _)); first | (k_unfold; (try dsimp only)) | ((with_reducible show LCg.CompSrc ..); k_dflt (refine LCg.CompSrc.range (n := 6) (by rfl) (by k_asm) (by k_asm) (by assumption) (by first | decide | rfl) (by first | rfl | decide) (by first | size_fits | exact Nat.le_of_ble_eq_true rfl) ?_; intro g')) | walk1 | (dsimp only; first | ((with_reducible show LCg.CompSrc ..); k_dflt (refine LCg.CompSrc.range (n := 6) (by rfl) (by k_asm) (by k_asm) (by assumption) (by first | decide | rfl) (by first | rfl | decide) (by first | size_fits | exact Nat.le_of_ble_eq_true rfl) ?_; intro g')) | walk1) | (leave1; (try dsimp only)))
  refine restU 6 (fun i y => ∃ z t, y = Value.int z t ∧ isW z) ?turn3 ?fin3 _ 0 [] rfl rfl (fun i y h => by simp at h)
  case turn3 =>
    rintro i v I oI C oC D m₂ h tk E' ys hlt ⟨t9, rfl⟩ hC hx F2 N2 off ne
    repeat' ((fail_if_success (with_reducible show Q _ _)); (fail_if_success (with_reducible show wpAny _ _ (call (Value.ref _) _) _ _ _)); (fail_if_success (with_reducible show LCg.CompEnd _ _ _ _ _ _ _ _ _ _ _ _ _ _)); first | (k_unfold; (try dsimp only)) | walk1 | (dsimp only; walk1) | (leave1; (try dsimp only)))
    refine num_c (h₀ := g) X' T' F2.keep (by show dp + 1 < _; omega) hL hi hn fun R hR D2 ys2 h5 tk5 kk5 hi5 eD5 hD5 => ?_
    have F6 := F2.keeps kk5
    have N6 := (newsK F2 N2 kk5 eD5 hD5).1
    clear F2 N2
    repeat' ((fail_if_success (with_reducible show Q _ _)); (fail_if_success (with_reducible show wpAny _ _ (call (Value.ref _) _) _ _ _)); (fail_if_success (with_reducible show LCg.CompEnd _ _ _ _ _ _ _ _ _ _ _ _ _ _)); first | (k_unfold; (try dsimp only)) | ((with_reducible show wpAny _ _ (binaryOp .Pow _ _) _ _ _); refine pow_int_small (by first | omega | exact Int.fmod_nonneg_of_pos _ (by decide)) (by first | omega | exact Int.le_trans (Int.le_of_lt (Int.fmod_lt_of_pos _ (by decide))) (by decide)) (by decide) ?_) | ((with_reducible show wpAny _ _ (binaryOp .FloorDiv _ _) _ _ _); refine floordiv_int (pz_ne (by decide) _) ?_ (Or.inl (PyProof.noPylong_small (pz_lt (by first | exact .inl rfl | exact .inr rfl) (by omega))))) | ((with_reducible show wpAny _ _ (binaryOp .Mod _ _) _ _ _); refine mod_int' (by decide) ?_) | walk1 | (dsimp only; first | ((with_reducible show wpAny _ _ (binaryOp .Pow _ _) _ _ _); refine pow_int_small (by first | omega | exact Int.fmod_nonneg_of_pos _ (by decide)) (by first | omega | exact Int.le_trans (Int.le_of_lt (Int.fmod_lt_of_pos _ (by decide))) (by decide)) (by decide) ?_) | ((with_reducible show wpAny _ _ (binaryOp .FloorDiv _ _) _ _ _); refine floordiv_int (pz_ne (by decide) _) ?_ (Or.inl (PyProof.noPylong_small (pz_lt (by first | exact .inl rfl | exact .inr rfl) (by omega))))) | ((with_reducible show wpAny _ _ (binaryOp .Mod _ _) _ _ _); refine mod_int' (by decide) ?_) | walk1) | (leave1; (try dsimp only)))
    exact LCg.CompEnd.intro F6 N6 _ (fun _ hp => .tail _ hp) off trivial ⟨rfl, _, _, rfl, isW_pow (Int.fmod_nonneg_of_pos _ (by decide)) (Int.fmod_lt_of_pos _ (by decide))⟩
  intro ys3 hl3 hR3 D3 h54 tk54 F64 N64 O64
  repeat' ((fail_if_success (with_reducible show Q _ _)); (fail_if_success (with_reducible show wpAny _ _ (call (Value.ref _) _) _ _ _)); (fail_if_success (with_reducible show wpAny _ _ (eval (Expr.ListComp _ _ _ _) _) _ _ _)); first | (k_unfold; (try dsimp only)) | walk1 | (dsimp only; walk1) | (leave1; (try dsimp only)))
  obtain ⟨W, hW6, hWw, hWi⟩ : ∃ W : List Int, W.length = 6 ∧ (∀ y ∈ W, isW y) ∧ IntsAre ys3 W := by
    refine ⟨ys3.map fun v => match v with | .int z _ => z | _ => 0, by rw [List.length_map]; exact hl3, fun y hy => ?_, ints_self fun v hv => ?_⟩
    · obtain ⟨v, hv, rfl⟩ := List.mem_map.mp hy
      obtain ⟨i, hi, rfl⟩ := List.mem_iff_getElem.mp hv
      obtain ⟨z, t, e, b⟩ := hR3 i _ (by simp [hi] : ys3[i]? = some ys3[i])
      rw [e]
      exact b
    · obtain ⟨i, hi, rfl⟩ := List.mem_iff_getElem.mp hv
      obtain ⟨z, t, e, _⟩ := hR3 i _ (by simp [hi] : ys3[i]? = some ys3[i])
      exact ⟨z, t, e⟩
  refine holds_c (h₀ := g) X' T' F64.keep (by show dp + 1 + 20 < _; omega) (by show un + 3 + 1000 < _; omega) (IL.of (N64 _ (.tail _ (.head _))).1 hi53) h8 hb (IL.of (N64 _ (.head _)).1 hWi) hW6 hWw fun h' tk' kk => hret _ _ fun b o e => kk _ _ (F64.keep _ _ (hkg _ _ e))
end
end Mine
end

/-! ## Law -/
section
open PySem PySem.W PySem.Spec PySem.Calls PyProof.Rows
set_option Elab.async false
set_option maxRecDepth 100000
set_option maxHeartbeats 8000000
namespace Mine
theorem law_x : PySem.Challenge.rw_op0017_01.Holds := by
  refine Mine.hd ?_
  k_fill
  intro w s₀ s₁ mg mb G Y fa o pm cd doc dV kV ho hd hcd hD hmg hg args vals as hpre hlay hrd hwl hlo
  have KX := kIn_of Y
  refine Ground.open G ?_
  intro T B D TE TW
  have hfa : mg (PySem.Str.ofString "law") = some (.ref 124) := mg_of KX T.g (by k_is)
  have e124 : fa = 124 := by
    have := hfa.symm.trans hmg
    injection this with e
    injection e with e
    exact e.symm
  subst e124
  wrow_args hpre hlay hrd hwl hlo
  rename_i ns a1 a2 a3 a4 a5 a6 a7 la vs a8 hL a9 a10 a11 hI a12 hlen a13
  refine law_c KX T (fun _ _ e => e) (dp := 1 + claimMargin) (un := 4) (fr := some []) (gd := some []) (show 1 + 300 + 30 < 1000 by omega) (show 4 + 1100 < 9900 by omega) hL hI (by omega) fun h' tk' kk => GoodW.toG ?_
  refine ⟨.inl ⟨_, _, [], rfl, ?nr, .bool true, ?post, unshared_nil⟩, kk, rfl, hg⟩
  case nr => exact raisesW_false (by wrow_none_raised)
  case post => wrow_post
end Mine
end

theorem PySem.Challenge.cw_op0017_01_holds : PySem.Challenge.rw_op0017_01.Holds := by
  exact Mine.law_x
