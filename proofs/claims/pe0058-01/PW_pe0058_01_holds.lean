import PyProof.Rows.All
import Wide.All
import OpenK.AllK
import Wide.FinOn
import Lean
import PySem.Challenge.RW_pe0058_01
set_option Elab.async false
set_option maxRecDepth 100000
set_option linter.all false
set_option rowWalk.seconds 0
section
open PySem PySem.W PyProof.Rows PySem.Calls
set_option maxHeartbeats 8000000
namespace Mine
/-- the codes of a context, the running one first -/
def codesOf (Γ : Ctx) : List Code := Γ.code :: Γ.below.map (·.1)
/-- the weakest precondition over the contexts whose codes are such -/
def wpS {α : Type} (S : List Code → Prop) (M : Model) (A : Around) (t : Sem α) (Q : α → Shared → Prop) (E : Value → Shared → Prop) (s : Shared) : Prop :=
  ∀ Γ p, Γ.In A → S (codesOf Γ) → Sem.wp M Γ t (fun a _ s' => Q a s') (fun e _ s' => E e s') p s
/-- the claim's caller lies among the codes -/
def SC (l : List Code) : Prop := l.any Code.isCaller = true
theorem wpS_caller {M : Model} {t : Sem Fin} {R : Result → Shared → Prop} {s : Shared}
    (h : wpS SC M callerA t (fun fin s' => ∃ f, fin = .done f ∧ R (.ok f) s') (fun e s' => R (.error e) s') s) :
    Sem.wp M ⟨.builtin "claim.caller" {}, none, none, [], none⟩ t (Sem.finPost M ⟨.builtin "claim.caller" {}, none, none, [], none⟩ R) (fun e _ s' => R (.error e) s') default s :=
  Sem.wp_mono _ _ _ (fun fin p' s' h' => by obtain ⟨f, rfl, hf⟩ := h'; exact hf) (fun _ _ _ h' => h') _ _ (h _ default caller_in rfl)
theorem wpS_monoH {α : Type} {S : List Code → Prop} {M : Model} {A : Around} {t : Sem α} {Q Q' : α → Shared → Prop} {E E' : Value → Shared → Prop} {s : Shared} (h : wpS S M A t Q E s) (hQ : ∀ a s, Q a s → Q' a s) (hE : ∀ e s, E e s → E' e s) : wpS S M A t Q' E' s :=
  fun Γ p hΓ q => Sem.wp_mono M Γ t (fun a _ s => hQ a s) (fun e _ s => hE e s) p s (h Γ p hΓ q)
theorem wpS_bindH {α β : Type} {S : List Code → Prop} {M : Model} {A : Around} {m : Sem α} {f : α → Sem β} {Q : β → Shared → Prop} {E : Value → Shared → Prop} {s : Shared} (h : wpAny M A m (fun a s' => wpS S M A (f a) Q E s') E s) : wpS S M A (m >>= f) Q E s := fun Γ p hΓ q => by
  rw [Sem.wp_bind']
  exact Sem.wp_mono M Γ m (fun a p' s' h' => h' Γ p' hΓ q) (fun _ _ _ h' => h') p s (h Γ p hΓ)
theorem wpS_bindS {α β : Type} {S : List Code → Prop} {M : Model} {A : Around} {m : Sem α} {f : α → Sem β} {Q : β → Shared → Prop} {E : Value → Shared → Prop} {s : Shared} (h : wpS S M A m (fun a s' => wpS S M A (f a) Q E s') E s) : wpS S M A (m >>= f) Q E s := fun Γ p hΓ q => by
  rw [Sem.wp_bind']
  exact Sem.wp_mono M Γ m (fun a p' s' h' => h' Γ p' hΓ q) (fun _ _ _ h' => h') p s (h Γ p hΓ q)
/-- the claim's thread ends as the relativised word says -/
theorem thread_S {prog : Program} {w : World} {t : Sem Fin} {s : Shared} {R : Result → Shared → Prop} (hreg : s.asleep)
    (h : wpS SC (model prog w) callerA t (fun fin s' => ∃ f, fin = .done f ∧ (R (.ok f) s' ∧ leftWithCleanup s'.gens = false)) (fun e s' => R (.error e) s' ∧ leftWithCleanup s'.gens = false) s) :
    ∃ n r s' s'', runN (denote table) prog w n s ⟨t, .builtin "claim.caller" {}, default, []⟩ = .halted (outcomeOf r) s' ∧
      schedN (denote table) prog w n (.single s ⟨t, .builtin "claim.caller" {}, default, []⟩) = .halted (outcomeOf r) s' ∧ s'.forget = s''.forget ∧ R r s'' := by
  obtain ⟨n, r, s₁, s₂, hs, hn, hfo, hR⟩ := wp_halts_full (M := model prog w) (R := R) hreg (wpS_caller (R := fun r s' => R r s' ∧ leftWithCleanup s'.gens = false) h)
  exact ⟨n, r, s₂, s₁, hn, hs, hfo, hR⟩
theorem from_S {c : ClaimW} {tree : List Value → Sem Fin} {w : World} {s : Shared} {free : Addr → Prop} {gens : Prop} {kept : Heap → Prop} (hz : s.asleep) (hgens : s.gens = #[])
    (hspec : ∀ args, c.pre args = true → WData.layableAll args = true → ∀ ord : List DictEntry → List DictEntry, (∀ l, (ord l).Perm l) →
      ∃ vs s₁, layAllW c.records (classAt s.heap) w.params ord args s = some (vs, s₁) ∧
        wpS SC (model c.prog w) callerA (tree vs) (fun fin s' => ∃ f, fin = .done f ∧ (c.Ends s args vs s₁ (.ok f) s' ∧ s'.os = s.os ∧ AllBare s'.gens ∧ kept s'.heap))
          (fun e s' => c.Ends s args vs s₁ (.error e) s' ∧ s'.os = s.os ∧ AllBare s'.gens ∧ kept s'.heap) s₁) :
    c.CallFrom (fun vs => ⟨tree vs, .builtin "claim.caller" {}, default, []⟩) w free gens kept s := by
  intro args hpre hlay ord hord
  obtain ⟨vs, s₁, hlaid, hcode⟩ := hspec args hpre hlay ord hord
  have hal := layAllW_rest _ _ _ hlaid
  obtain ⟨k, r, s', s'', hrun, hsched, hfo, hcase, hos, hkp⟩ := thread_S (prog := c.prog) (w := w) (t := tree vs) (s := s₁) (R := fun r s' => c.Ends s args vs s₁ r s' ∧ s'.os = s.os ∧ kept s'.heap) (Shared.asleep_of_life hal.2.2.2 hz)
    (wpS_monoH hcode (fun fin s' ⟨f, e, h1, h2, h3, h4⟩ => ⟨f, e, ⟨h1, h2, h4⟩, leftWithCleanup_false_of_bare h3⟩) (fun e s' ⟨h1, h2, h3, h4⟩ => ⟨⟨h1, h2, h4⟩, leftWithCleanup_false_of_bare h3⟩))
  obtain ⟨eh, _, _, eo, _⟩ := Shared.forget_eq hfo
  have hcase := hcase.congr eh
  have hkp : kept s'.heap := by rw [eh]; exact hkp
  rw [← eo] at hos
  have hlife : s'.heap.life = s.heap.life := (runN_life _ _ _ hrun).trans hal.2.2.2
  refine ⟨vs, s₁, hlaid, k, _, s', hsched, ?_, (fun _ i x hx => by rw [hgens] at hx; simp at hx), hkp, by rw [hlife], Shared.rest_eq hos⟩
  rcases hcase with ⟨v, rfl, d1, d2, d3, d4, d5⟩ | ⟨e, ob, cls, rfl, d1, d2, d3, d4, d5⟩
  · exact .inl ⟨v, rfl, d1, d2, d3, fun b o y _ => d4 b o y, d5⟩
  · exact .inr ⟨e, ob, cls, rfl, d1, d2, d3, d4, fun b o y _ => d5 b o y⟩
/-- the walk that a head asks for, under the caller -/
abbrev WalkS (q : Program) (loose : List Str) (XP : (Str → Option Value) → Heap → Prop) (YP : World → Heap → Prop) (r : RowW) (d : DefRec) (kwd : List (Str × Expr)) : Prop :=
  ∀ (w : World) (s₀ s₁ : Shared) (mg mb : Str → Option Value), Ground q loose r.records XP w s₀ mg mb s₁.heap → YP w s₁.heap → ∀ (a : Addr) (o : Obj) (pm cd doc dV kV : Value), s₁.heap.get? a = some o →
    o.data = .func { docDef d.name d.params d.body d.scope pm cd doc with defaults := dV, kwdefaults := kV } → s₁.heap.CodeRec cd d.name → Dflts mg s₁.heap d.params kwd dV kV → mg d.name = some (.ref a) → s₁.gens = #[] →
    ∀ (args : List WData) (vals : List Value) (as : List Addr), r.claim.pre args = true → WData.layableAll args = true → ReadsAllW r.records (classAt s₀.heap) s₁.heap vals args as → WellAll w.params s₁.heap vals args → (∀ a ∈ as, (a == sysModules) = false) →
      wpS SC (model r.prog w) callerA (PySem.call (.ref a) vals) (fun v s' => GoodWG r.claim (classAt s₀.heap) (ExcName.means s₀.heap) args s₁ (.ok (.ret v)) s')
        (fun e s' => GoodWG r.claim (classAt s₀.heap) (ExcName.means s₀.heap) args s₁ (.error e) s') s₁
theorem holds_S {r : OpenRow} {q : Program} {loose : List Str} {Xt : Shared → Bool} {XP : (Str → Option Value) → Heap → Prop} {α : Type} {Yf : Shared → α} {Ya : World → α} {YP : World → Heap → Prop} {d : DefRec} {kwd : List (Str × Expr)} {N : Nat}
    (left : LeftO r.prog q loose Xt Yf Ya N) (hY : ∀ w s, Yf s = Ya w → YP w s.heap) (hYk : ∀ w h h', YP w h → (∀ b o, h.get? b = some o → h'.get? b = some o) → YP w h')
    (hX : ∀ s, Xt s = true → XP (s.heap.nsMap mainGlobals) s.heap) (hXk : ∀ mg h h', XP mg h → (∀ b o, h.get? b = some o → h'.get? b = some o) → XP mg h')
    (hdef : defOf q r.name = some (d, kwd)) (hp : r.prog.theDef r.name = some (d.params, d.body, d.scope)) (hk : kwWritten? d.params.kwonlyargs d.params.kw_defaults = some kwd) (hRf : ∀ s, Xt s = true → RecFacts r.records s.heap) (hwr : (!r.writes || r.records.isEmpty) = true)
    (k1 : r.wellSaid = true) (ok : (chainsOk q && opensWell r.prog && (frees r.toRowW && r.within.isEmpty)) = true) (hb : r.prog.bare) (hw : r.toRowW.promised)
    (call : WalkS q loose XP YP r.toRowW d kwd) : r.Holds := by
  refine ⟨k1, hw, ?_⟩
  obtain ⟨ok, k5⟩ := Bool.and_eq_true_iff.mp ok
  obtain ⟨hch, o1⟩ := Bool.and_eq_true_iff.mp ok
  obtain ⟨k5, k6⟩ := Bool.and_eq_true_iff.mp k5
  obtain ⟨hsame, hu, ha, hap, hm⟩ := frees_parts k5
  have pin : ∀ w s, s.heap.isNs mainGlobals = true → Ground q loose [] XP w s (s.heap.nsMap mainGlobals) (s.heap.nsMap builtinsNs) s.heap → isTheDefsW r.prog s.heap r.name := fun w s hg G => pinned_of_view hg G hdef hp hk
  refine ⟨⟨hb, o1, by show r.toRowW.makers.map _ = []; rw [hm]; rfl⟩, hw.witness, fun w => ⟨(left.behind hX hch w).1, fun s' hs' => ?_⟩⟩
  obtain ⟨s₀, hf, hg0, s, hT, hz, hgens, hg, G00, y⟩ := (left.behind (XP := fun mg h => XP mg h ∧ RecFacts r.records h) (fun s hs => ⟨hX s hs, hRf s hs⟩) hch w).2 s' hs'
  have G0 : Ground q loose [] XP w s (s.heap.nsMap mainGlobals) (s.heap.nsMap builtinsNs) s.heap := ⟨G00.T, G00.B, G00.D, G00.TE, G00.TD, G00.W, G00.X.1, G00.cls, G00.has, G00.apart, G00.once, G00.K⟩
  have RF := G00.X.2
  have hT' := hT
  refine ⟨s₀, hf, hg0, s, hT, fun n hn => ?_, RF.1, RF.2.1, ?_⟩
  · obtain rfl : n = r.name := by split at hn <;> simp_all
    exact pin w s hg G0
  have hgens : s.gens = #[] := Array.eq_empty_of_size_eq_zero (beq_iff_eq.mp hgens)
  have G : Ground q loose r.records XP w s _ _ s.heap := RF.ground G0
  refine from_S (c := r.toRowW.claim) hz hgens fun args hpre hlay ord hord => ?_
  obtain ⟨⟨vs, s₁⟩, hlaid⟩ := Option.isSome_iff_exists.mp (layAllW_isSome (P := w.params) (ord := ord) G.has args r.toRowW.args s (pre_splitW hpre).1)
  have keeps := layAllW_keeps _ _ _ hlaid
  have hal := layAllW_rest _ _ _ hlaid
  have hord := hord
  obtain ⟨as, hrd, hin, hold⟩ := reads_layAllW hord _ _ _ hlaid hlay s₁.heap (fun _ _ e => e)
  have L : Laid r.records w s s₁ args vs as := ⟨⟨ord, hord, hlaid⟩, hrd, hin, hold, keeps, hal.1.trans hgens, hal.2.2.1⟩
  have G₁ := G.keeps hXk keeps
  obtain ⟨a, o, pm, cd, doc, dV, kV, h1, h2, h3, h4, h5⟩ := G₁.fn hdef
  have h := call w s s₁ _ _ G₁ (hYk _ _ _ (hY w s y) keeps) a o pm cd doc dV kV h2 h3 h4 h5 (defOf_name hdef ▸ h1) L.gens args vs as hpre hlay L.reads L.well (L.low G.low)
  have hi := ident_freeW hu ha hap
  have hwi : r.toRowW.claim.within = [] := List.isEmpty_iff.mp k6
  refine ⟨vs, s₁, hlaid, wpS_bindH (wpAny_nsGet G₁.T.g ?_)⟩
  rw [h1]
  refine wpS_bindS (wpS_monoH h (fun v s' g => ?_) fun e s' g => ?_)
  · have z := g.laid (c := r.toRowW.claim) hsame hwi hi L
    exact fun Γ p _ _ => ⟨_, rfl, z.1, z.2.1, z.2.2, fun q => ⟨namesKept_of hT' hg _ keeps g.2.1.old, noTable hwr q⟩⟩
  · have z := g.laid (c := r.toRowW.claim) hsame hwi hi L
    exact ⟨z.1, z.2.1, z.2.2, fun q => ⟨namesKept_of hT' hg _ keeps g.2.1.old, noTable hwr q⟩⟩
end Mine

end
section
open PySem PySem.W PyProof.Rows
set_option maxHeartbeats 8000000
namespace Mine.PySem.W
/-- the head's own end, under the caller: named so that the library's line for the head takes it here -/
theorem holds_open {r : OpenRow} {q : Program} {loose : List Str} {Xt : Shared → Bool} {XP : (Str → Option Value) → Heap → Prop} {α : Type} {Yf : Shared → α} {Ya : World → α} {YP : World → Heap → Prop} {d : DefRec} {kwd : List (Str × Expr)} {N : Nat}
    (left : LeftO r.prog q loose Xt Yf Ya N) (hY : ∀ w s, Yf s = Ya w → YP w s.heap) (hYk : ∀ w h h', YP w h → (∀ b o, h.get? b = some o → h'.get? b = some o) → YP w h')
    (hX : ∀ s, Xt s = true → XP (s.heap.nsMap mainGlobals) s.heap) (hXk : ∀ mg h h', XP mg h → (∀ b o, h.get? b = some o → h'.get? b = some o) → XP mg h')
    (hdef : defOf q r.name = some (d, kwd)) (hp : r.prog.theDef r.name = some (d.params, d.body, d.scope)) (hk : kwWritten? d.params.kwonlyargs d.params.kw_defaults = some kwd) (hRf : ∀ s, Xt s = true → RecFacts r.records s.heap) (hwr : (!r.writes || r.records.isEmpty) = true)
    (k1 : r.wellSaid = true) (ok : (chainsOk q && opensWell r.prog && (frees r.toRowW && r.within.isEmpty)) = true) (hb : r.prog.bare) (hw : r.toRowW.promised)
    (call : Mine.WalkS q loose XP YP r.toRowW d kwd) : r.Holds := Mine.holds_S left hY hYk hX hXk hdef hp hk hRf hwr k1 ok hb hw call
end Mine.PySem.W
namespace Mine
open_top hd for PySem.Challenge.rw_pe0058_01
end Mine


end
section
open PySem PySem.W PyProof.Rows PySem.Calls
set_option maxHeartbeats 8000000
namespace Mine
abbrev AA (d u : Nat) (outer : List Env) : Around := { handled := none, depth := d, frames := some outer, guards := some [], units := u }
abbrev fsOf (outer : List Env) : List Addr := outer.filterMap (·.frame)

theorem weaken {α : Type} {M : Model} {A A' : Around} {t : Sem α} {Q : α → Shared → Prop} {E : Value → Shared → Prop} {s : Shared} (h : wpAny M A t Q E s)
    (h1 : A'.handled = A.handled) (h2 : A'.depth ≤ A.depth) (h3 : A'.frames = A.frames) (h4 : A'.guards = A.guards) (h5 : A'.units ≤ A.units) : wpAny M A' t Q E s :=
  fun Γ p hΓ => h Γ p ⟨hΓ.1.trans h1, Nat.le_trans hΓ.2.1 h2, fun l hl => hΓ.2.2.1 l (h3.trans hl), fun g hg => hΓ.2.2.2.1 g (h4.trans hg), Nat.le_trans hΓ.2.2.2.2 h5⟩

theorem enter {w : World} {A : Around} {s : Shared} {base : Heap} {outer : List Env} {mean : ExcName → Option Value} {mg mb : Str → Option Value} {R : Result → Shared → Prop}
    {name qual : Str} {params : Arguments} {body : List Stmt} {scope : Scope} {dV kV doc pm cdv ct oc : Value} {an od : Option Addr} {osl : Array (Option Value)} {f : Addr} {args : Args} {binds : List (Str × Value)}
    (B : Below A base outer s.heap) (XB : (Mine.hd.heap_39 w.params).In base) (TB : Top Mine.hd.view_39 (looseW Mine.hd.view_39 [Str.ofString "_twin_re_1", Str.ofString "_ver_stages", Str.ofString "_norm_version"]) mean mg mb base)
    (ho : (Mine.hd.heap_39 w.params).lookup f = some ⟨oc, od, .func (fnOf name qual params body scope dV kV doc pm an cdv ct), osl⟩) (hcd : codeIn (Mine.hd.heap_39 w.params) cdv qual = true) (hroom : A.depth < recursionLimit)
    (hbind : BindsTo s (fnOf name qual params body scope dV kV doc pm an cdv ct) args binds) (hloc : ∀ y ∈ binds, scope.names.lookup y.1 = some .local)
    (h : ∀ L' h₁, Fr s.heap L' h₁ (fun y => binds.reverse.lookup y) → News s.heap L' h₁ [] → (Mine.hd.heap_39 w.params).In s.heap → Top Mine.hd.view_39 (looseW Mine.hd.view_39 [Str.ofString "_twin_re_1", Str.ofString "_ver_stages", Str.ofString "_norm_version"]) mean mg mb s.heap →
      wpAny (model PySem.Challenge.rw_pe0058_01.row.prog w) (A.deeper (envOf qual scope L' f cdv)) (execs body (envOf qual scope L' f cdv))
        (fun fl s' => R (.ok (.ret (match fl with | .ret v => v | _ => .none))) s')
        (fun e s' => wpAny (model PySem.Challenge.rw_pe0058_01.row.prog w) (A.deeper (envOf qual scope L' f cdv)) (leaving (envOf qual scope L' f cdv) e) (fun _ s'' => R (.error e) s'') (fun e' s'' => R (.error e') s'') s')
        { s with heap := h₁, toks := s.toks + binds.length })
    (hco : scope.isCoroutine = false) (hgen : scope.isGenerator = false) (hk : scope.kind = .function)
    (hcell : ∀ x ∈ scope.names, x.2 ≠ .cell) : codeAny (model PySem.Challenge.rw_pe0058_01.row.prog w) A (.call (.ref f) args) R s :=
  have X : (Mine.hd.heap_39 w.params).In s.heap := XB.keeps B.stays
  codeAny_call_def (fd := fnOf name qual params body scope dV kV doc pm an cdv ct) (body := body) (binds := binds) hroom (X _ _ ho) rfl (TB.nolimit.keeps B.stays) (codeRec_of X hcd) rfl hbind hcell hloc
    (fun h₁ hns hk₁ => h s.heap.objs.size h₁ ⟨hns, hk₁, Nat.le_refl _⟩ News.nil X (TB.keeps B.stays)) hco hgen hk

/-- a calm contract: nothing raised inside, all that stood stands -/
def Calm (w : World) (d u : Nat) (f : Addr) (vs : List Value) (P : Heap → Prop) (R : Heap → Value → Heap → Prop) : Prop :=
  ∀ (outer : List Env) (base : Heap) (mean : ExcName → Option Value) (mg mb : Str → Option Value) (s : Shared) (Q E : Value → Shared → Prop),
    Below (AA d u outer) base outer s.heap → (Mine.hd.heap_39 w.params).In base → Top Mine.hd.view_39 (looseW Mine.hd.view_39 [Str.ofString "_twin_re_1", Str.ofString "_ver_stages", Str.ofString "_norm_version"]) mean mg mb base → P s.heap →
    (∀ v h' tk', s.heap.StaysIn h' → R s.heap v h' → Q v { s with heap := h', toks := tk' }) →
    wpAny (model PySem.Challenge.rw_pe0058_01.row.prog w) (AA d u outer) (call (.ref f) vs) Q E s

/-- a contract of a def that may raise and catch inside: the frames' slots may turn -/
def Turns (w : World) (d u : Nat) (f : Addr) (vs : List Value) (P : Heap → Prop) (R : Heap → Value → Heap → Prop) : Prop :=
  ∀ (outer : List Env) (base : Heap) (mean : ExcName → Option Value) (mg mb : Str → Option Value) (s : Shared) (Q E : Value → Shared → Prop),
    Below (AA d u outer) base outer s.heap → (Mine.hd.heap_39 w.params).In base → Top Mine.hd.view_39 (looseW Mine.hd.view_39 [Str.ofString "_twin_re_1", Str.ofString "_ver_stages", Str.ofString "_norm_version"]) mean mg mb base → KtsDicts (fsOf outer) s.heap → P s.heap →
    (∀ v g' h' tk', KtsTurn (fsOf outer) s.heap g' → g'.StaysIn h' → R s.heap v h' → Q v { s with heap := h', toks := tk' }) →
    wpAny (model PySem.Challenge.rw_pe0058_01.row.prog w) (AA d u outer) (call (.ref f) vs) Q E s
end Mine

end
section
open PySem PySem.W PyProof.Rows PySem.Calls
set_option maxHeartbeats 1000000
namespace Mine
theorem use_calm {w : World} {d u : Nat} {f : Addr} {vs : List Value} {P : Heap → Prop} {R : Heap → Value → Heap → Prop} (C : Calm w d u f vs P R) {d' u' : Nat} {outer : List Env} {base h₀ : Heap} {L a : Addr} {m : Str → Option Value}
    {news : List (Addr × Obj)} {s : Shared} {mean : ExcName → Option Value} {mg mb : Str → Option Value} {n : Str} {sc : Scope} {cd : Value} {Q E : Value → Shared → Prop}
    (B : Below (AA d' u' outer) base outer h₀) (F : Fr h₀ L s.heap m) (N : News h₀ L s.heap news) (XB : (Mine.hd.heap_39 w.params).In base) (TB : Top Mine.hd.view_39 (looseW Mine.hd.view_39 [Str.ofString "_twin_re_1", Str.ofString "_ver_stages", Str.ofString "_norm_version"]) mean mg mb base) (hP : P s.heap) (hd : d' + 1 ≤ d) (hu : u' + 3 ≤ u)
    (h : ∀ v h' tk', Fr h₀ L h' m → News h₀ L h' news → s.heap.StaysIn h' → R s.heap v h' → Q v { s with heap := h', toks := tk' }) (hk : sc.kind = .function := by rfl) :
    wpAny (model PySem.Challenge.rw_pe0058_01.row.prog w) ((AA d' u' outer).deeper (envOf n sc L a cd)) (call (.ref f) vs) Q E s := by
  have B' := B.push (name := n) (scope := sc) (a := a) (cd := cd) F hk
  refine weaken (C (envOf n sc L a cd :: outer) base mean mg mb s Q E ⟨rfl, B'.stays, B'.frames⟩ XB TB hP fun v h' tk' st r => h v h' tk' ?_ ?_ st r) rfl hd rfl rfl hu
  · exact ⟨F.ns.keeps st, fun b o e => st b o (F.keep b o e), F.above⟩
  · exact fun p hp => ⟨st _ _ (N p hp).1, (N p hp).2⟩

inductive All2 {α β : Type} (G : α → β → Prop) : List α → List β → Prop
  | nil : All2 G [] []
  | cons {a : α} {b : β} {as : List α} {bs : List β} : G a b → All2 G as bs → All2 G (a :: as) (b :: bs)
theorem All2.snoc {α β : Type} {G : α → β → Prop} : ∀ {as : List α} {bs : List β} {a : α} {b : β}, All2 G as bs → G a b → All2 G (as ++ [a]) (bs ++ [b])
  | _, _, _, _, .nil, g => .cons g .nil
  | _, _, _, _, .cons g r, g' => .cons g (r.snoc g')

def TurnEnd (h₀ : Heap) (L : Addr) (m : Str → Option Value) (s : Shared) (l : List (Addr × Obj)) (g : Value → Prop) (y : Value) (s₂ : Shared) : Prop :=
  g y ∧ ∃ h' tk', s₂ = { s with heap := h', toks := tk' } ∧ Fr h₀ L h' m ∧ News h₀ L h' l
theorem TurnEnd.intro {h₀ h' : Heap} {L : Addr} {m : Str → Option Value} {s : Shared} {l : List (Addr × Obj)} {g : Value → Prop} {y : Value} {tk' : Nat} (hg : g y) (F : Fr h₀ L h' m) (N : News h₀ L h' l) :
    TurnEnd h₀ L m s l g y { s with heap := h', toks := tk' } := ⟨hg, h', tk', rfl, F, N⟩
/-- a comprehension over a list, its element reckoned item by item, the ledger as it was -/
theorem comp_all {prog : Program} {w : World} {A : Around} {h₀ : Heap} {L : Addr} {m : Str → Option Value} {env : Env} {elt : Expr} {x : Str} {scope : Scope} {cl : List (Str × Addr)} {s : Shared}
    {S : List (Addr × Obj) → Prop} {Fin : List Value → List (Addr × Obj) → Prop} {news : List (Addr × Obj)} {its : Array Value} (G : Value → Value → Prop) (hS : S news)
    (turn : ∀ v I oI C oC D ys m₂ h tk (E' : Value → Shared → Prop), v ∈ its.toList → LCg.NsObj oC m₂ → m₂ x = some v → Fr h₀ L h m → News h₀ L h ((I, oI) :: (C, oC) :: (D, LCg.lst ys) :: news) →
      wpAny (model prog w) A (eval elt (compEnvC scope cl C env)) (TurnEnd h₀ L m s ((I, oI) :: (C, oC) :: (D, LCg.lst ys) :: news) (G v)) E' { s with heap := h, toks := tk })
    (fin : ∀ ys, All2 G its.toList ys → Fin ys news) : LCg.CompRest prog w A h₀ L m env elt x scope cl s S (fun i v => its[i]? = some v) Fin its.size 0 [] news := by
  have key : ∀ k i ys, i + k = its.size → All2 G (its.toList.take i) ys → LCg.CompRest prog w A h₀ L m env elt x scope cl s S (fun i v => its[i]? = some v) Fin k i ys news := by
    intro k
    induction k with
    | zero =>
      intro i ys hi g
      refine LCg.CompRest.zero (fin ys ?_)
      rwa [List.take_of_length_le (by rw [Array.length_toList]; omega)] at g
    | succ k ih =>
      intro i ys hi g
      refine LCg.CompRest.succ fun v I oI C oC D m₂ h tk E' hv hC hx F N off ne => ?_
      have hv' : its.toList[i]? = some v := by rw [Array.getElem?_toList]; exact hv
      refine wpAny_mono (turn v I oI C oC D ys m₂ h tk E' (List.mem_of_getElem? hv') hC hx F N) (fun y s₂ hy => ?_) fun _ _ e => e
      obtain ⟨gy, h', tk', rfl, F', N'⟩ := hy
      refine ⟨h', tk', news, rfl, F', N', off, hS, ih (i + 1) (ys ++ [y]) (by omega) ?_⟩
      rw [List.take_add_one, hv']
      exact g.snoc gy
  exact key its.size 0 [] (Nat.zero_add _) .nil
end Mine

end
section
open PySem PySem.W PyProof.Rows PySem.Calls
set_option maxHeartbeats 1000000
namespace Mine
/-- what _law_number tells of a part -/
def numD (x : Str) : PyData := (Spec.lookup (.str x) [(.str (Str.ofString "08"), .int 8), (.str (Str.ofString "12"), .int 12), (.str (Str.ofString " 7"), .int 7), (.str (Str.ofString "1_0"), .int 10), (.str (Str.ofString "-3"), .int (-3)), (.str (Str.ofString "+4"), .int 4)]).getD .none

def numO (x : Str) : Option Int := match numD x with
  | .int n => some n
  | _ => none
theorem numD_of (x : Str) : numD x = match numO x with | some n => .int n | none => .none := by
  have key : numD x = .none ∨ ∃ n, numD x = .int n := by
    unfold numD
    simp only [Spec.lookup]
    repeat' split
    all_goals first | exact .inl rfl | exact .inr ⟨_, rfl⟩
  unfold numO
  rcases key with h | ⟨n, h⟩ <;> rw [h]
def isNoneV : Value → Bool
  | .none => true
  | _ => false
theorem flat_num {y : Value} {x : Str} (h : PyProof.V.Flat y (numD x)) : (numO x = none ∧ y = .none) ∨ ∃ n t, numO x = some n ∧ y = .int n t := by
  rw [numD_of] at h
  cases hn : numO x with
  | none => rw [hn] at h; exact .inl ⟨rfl, h.none_inv⟩
  | some n => rw [hn] at h; obtain ⟨t, rfl⟩ := h.int_inv; exact .inr ⟨n, t, rfl, rfl⟩
theorem none_gives {y : Value} {x : Str} (h : PyProof.V.Flat y (numD x)) : MeetsSeq.EqGives y .none (isNoneV y) := by
  rcases flat_num h with ⟨_, rfl⟩ | ⟨n, t, _, rfl⟩
  · exact fun prog w A E s Q hq => PySem.SeqAt.EqAt.same .none prog w E Q hq
  · exact fun prog w A E s Q hq => PySem.SeqAt.EqAt.int_none n t prog w E Q hq
def NumRel (v y : Value) : Prop := ∃ x t, v = .str x t ∧ PyProof.V.Flat y (numD x)
theorem numRel_mem : ∀ {vs ys : List Value}, All2 NumRel vs ys → ∀ y ∈ ys, ∃ x, PyProof.V.Flat y (numD x)
  | _, _, .nil, _, h => nomatch h
  | _, _, .cons g r, y, h => by
    rcases List.mem_cons.mp h with rfl | h
    · obtain ⟨x, _, _, f⟩ := g; exact ⟨x, f⟩
    · exact numRel_mem r y h
theorem numRel_any : ∀ {vs ys : List Value} {parts : List Str}, All2 NumRel vs ys → StrsAre vs parts → ys.any isNoneV = parts.any (fun p => (numO p).isNone)
  | _, _, _, .nil, h => by cases h; rfl
  | _, _, _, .cons g r, h => by
    obtain ⟨x, t', rfl, f⟩ := g
    cases h with
    | cons _ _ q =>
      rw [List.any_cons, List.any_cons, numRel_any r q]
      rcases flat_num f with ⟨h, rfl⟩ | ⟨n, t, h, rfl⟩ <;> simp [isNoneV, h]
theorem in_none {prog : Program} {w : World} {A : Around} {E : Value → Shared → Prop} {s : Shared} {D : Addr} {vs ys : List Value} {parts : List Str} {Q : Value → Shared → Prop} (hl : s.heap.IsList D ys.toArray) (hy : All2 NumRel vs ys) (hp : StrsAre vs parts)
    (h : Q (.bool (parts.any fun p => (numO p).isNone)) s) : wpAny (model prog w) A (compareOp .In .none (.ref D)) Q E s :=
  SeqInW.in_listW isNoneV (fun y q => by obtain ⟨x, f⟩ := numRel_mem hy y (by simpa using q); exact none_gives f) hl (by rw [← Array.any_toList, show ys.toArray.toList = ys from rfl, numRel_any hy hp]; exact h)
theorem strs_mem : ∀ {vs : List Value} {ys : List Str}, StrsAre vs ys → ∀ v, v ∈ vs → ∃ x t, v = .str x t
  | _, _, .nil, _, h => nomatch h
  | _, _, .cons y t r, v, h => by
    rcases List.mem_cons.mp h with rfl | h
    · exact ⟨y, t, rfl⟩
    · exact strs_mem r v h
theorem num_small {x : Str} {n : Int} (h : numO x = some n) : n = 8 ∨ n = 12 ∨ n = 7 ∨ n = 10 ∨ n = -3 ∨ n = 4 := by
  have e := numD_of x
  rw [h] at e
  unfold numD at e
  simp only [Spec.lookup] at e
  repeat' split at e
  all_goals simp only [Option.getD_some, Option.getD_none, PyData.int.injEq, reduceCtorEq] at e
  all_goals omega
def numT (p : Str) : Str := Str.ofString (toString ((numO p).getD 0))
def normedT (parts : List Str) : Str := Txt.join (Str.ofString ".") (if parts.any (fun p => (numO p).isNone) then parts.take 3 else (parts.take 3).map numT)
def Short (l : List Str) : Prop := ∀ p ∈ l, p.length ≤ 8
theorem Short.take {l : List Str} (h : Short l) (k : Nat) : Short (l.take k) := fun p hp => h p (List.mem_of_mem_take hp)
theorem short_nums (l : List Str) : Short (l.map numT) := fun p hp => by
  obtain ⟨q, _, rfl⟩ := List.mem_map.mp hp
  unfold numT
  cases hq : numO q with
  | none => decide +kernel
  | some n => rcases num_small hq with rfl | rfl | rfl | rfl | rfl | rfl <;> decide +kernel
theorem short_sum : ∀ {l : List Str}, Short l → (l.map (·.length)).sum ≤ 8 * l.length
  | [], _ => Nat.le_refl _
  | p :: l, h => by
    have h1 := h p List.mem_cons_self
    have h2 := short_sum (l := l) fun q hq => h q (List.mem_cons_of_mem _ hq)
    simp only [List.map_cons, List.sum_cons, List.length_cons]
    omega
theorem short_weight {l : List Str} (h : Short l) (hn : l.length ≤ 64) : (l.map (·.length)).sum + l.length ≤ 1048576 := by
  have := short_sum h
  omega
theorem pick_take (vs : List Value) (y : Nat) : (slicePick vs.toArray none (some (y : Int)) none).toList = vs.take y := by
  have e : sliceBounds none (some (y : Int)) none vs.toArray.size = (((0 : Nat) : Int), ((min y vs.toArray.size : Nat) : Int), 1) := by
    simp only [sliceBounds, Option.getD_none, show (1 : Int) > 0 by decide, if_true, if_neg (show ¬ ((y : Int) < 0) by omega)]
    congr 1
    congr 1
    omega
  rw [kmk_pick_nat _ e]
  show (vs.drop 0).take (min y vs.toArray.size - 0) = _
  rw [List.drop_zero, Nat.sub_zero, List.size_toArray, kmk_take_min]
theorem pick_init (vs : List Value) : (slicePick vs.toArray none (some (-1)) none).toList = vs.take (vs.length - 1) := by
  have e : sliceBounds none (some (-1)) none vs.toArray.size = (((0 : Nat) : Int), ((vs.toArray.size - 1 : Nat) : Int), 1) := by
    simp only [sliceBounds, Option.getD_none, show (1 : Int) > 0 by decide, if_true, if_pos (show ((-1 : Int) < 0) by decide)]
    congr 1
    congr 1
    omega
  rw [kmk_pick_nat _ e]
  show (vs.drop 0).take (vs.toArray.size - 1 - 0) = _
  rw [List.drop_zero, Nat.sub_zero, List.size_toArray]
theorem pick_run (vs : List Value) (k n : Nat) : (slicePick vs.toArray (some (k : Int)) (some ((k : Int) + (n : Int))) none).toList = (vs.drop k).take n := by
  have e : sliceBounds (some (k : Int)) (some ((k : Int) + (n : Int))) none vs.toArray.size = (((min k vs.toArray.size : Nat) : Int), ((min (k + n) vs.toArray.size : Nat) : Int), 1) := by
    simp only [sliceBounds, Option.getD_none, show (1 : Int) > 0 by decide, if_true, if_neg (show ¬ ((k : Int) < 0) by omega), if_neg (show ¬ ((k : Int) + (n : Int) < 0) by omega)]
    congr 1
    · omega
    · congr 1
      omega
  rw [kmk_pick_nat _ e]
  show (vs.drop (min k vs.toArray.size)).take (min (k + n) vs.toArray.size - min k vs.toArray.size) = _
  rw [List.size_toArray, kmk_drop_min, ← kmk_take_min (vs.drop k) n, List.length_drop]
  congr 1
  omega
theorem sz_of {vs : List Value} (h : vs.length ≤ 64) : vs.toArray.size ≤ sizeLine := by
  rw [List.size_toArray]
  exact Nat.le_trans h (by decide)
theorem All2.len {α β : Type} {G : α → β → Prop} : ∀ {as : List α} {bs : List β}, All2 G as bs → as.length = bs.length
  | _, _, .nil => rfl
  | _, _, .cons _ r => by rw [List.length_cons, List.length_cons, r.len]
theorem All2.take {α β : Type} {G : α → β → Prop} : ∀ {as : List α} {bs : List β}, All2 G as bs → ∀ k, All2 G (as.take k) (bs.take k)
  | _, _, .nil, _ => by rw [List.take_nil, List.take_nil]; exact .nil
  | _, _, .cons g r, 0 => .nil
  | _, _, .cons g r, k + 1 => .cons g (r.take k)
theorem small_log {x : Str} {n : Int} (h : numO x = some n) : n.natAbs.log2 < 1920 := by
  rcases num_small h with rfl | rfl | rfl | rfl | rfl | rfl <;> decide +kernel
theorem nums_all : ∀ {vs ys : List Value} {parts : List Str}, All2 NumRel vs ys → StrsAre vs parts → (parts.any fun p => (numO p).isNone) = false → ∀ y ∈ ys, ∃ p n t, numO p = some n ∧ y = .int n t
  | _, _, _, .nil, _, _, _, h => nomatch h
  | _, _, _, .cons g r, h, ha, y, hy => by
    obtain ⟨x, t', rfl, f⟩ := g
    cases h with
    | cons _ _ q =>
      rw [List.any_cons, Bool.or_eq_false_iff] at ha
      rcases List.mem_cons.mp hy with rfl | hy
      · rcases flat_num f with ⟨h, rfl⟩ | ⟨n, t, h, rfl⟩
        · rw [h] at ha; exact absurd ha.1 (by decide)
        · exact ⟨x, n, t, h, rfl⟩
      · exact nums_all r q ha.2 y hy
def NumStr (v y : Value) : Prop := ∃ n t t', v = .int n t ∧ y = .str (Str.ofString (toString n)) t'
theorem nums_strs : ∀ {vs ys zs : List Value} {parts : List Str}, All2 NumRel vs ys → StrsAre vs parts → (parts.any fun p => (numO p).isNone) = false → All2 NumStr ys zs → StrsAre zs (parts.map numT)
  | _, _, _, _, .nil, h, _, z => by cases h; cases z; exact .nil
  | _, _, _, _, .cons g r, h, ha, z => by
    obtain ⟨x, t', rfl, f⟩ := g
    cases h with
    | cons _ _ q =>
      rw [List.any_cons, Bool.or_eq_false_iff] at ha
      cases z with
      | cons zg zr =>
        obtain ⟨n, t, t₂, e, rfl⟩ := zg
        rcases flat_num f with ⟨h, rfl⟩ | ⟨n', t, h, rfl⟩
        · rw [h] at ha; exact absurd ha.1 (by decide)
        · cases e
          rw [List.map_cons, show numT x = Str.ofString (toString n) by unfold numT; rw [h]; rfl]
          exact .cons _ _ (nums_strs r q ha.2 zr)
theorem any_take {parts : List Str} {f : Str → Bool} (h : parts.any f = false) (k : Nat) : (parts.take k).any f = false := by
  rw [List.any_eq_false] at h ⊢
  exact fun x hx => h x (List.mem_of_mem_take hx)
local macro_rules | `(tactic| k_steps) => `(tactic| repeat' (first | (k_unfold; (try dsimp only)) | walk1 | (dsimp only; walk1)))
local macro_rules | `(tactic| walk_at "call builtin:dict.get") => `(tactic| (k_here; k_dflt (refine call_get1_strTab (by k_tabat) ?_); intro v9 hv9))
theorem number_spec (w : World) (x : Str) (t : Tok) : Calm w 600 3000 103 [.str x t] (fun _ => True) (fun _ v _ => PyProof.V.Flat v (numD x)) := by
  unfold Calm
  w_on
  w_top on
  k_fill
  intro outer base mean mg mb s Q E B XB TB hP hret
  refine wpAny_call ?_
  k_dflt (refine' enter (binds := [(Str.ofString "part", .str x t)]) ?k1 ?k2 ?k3 ?k4 ?k5 ?k6 ?k7 ?k8 ?_ ?c2 ?c3 ?c4 ?c5; (case k1 => assumption); (case k2 => assumption); (case k3 => assumption); (case k4 => k_is); (case k5 => k_is); (case k6 => exact (by decide : 600 < recursionLimit)); (case k7 => exact BindsTo.of_eq rfl); (case k8 => exact locs rfl); (case c2 => exact rfl); (case c3 => exact rfl); (case c4 => exact rfl); (case c5 => decide); k_whole)
  intro L' h' F' N' X' T'
  dsimp only
  k_fold
  k_steps
  exact hret _ _ _ (Fr.keep (by assumption)) (by assumption)
end Mine

end
section
open PySem PySem.W PyProof.Rows PySem.Calls
set_option maxHeartbeats 1000000
namespace Mine
local macro_rules | `(tactic| walk_at "pad 0") => `(tactic| fail "no line")
local macro_rules | `(tactic| walk_at "pad 1") => `(tactic| fail "no line")
local macro_rules | `(tactic| walk_at "call ref") => `(tactic| (k_here; k_dflt (refine' use_calm (number_spec _ _ _) ?c1 ?c2 ?c3 ?c4 ?c5 ?c6 ?c7 ?c8 ?_; (case c1 => assumption); (case c2 => assumption); (case c3 => assumption); (case c4 => assumption); (case c5 => assumption); (case c6 => exact True.intro); (case c7 => decide); (case c8 => decide); k_whole); intro v9 h9 tk9 F9 N9 st9 R9; (try dsimp only at R9)))
local macro_rules | `(tactic| k_steps) => `(tactic| repeat' (first | (k_unfold; (try dsimp only)) | walk1 | (dsimp only; walk1)))
local macro_rules | `(tactic| walk_at "compareOp In none ref") => `(tactic| (k_here; k_dflt (refine in_none (by first | exact News.isList (by k_asm) (by k_mem) | is_list) (by assumption) (by assumption) ?_)))
local macro_rules | `(tactic| walk_at "subscriptTail Name Slice ref ref") => `(tactic| (k_here; k_dflt (refine' kmk_slice_lit ?F ?N ?l ?p ?q ?e ?_ ?s ?t ?z; (case F => k_asm); (case N => k_asm); (case l => kmk_list); (case p => kmk_part); (case q => kmk_part); (case e => first | exact pick_take _ 3 | exact pick_init _); (case s => with_unfolding_all rfl); (case t => kmk_pure); (case z => exact sz_of (by assumption))); intro D' h' F' N' l1; (try k_lt l1); (try k_sweep)))
local macro_rules | `(tactic| walk_at "eval ListComp") => `(tactic| (k_here; k_dflt (refine LCg.ListComp_U (F₀ := by k_asm) (by rfl) (by decide) (by rfl) (by decide) (by rfl) ?_)))
local macro_rules | `(tactic| walk_at "call builtin:str.join") => `(tactic| (k_here; k_dflt (refine join_listW (by kmk_list) (by assumption) (by decide +kernel) (by assumption) ?_); intro _ _))
local macro_rules | `(tactic| walk_at "call type:str") => `(tactic| (k_here; refine P.str_of_int (by assumption) ?_))
local macro_rules | `(tactic| walk_at "CompSrc") => `(tactic| fail "here")
theorem normed_spec (w : World) (l : Addr) (vs : List Value) (parts : List Str) (hp : StrsAre vs parts) (hn : parts.length ≤ 64) (hs : Short parts) : Calm w 550 2500 108 [.ref l] (fun h => h.IsList l vs.toArray) (fun _ v _ => ∃ t, v = .str (normedT parts) t) := by
  unfold Calm
  w_on
  w_top on
  k_fill
  intro outer base mean mg mb s Q E B XB TB hP hret
  have hvl : vs.length ≤ 64 := by rw [hp.length]; exact hn
  have hp3 : StrsAre (vs.take 3).toArray.toList (parts.take 3) := hp.take' 3
  have hw3 := short_weight (hs.take 3) (by rw [List.length_take]; omega)
  refine wpAny_call ?_
  k_dflt (refine' enter (binds := [(Str.ofString "parts", .ref l)]) ?k1 ?k2 ?k3 ?k4 ?k5 ?k6 ?k7 ?k8 ?_ ?c2 ?c3 ?c4 ?c5; (case k1 => assumption); (case k2 => assumption); (case k3 => assumption); (case k4 => k_is); (case k5 => k_is); (case k6 => exact (by decide : 550 < recursionLimit)); (case k7 => exact BindsTo.of_eq rfl); (case k8 => exact locs rfl); (case c2 => exact rfl); (case c3 => exact rfl); (case c4 => exact rfl); (case c5 => decide); k_whole)
  intro L' h' F' N' X' T'
  dsimp only
  k_fold
  iterate 2 walk1
  k_dflt (refine LCg.Assign_ListComp_U (F₀ := by k_asm) (by rfl) (by with_unfolding_all rfl) (by rfl) (by decide) (by rfl) (by decide) (by rfl) (by rfl) (by rfl) ?_)
  walk1
  refine LCg.CompSrc.base rfl F' N' hP (sz_of hvl) ?_
  intro g'
  refine comp_all NumRel (.inl hP) ?turn ?fin
  case turn =>
    intro v I oI C oC D ys m₂ h tk E' hv hC hx F₁ N₁
    obtain ⟨x, t, rfl⟩ := strs_mem hp v hv
    k_steps
    exact TurnEnd.intro ⟨x, t, rfl, by assumption⟩ (by assumption) (by assumption)
  case fin =>
    intro ys hys
    have hyl : ys.length ≤ 64 := by rw [← hys.len]; exact hvl
    clear F' N'
    k_steps
    · exact hret _ _ _ (Fr.keep (by assumption)) ⟨_, by unfold normedT; rw [if_pos (by assumption)]⟩
    · rename_i ha _ _ _ _ _
      refine LCg.CompSrc.ledger rfl (by k_asm) (by k_asm) (by k_mem) (sz_of (by rw [List.length_take]; omega)) ?_
      intro g2
      have hr3 := hys.take 3
      have ha3 := any_take ha 3
      refine comp_all NumStr (.inr ⟨_, by k_mem, rfl, _, rfl⟩) ?turn2 ?fin2
      case turn2 =>
        intro v I oI C oC D zs m₂ h tk E' hv hC hx F₁ N₁
        obtain ⟨p, n, t, hpn, rfl⟩ := nums_all hr3 hp3 ha3 v hv
        have hlog := small_log hpn
        k_steps
        exact TurnEnd.intro ⟨_, _, _, rfl, rfl⟩ (by assumption) (by assumption)
      case fin2 =>
        intro zs hz
        have hz3 : StrsAre zs.toArray.toList ((parts.take 3).map numT) := nums_strs hr3 hp3 ha3 hz
        have hwz := short_weight (short_nums (parts.take 3)) (by rw [List.length_map, List.length_take]; omega)
        k_steps
        exact hret _ _ _ (Fr.keep (by assumption)) ⟨_, by unfold normedT; rw [if_neg (by rw [ha]; decide)]⟩
end Mine

end
section
open PySem PySem.W PyProof.Rows PySem.Calls
set_option maxHeartbeats 1000000
namespace Mine
local macro_rules | `(tactic| walk_at "pad 0") => `(tactic| fail "no line")
local macro_rules | `(tactic| walk_at "pad 1") => `(tactic| fail "no line")
local macro_rules | `(tactic| walk_at "pad 2") => `(tactic| fail "no line")
local macro_rules | `(tactic| walk_at "pad 3") => `(tactic| fail "no line")
local macro_rules | `(tactic| walk_at "pad 4") => `(tactic| fail "no line")
local macro_rules | `(tactic| walk_at "pad 5") => `(tactic| fail "no line")
local macro_rules | `(tactic| walk_at "pad 6") => `(tactic| fail "no line")
local macro_rules | `(tactic| walk_at "pad 7") => `(tactic| fail "no line")
local macro_rules | `(tactic| walk_at "pad 8") => `(tactic| fail "no line")
local macro_rules | `(tactic| walk_at "pad 9") => `(tactic| fail "no line")
def dueD (parts : List Str) (reply : Str) : PyData :=
  if parts.length = 3 then (match numO (parts.getD 2 Str.empty) with | none => .str (Str.ofString "value") | some n => .tuple [.str (Str.ofString "h"), .int n]) else .str (Str.ofString "proto: " ++ reply)
local macro_rules | `(tactic| walk_at "call ref") => `(tactic| (k_here; k_dflt (refine' use_calm (number_spec _ _ _) ?c1 ?c2 ?c3 ?c4 ?c5 ?c6 ?c7 ?c8 ?_; (case c1 => assumption); (case c2 => assumption); (case c3 => assumption); (case c4 => assumption); (case c5 => assumption); (case c6 => exact True.intro); (case c7 => decide); (case c8 => decide); k_whole); intro v9 h9 tk9 F9 N9 st9 R9; (rcases flat_num R9 with ⟨e9, q9⟩ | ⟨n9, t9, e9, q9⟩ <;> subst q9)))
local macro_rules | `(tactic| k_steps) => `(tactic| repeat' (first | (k_unfold; (try dsimp only)) | walk1 | (dsimp only; walk1)))
theorem due_proto {parts : List Str} {reply : Str} {t : Tok} {h : Heap} (e : (parts.length : Int) ≠ 3) : PySem.Reads h (.str (Str.ofString "proto: " ++ reply) t) (dueD parts reply) [] := by
  rw [dueD, if_neg (by omega)]
  exact .str _ _
theorem due_value {parts : List Str} {reply : Str} {t : Tok} {h : Heap} (e : (parts.length : Int) = 3) (q : numO (parts.getD (Int.toNat 2) Str.empty) = none) : PySem.Reads h (.str (Str.ofString "value") t) (dueD parts reply) [] := by
  have q' : numO (parts.getD 2 Str.empty) = none := q
  rw [dueD, if_pos (by omega), q']
  exact .str _ _
theorem num_two {x : Str} {n : Int} (e : numO x = some n) (q : numO x = none) : ¬ True := by rw [e] at q; cases q
theorem due_tuple {parts : List Str} {reply : Str} {t t' : Tok} {n : Int} {D : Addr} {k : Nat} {h : Heap} (e : (parts.length : Int) = 3) (q : numO (parts.getD (Int.toNat 2) Str.empty) = some n)
    (g : h.get? D = some { cls := .type "tuple", data := .seq [Value.str (Str.ofString "h") t, Value.int n t'].toArray k }) : PySem.Reads h (.ref D) (dueD parts reply) ([] ++ ([] ++ [])) := by
  have q' : numO (parts.getD 2 Str.empty) = some n := q
  rw [dueD, if_pos (by omega), q']
  exact .tuple g rfl rfl (.cons (.str _ _) (.cons (.int _ _) .nil))
theorem due_spec (w : World) (l : Addr) (vs : List Value) (parts : List Str) (reply : Str) (t : Tok) (hp : StrsAre vs parts) (hn : parts.length ≤ 64) (hr : reply.length ≤ 1000) :
    Calm w 550 2500 122 [.ref l, .str reply t] (fun h => h.IsList l vs.toArray) (fun _ v h' => ∃ as, PySem.Reads h' v (dueD parts reply) as) := by
  unfold Calm
  w_on
  w_top on
  k_fill
  intro outer base mean mg mb s Q E B XB TB hP hret
  have hvl : vs.length ≤ 64 := by rw [hp.length]; exact hn
  refine wpAny_call ?_
  k_dflt (refine' enter (binds := [(Str.ofString "parts", .ref l), (Str.ofString "reply", .str reply t)]) ?k1 ?k2 ?k3 ?k4 ?k5 ?k6 ?k7 ?k8 ?_ ?c2 ?c3 ?c4 ?c5; (case k1 => assumption); (case k2 => assumption); (case k3 => assumption); (case k4 => k_is); (case k5 => k_is); (case k6 => exact (by decide : 550 < recursionLimit)); (case k7 => exact BindsTo.of_eq rfl); (case k8 => exact locs rfl); (case c2 => exact rfl); (case c3 => exact rfl); (case c4 => exact rfl); (case c5 => decide); k_whole)
  intro L' h' F' N' X' T'
  dsimp only
  k_fold
  k_steps
  · exact hret _ _ _ (Fr.keep (by assumption)) ⟨_, due_proto (by assumption)⟩
  · exact hret _ _ _ (Fr.keep (by assumption)) ⟨_, due_value (by assumption) (by assumption)⟩
  · exact absurd (by assumption) (num_two (by assumption) (by assumption))
  · exact hret _ _ _ (Fr.keep (by assumption)) ⟨_, due_tuple (by assumption) (by assumption) (News.get (by assumption) (by k_mem))⟩
end Mine

end
section
open PySem PySem.W PyProof.Rows PySem.Calls
set_option maxHeartbeats 1000000
namespace Mine
theorem map_owner : Manifest.owners.lookup (String.ofList ['p', 'a', 'm'].reverse) = some Manifest.sig_map := by kernel_rfl
theorem map_slot_init : Slot "map" "__init__" "object.__init__" :=
  .of (owner := "object") (n := "__init__") (by rw [typeLookup_type, builtinLookup_eq_fast]; kernel_rfl) (by decide +kernel) (by decide +kernel) (by decide +kernel)
    (by first | exact .inl (by decide +kernel) | exact .inr (by decide +kernel)) (by rw [isSubtype_type]; kernel_rfl)
theorem map_slot_iter : Slot "map" "__iter__" "map.__iter__" :=
  .of (owner := "map") (n := "__iter__") (by rw [typeLookup_type, builtinLookup_eq_fast]; kernel_rfl) (by decide +kernel) (by decide +kernel) (by decide +kernel)
    (by first | exact .inl (by decide +kernel) | exact .inr (by decide +kernel)) (by rw [isSubtype_type]; kernel_rfl)
theorem map_slot_next : Slot "map" "__next__" "map.__next__" :=
  .of (owner := "map") (n := "__next__") (by rw [typeLookup_type, builtinLookup_eq_fast]; kernel_rfl) (by decide +kernel) (by decide +kernel) (by decide +kernel)
    (by first | exact .inl (by decide +kernel) | exact .inr (by decide +kernel)) (by rw [isSubtype_type]; kernel_rfl)
theorem map_entry_next : entryFor table "map.__next__" = some Builtin.«map.__next__» := entryFor_of_tree (by kernel_rfl)
theorem map_args_next (a : Value) : argsOk "map.__next__" ⟨[a], []⟩ := by
  unfold argsOk; rw [signature?_of (id := "map.__next__") (n := ['_', '_', 't', 'x', 'e', 'n', '_', '_']) (o := ['p', 'a', 'm']) (by kernel_rfl) map_owner]; kernel_rfl
theorem map_args_iter (a : Value) : argsOk "map.__iter__" ⟨[a], []⟩ := by
  unfold argsOk; rw [signature?_of (id := "map.__iter__") (n := ['_', '_', 'r', 'e', 't', 'i', '_', '_']) (o := ['p', 'a', 'm']) (by kernel_rfl) map_owner]; kernel_rfl
theorem map_entry_iter : entryFor table "map.__iter__" = some Builtin.«dict_keyiterator.__iter__» :=
  entryFor_alias (id' := "dict_keyiterator.__iter__") (by kernel_rfl) (by first | rfl | decide +kernel | (unfold String.splitOn; simp +decide [String.splitOnAux])) (by decide +kernel) (by kernel_rfl)
theorem map_mro : mroOf (.type "map") = pure [.type "map", .type "object"] := by rw [mroOf_type]; kernel_rfl
theorem map_lookup_new : typeLookup (.type "map") "__new__" = pure (some (.builtin "map.__new__")) := by rw [typeLookup_type, builtinLookup_eq_fast]; kernel_rfl
theorem map_called : TypeCalled "map" "map.__new__" "object.__init__" :=
  ⟨by decide +kernel, by decide +kernel, ⟨_, _, map_mro⟩, madeBy_type map_mro map_lookup_new (by decide +kernel), by decide +kernel, by rw [isSubtype_type]; kernel_rfl, map_slot_init⟩
theorem map_typeCall (a b : Value) : checkTypeCall "map" ⟨[a, b], []⟩ = pure () := by kernel_rfl
theorem map_newCall (a b : Value) : checkBuiltinCall "map.__new__" ⟨[.type "map", a, b], []⟩ = pure () := by kernel_rfl
theorem map_entry_new : entryFor table "map.__new__" = some Builtin.«map.__new__» := entryFor_of_tree (by kernel_rfl)
theorem map_sub : isSubtype (.type "map") (.type "map") = pure true := by rw [isSubtype_type]; kernel_rfl
theorem map_no_len : typeLookup (.type "map") "__len__" = pure none := by rw [typeLookup_type, builtinLookup_eq_fast]; kernel_rfl
theorem map_no_hint : typeLookup (.type "map") "__length_hint__" = pure none := by rw [typeLookup_type, builtinLookup_eq_fast]; kernel_rfl
theorem map_args_init (obj a b : Value) : argsOk "object.__init__" ⟨[obj, a, b], []⟩ := F.args_object_init_3 obj a b
end Mine

end
section
open PySem PySem.W PyProof.Rows PySem.Calls
set_option maxHeartbeats 1000000
namespace Mine
def codeS (S : List Code → Prop) (M : Model) (A : Around) (c : Code) (R : Result → Shared → Prop) (s : Shared) : Prop :=
  ∀ Γ p, Γ.code = c → Γ.Below A → S (codesOf Γ) → wpCode M Γ R p s
section
variable {α β : Type} {S S' : List Code → Prop} {M : Model} {A : Around} {E : Value → Shared → Prop} {s : Shared}
theorem wpS.of_any {t : Sem α} {Q : α → Shared → Prop} (h : wpAny M A t Q E s) : wpS S M A t Q E s := fun Γ p hΓ _ => h Γ p hΓ
theorem codeS.of_any {c : Code} {R : Result → Shared → Prop} (h : codeAny M A c R s) : codeS S M A c R s := fun Γ p hc hΓ _ => h Γ p hc hΓ
theorem wpS.weak {t : Sem α} {Q : α → Shared → Prop} (h : wpS S M A t Q E s) (hS : ∀ l, S' l → S l) : wpS S' M A t Q E s := fun Γ p hΓ q => h Γ p hΓ (hS _ q)
theorem wpS_pure {a : α} {Q : α → Shared → Prop} (h : Q a s) : wpS S M A (pure a) Q E s := fun _ _ _ _ => h
theorem wpS_mono {t : Sem α} {Q Q' : α → Shared → Prop} {E' : Value → Shared → Prop} (h : wpS S M A t Q E s) (hQ : ∀ a s, Q a s → Q' a s) (hE : ∀ e s, E e s → E' e s) : wpS S M A t Q' E' s :=
  fun Γ p hΓ q => Sem.wp_mono M Γ t (fun a _ s => hQ a s) (fun e _ s => hE e s) p s (h Γ p hΓ q)
theorem wpS_bind {m : Sem α} {f : α → Sem β} {Q : β → Shared → Prop} (h : wpS S M A m (fun a s' => wpS S M A (f a) Q E s') E s) : wpS S M A (m >>= f) Q E s := fun Γ p hΓ q => by
  rw [Sem.wp_bind']
  exact Sem.wp_mono M Γ m (fun a p' s' h' => h' Γ p' hΓ q) (fun _ _ _ h' => h') p s (h Γ p hΓ q)
theorem wpS_onRaise {m : Sem α} {k : Value → Sem Unit} {Q : α → Shared → Prop} (h : wpS S M A m Q (fun e s' => wpAny M A (k e) (fun _ s'' => E e s'') E s') s) : wpS S M A (m.onRaise k) Q E s := fun Γ p hΓ q => by
  rw [Sem.wp_onRaise]
  exact Sem.wp_mono M Γ m (fun _ _ _ h' => h') (fun e p' s' h' => h' Γ p' hΓ) p s (h Γ p hΓ q)
theorem wpS_attempt {m : Sem α} {Q : Except Value α → Shared → Prop} (h : wpS S M A m (fun a => Q (.ok a)) (fun e => Q (.error e)) s) : wpS S M A m.attempt Q E s := fun Γ p hΓ q => by
  rw [Sem.wp_attempt]; exact h Γ p hΓ q
theorem wpS_holding {vs : List Value} {m : Sem α} {Q : α → Shared → Prop} (h : wpS S M A m Q E s) : wpS S M A (holding vs m) Q E s := fun Γ p hΓ q => by
  rw [Sem.wp_holding]; exact h Γ p hΓ q
theorem wpS_units {t : Sem α} {Q : α → Shared → Prop} (h : wpS S M A.in1 t Q E s) : wpS S M A t Q E s :=
  fun Γ p hΓ q => h Γ p ⟨hΓ.1, hΓ.2.1, hΓ.2.2.1, hΓ.2.2.2.1, Nat.le_succ_of_le hΓ.2.2.2.2⟩ q
/-- what holds of the codes holds also with c laid upon them -/
def Under (S : List Code → Prop) (c : Code) : Prop := ∀ l, S l → S (c :: l)
theorem wpS_run {c : Code} {h : Option Value} {Q : Flow → Shared → Prop} (hS : Under S c)
    (hc : codeS S M (A.mark h) c (fun r s' => match r with | .ok f => Q f s' | .error e => E e s') s) (hnb : h ≠ some byPass := by intro x; cases x) : wpS S M A (run c h) Q E s :=
  fun Γ p hΓ q => by rw [Sem.wp_run]; exact hc _ p rfl (hΓ.enter c h p hnb) (hS _ q)
theorem wpS_runValue {c : Code} {Q : Value → Shared → Prop} (hS : Under S c)
    (hc : codeS S M A c (fun r s' => match r with | .ok (.ret v) => Q v s' | .ok _ => False | .error e => E e s') s) : wpS S M A (runValue c) Q E s :=
  fun Γ p hΓ q => by rw [Sem.wp_runValue]; exact hc _ p rfl (hΓ.enter c none p (by intro x; cases x)) (hS _ q)
theorem wpS_call {f : Value} {pos : List Value} {kw : List (Str × Value)} {Q : Value → Shared → Prop} (hS : Under S (.call f ⟨pos, kw⟩))
    (hc : codeS S M A (.call f ⟨pos, kw⟩) (fun r s' => match r with | .ok (.ret v) => Q v s' | .ok _ => False | .error e => E e s') s) : wpS S M A (call f pos kw) Q E s := wpS_runValue hS hc
theorem codeS_mono {c : Code} {R R' : Result → Shared → Prop} (h : codeS S M A c R s) (hR : ∀ r s, R r s → R' r s) : codeS S M A c R' s := fun Γ p hc hΓ q => wpCode_mono hR (h Γ p hc hΓ q)
/-- the codes may change their head -/
def Swap (S : List Code → Prop) (c c' : Code) : Prop := ∀ l, S (c :: l) → S (c' :: l)
theorem codeS_of_tree {c : Code} {R : Result → Shared → Prop}
    (h : wpS S M (A.under c) (M.den c) (fun fin s' => match fin with | .done f => R (.ok f) s' | .again c' => c'.quiet = true ∧ Swap S c c' ∧ codeS S M A c' R s') (fun e s' => R (.error e) s') s) : codeS S M A c R s := fun Γ p hc hΓ q => by
  rw [wpCode_iff_wp, hc]
  refine Sem.wp_mono M Γ _ (fun fin p' s' h' => ?_) (fun _ _ _ h' => h') p s (h Γ p (hc ▸ hΓ.in) q)
  cases fin with
  | done f => exact h'
  | again c' => exact ⟨h'.1, h'.2.2 (Γ.goto c') p' rfl (hΓ.goto c') (h'.2.1 _ (by rw [← hc]; exact q))⟩
theorem wpS_stack {Q : List (Code × Pos) → Shared → Prop} (h : ∀ st : List (Code × Pos), S (st.map (·.1)) → Q st s) : wpS S M A stack Q E s := fun Γ p _ q => by
  show Q ((Γ.code, p) :: Γ.below) s
  exact h _ q
end
theorem sc_under (c : Code) : Under SC c := fun l h => by unfold SC at h ⊢; rw [List.any_cons, h, Bool.or_true]
/-- the caller lies among the codes, or a foreign built-in lies above the first frame -/
def Safe (l : List Code) : Prop := l.any Code.isCaller = true ∨ ∃ c ∈ l.takeWhile (·.env?.isNone), ∃ a, c = .builtin "map.__next__" a
theorem safe_under {c : Code} (hc : c.env? = none) : Under Safe c := fun l h => by
  rcases h with h | ⟨d, hd, a, rfl⟩
  · exact .inl (by rw [List.any_cons, h, Bool.or_true])
  · refine .inr ⟨_, ?_, a, rfl⟩
    rw [List.takeWhile_cons, hc]
    exact List.mem_cons_of_mem _ hd
theorem safe_no_mark {l : List Code} (h : Safe l) : pythonCodeMadeTheCall ["int.__new__"] l = false := by
  unfold pythonCodeMadeTheCall
  rcases h with h | ⟨d, hd, a, rfl⟩
  · refine Bool.and_eq_false_iff.mpr (.inl (Bool.and_eq_false_iff.mpr (.inl ?_)))
    have e : (l.any Code.isCaller) = true := h
    show (!l.any Code.isCaller) = false
    rw [e]; rfl
  · refine Bool.and_eq_false_iff.mpr (.inr ?_)
    exact List.all_eq_false.mpr ⟨_, hd, by dsimp only; rw [show (["int.__new__"].contains "map.__next__") = false from by decide, show (("map.__next__" : String) == "type.__call__") = false from by decide, Bool.false_and, Bool.false_or]; decide⟩
end Mine

end
section
open PySem PySem.W PyProof.Rows PySem.Calls
set_option maxHeartbeats 1000000
namespace Mine
theorem int_tree_x (t : Tok) : Builtin.«int.__new__» ⟨[.type "int", .str (Str.ofString "x") t], []⟩ =
    ((rule "int.__new__.invalid-literal" >>= fun _ => pyRepr (.str (Str.ofString "x") t) >>= fun shown => mkStr (((s!"invalid literal for int() with base {10}: " : String) ++ ⟨shown.cps.extract 0 200⟩ : Str)) >>= fun ms => newExc (.type "ValueError") [ms] >>= fun e =>
      markTheRefusal ["int.__new__"] e >>= fun _ => (raiseNew e : Sem Value)) >>= fun v => ret v) := by kernel_rfl
theorem int_tree_0 (t : Tok) : Builtin.«int.__new__» ⟨[.type "int", .str (Str.ofString "") t], []⟩ =
    ((rule "int.__new__.invalid-literal" >>= fun _ => pyRepr (.str (Str.ofString "") t) >>= fun shown => mkStr (((s!"invalid literal for int() with base {10}: " : String) ++ ⟨shown.cps.extract 0 200⟩ : Str)) >>= fun ms => newExc (.type "ValueError") [ms] >>= fun e =>
      markTheRefusal ["int.__new__"] e >>= fun _ => (raiseNew e : Sem Value)) >>= fun v => ret v) := by kernel_rfl
theorem type_call_int (x : Value) : ∃ rest : Value → Sem Fin, Builtin.«type.__call__» ⟨[.type "int", x], []⟩ = (holding [.builtin "int.__new__"] (call (.builtin "int.__new__") [.type "int", x] []) >>= rest) := by
  obtain ⟨c, tl, hmro⟩ := F.called_int.mro
  have hmade := F.called_int.made
  have h1 := F.called_int.notType
  have h2 := F.called_int.canCreate
  have hct := F.typeCall_int_1 x
  unfold Builtin.«type.__call__»
  dsimp only
  simp only [hmro, hmade, hct, h1, h2]
  exact ⟨_, rfl⟩
theorem safe_swap {c c' : Code} (hc : c.env? = none) (h1 : c.isCaller = false) (h2 : ∀ a, c ≠ .builtin "map.__next__" a) (hc' : c'.env? = none) : Swap Safe c c' := fun l h => by
  refine safe_under hc' l ?_
  rcases h with h | ⟨d, hd, a, rfl⟩
  · exact .inl (by rw [List.any_cons, h1, Bool.false_or] at h; exact h)
  · refine .inr ⟨_, ?_, a, rfl⟩
    rw [List.takeWhile_cons, hc] at hd
    rcases List.mem_cons.mp hd with e | e
    · exact absurd e.symm (h2 a)
    · exact e
theorem codeS_builtin {S : List Code → Prop} {prog : Program} {w : World} {A : Around} {id : String} {args : Args} {b : Builtin} {R : Result → Shared → Prop} {s : Shared} (hb : entryFor table id = some b)
    (h : wpS S (model prog w) (A.under (.builtin id args)) (b args) (fun fin s' => match fin with | .done f => R (.ok f) s' | .again c' => c'.quiet = true ∧ Swap S (.builtin id args) c' ∧ codeS S (model prog w) A c' R s') (fun e s' => R (.error e) s') s) :
    codeS S (model prog w) A (.builtin id args) R s := by
  refine codeS_of_tree ?_
  have hden : (model prog w).den (.builtin id args) = b args := by
    show (match entryFor table id with | some b => b args | none => unsupported ((withoutEnding? id "#data").getD id)) = _
    rw [hb]
  rw [hden]
  exact h
theorem int_refuses {prog : Program} {w : World} {A : Around} {Q E : Value → Shared → Prop} {s : Shared} {x : Str} {t : Tok} (hx : x = Str.ofString "x" ∨ x = Str.ofString "") (hh : A.handled = none)
    (h : ∀ h' e tk args, Heap.MadeExc s.heap h' e "ValueError" args → E (.ref e) { s with heap := h', toks := tk }) : wpS Safe (model prog w) A (call (.type "int") [.str x t]) Q E s := by
  refine wpS_call (safe_under rfl) (codeS_of_tree ?_)
  show wpS _ _ _ (callAny (.type "int") _) _ _ _
  refine wpS_pure ⟨Code.quiet_builtin _ (by decide +kernel), safe_swap rfl rfl (fun a e => by cases e) rfl, codeS_builtin F.entry_type_call ?_⟩
  rw [Around.under_plain (weight_type_call_type "int" [.str x t] []) (units_type_call_type "int" [.str x t] [])]
  obtain ⟨rest, e⟩ := type_call_int (.str x t)
  rw [e]
  refine wpS_bind (wpS_holding (wpS_mono (Q := fun _ _ => False) (E := fun e s' => E e s') ?_ (fun _ _ f => f.elim) fun _ _ e => e))
  refine wpS_call (safe_under rfl) (codeS_of_tree ?_)
  show wpS _ _ A.in1.in1 (do checkBuiltinCall "int.__new__" ⟨[.type "int", .str x t], []⟩; again (.builtin "int.__new__" ⟨[.type "int", .str x t], []⟩)) _ _ s
  rw [F.newCall_int_1 (.str x t)]
  refine wpS_pure ⟨plainId_quiet F.called_int.plain _, safe_swap rfl rfl (fun a e => by cases e) rfl, codeS_builtin F.entry_int_new ?_⟩
  rw [Around.under_plainId F.called_int.plain _]
  have tree : Builtin.«int.__new__» ⟨[.type "int", .str x t], []⟩ =
      ((rule "int.__new__.invalid-literal" >>= fun _ => pyRepr (.str x t) >>= fun shown => mkStr (((s!"invalid literal for int() with base {10}: " : String) ++ ⟨shown.cps.extract 0 200⟩ : Str)) >>= fun ms => newExc (.type "ValueError") [ms] >>= fun e =>
        markTheRefusal ["int.__new__"] e >>= fun _ => (raiseNew e : Sem Value)) >>= fun v => ret v) := by
    rcases hx with rfl | rfl
    · exact int_tree_x t
    · exact int_tree_0 t
  have hr : (reprText x).length ≤ 16 := by rcases hx with rfl | rfl <;> decide +kernel
  have hz : (((s!"invalid literal for int() with base {10}: " : String) ++ ⟨(reprText x).cps.extract 0 200⟩ : Str)).length ≤ sizeLine := by rcases hx with rfl | rfl <;> decide +kernel
  rw [tree]
  refine wpS_bind (wpS_bind (wpS.of_any (wpAny_rule ?_)))
  refine wpS_bind (wpS.of_any (wpAny_pyRepr_str ?_ (Nat.le_trans hr (by decide))))
  refine wpS_bind (wpS.of_any (wpAny_mkStr ?_ hz))
  refine wpS_bind (wpS.of_any (wpAny_newExc_plain plainExc_ValueError (fun h' e hm => ?_)))
  refine wpS_bind ?_
  unfold markTheRefusal
  refine wpS_bind (wpS_stack fun st hst => ?_)
  rw [safe_no_mark hst]
  simp only [Bool.false_eq_true, if_false]
  refine wpS_pure (wpS.of_any (wpAny_raiseNew_none hh ?_))
  exact h _ _ _ _ hm
end Mine

end
section
open PySem PySem.W PyProof.Rows PySem.Calls
set_option maxHeartbeats 1000000
namespace Mine
open AutoSeq1 (wpAny_loadPart')
abbrev liObj (l : Addr) (i : Nat) : Obj := { cls := .type "list_iterator", data := .fields #[.ref l, .int i 0] }
abbrev tupObj (v : Value) : Obj := { cls := .type "tuple", data := .seq #[v] }
abbrev mapObj (t : Addr) (f : Value) : Obj := { cls := .type "map", data := .fields #[.ref t, f] }
/-- iter(x) hands back I and leaves the heap h1 -/
def IterTo (x : Value) (s : Shared) (I : Addr) (h1 : Heap) : Prop := ∀ (prog : Program) (w : World) (A : Around) (E Q : Value → Shared → Prop), Q (.ref I) { s with heap := h1 } → wpAny (model prog w) A (pyIter x) Q E s
theorem map_new (f x : Value) :
    Meets (Builtin.«map.__new__» ⟨[.type "map", f, x], []⟩) (fun _ R s => ∃ I h1, IterTo x s I h1 ∧
      R (.ok (.ret (.ref (h1.objs.size + 1)))) { s with heap := (h1.push (tupObj (.ref I))).push (mapObj h1.objs.size f) }) :=
  .of_wp fun prog w A R s h => by
    obtain ⟨hp, g, d, tk, os⟩ := s; obtain ⟨I, h1, hI, h⟩ := h
    have hI' : ∀ (A : Around) (E Q : Value → Shared → Prop), Q (.ref I) { heap := h1, gens := g, drawn := d, toks := tk, os := os } → wpAny (model prog w) A (pyIter x) Q E { heap := hp, gens := g, drawn := d, toks := tk, os := os } := fun A E Q => hI prog w A E Q
    have hsub := map_sub
    unfold Builtin.«map.__new__»
    wp_walk using hI' _ _ _
    exact ⟨_, rfl, by simpa [Heap.size_push] using h⟩
theorem iterTo_list {s : Shared} {l : Addr} {items : Array Value} (hl : s.heap.IsList l items) : IterTo (.ref l) s s.heap.objs.size (s.heap.push (liObj l 0)) :=
  fun _ _ _ _ _ h => wpAny_pyIter_list hl h
theorem iterTo_map {s : Shared} {m t : Addr} {f : Value} (hm : s.heap.get? m = some (mapObj t f)) : IterTo (.ref m) s m s.heap := fun prog w A E Q h => by
  have hT : s.TypeIs (.ref m) "map" := ⟨_, hm, rfl⟩
  refine wpAny_pyIter_slot hT map_slot_iter (wpAny_call_entry map_slot_iter hT map_entry_iter ?_ (map_args_iter _))
  show wpAny _ _ (ret (.ref m)) _ _ s
  exact wpAny_pure ⟨_, rfl, "map", _, hT, map_slot_next.lookup, h⟩
theorem call_map {prog : Program} {w : World} {A : Around} {E Q : Value → Shared → Prop} {s : Shared} {f x : Value} {I : Addr} {h1 : Heap} (hI : IterTo x s I h1)
    (h : Q (.ref (h1.objs.size + 1)) { s with heap := (h1.push (tupObj (.ref I))).push (mapObj h1.objs.size f) }) : wpAny (model prog w) A (call (.type "map") [f, x]) Q E s := by
  refine callType_new map_called (by decide) (map_typeCall _ _) (map_newCall _ _) (fun obj => map_args_init obj _ _) map_entry_new (map_new f x) ⟨I, h1, hI, ?_, h⟩
  have e : (h1.push (tupObj (.ref I))).objs.size = h1.objs.size + 1 := Heap.size_push ..
  refine ⟨mapObj h1.objs.size f, ?_, rfl⟩
  show ((h1.push (tupObj (.ref I))).push (mapObj h1.objs.size f)).get? (h1.objs.size + 1) = _
  rw [← e]
  exact Heap.get?_push_size _ rfl
theorem map_next_body {S : List Code → Prop} {prog : Program} {w : World} {A : Around} {E Q : Value → Shared → Prop} {s : Shared} {f : Value} {M T I : Addr} (hM : s.heap.get? M = some (mapObj T f)) (hT : s.heap.get? T = some (tupObj (.ref I)))
    (h : wpS S (model prog w) A (Builtin.SmallTypes.nextOf (.ref I)) (fun x s₁ => s₁.heap.get? M = some (mapObj T f) ∧ wpS S (model prog w) A (call f [x]) Q E s₁) E s) :
    wpS S (model prog w) A (Builtin.«map.__next__» ⟨[.ref M], []⟩) (fun fin s' => ∃ v, fin = .done (.ret v) ∧ Q v s') E s := by
  show wpS _ _ _ (field (.ref M) 0 >>= _) _ _ s
  refine wpS_bind (wpS.of_any (wpAny_field hM rfl (x := .ref T) rfl ?_))
  show wpS _ _ _ (seqItems? (.ref T) >>= _) _ _ s
  refine wpS_bind (wpS.of_any (wpAny_seqItems hT rfl ?_))
  dsimp only
  refine wpS_bind ?_
  simp only [← Array.forIn_toList, List.forIn_cons, List.forIn_nil]
  refine wpS_bind (wpS_bind (wpS_holding (wpS_mono h (fun x s₁ hx => ?_) fun _ _ e => e)))
  obtain ⟨hM₁, hc⟩ := hx
  refine wpS_pure (wpS_pure ?_)
  refine wpS_bind (wpS.of_any (wpAny_field hM₁ rfl (x := f) rfl ?_))
  refine wpS_bind (wpS_holding ?_)
  show wpS _ _ _ (call f [x]) _ _ _
  refine wpS_mono hc (fun r s₂ hr => ?_) fun _ _ e => e
  exact wpS_bind (wpS.of_any (wpAny_letGo (wpS_pure ⟨_, rfl, hr⟩)))
theorem map_call {prog : Program} {w : World} {A : Around} {E Q : Value → Shared → Prop} {s : Shared} {M : Addr} (hT : s.TypeIs (.ref M) "map")
    (h : wpS Safe (model prog w) A.in1 (Builtin.«map.__next__» ⟨[.ref M], []⟩) (fun fin s' => ∃ v, fin = .done (.ret v) ∧ Q v s') E s) : wpAny (model prog w) A (call (.builtin "map.__next__") [.ref M]) Q E s := by
  refine wpAny_call (codeAny_of_tree ?_)
  show wpAny _ A.in1 (do checkBuiltinCall "map.__next__" ⟨[.ref M], []⟩; again (.builtin "map.__next__" ⟨[.ref M], []⟩)) _ _ s
  refine wpAny_bind (map_slot_next.check _ _ _ _ _ _ _ _ hT (map_args_next _) (wpAny_pure ⟨plainId_quiet map_slot_next.plain _, fun Γ p hc hΓ => ?_⟩))
  have hsafe : Safe (codesOf Γ) := by
    refine .inr ⟨.builtin "map.__next__" ⟨[.ref M], []⟩, ?_, _, rfl⟩
    unfold codesOf
    rw [hc]
    exact List.mem_cons_self
  refine codeS_builtin (S := Safe) map_entry_next ?_ Γ p hc hΓ hsafe
  · rw [Around.under_plainId map_slot_next.plain _]
    refine wpS_mono h (fun fin s' hf => ?_) fun _ _ e => e
    obtain ⟨v, rfl, hq⟩ := hf
    exact hq
theorem map_nextOf {prog : Program} {w : World} {A : Around} {E Q : Value → Shared → Prop} {s : Shared} {f : Value} {M T I : Addr} (hM : s.heap.get? M = some (mapObj T f)) (hT : s.heap.get? T = some (tupObj (.ref I)))
    (h : wpS Safe (model prog w) A.in1 (Builtin.SmallTypes.nextOf (.ref I)) (fun x s₁ => s₁.heap.get? M = some (mapObj T f) ∧ wpS Safe (model prog w) A.in1 (call f [x]) Q E s₁) E s) :
    wpAny (model prog w) A (Builtin.SmallTypes.nextOf (.ref M)) Q E s := by
  have hTy : s.TypeIs (.ref M) "map" := ⟨_, hM, rfl⟩
  unfold Builtin.SmallTypes.nextOf
  refine wpAny_bind (wpAny_callSpecial?_slot (name := Str.ofString "__next__") hTy map_slot_next (map_call hTy (wpS_mono (map_next_body hM hT h) ?_ fun _ _ e => e)))
  rintro fin s' ⟨v, rfl, hq⟩
  exact ⟨v, rfl, wpAny_pure hq⟩
theorem map_pyNext {prog : Program} {w : World} {A : Around} {E : Value → Shared → Prop} {Q : Option Value → Shared → Prop} {s : Shared} {f : Value} {M T I : Addr} (hM : s.heap.get? M = some (mapObj T f)) (hT : s.heap.get? T = some (tupObj (.ref I)))
    (h : wpS Safe (model prog w) A.in1 (Builtin.SmallTypes.nextOf (.ref I)) (fun x s₁ => s₁.heap.get? M = some (mapObj T f) ∧ wpS Safe (model prog w) A.in1 (call f [x]) (fun r s₂ => Q (some r) s₂)
        (fun e s₂ => wpAny (model prog w) A (do if ← isInstance e (.type "StopIteration") then pure none else throw e) Q E s₂) s₁)
      (fun e s₁ => wpAny (model prog w) A (do if ← isInstance e (.type "StopIteration") then pure none else throw e) Q E s₁) s) :
    wpAny (model prog w) A (pyNext (.ref M)) Q E s := by
  have hTy : s.TypeIs (.ref M) "map" := ⟨_, hM, rfl⟩
  unfold pyNext
  refine wpAny_bind (wpAny_attempt (wpAny_callSpecial?_slot (name := Str.ofString "__next__") hTy map_slot_next (map_call hTy (wpS_mono (map_next_body (Q := fun r s₂ => Q (some r) s₂) hM hT h) ?_ fun _ _ e => e))))
  rintro fin s' ⟨v, rfl, hq⟩
  exact ⟨v, rfl, wpAny_pure hq⟩
end Mine

end
section
open PySem PySem.W PyProof.Rows PySem.Calls
set_option maxHeartbeats 1000000
namespace Mine
structure MapSt (h : Heap) (l I T1 M1 T2 M2 : Addr) (items : Array Value) (i : Nat) : Prop where
  hl : h.IsList l items
  hI : h.IsListIter I l i
  t1 : h.get? T1 = some (tupObj (.ref I))
  m1 : h.get? M1 = some (mapObj T1 (.type "int"))
  t2 : h.get? T2 = some (tupObj (.ref M1))
  m2 : h.get? M2 = some (mapObj T2 (.type "str"))
structure Apart (l I T1 M1 T2 M2 : Addr) : Prop where
  l : l ≠ I
  t1 : T1 ≠ I
  m1 : M1 ≠ I
  t2 : T2 ≠ I
  m2 : M2 ≠ I
def KeptBut (I S : Addr) (h h' : Heap) : Prop := ∀ b o, b ≠ I → b ≠ S → h.get? b = some o → h'.get? b = some o
theorem KeptBut.refl (I S : Addr) (h : Heap) : KeptBut I S h h := fun _ _ _ _ e => e
theorem KeptBut.trans {I S : Addr} {h h' h'' : Heap} (x : KeptBut I S h h') (y : KeptBut I S h' h'') : KeptBut I S h h'' := fun b o n1 n2 e => y b o n1 n2 (x b o n1 n2 e)
/-- a part as int() takes or refuses it -/
def PartOk (x : Str) : Prop := (∃ n, numO x = some n ∧ PySem.intText? x = some n ∧ x.length ≤ 640) ∨ (numO x = none ∧ (x = Str.ofString "x" ∨ x = Str.ofString ""))
theorem value_no_stop : isSubtype (.type "ValueError") (.type "StopIteration") = pure false := by rw [isSubtype_type]; kernel_rfl
section
variable {prog : Program} {w : World} {A : Around} {E : Value → Shared → Prop} {s : Shared} {l I T1 M1 T2 M2 : Addr} {items : Array Value} {i : Nat} {x : Str} {t : Tok} {Q : Option Value → Shared → Prop}
theorem MapSt.next {h h' : Heap} (st : MapSt h l I T1 M1 T2 M2 items i) (ap : Apart l I T1 M1 T2 M2) (hI : h'.IsListIter I l (i + 1)) (k : Heap.SameBut I h h') : MapSt h' l I T1 M1 T2 M2 items (i + 1) :=
  ⟨st.hl.extBut k.extBut ap.l, hI, k.extBut _ _ ap.t1 st.t1, k.extBut _ _ ap.m1 st.m1, k.extBut _ _ ap.t2 st.t2, k.extBut _ _ ap.m2 st.m2⟩
theorem map_turn_num {n : Int} (st : MapSt s.heap l I T1 M1 T2 M2 items i) (ap : Apart l I T1 M1 T2 M2) (hx : items[i]? = some (.str x t)) (h1 : numO x = some n) (h2 : PySem.intText? x = some n) (h3 : x.length ≤ 640)
    (hQ : ∀ h' tk t', MapSt h' l I T1 M1 T2 M2 items (i + 1) → Heap.SameBut I s.heap h' → Q (some (.str (Str.ofString (toString n)) t')) { s with heap := h', toks := tk }) : wpAny (model prog w) A (pyNext (.ref M2)) Q E s := by
  refine map_pyNext st.m2 st.t2 (wpS.of_any (map_nextOf st.m1 st.t1 (wpS.of_any (wpAny_nextOf_list_item st.hI st.hl hx fun h' hI' hs' => ?_))))
  have st' := st.next ap hI' hs'
  refine ⟨st'.m1, wpS.of_any (KIN.call_text h2 h3 ⟨st'.m2, wpS.of_any (P.str_of_int (small_log h1) ?_)⟩)⟩
  exact hQ h' _ _ st' hs'
theorem map_turn_no (hh : A.handled = none) (st : MapSt s.heap l I T1 M1 T2 M2 items i) (ap : Apart l I T1 M1 T2 M2) (hx : items[i]? = some (.str x t)) (h1 : x = Str.ofString "x" ∨ x = Str.ofString "")
    (hE : ∀ h1 h' tk e args, Heap.SameBut I s.heap h1 → Heap.MadeExc h1 h' e "ValueError" args → E (.ref e) { s with heap := h', toks := tk }) : wpAny (model prog w) A (pyNext (.ref M2)) Q E s := by
  refine map_pyNext st.m2 st.t2 (wpS.of_any (map_nextOf st.m1 st.t1 (wpS.of_any (wpAny_nextOf_list_item st.hI st.hl hx fun h' hI' hs' => ?_))))
  have st' := st.next ap hI' hs'
  refine ⟨st'.m1, int_refuses h1 hh fun h2 e tk args me => ?_⟩
  obtain ⟨t, ht, _⟩ := me.there
  refine wpAny_bind (wpAny_isInstance (T := "ValueError") (U := "StopIteration") (b := false) ⟨_, ht, rfl⟩ value_no_stop ?_)
  exact wpAny_throw (hE h' h2 tk e args hs' me)
theorem map_turn_end (hh : A.handled = none) (st : MapSt s.heap l I T1 M1 T2 M2 items items.size)
    (hQ : ∀ h', Heap.ExtBut I s.heap h' → Q none { s with heap := h' }) : wpAny (model prog w) A (pyNext (.ref M2)) Q E s := by
  refine map_pyNext st.m2 st.t2 (wpS.of_any (map_nextOf st.m1 st.t1 (wpS.of_any (wpAny_nextOf_list_end hh st.hI st.hl (by simp) fun h' e he ho => ?_))))
  obtain ⟨o, ho, hc⟩ := ho
  refine wpAny_bind (wpAny_isInstance (T := "StopIteration") (b := true) ⟨o, ho, hc⟩ isSubtype_stop ?_)
  exact wpAny_pure (hQ _ he)
theorem take_snoc {α : Type} {l : List α} {i : Nat} {a : α} (h : l[i]? = some a) : l.take (i + 1) = l.take i ++ [a] := by
  rw [List.take_add_one, h]; rfl
abbrev lsObj (acc : Array Value) (c : Nat) : Obj := { cls := .type "list", dict := none, data := .seq acc c, slots := #[] }
theorem map_loop {R : Result → Shared → Prop} (hh : A.handled = none) {S : Addr} {res : Value} {parts : List Str} (hp : StrsAre items.toList parts) (good : ∀ p ∈ parts, PartOk p) (hn : items.size ≤ 64) (ap : Apart l I T1 M1 T2 M2)
    (nS : S ≠ I ∧ S ≠ l ∧ S ≠ T1 ∧ S ≠ M1 ∧ S ≠ T2 ∧ S ≠ M2) :
    ∀ (k i : Nat) (s : Shared) (acc : Array Value) (c : Nat), items.size - i = k → i ≤ items.size → MapSt s.heap l I T1 M1 T2 M2 items i → s.heap.get? S = some (lsObj acc c) → acc.size = i → StrsAre acc.toList ((parts.take i).map numT) →
      ((parts.take i).any fun p => (numO p).isNone) = false →
      ((parts.any fun p => (numO p).isNone) = false → ∀ h' tk acc' c', KeptBut I S s.heap h' → h'.get? S = some (lsObj acc' c') → StrsAre acc'.toList (parts.map numT) → R (.ok (.ret res)) { s with heap := h', toks := tk }) →
      ((parts.any fun p => (numO p).isNone) = true → ∀ h1 h' tk e args, KeptBut I S s.heap h1 → Heap.MadeExc h1 h' e "ValueError" args → R (.error (.ref e)) { s with heap := h', toks := tk }) →
      codeAny (model prog w) A (.builtin "list.extend.loop" ⟨[.ref S, .ref M2, res], []⟩) R s := by
  have hsz : items.size = parts.length := by rw [← Array.length_toList, hp.length]
  intro k
  induction k with
  | zero =>
    intro i s acc c hk hi st hS ha hacc hany hok hno
    have hin : i = items.size := by omega
    subst hin
    refine codeAny_builtin F.entry_extend_loop ?_
    rw [Around.under_plainId F.plain_extend_loop _]
    show wpAny _ A.in1 (pyNext (.ref M2) >>= _) _ _ s
    refine wpAny_bind (map_turn_end hh st fun h' he => ?_)
    rw [List.take_of_length_le (by omega)] at hacc hany
    exact wpAny_pure (hok hany h' _ acc c (fun b o n1 _ e => he b o n1 e) (he _ _ nS.1 hS) hacc)
  | succ k ih =>
    intro i s acc c hk hi st hS ha hacc hany hok hno
    have hlt : i < items.size := by omega
    obtain ⟨x, t, hx, hxp⟩ : ∃ x t, items[i]? = some (.str x t) ∧ parts[i]? = some x := by
      have h1 : items.toList[i]? = some items[i] := by simp [hlt]
      obtain ⟨y, t, e, hy⟩ := hp.item i _ h1
      exact ⟨y, t, by rw [← Array.getElem?_toList, h1, e], hy⟩
    refine codeAny_builtin F.entry_extend_loop ?_
    rw [Around.under_plainId F.plain_extend_loop _]
    show wpAny _ A.in1 (pyNext (.ref M2) >>= _) _ _ s
    rcases good x (List.mem_of_getElem? hxp) with ⟨n, h1, h2, h3⟩ | ⟨h1, h2⟩
    · refine wpAny_bind (map_turn_num st ap hx h1 h2 h3 fun h' tk t' st' hs' => ?_)
      have hS' := hs'.extBut _ _ nS.1 hS
      show wpAny _ A.in1 (updateSeq S (·.push (.str (Str.ofString (toString n)) t')) >>= _) _ _ _
      refine wpAny_bind (wpAny_updateSeq hS' rfl (wpAny_pure ⟨plainId_quiet F.plain_extend_loop _, ?_⟩) (by rw [ha]; exact Nat.le_trans hi (Nat.le_trans hn (by decide))) (by show (acc.push _).size ≤ sizeLine + 1; rw [Array.size_push, ha]; exact Nat.succ_le_succ (Nat.le_trans hi (Nat.le_trans hn (by decide)))))
      have keep : ∀ b o, b ≠ S → h'.get? b = some o → (h'.update S (Obj.mapSeq (·.push (.str (Str.ofString (toString n)) t')))).get? b = some o := fun b o hb e => (Heap.get?_update_other _ _ (Ne.symm hb)).trans e
      have st'' : MapSt (h'.update S (Obj.mapSeq (·.push (.str (Str.ofString (toString n)) t')))) l I T1 M1 T2 M2 items (i + 1) :=
        ⟨by obtain ⟨o, e, r⟩ := st'.hl; exact ⟨o, keep _ _ (Ne.symm nS.2.1) e, r⟩, by obtain ⟨o, e, r⟩ := st'.hI; exact ⟨o, keep _ _ (Ne.symm nS.1) e, r⟩, keep _ _ (Ne.symm nS.2.2.1) st'.t1, keep _ _ (Ne.symm nS.2.2.2.1) st'.m1, keep _ _ (Ne.symm nS.2.2.2.2.1) st'.t2, keep _ _ (Ne.symm nS.2.2.2.2.2) st'.m2⟩
      have kb : KeptBut I S s.heap (h'.update S (Obj.mapSeq (·.push (.str (Str.ofString (toString n)) t')))) := fun b o n1 n2 e => keep b o n2 (hs'.extBut b o n1 e)
      have e1 : numT x = Str.ofString (toString n) := by unfold numT; rw [h1]; rfl
      refine ih (i + 1) _ (acc.push (.str (Str.ofString (toString n)) t')) _ (by omega) hlt st'' (Heap.get?_update_self _ hS' rfl) (by rw [Array.size_push, ha]) ?_ ?_ (fun hn' h2 tk2 acc' c' k2 hS2 hz => ?_) (fun hn' h1' h2 tk2 e args k2 me => ?_)
      · rw [take_snoc hxp, List.map_append, Array.toList_push]
        exact hacc.append' (by rw [List.map_cons, e1]; exact .cons _ _ .nil)
      · rw [take_snoc hxp, List.any_append, hany]
        simp [h1]
      · exact hok hn' h2 tk2 acc' c' (kb.trans k2) hS2 hz
      · exact hno hn' h1' h2 tk2 e args (kb.trans k2) me
    · refine wpAny_bind (map_turn_no hh st ap hx h2 fun h1' h' tk e args hs' me => ?_)
      refine hno ?_ h1' h' tk e args (fun b o n1 _ e => hs'.extBut b o n1 e) me
      rw [List.any_eq_true]
      exact ⟨x, List.mem_of_getElem? hxp, by rw [h1]; rfl⟩
end
end Mine

end
section
open PySem PySem.W PyProof.Rows PySem.Calls
set_option maxHeartbeats 1000000
namespace Mine
section
variable {prog : Program} {w : World} {A : Around} {E Q : Value → Shared → Prop} {s : Shared} {l I T1 M1 T2 M2 : Addr} {items : Array Value}
theorem map_extend {R : Result → Shared → Prop} (hh : A.handled = none) {S : Addr} {res : Value} {parts : List Str} (hp : StrsAre items.toList parts) (good : ∀ p ∈ parts, PartOk p) (hn : items.size ≤ 64) (ap : Apart l I T1 M1 T2 M2)
    (nS : S ≠ I ∧ S ≠ l ∧ S ≠ T1 ∧ S ≠ M1 ∧ S ≠ T2 ∧ S ≠ M2) {c₀ : Nat} (st : MapSt s.heap l I T1 M1 T2 M2 items 0) (hS : s.heap.get? S = some { cls := .type "list", data := .seq #[] c₀ })
    (hok : (parts.any fun p => (numO p).isNone) = false → ∀ h' tk acc' c', KeptBut I S s.heap h' → h'.get? S = some (lsObj acc' c') → StrsAre acc'.toList (parts.map numT) → R (.ok (.ret res)) { s with heap := h', toks := tk })
    (hno : (parts.any fun p => (numO p).isNone) = true → ∀ h1 h' tk e args, KeptBut I S s.heap h1 → Heap.MadeExc h1 h' e "ValueError" args → R (.error (.ref e)) { s with heap := h', toks := tk }) :
    wpAny (model prog w) A.in1 (Builtin.List.listExtendWith (.ref S) (.ref M2) res)
      (fun fin s' => match fin with | .done f => R (.ok f) s' | .again c' => c'.quiet = true ∧ codeAny (model prog w) A c' R s') (fun e s' => R (.error e) s') s := by
  have hT : s.TypeIs (.ref M2) "map" := ⟨_, st.m2, rfl⟩
  unfold Builtin.List.listExtendWith
  refine wpAny_bind (wpAny_typeOf hT ?_)
  have h1 : Builtin.List.listSameRef (.ref S) (.ref M2) = false := by simp [Builtin.List.listSameRef, nS.2.2.2.2.2]
  have h2 : (Value.type "map" == Value.type "list") = false := by decide
  have h3 : (Value.type "map" == Value.type "tuple") = false := by decide
  simp only [h1, h2, h3, Bool.or_false, Bool.false_eq_true, if_false]
  refine wpAny_bind (iterTo_map st.m2 _ _ _ _ _ ?_)
  refine wpAny_bind (wpAny_holding ?_)
  unfold Builtin.List.listLengthHint
  refine wpAny_bind (wpAny_specialOf hT map_no_len ?_)
  show wpAny _ A.in1 (specialOf (Value.ref M2) (Str.ofString "__length_hint__") >>= _) _ _ _
  refine wpAny_bind (wpAny_specialOf hT map_no_hint ?_)
  refine wpAny_pure ?_
  show wpAny _ A.in1 (rule "list.extend.makes-room" >>= fun _ => Builtin.List.listTouch (.ref S) >>= fun _ =>
    again (.builtin "list.extend.loop" ⟨[.ref S, .ref M2, res], []⟩)) _ _ _
  refine wpAny_bind (wpAny_rule ?_)
  refine wpAny_bind ?_
  show wpAny _ A.in1 (updateSeq S (·.push .none) >>= fun _ => updateSeq S (·.pop)) _ _ _
  refine wpAny_bind (wpAny_updateSeq hS rfl ?_)
  have hS₂ := Heap.get?_update_self (Obj.mapSeq (·.push Value.none)) hS rfl
  refine wpAny_updateSeq (hz := by seq_fits) hS₂ rfl ?_
  have hS₃ := Heap.get?_update_self (Obj.mapSeq (·.pop)) hS₂ rfl
  have oth : ∀ b o, b ≠ S → s.heap.get? b = some o → ((s.heap.update S (Obj.mapSeq (·.push Value.none))).update S (Obj.mapSeq (·.pop))).get? b = some o :=
    fun b o hb e => (Heap.get?_update_other _ _ (Ne.symm hb)).trans ((Heap.get?_update_other _ _ (Ne.symm hb)).trans e)
  have st' : MapSt ((s.heap.update S (Obj.mapSeq (·.push Value.none))).update S (Obj.mapSeq (·.pop))) l I T1 M1 T2 M2 items 0 :=
    ⟨by obtain ⟨o, e, r⟩ := st.hl; exact ⟨o, oth _ _ (Ne.symm nS.2.1) e, r⟩, by obtain ⟨o, e, r⟩ := st.hI; exact ⟨o, oth _ _ (Ne.symm nS.1) e, r⟩, oth _ _ (Ne.symm nS.2.2.1) st.t1, oth _ _ (Ne.symm nS.2.2.2.1) st.m1, oth _ _ (Ne.symm nS.2.2.2.2.1) st.t2, oth _ _ (Ne.symm nS.2.2.2.2.2) st.m2⟩
  have kb : KeptBut I S s.heap ((s.heap.update S (Obj.mapSeq (·.push Value.none))).update S (Obj.mapSeq (·.pop))) := fun b o _ n2 e => oth b o n2 e
  refine wpAny_pure ⟨plainId_quiet F.plain_extend_loop _, map_loop hh hp good hn ap nS items.size 0 _ _ _ rfl (Nat.zero_le _) st' hS₃ rfl .nil rfl (fun ha h' tk acc' c' k2 hS2 hz => ?_) fun ha h1' h' tk e args k2 me => ?_⟩
  · exact hok ha h' tk acc' c' (kb.trans k2) hS2 hz
  · exact hno ha h1' h' tk e args (kb.trans k2) me

theorem call_list_map (hh : A.handled = none) {parts : List Str} (hp : StrsAre items.toList parts) (good : ∀ p ∈ parts, PartOk p) (hn : items.size ≤ 64) (ap : Apart l I T1 M1 T2 M2) (st : MapSt s.heap l I T1 M1 T2 M2 items 0)
    (hok : (parts.any fun p => (numO p).isNone) = false → ∀ D h' tk acc' c', s.heap.get? D = none → (∀ b o, b ≠ I → s.heap.get? b = some o → h'.get? b = some o) → h'.get? D = some (lsObj acc' c') → StrsAre acc'.toList (parts.map numT) → Q (.ref D) { s with heap := h', toks := tk })
    (hno : (parts.any fun p => (numO p).isNone) = true → ∀ h1 h' tk e args, (∀ b o, b ≠ I → s.heap.get? b = some o → h1.get? b = some o) → Heap.MadeExc h1 h' e "ValueError" args → E (.ref e) { s with heap := h', toks := tk }) :
    wpAny (model prog w) A (call (.type "list") [.ref M2]) Q E s := by
  have lt : ∀ {b o}, s.heap.get? b = some o → s.heap.objs.size ≠ b := fun e => Nat.ne_of_gt (Heap.lt_size e)
  have nS : s.heap.objs.size ≠ I ∧ s.heap.objs.size ≠ l ∧ s.heap.objs.size ≠ T1 ∧ s.heap.objs.size ≠ M1 ∧ s.heap.objs.size ≠ T2 ∧ s.heap.objs.size ≠ M2 := by
    obtain ⟨_, e1, _⟩ := st.hI
    obtain ⟨_, e2, _⟩ := st.hl
    exact ⟨lt e1, lt e2, lt st.t1, lt st.m1, lt st.t2, lt st.m2⟩
  have hnew : s.heap.get? s.heap.objs.size = none := Heap.get?_none_of_le (Nat.le_refl _)
  refine callType_codes (Q₁ := fun obj s₁ => obj = .ref s.heap.objs.size ∧ s₁ = { s with heap := s.heap.push { cls := .type "list", data := .seq #[] } }) F.called_list (F.typeCall_list_1 _) F.entry_list_init
    (code_list_new _ ⟨rfl, rfl⟩) fun obj s₁ h₁ => ?_
  obtain ⟨rfl, rfl⟩ := h₁
  have hS : (s.heap.push { cls := .type "list", data := .seq #[] }).get? s.heap.objs.size = some { cls := .type "list", data := .seq #[] } := Heap.get?_push_size _ rfl
  refine ⟨⟨_, hS, rfl⟩, F.args_list_init_2 _ _, ?_⟩
  show wpAny _ A.in1.in1 (do let old ← Builtin.List.listItems (.ref s.heap.objs.size); Builtin.List.listUpdate (.ref s.heap.objs.size) (fun _ => #[]); letGo old.toList.reverse; Builtin.List.listExtendWith (.ref s.heap.objs.size) (.ref M2) .none) _ _ _
  refine wpAny_bind ?_
  unfold Builtin.List.listItems
  refine wpAny_bind (wpAny_seqItems hS rfl (wpAny_pure ?_))
  show wpAny _ A.in1.in1 (updateSeq s.heap.objs.size (fun _ => #[]) >>= fun _ => letGo (#[] : Array Value).toList.reverse >>= fun _ => Builtin.List.listExtendWith (.ref s.heap.objs.size) (.ref M2) .none) _ _ _
  refine wpAny_bind (wpAny_updateSeq hS rfl ?_)
  have hS₂ := Heap.get?_update_self (Obj.mapSeq (fun _ => (#[] : Array Value))) hS rfl
  have oth : ∀ b o, s.heap.get? b = some o → ((s.heap.push { cls := .type "list", data := .seq #[] }).update s.heap.objs.size (Obj.mapSeq (fun _ => (#[] : Array Value)))).get? b = some o :=
    fun b o e => (Heap.get?_update_other _ _ (lt e)).trans (Heap.get?_push_of_some _ e)
  refine wpAny_bind (wpAny_letGo ?_)
  have st' : MapSt ((s.heap.push { cls := .type "list", data := .seq #[] }).update s.heap.objs.size (Obj.mapSeq (fun _ => (#[] : Array Value)))) l I T1 M1 T2 M2 items 0 :=
    ⟨by obtain ⟨o, e, r⟩ := st.hl; exact ⟨o, oth _ _ e, r⟩, by obtain ⟨o, e, r⟩ := st.hI; exact ⟨o, oth _ _ e, r⟩, oth _ _ st.t1, oth _ _ st.m1, oth _ _ st.t2, oth _ _ st.m2⟩
  refine map_extend (A := A.in1) hh hp good hn ap nS st' hS₂ (fun ha h' tk acc' c' k hS' hz => ?_) fun ha h1 h' tk e args k me => ?_
  · exact ⟨rfl, hok ha _ h' tk acc' c' hnew (fun b o n1 e => k b o n1 (Ne.symm (lt e)) (oth b o e)) hS' hz⟩
  · exact hno ha h1 h' tk e args (fun b o n1 e' => k b o n1 (Ne.symm (lt e')) (oth b o e')) me
end
end Mine

end
section
open PySem PySem.W PyProof.Rows PySem.Calls
set_option maxHeartbeats 1000000
namespace Mine
section
variable {prog : Program} {w : World} {A₀ : Around} {E : Value → Shared → Prop} {s' : Shared} {base g h1 g₀ : Heap} {outer : List Env} {L a e : Addr} {m : Str → Option Value} {name : Str} {scope : Scope} {cd : Value}
  {vs : List Value} {b₀ : Stmt} {suite : List Stmt} {pos np : Pos} {rest : List ExceptHandler} {Q : Flow → Shared → Prop} {news : List (Addr × Obj)} {KF : Frag}
  {p : Program} {loose : List Str} {mean : ExcName → Option Value} {mg mb : Str → Option Value} {x : Str} {X T' : String}
/-- what was raised in the frame itself (by a built-in) is caught there -/
theorem caught_own (hx' : Heap.MadeExc h1 s'.heap e X vs) (F : Fr g L h1 m) (N : News g L h1 news) (K : Below A₀ base outer g) (XB : KF.In base) (TB : Top p loose mean mg mb base)
    (D : KtsDicts (outer.filterMap (·.frame)) g) (T0 : KtsTurn (outer.filterMap (·.frame)) g₀ g)
    (ex : nsIn KF mainGlobals x = some none) (hv : bootBuiltins x = some (.type T')) (hn' : x ≠ "__name__")
    (hexc : isSubtype (.type T') (.type "BaseException") = pure true) (hnt : isSubtype (.type ((Manifest.find? T').elim "type" fun y => y.metatype)) (.type "tuple") = pure false) (hsub : isSubtype (.type X) (.type T') = pure true)
    (k : ∀ h' g', KtsTurn (outer.filterMap (·.frame)) g₀ g' → Fr g' L h' m → News g' L h' news → Below A₀ base outer g' → KF.In g' → Top p loose mean mg mb g' → KtsDicts (outer.filterMap (·.frame)) g' →
      wpAny (model prog w) ((A₀.deeper (envOf name scope L a cd)).mark (some (.ref e))) (execs (b₀ :: suite) (envOf name scope L a cd)) Q E { s' with heap := h' })
    (hk : scope.kind = .function := by rfl) (hx : (envOf name scope L a cd).kindOf x = some .globalImplicit := by rfl) (hd : (x == ("__debug__" : Str)) = false := by decide)
    (hE : PassesOwnAt (model prog w) ((A₀.deeper (envOf name scope L a cd)).mark (some (.ref e))) (A₀.deeper (envOf name scope L a cd)) (envOf name scope L a cd) E := by passes_own) :
    wpAny (model prog w) (A₀.deeper (envOf name scope L a cd)) (noteFrame (.ref e) (envOf name scope L a cd))
      (fun _ s₂ => wpAny (model prog w) (A₀.deeper (envOf name scope L a cd)) (setFlight (.ref e) none) (fun _ s₃ =>
        wpAny (model prog w) (A₀.deeper (envOf name scope L a cd)) (handleBy (.ref e) (envOf name scope L a cd) (.ExceptHandler (some (.Name x np)) none (b₀ :: suite) pos :: rest)) Q E s₃) E s₂) E s' := by
  have K' := K.push (name := name) (a := a) (cd := cd) F hk
  have hin : ∀ env ∈ (envOf name scope L a cd :: outer), ∀ b, env.frame = some b → b ∈ (envOf name scope L a cd :: outer).filterMap (·.frame) := fun env he b hb => List.mem_filterMap.mpr ⟨env, he, hb⟩
  have hBG : ∀ b o, h1.get? b = some o → b ∉ (envOf name scope L a cd :: outer).filterMap (·.frame) → (hideAll h1 ((envOf name scope L a cd :: outer).filterMap (·.frame))).get? b = some o := fun b o q nm => hideAll_get _ q nm
  have hl : ∀ q ∈ news, (hideAll h1 ((envOf name scope L a cd :: outer).filterMap (·.frame))).get? q.1 = some q.2 ∧ g.get? q.1 = none := fun q hq => by
    refine ⟨hideAll_get _ (N q hq).1 fun hm => ?_, (N q hq).2.2⟩
    rcases kts_mem hm with z | z
    · exact (N q hq).2.1 z
    · obtain ⟨o, ho, _⟩ := (K.frames.mem z).2
      rw [(N q hq).2.2] at ho; cases ho
  have hL : (hideAll h1 ((envOf name scope L a cd :: outer).filterMap (·.frame))).get? L = none := hideAll_none _ (hin _ (.head _) L rfl)
  have hff : h1.FunFrames (hideAll h1 ((envOf name scope L a cd :: outer).filterMap (·.frame))) (envOf name scope L a cd :: outer) := funFrames_hide K'.frames hin
  obtain ⟨t, he, htn, ht⟩ := hx'.there
  have fresh : ∀ b, h1.get? b = none → (hideAll h1 ((envOf name scope L a cd :: outer).filterMap (·.frame))).get? b = none := fun b hb => by
    cases hq : (hideAll h1 ((envOf name scope L a cd :: outer).filterMap (·.frame))).get? b with
    | none => rfl
    | some o' => have := of_hideAll _ hq; rw [hb] at this; cases this
  unfold noteFrame
  simp only [show (envOf name scope L a cd).frame = some L from rfl]
  refine wpAny_bind (wpAny_field he rfl (x := .none) rfl ?_)
  rw [if_neg (by decide)]
  refine wpAny_entryW (a0 := .ref t) (Around.frames_deeper K.stack) (hff.of_keeps fun b o hb _ => ⟨o, hx'.keeps b o hb, rfl⟩) rfl he (fun b o hb => hx'.keeps b o (of_hideAll _ hb)) (fresh e hx'.new) rfl (by show 1 < 6; decide) rfl fun h₄ hN => ?_
  obtain ⟨k1, k2, k3, k4⟩ := hN
  have hheld₄ : Heap.HeldW (hideAll h1 ((envOf name scope L a cd :: outer).filterMap (·.frame))) (envOf name scope L a cd :: outer) e (.type X) (.ref t) L h₄ := ⟨k1, fresh e hx'.new, k2, k3⟩
  have hsm : h1.UpToSlots s'.heap := Heap.UpToSlots.of_keeps hx'.keeps
  have hsm₄ : s'.heap.UpToSlots h₄ := k4
  refine wpAny_landsW hheld₄ fun h₅ hheld hsm₅' => ?_
  have hsm₅ := hsm₄.trans hsm₅'
  obtain ⟨g₅, T₅, F₅, K₅⟩ := kts_ground K F hBG hheld.1 (hsm.trans hsm₅)
  have X₅ : KF.In g₅ := XB.keeps K₅.stays
  have P₅ : TopRead p loose mg mb g₅ := topRead_of (TB.keeps K₅.stays)
  obtain ⟨ob, hob, hobc⟩ := hheld.there
  refine wpAny_handleBy_builtin (X := X) (T := T') (b := true) hexc hnt hsub (name_B F₅ X₅ P₅ ex hv hn' ⟨rfl, ⟨ob, hob, hobc⟩, ?_⟩ hk hx hd)
  refine lands_againW hheld fun h₆ hfl₆ hsm₆ => ?_
  obtain ⟨g₆, T₆, F₆, K₆⟩ := kts_ground K F hBG hfl₆.1 ((hsm.trans hsm₅).trans hsm₆)
  have Nl : News g₆ L h₆ news := fun q hq => ⟨hfl₆.1 _ _ (hl q hq).1, (fun z => by have := (hl q hq).1; rw [z, hL] at this; cases this), T₆.none_ _ (hl q hq).2⟩
  exact wpAny_passesOwnAt hE (k h₆ g₆ (T0.trans T₆) F₆ Nl K₆ (XB.keeps K₆.stays) (TB.keeps K₆.stays) (D.turn T₆))
end
end Mine

end
section
open PySem PySem.W PyProof.Rows PySem.Calls
set_option maxHeartbeats 1000000
namespace Mine
/-- the code points of parts joined by one point -/
noncomputable def joinL (c : Nat) : List (List Nat) → List Nat
  | [] => []
  | [p] => p
  | p :: q :: r => p ++ c :: joinL c (q :: r)
theorem joinL_eq (c : Nat) : ∀ parts : List Str, (Str.join ⟨#[c]⟩ parts).cps.toList = joinL c (parts.map (·.cps.toList))
  | [] => rfl
  | [p] => rfl
  | p :: q :: r => by
    have ih := joinL_eq c (q :: r)
    show ((p ++ (⟨#[c]⟩ : Str) ++ Str.join ⟨#[c]⟩ (q :: r)).cps).toList = _
    show (p.cps ++ #[c] ++ (Str.join ⟨#[c]⟩ (q :: r)).cps).toList = _
    rw [Array.toList_append, Array.toList_append, ih]
    simp [joinL]
theorem cut_unique {c : Nat} : ∀ {p q a b : List Nat}, c ∉ p → c ∉ q → p ++ c :: a = q ++ c :: b → p = q ∧ a = b
  | [], [], _, _, _, _, h => ⟨rfl, by simpa using h⟩
  | [], y :: q, _, _, _, hq, h => by
    simp only [List.nil_append, List.cons_append, List.cons.injEq] at h
    exact absurd (by rw [h.1]; exact List.mem_cons_self) hq
  | x :: p, [], _, _, hp, _, h => by
    simp only [List.nil_append, List.cons_append, List.cons.injEq] at h
    exact absurd (by rw [← h.1]; exact List.mem_cons_self) hp
  | x :: p, y :: q, a, b, hp, hq, h => by
    simp only [List.cons_append, List.cons.injEq] at h
    obtain ⟨e1, e2⟩ := cut_unique (fun m => hp (List.mem_cons_of_mem _ m)) (fun m => hq (List.mem_cons_of_mem _ m)) h.2
    exact ⟨by rw [h.1, e1], e2⟩
theorem joinL_unique {c : Nat} : ∀ {l l' : List (List Nat)}, l ≠ [] → l' ≠ [] → (∀ p ∈ l, c ∉ p) → (∀ p ∈ l', c ∉ p) → joinL c l = joinL c l' → l = l'
  | [], _, h, _, _, _, _ => absurd rfl h
  | _, [], _, h, _, _, _ => absurd rfl h
  | [p], [q], _, _, _, _, h => by rw [show p = q from h]
  | [p], q :: q' :: r, _, _, hp, _, h => by
    have : c ∈ p := by rw [show p = q ++ c :: joinL c (q' :: r) from h]; exact List.mem_append_right _ List.mem_cons_self
    exact absurd this (hp p List.mem_cons_self)
  | p :: p' :: r, [q], _, _, _, hq, h => by
    have : c ∈ q := by rw [← show p ++ c :: joinL c (p' :: r) = q from h]; exact List.mem_append_right _ List.mem_cons_self
    exact absurd this (hq q List.mem_cons_self)
  | p :: p' :: r, q :: q' :: r', _, _, hp, hq, h => by
    obtain ⟨e1, e2⟩ := cut_unique (hp p List.mem_cons_self) (hq q List.mem_cons_self) (show p ++ c :: joinL c (p' :: r) = q ++ c :: joinL c (q' :: r') from h)
    rw [e1, joinL_unique (by simp) (by simp) (fun x m => hp x (List.mem_cons_of_mem _ m)) (fun x m => hq x (List.mem_cons_of_mem _ m)) e2]
theorem str_ext {x y : Str} (h : x.cps.toList = y.cps.toList) : x = y := by
  obtain ⟨a⟩ := x
  obtain ⟨b⟩ := y
  congr 1
  exact Array.ext' h
theorem cps_inj : ∀ {l l' : List Str}, l.map (·.cps.toList) = l'.map (·.cps.toList) → l = l'
  | [], [], _ => rfl
  | [], _ :: _, h => by simp at h
  | _ :: _, [], h => by simp at h
  | x :: l, y :: l', h => by
    simp only [List.map_cons, List.cons.injEq] at h
    rw [str_ext h.1, cps_inj h.2]
theorem split_ne (x y : Str) : Txt.split x y ≠ [] := by
  unfold Txt.split
  split
  · simp
  · split
    · simp
    · rw [StrLaws.partsBetween_eq]
      obtain ⟨p, r, e⟩ := StrLaws.partsFrom_ne x y.length 0 (Builtin.Str.occurrences x y 0 x.length (x.length + 1))
      rw [e]
      simp
/-- the parts have no point in them -/
def NoDot (l : List Str) : Prop := ∀ p ∈ l, (46 : Nat) ∉ p.cps.toList
theorem split_join {parts : List Str} (hne : parts ≠ []) (hd : NoDot parts) : Txt.split (Txt.join (Str.ofString ".") parts) (Str.ofString ".") = parts := by
  have e0 : (Str.ofString ".") = ⟨#[46]⟩ := by decide +kernel
  rw [e0]
  have e1 : Txt.join ⟨#[46]⟩ parts = Str.join ⟨#[46]⟩ parts := StrLaws.glued_eq_join _ _
  rw [e1]
  have e2 := StrLaws.join_split (Str.join ⟨#[46]⟩ parts) ⟨#[46]⟩
  have e3 := congrArg (fun z : Str => z.cps.toList) e2
  rw [joinL_eq, joinL_eq] at e3
  refine cps_inj (joinL_unique (c := 46) (by simpa using split_ne _ _) (by simpa using hne) (fun p hp => ?_) (fun p hp => ?_) e3)
  · obtain ⟨q, hq, rfl⟩ := List.mem_map.mp hp
    exact StrLaws.split_free _ _ q hq
  · obtain ⟨q, hq, rfl⟩ := List.mem_map.mp hp
    exact hd q hq
end Mine

end
section
open PySem PySem.W PyProof.Rows PySem.Calls
set_option maxHeartbeats 1000000
namespace Mine
theorem fr_grow {h₀ h h' : Heap} {L : Addr} {m : Str → Option Value} (F : Fr h₀ L h m) (st : h.StaysIn h') : Fr h₀ L h' m := ⟨F.ns.keeps st, fun b o e => st b o (F.keep b o e), F.above⟩
theorem news_grow {h₀ h h' : Heap} {L : Addr} {news : List (Addr × Obj)} (N : News h₀ L h news) (st : h.StaysIn h') : News h₀ L h' news := fun p hp => ⟨st _ _ (N p hp).1, (N p hp).2⟩
theorem size_fresh {h₀ h : Heap} {L : Addr} {m : Str → Option Value} (F : Fr h₀ L h m) {k : Nat} (hk : h.objs.size ≤ k) : k ≠ L ∧ h₀.get? k = none := by
  constructor
  · rintro rfl
    obtain ⟨o, _, _, ho, _⟩ := F.ns
    exact absurd (Heap.lt_size ho) (Nat.not_lt.mpr hk)
  · cases q : h₀.get? k with
    | none => rfl
    | some o => exact absurd (Heap.lt_size (F.keep k o q)) (Nat.not_lt.mpr hk)
section
variable {prog : Program} {w : World} {A : Around} {E Q : Value → Shared → Prop} {s : Shared} {h₀ : Heap} {L : Addr} {m : Str → Option Value} {news : List (Addr × Obj)}
theorem map_list_K {f : Value} {D : Addr} {items : Array Value} (F : Fr h₀ L s.heap m) (N : News h₀ L s.heap news) (hl : s.heap.IsList D items)
    (h : ∀ I T M h', Fr h₀ L h' m → News h₀ L h' ((M, mapObj T f) :: (T, tupObj (.ref I)) :: (I, liObj D 0) :: news) → (T ≠ I ∧ M ≠ I) → Q (.ref M) { s with heap := h' }) :
    wpAny (model prog w) A (call (.type "map") [f, .ref D]) Q E s := by
  refine call_map (iterTo_list hl) ?_
  have e1 : (s.heap.push (liObj D 0)).objs.size = s.heap.objs.size + 1 := Heap.size_push ..
  have e2 : ((s.heap.push (liObj D 0)).push (tupObj (.ref s.heap.objs.size))).objs.size = s.heap.objs.size + 1 + 1 := by rw [Heap.size_push, e1]
  have g1 : (s.heap.push (liObj D 0)).get? s.heap.objs.size = some (liObj D 0) := Heap.get?_push_size _ rfl
  have g2 : ((s.heap.push (liObj D 0)).push (tupObj (.ref s.heap.objs.size))).get? (s.heap.objs.size + 1) = some (tupObj (.ref s.heap.objs.size)) := by
    rw [← e1]; exact Heap.get?_push_size _ rfl
  rw [e1]
  refine h s.heap.objs.size (s.heap.objs.size + 1) (s.heap.objs.size + 1 + 1) _ (fr_grow F ?_) ?_ ⟨Nat.ne_of_gt (Nat.lt_succ_self _), Nat.ne_of_gt (Nat.lt_succ_of_lt (Nat.lt_succ_self _))⟩
  · exact fun b o e => Heap.get?_push_of_some _ (Heap.get?_push_of_some _ (Heap.get?_push_of_some _ e))
  · have st : s.heap.StaysIn (((s.heap.push (liObj D 0)).push (tupObj (.ref s.heap.objs.size))).push (mapObj (s.heap.objs.size + 1) f)) := fun b o e => Heap.get?_push_of_some _ (Heap.get?_push_of_some _ (Heap.get?_push_of_some _ e))
    have N' := news_grow N st
    intro p hp
    rcases List.mem_cons.mp hp with rfl | hp
    · refine ⟨?_, size_fresh F (by show _ ≤ s.heap.objs.size + 1 + 1; omega)⟩
      show (Heap.push _ _).get? (s.heap.objs.size + 1 + 1) = _
      rw [← e2]; exact Heap.get?_push_size _ rfl
    rcases List.mem_cons.mp hp with rfl | hp
    · exact ⟨Heap.get?_push_of_some _ g2, size_fresh F (by show _ ≤ s.heap.objs.size + 1; omega)⟩
    rcases List.mem_cons.mp hp with rfl | hp
    · exact ⟨Heap.get?_push_of_some _ (Heap.get?_push_of_some _ g1), size_fresh F (Nat.le_refl _)⟩
    exact N' p hp
theorem map_map_K {f f' : Value} {M T : Addr} (F : Fr h₀ L s.heap m) (N : News h₀ L s.heap news) (hm : (M, mapObj T f') ∈ news)
    (h : ∀ T' M' h', Fr h₀ L h' m → News h₀ L h' ((M', mapObj T' f) :: (T', tupObj (.ref M)) :: news) → (∀ I oI, (I, oI) ∈ news → T' ≠ I ∧ M' ≠ I) → Q (.ref M') { s with heap := h' }) :
    wpAny (model prog w) A (call (.type "map") [f, .ref M]) Q E s := by
  refine call_map (iterTo_map (N _ hm).1) ?_
  have e1 : (s.heap.push (tupObj (.ref M))).objs.size = s.heap.objs.size + 1 := Heap.size_push ..
  have g1 : (s.heap.push (tupObj (.ref M))).get? s.heap.objs.size = some (tupObj (.ref M)) := Heap.get?_push_size _ rfl
  have st : s.heap.StaysIn ((s.heap.push (tupObj (.ref M))).push (mapObj s.heap.objs.size f)) := fun b o e => Heap.get?_push_of_some _ (Heap.get?_push_of_some _ e)
  refine h s.heap.objs.size (s.heap.objs.size + 1) _ (fr_grow F st) ?_ fun I oI hI => ?_
  · have N' := news_grow N st
    intro p hp
    rcases List.mem_cons.mp hp with rfl | hp
    · refine ⟨?_, size_fresh F (by show _ ≤ s.heap.objs.size + 1; omega)⟩
      show (Heap.push _ _).get? (s.heap.objs.size + 1) = _
      rw [← e1]; exact Heap.get?_push_size _ rfl
    rcases List.mem_cons.mp hp with rfl | hp
    · exact ⟨Heap.get?_push_of_some _ g1, size_fresh F (Nat.le_refl _)⟩
    exact N' p hp
  · have lt : I < s.heap.objs.size := Heap.lt_size (N _ hI).1
    exact ⟨Nat.ne_of_gt lt, Nat.ne_of_gt (Nat.lt_succ_of_lt lt)⟩
theorem list_map_K {D I T1 M1 T2 M2 : Addr} {items : Array Value} {parts : List Str} (hh : A.handled = none) (F : Fr h₀ L s.heap m)
    (N : News h₀ L s.heap ((M2, mapObj T2 (.type "str")) :: (T2, tupObj (.ref M1)) :: (M1, mapObj T1 (.type "int")) :: (T1, tupObj (.ref I)) :: (I, liObj D 0) :: news))
    (hl : s.heap.IsList D items) (n1 : T1 ≠ I ∧ M1 ≠ I) (n2 : T2 ≠ I ∧ M2 ≠ I) (hp : StrsAre items.toList parts) (good : ∀ p ∈ parts, PartOk p) (hn : items.size ≤ 64) (hni : ∀ p ∈ news, p.2.cls ≠ .type "list_iterator")
    (hok : (parts.any fun p => (numO p).isNone) = false → ∀ R acc h' tk c, Fr h₀ L h' m → News h₀ L h' ((R, lsObj acc c) :: news) → StrsAre acc.toList (parts.map numT) → Q (.ref R) { s with heap := h', toks := tk })
    (hno : (parts.any fun p => (numO p).isNone) = true → ∀ h1 h' tk e args, Fr h₀ L h1 m → News h₀ L h1 news → Heap.MadeExc h1 h' e "ValueError" args → E (.ref e) { s with heap := h', toks := tk }) :
    wpAny (model prog w) A (call (.type "list") [.ref M2]) Q E s := by
  have g2 := N _ List.mem_cons_self
  have gt2 := N _ (List.mem_cons_of_mem _ List.mem_cons_self)
  have g1 := N _ (List.mem_cons_of_mem _ (List.mem_cons_of_mem _ List.mem_cons_self))
  have gt1 := N _ (List.mem_cons_of_mem _ (List.mem_cons_of_mem _ (List.mem_cons_of_mem _ List.mem_cons_self)))
  have gI := N _ (List.mem_cons_of_mem _ (List.mem_cons_of_mem _ (List.mem_cons_of_mem _ (List.mem_cons_of_mem _ List.mem_cons_self))))
  have Nr : News h₀ L s.heap news := fun p hp => N p (List.mem_cons_of_mem _ (List.mem_cons_of_mem _ (List.mem_cons_of_mem _ (List.mem_cons_of_mem _ (List.mem_cons_of_mem _ hp)))))
  have hDI : D ≠ I := by
    rintro rfl
    obtain ⟨o, ho, hc, _⟩ := hl
    rw [gI.1] at ho
    injection ho with ho
    subst ho
    simp at hc
  have keepF : ∀ h', (∀ b o, b ≠ I → s.heap.get? b = some o → h'.get? b = some o) → Fr h₀ L h' m ∧ News h₀ L h' news := fun h' k => by
    refine ⟨⟨?_, fun b o e => k b o (fun q => by have := gI.2.2; rw [← q, e] at this; cases this) (F.keep b o e), F.above⟩, fun p hp => ⟨k _ _ (fun q => ?_) (Nr p hp).1, (Nr p hp).2⟩⟩
    · obtain ⟨o, es, ep, ho, r⟩ := F.ns
      exact ⟨o, es, ep, k _ _ (Ne.symm gI.2.1) ho, r⟩
    · have e1 := (Nr p hp).1
      rw [q, gI.1] at e1
      injection e1 with e1
      exact hni p hp (by rw [← e1])
  refine call_list_map hh (items := items) (parts := parts) hp good hn ⟨hDI, n1.1, n1.2, n2.1, n2.2⟩ ⟨hl, ⟨_, gI.1, rfl, rfl⟩, gt1.1, g1.1, gt2.1, g2.1⟩ (fun ha R h' tk acc c hR k hg hs => ?_) fun ha h1 h' tk e args k me => ?_
  · obtain ⟨F', N'⟩ := keepF h' k
    refine hok ha R acc h' tk c F' (fun p hp => ?_) hs
    rcases List.mem_cons.mp hp with rfl | hp
    · refine ⟨hg, fun q => ?_, ?_⟩
      · obtain ⟨o, _, _, ho, _⟩ := F.ns
        rw [show L = R from q.symm, hR] at ho
        cases ho
      · cases q : h₀.get? R with
        | none => rfl
        | some o => have := F.keep R o q; rw [hR] at this; cases this
    · exact N' p hp
  · obtain ⟨F', N'⟩ := keepF h1 k
    exact hno ha h1 h' tk e args F' N' me
end
end Mine

end
section
open PySem PySem.W PyProof.Rows PySem.Calls
set_option maxHeartbeats 1000000
namespace Mine
local macro_rules | `(tactic| walk_at "pad 0") => `(tactic| fail "no line")
local macro_rules | `(tactic| walk_at "pad 1") => `(tactic| fail "no line")
local macro_rules | `(tactic| walk_at "pad 2") => `(tactic| fail "no line")
local macro_rules | `(tactic| walk_at "pad 3") => `(tactic| fail "no line")
local macro_rules | `(tactic| walk_at "pad 4") => `(tactic| fail "no line")
local macro_rules | `(tactic| walk_at "pad 5") => `(tactic| fail "no line")
local macro_rules | `(tactic| walk_at "pad 6") => `(tactic| fail "no line")
local macro_rules | `(tactic| walk_at "pad 7") => `(tactic| fail "no line")
local macro_rules | `(tactic| walk_at "pad 8") => `(tactic| fail "no line")
local macro_rules | `(tactic| walk_at "pad 9") => `(tactic| fail "no line")
local macro_rules | `(tactic| walk_at "pad 10") => `(tactic| fail "no line")
local macro_rules | `(tactic| walk_at "pad 11") => `(tactic| fail "no line")
theorem split_D {prog : Program} {w : World} {A : Around} {E Q : Value → Shared → Prop} {s : Shared} {h₀ : Heap} {L : Addr} {m : Str → Option Value} {news : List (Addr × Obj)} {x y : Str} {t u : Tok} {parts : List Str}
    (hx : Txt.split x y = parts) (hF : Fr h₀ L s.heap m) (hN : News h₀ L s.heap news) (hy : (y.length == 0) = false) (hsz : x.length + 2 ≤ sizeLine)
    (h : ∀ D its h' k, StrsAre its parts → Fr h₀ L h' m → News h₀ L h' ((D, { cls := .type "list", data := .seq its.toArray }) :: news) → Q (.ref D) { s with heap := h', toks := k }) :
    wpAny (model prog w) A (call (.builtin "str.split") [.str x t, .str y u]) Q E s :=
  splitN1A hF hN hy (fun l h' k e hs _ _ F N => h _ _ h' k (by rw [e, hx] at hs; exact hs) F N) hsz
theorem strs_push {its : List Value} {parts : List Str} {b : Str} {u : Tok} (h : StrsAre its parts) : StrsAre (its ++ [.str b u]) (parts ++ [b]) := h.append' (.cons _ _ .nil)
theorem strs_push2 {its : List Value} {parts : List Str} {b : Str} {u : Tok} (h : StrsAre its parts) : StrsAre (its.toArray.push (.str b u)).toList (parts ++ [b]) := by
  rw [Array.toList_push]
  exact strs_push h
theorem its_le {its : List Value} {parts : List Str} (h : StrsAre its parts) (hn : parts.length ≤ 60) : its.toArray.size ≤ 64 := by
  rw [List.size_toArray, h.length]
  omega
theorem its_le2 {its : List Value} {parts : List Str} {v : Value} (h : StrsAre its parts) (hn : parts.length ≤ 60) : (its.toArray.push v).size ≤ 64 := by
  rw [Array.size_push, List.size_toArray, h.length]
  omega
theorem pick_takeA (a : Array Value) (y : Nat) : (slicePick a none (some (y : Int)) none).toList = a.toList.take y := by
  obtain ⟨l⟩ := a
  exact pick_take l y
theorem sz_arr {a : Array Value} (h : a.size ≤ 64) : a.size ≤ sizeLine := Nat.le_trans h (by decide)
theorem normed_ok {l : List Str} (h : (l.any fun p => (numO p).isNone) = false) : Txt.join (Str.ofString ".") ((l.map numT).take 3) = normedT l := by
  unfold normedT
  rw [if_neg (by rw [h]; decide), List.map_take]
theorem normed_no {l : List Str} (h : (l.any fun p => (numO p).isNone) = true) : Txt.join (Str.ofString ".") (l.take 3) = normedT l := by
  unfold normedT
  rw [if_pos h]
theorem strs_take {a : Array Value} {l : List Str} (h : StrsAre a.toList l) (k : Nat) : StrsAre (a.toList.take k).toArray.toList (l.take k) := h.take' k
theorem strs_size {a : Array Value} {l : List Str} (h : StrsAre a.toList l) : a.size = l.length := by rw [← Array.length_toList, h.length]
theorem strs_takeP {its : List Value} {parts : List Str} {b : Str} {u : Tok} (h : StrsAre its parts) (k : Nat) : StrsAre ((its.toArray.push (.str b u)).toList.take k).toArray.toList ((parts ++ [b]).take k) := strs_take (strs_push2 h) k
theorem strs_takeL {its : List Value} {parts : List Str} (h : StrsAre its parts) (k : Nat) : StrsAre (its.toArray.toList.take k).toArray.toList (parts.take k) := strs_take (a := its.toArray) h k
theorem good_push {parts : List Str} {b : Str} (h : ∀ p ∈ parts, PartOk p) (g : PartOk b) : ∀ p ∈ parts ++ [b], PartOk p := fun p hp => by
  rcases List.mem_append.mp hp with hp | hp
  · exact h p hp
  · rw [List.mem_singleton.mp hp]; exact g
local macro_rules | `(tactic| walk_at "truthy str") => `(tactic| (k_here; k_dflt (refine KXt.truthy (by assumption) (by omega) ?_); intro _))
local macro_rules | `(tactic| walk_at "call builtin:str.split") => `(tactic| (k_here; k_dflt (refine split_D (by assumption) (by k_asm) (by k_asm) (by decide +kernel) (by exact Nat.le_trans (Nat.add_le_add_right (by assumption) 2) (by decide)) ?_); intro D' its' h' tk' hits' F' N'; (try k_sweep)))
local macro_rules | `(tactic| walk_at "call type:map") => `(tactic| (k_here; k_dflt (refine map_list_K (by k_asm) (by k_asm) (by kmk_list) ?_); intro I' T' M' h' F' N' ne'; (try k_sweep)))
local macro_rules | `(tactic| walk_at "call type:map") => `(tactic| (k_here; k_dflt (refine map_map_K (by k_asm) (by k_asm) (by k_mem) ?_); intro T' M' h' F' N' ne2; (try k_sweep)))
local macro_rules | `(tactic| k_steps) => `(tactic| repeat' (first | (k_unfold; (try dsimp only)) | walk1 | (dsimp only; walk1)))
local macro_rules | `(tactic| walk_at "subscriptTail Name Slice ref ref") => `(tactic| (k_here; k_dflt (refine' kmk_slice_lit ?F ?N ?l ?p ?q ?e ?_ ?s ?t ?z; (case F => k_asm); (case N => k_asm); (case l => kmk_list); (case p => kmk_part); (case q => kmk_part); (case e => exact pick_takeA _ 3); (case s => with_unfolding_all rfl); (case t => kmk_pure); (case z => exact sz_arr (by assumption))); intro D' h' F' N' l1; (try k_lt l1); (try k_sweep)))
local macro_rules | `(tactic| walk_at "call type:list") => `(tactic| fail "here")
local macro_rules | `(tactic| walk_at "call builtin:str.join") => `(tactic| (k_here; k_dflt (refine join_listW (by kmk_list) (by assumption) (by decide +kernel) (by assumption) ?_); intro _ _))
theorem norm_spec2 (w : World) (x b : Str) (t u : Tok) (parts : List Str) (hx : Txt.split x (Str.ofString ".") = parts) (hxl : x.length ≤ 1000) (hn : parts.length ≤ 60) (good : ∀ p ∈ parts, PartOk p) (gb : PartOk b) (hs : Short (parts ++ [b])) :
    Turns w 550 2500 52 [.str x t, .str b u] (fun _ => True) (fun _ v _ => ∃ t', v = .str (normedT (if b.length = 0 then parts else parts ++ [b])) t') := by
  unfold Turns
  w_on
  w_top on
  k_fill
  intro outer base mean mg mb s Q E B XB TB D hP hret
  have XS := XB.keeps B.stays
  have hbl : b.length ≤ 8 := hs b (by simp)
  have good2 := good_push good gb
  by_cases hb : b.length = 0
  · have hb' : ((b.length : Int) != 0) = false := by rw [hb]; rfl
    rw [if_pos hb] at hret
    refine wpAny_call ?_
    k_dflt (refine' enter (binds := [(Str.ofString "version", .str x t), (Str.ofString "build", .str b u)]) ?k1 ?k2 ?k3 ?k4 ?k5 ?k6 ?k7 ?k8 ?_ ?c2 ?c3 ?c4 ?c5; (case k1 => assumption); (case k2 => assumption); (case k3 => assumption); (case k4 => k_is); (case k5 => k_is); (case k6 => exact (by decide : 550 < recursionLimit)); (case k7 => exact binds_K XS rfl (by k_is) rfl rfl rfl); (case k8 => exact locs rfl); (case c2 => exact rfl); (case c3 => exact rfl); (case c4 => exact rfl); (case c5 => decide); k_whole)
    intro L' h' F' N' X' T'
    dsimp only
    k_fold
    k_steps
    k_dflt (refine list_map_K rfl (by k_asm) (by k_asm) (by kmk_list) (by assumption) (by rename_i ne2; exact ne2 _ _ (List.mem_cons_of_mem _ (List.mem_cons_of_mem _ List.mem_cons_self))) (by first | assumption | exact strs_push2 (by assumption)) (by assumption) (by first | exact its_le (by assumption) (by assumption) | exact its_le2 (by assumption) (by assumption)) (by simp) ?_ ?_)
    · intro ha R' acc' h' tk' c' F' N' hacc'
      have hz := strs_take hacc' 3
      have hsz : acc'.size ≤ 64 := by rw [strs_size hacc', List.length_map]; first | omega | (rw [List.length_append, List.length_singleton]; omega)
      have hw := short_weight ((short_nums (parts)).take 3) (by rw [List.length_take]; omega)
      k_steps
      exact hret _ _ _ _ KtsTurn.refl (Fr.keep (by assumption)) ⟨_, by rw [normed_ok ha]⟩
    · intro ha h1 h' tk' e' args' F' N' me'
      k_dflt (refine' caught_own (g₀ := s.heap) (T' := "ValueError") me' F' N' ?K ?XB ?TB ?D KtsTurn.refl ?ex PyProof.Rows.Boot.«ValueError» ?hn PySem.F.isExc_ValueError PySem.F.notTuple_ValueError ?hs ?_; (case K => assumption); (case XB => assumption); (case TB => assumption); (case D => assumption); (case hs => kts_sub); (case ex => k_is); (case hn => decide); k_whole)
      clear F' N' me'
      intro h2 g2 T2 F2 N2 B2 X2 TT2 D2
      rename StrsAre _ parts => hits
      have hz := strs_takeL hits 3
      have hsz := its_le hits hn
      have hw := short_weight (l := (parts).take 3) (Short.take (fun p hp => hs p (List.mem_append_left _ hp)) 3) (by rw [List.length_take]; omega)
      k_steps
      exact hret _ _ _ _ T2 (Fr.keep (by assumption)) ⟨_, by rw [normed_no ha]⟩
  · have hb' : ((b.length : Int) != 0) = true := by simp; omega
    rw [if_neg hb] at hret
    refine wpAny_call ?_
    k_dflt (refine' enter (binds := [(Str.ofString "version", .str x t), (Str.ofString "build", .str b u)]) ?k1 ?k2 ?k3 ?k4 ?k5 ?k6 ?k7 ?k8 ?_ ?c2 ?c3 ?c4 ?c5; (case k1 => assumption); (case k2 => assumption); (case k3 => assumption); (case k4 => k_is); (case k5 => k_is); (case k6 => exact (by decide : 550 < recursionLimit)); (case k7 => exact binds_K XS rfl (by k_is) rfl rfl rfl); (case k8 => exact locs rfl); (case c2 => exact rfl); (case c3 => exact rfl); (case c4 => exact rfl); (case c5 => decide); k_whole)
    intro L' h' F' N' X' T'
    dsimp only
    k_fold
    k_steps
    k_dflt (refine list_map_K rfl (by k_asm) (by k_asm) (by kmk_list) (by assumption) (by rename_i ne2; exact ne2 _ _ (List.mem_cons_of_mem _ (List.mem_cons_of_mem _ List.mem_cons_self))) (by first | assumption | exact strs_push2 (by assumption)) (by assumption) (by first | exact its_le (by assumption) (by assumption) | exact its_le2 (by assumption) (by assumption)) (by simp) ?_ ?_)
    · intro ha R' acc' h' tk' c' F' N' hacc'
      have hz := strs_take hacc' 3
      have hsz : acc'.size ≤ 64 := by rw [strs_size hacc', List.length_map]; first | omega | (rw [List.length_append, List.length_singleton]; omega)
      have hw := short_weight ((short_nums (parts ++ [b])).take 3) (by rw [List.length_take]; omega)
      k_steps
      exact hret _ _ _ _ KtsTurn.refl (Fr.keep (by assumption)) ⟨_, by rw [normed_ok ha]⟩
    · intro ha h1 h' tk' e' args' F' N' me'
      k_dflt (refine' caught_own (g₀ := s.heap) (T' := "ValueError") me' F' N' ?K ?XB ?TB ?D KtsTurn.refl ?ex PyProof.Rows.Boot.«ValueError» ?hn PySem.F.isExc_ValueError PySem.F.notTuple_ValueError ?hs ?_; (case K => assumption); (case XB => assumption); (case TB => assumption); (case D => assumption); (case hs => kts_sub); (case ex => k_is); (case hn => decide); k_whole)
      clear F' N' me'
      intro h2 g2 T2 F2 N2 B2 X2 TT2 D2
      rename StrsAre _ parts => hits
      have hz := strs_takeP (b := b) (u := u) hits 3
      have hsz := its_le2 (v := .str b u) hits hn
      have hw := short_weight (l := (parts ++ [b]).take 3) (Short.take hs 3) (by rw [List.length_take]; omega)
      k_steps
      exact hret _ _ _ _ T2 (Fr.keep (by assumption)) ⟨_, by rw [normed_no ha]⟩
theorem norm_spec1 (w : World) (x : Str) (t : Tok) (parts : List Str) (hx : Txt.split x (Str.ofString ".") = parts) (hxl : x.length ≤ 1000) (hn : parts.length ≤ 60) (good : ∀ p ∈ parts, PartOk p) (hs : Short parts) :
    Turns w 550 2500 52 [.str x t] (fun _ => True) (fun _ v _ => ∃ t', v = .str (normedT parts) t') := by
  unfold Turns
  w_on
  k_fill
  intro outer base mean mg mb s Q E B XB TB D hP hret
  have XS := XB.keeps B.stays
  have hb' : (((⟨#[]⟩ : Str).length : Int) != 0) = false := by decide +kernel
  have hbl : (⟨#[]⟩ : Str).length ≤ 8 := by decide +kernel
  refine wpAny_call ?_
  k_dflt (refine' enter (binds := [(Str.ofString "version", .str x t), (Str.ofString "build", .str ⟨#[]⟩ 373)]) ?k1 ?k2 ?k3 ?k4 ?k5 ?k6 ?k7 ?k8 ?_ ?c2 ?c3 ?c4 ?c5; (case k1 => assumption); (case k2 => assumption); (case k3 => assumption); (case k4 => k_is); (case k5 => k_is); (case k6 => exact (by decide : 550 < recursionLimit)); (case k7 => exact binds_K XS rfl (by k_is) rfl rfl rfl); (case k8 => exact locs rfl); (case c2 => exact rfl); (case c3 => exact rfl); (case c4 => exact rfl); (case c5 => decide); k_whole)
  intro L' h' F' N' X' T'
  dsimp only
  k_fold
  k_steps
  k_dflt (refine list_map_K rfl (by k_asm) (by k_asm) (by kmk_list) (by assumption) (by rename_i ne2; exact ne2 _ _ (List.mem_cons_of_mem _ (List.mem_cons_of_mem _ List.mem_cons_self))) (by first | assumption | exact strs_push2 (by assumption)) (by assumption) (by first | exact its_le (by assumption) (by assumption) | exact its_le2 (by assumption) (by assumption)) (by simp) ?_ ?_)
  · intro ha R' acc' h' tk' c' F' N' hacc'
    have hz := strs_take hacc' 3
    have hsz : acc'.size ≤ 64 := by rw [strs_size hacc', List.length_map]; first | omega | (rw [List.length_append, List.length_singleton]; omega)
    have hw := short_weight ((short_nums (parts)).take 3) (by rw [List.length_take]; omega)
    k_steps
    exact hret _ _ _ _ KtsTurn.refl (Fr.keep (by assumption)) ⟨_, by rw [normed_ok ha]⟩
  · intro ha h1 h' tk' e' args' F' N' me'
    k_dflt (refine' caught_own (g₀ := s.heap) (T' := "ValueError") me' F' N' ?K ?XB ?TB ?D KtsTurn.refl ?ex PyProof.Rows.Boot.«ValueError» ?hn PySem.F.isExc_ValueError PySem.F.notTuple_ValueError ?hs ?_; (case K => assumption); (case XB => assumption); (case TB => assumption); (case D => assumption); (case hs => kts_sub); (case ex => k_is); (case hn => decide); k_whole)
    clear F' N' me'
    intro h2 g2 T2 F2 N2 B2 X2 TT2 D2
    rename StrsAre _ parts => hits
    have hz := strs_takeL hits 3
    have hsz := its_le hits hn
    have hw := short_weight (l := (parts).take 3) (Short.take hs 3) (by rw [List.length_take]; omega)
    k_steps
    exact hret _ _ _ _ T2 (Fr.keep (by assumption)) ⟨_, by rw [normed_no ha]⟩
end Mine

end
section
open PySem PySem.W PyProof.Rows PySem.Calls
set_option maxHeartbeats 1000000
namespace Mine
theorem sc_swap {c c' : Code} (h1 : c.isCaller = false) : Swap SC c c' := fun l h => by
  unfold SC at h ⊢
  rw [List.any_cons, h1, Bool.false_or] at h
  rw [List.any_cons, h, Bool.or_true]
section
variable {M : Model} {A : Around} {E : Value → Shared → Prop} {s : Shared} {env : Env}
theorem wpS_keep {α : Type} {vs : List Value} {m : Sem α} {Q : α → Shared → Prop} (h : wpS SC M A m Q E s) : wpS SC M A (m.keep vs) Q E s :=
  fun Γ p hΓ q => by rw [Sem.wp_keep]; exact h Γ p hΓ q
theorem wpS_any {α β : Type} {m : Sem α} {f : α → Sem β} {Q : β → Shared → Prop} (h : wpAny M A m (fun a s' => wpS SC M A (f a) Q E s') E s) : wpS SC M A (m >>= f) Q E s := wpS_bind (wpS.of_any h)
theorem wpS_execs_any {st : Stmt} {rest : List Stmt} {Q : Flow → Shared → Prop}
    (h : wpAny M A (exec st env) (fun f s' => match f with | .next => wpS SC M A (execs rest env) Q E s' | f => Q f s') E s) : wpS SC M A (execs (st :: rest) env) Q E s := by
  rw [execs_cons]
  refine wpS_any (wpAny_mono h (fun f s' h' => ?_) fun _ _ e => e)
  cases f <;> first | exact h' | exact wpS_pure h'
theorem wpS_execs_S {st : Stmt} {rest : List Stmt} {Q : Flow → Shared → Prop}
    (h : wpS SC M A (exec st env) (fun f s' => match f with | .next => wpAny M A (execs rest env) Q E s' | f => Q f s') E s) : wpS SC M A (execs (st :: rest) env) Q E s := by
  rw [execs_cons]
  refine wpS_bind (wpS_mono h (fun f s' h' => ?_) fun _ _ e => e)
  cases f <;> first | exact wpS.of_any h' | exact wpS_pure h'
theorem wpS_Return {e : Expr} {pos : Pos} {Q : Flow → Shared → Prop} (h : wpS SC M A (eval e env) (fun v s' => Q (.ret v) s') E s) : wpS SC M A (exec (.Return (some e) pos) env) Q E s := by
  rw [exec_Return_some]
  exact wpS_any (wpAny_standAt (wpS_bind (wpS_mono h (fun v s' h' => wpS_pure h') fun _ _ e => e)))
theorem wpS_Assign {x : Str} {p pos : Pos} {value : Expr} {Q : Flow → Shared → Prop} (hs : swapsWith value (some (.Name x p)) pos.line env = pure false)
    (h : wpS SC M A (eval value env) (fun v s₁ => wpAny M A (storeName env x v) (fun _ s₂ => Q .next s₂) E s₁) E s) : wpS SC M A (exec (.Assign [.Name x p] value pos) env) Q E s := by
  rw [exec_Assign_Name _ _ _ _ _ hs]
  exact wpS_any (wpAny_standAt (wpS_bind (wpS_mono h (fun v s₁ h₁ => wpS_any (wpAny_standAt (wpS_any (wpAny_bindName (wpAny_mono h₁ (fun _ _ q => wpS_pure q) fun _ _ e => e))))) fun _ _ e => e)))
theorem wpS_If {test : Expr} {body orelse : List Stmt} {pos : Pos} {Q : Flow → Shared → Prop}
    (h : wpS SC M A (isTrue test env (eval test env)) (fun b s₁ => if b then wpAny M A (execs body env) Q E s₁ else wpAny M A (execs orelse env) Q E s₁) E s) : wpS SC M A (exec (.If test body orelse pos) env) Q E s := by
  rw [exec_If]
  refine wpS_any (wpAny_standAt (wpS_bind (wpS_mono h (fun b s₁ h₁ => ?_) fun _ _ e => e)))
  cases b <;> exact wpS.of_any h₁
theorem wpAny_operate {vs : List Value} {m : Sem Value} {Q : Value → Shared → Prop} (h : wpAny M A m Q E s) : wpAny M A (operate vs m) Q E s := fun Γ p hΓ => by rw [Sem.wp_operate]; exact h Γ p hΓ
theorem wpS_Compare {l r : Expr} {op : CmpOp} {pos : Pos} {Q : Value → Shared → Prop}
    (h : wpS SC M A (eval l env) (fun a s₁ => wpAny M A (eval r env) (fun b s₂ => wpAny M A (compareOp op a b) Q E s₂) E s₁) E s)
    (hm : behindInMarks op r = false := by with_unfolding_all rfl) : wpS SC M A (eval (.Compare l [op] [r] pos) env) Q E s := by
  rw [eval_Compare1, markedBehindIn_of_false hm]
  exact wpS_bind (wpS_mono h (fun a s₁ h₁ => wpS_any (wpAny_holding (wpAny_mono h₁ (fun b s₂ h₂ => wpS_any (wpAny_standAt (wpS.of_any (wpAny_operate h₂)))) fun _ _ e => e))) fun _ _ e => e)
theorem wpS_isTrue_Compare {l r : Expr} {op : CmpOp} {pos : Pos} {whole : Sem Value} {Q : Bool → Shared → Prop}
    (h : wpS SC M A (eval l env) (fun a s₁ => wpAny M A (eval r env) (fun b s₂ => wpAny M A (compareOp op a b) (fun c s₃ => wpAny M A (truthy c) Q E s₃) E s₂) E s₁) E s)
    (hm : behindInMarks op r = false := by with_unfolding_all rfl) : wpS SC M A (isTrue (.Compare l [op] [r] pos) env whole) Q E s := by
  rw [isTrue_Compare1, markedBehindIn_of_false hm]
  exact wpS_bind (wpS_mono h (fun a s₁ h₁ => wpS_any (wpAny_holding (wpAny_mono h₁ (fun b s₂ h₂ => wpS_any (wpAny_standAt (wpS_any (wpAny_operate (wpAny_mono h₂ (fun c s₃ h₃ => wpS.of_any (wpAny_holding h₃)) fun _ _ e => e))))) fun _ _ e => e))) fun _ _ e => e)
theorem wpS_isTrue_Not {x : Expr} {pos : Pos} {whole : Sem Value} {Q : Bool → Shared → Prop} (h : wpS SC M A (isTrue x env (eval x env)) (fun b s₁ => Q (!b) s₁) E s) : wpS SC M A (isTrue (.UnaryOp .Not x pos) env whole) Q E s := by
  rw [arm_isTrue_UnaryOp]
  exact wpS_bind (wpS_mono h (fun b s₁ h₁ => wpS_pure h₁) fun _ _ e => e)
theorem wpS_isTrue_Call {f : Expr} {args : List Expr} {kws : List Keyword} {pos : Pos} {whole : Sem Value} {Q : Bool → Shared → Prop} (h : wpS SC M A whole (fun v s₁ => wpAny M A (truthy v) Q E s₁) E s) : wpS SC M A (isTrue (.Call f args kws pos) env whole) Q E s := by
  have e : isTrue (.Call f args kws pos) env whole = (do let v ← whole; standAt (Expr.Call f args kws pos).pos; holding [v] (truthy v)) := rfl
  rw [e]
  exact wpS_bind (wpS_mono h (fun v s₁ h₁ => wpS_any (wpAny_standAt (wpS.of_any (wpAny_holding h₁)))) fun _ _ e => e)
theorem wpS_tryStmt {body orelse : Sem Flow} {h₀ : ExceptHandler} {hs : List ExceptHandler} {Q : Flow → Shared → Prop}
    (h : wpS SC M A body (fun f s₁ => match f with | .next => wpAny M A orelse Q E s₁ | f => Q f s₁)
      (fun e s₁ => wpAny M A (noteFrame e env) (fun _ s₂ => wpAny M A (setFlight e none) (fun _ s₃ => wpAny M A (handleBy e env (h₀ :: hs)) Q E s₃) E s₂) E s₁) s) :
    wpS SC M A (tryStmt false body (h₀ :: hs) orelse [] env) Q E s := by
  unfold tryStmt
  simp only [List.isEmpty_nil, if_true, List.isEmpty_cons, Bool.false_and, Bool.false_eq_true, if_false]
  refine wpS_bind (wpS_attempt (wpS_mono h (fun f s₁ h₁ => ?_) fun e s₁ h₁ => ?_))
  · cases f <;> first | exact wpS.of_any h₁ | exact wpS_pure h₁
  · exact wpS.of_any (wpAny_bind (wpAny_mono h₁ (fun _ _ h₂ => wpAny_bind h₂) fun _ _ x => x))
theorem wpS_Try {body orelse : List Stmt} {h₀ : ExceptHandler} {hs : List ExceptHandler} {pos : Pos} {Q : Flow → Shared → Prop}
    (h : wpS SC M A (execs body env) (fun f s₁ => match f with | .next => wpAny M A (execs orelse env) Q E s₁ | f => Q f s₁)
      (fun e s₁ => wpAny M A (noteFrame e env) (fun _ s₂ => wpAny M A (setFlight e none) (fun _ s₃ => wpAny M A (handleBy e env (h₀ :: hs)) Q E s₃) E s₂) E s₁) s) :
    wpS SC M A (exec (.Try body (h₀ :: hs) orelse [] pos) env) Q E s := by
  rw [arm_exec_Try]
  exact wpS_any (wpAny_standAt (wpS_tryStmt h))
theorem wpS_callWith {P : Heap → Prop} {pos : Pos} {f : Value} {first : List Value} {Q : Value → Shared → Prop} {args : List (Bool × Sem Value)} {keywords : List (Option Str × Sem Value)} (hplain : (args.any (·.1) || keywords.any (·.1.isNone)) = false)
    (hk : ∀ h, P h → ∃ k, (k = Keeper.frame ∨ k = Keeper.machine ∨ k = Keeper.boundFrame) ∧ Looks M h (keeperOf f) k)
    (h : wpAny M A (evalArgs f true args keywords) (fun a s₁ => P s₁.heap ∧ wpS SC M A (call f (first ++ a.pos) a.kw) Q E s₁) E s) : wpS SC M A (callWith pos f first args keywords) Q E s := by
  unfold callWith
  refine wpS_any (wpAny_holding (wpAny_mono h (fun a s₁ h₁ => wpS_any (wpAny_standAt ?_)) fun _ _ x => x))
  obtain ⟨k, hk', L⟩ := hk _ h₁.1
  simp only [hplain]
  refine wpS_any (L.here ?_)
  have tail : ∀ {t : Sem Value}, wpS SC M A t Q E s₁ → wpS SC M A (t >>= fun r => holding [r] point >>= fun _ => pure r) Q E s₁ :=
    fun ht => wpS_bind (wpS_mono ht (fun r s₂ hr => wpS_any (wpAny_holding (wpAny_point (wpS_pure hr)))) fun _ _ x => x)
  have marked (mk : Value) : wpS SC M A (callMarked mk f (first ++ a.pos) a.kw) Q E s₁ := by unfold callMarked; exact wpS_keep h₁.2
  rcases hk' with rfl | rfl | rfl <;> dsimp only <;> first | exact tail h₁.2 | (split <;> first | exact tail h₁.2 | exact tail (marked _))
theorem wpS_callWith_type {pos : Pos} {T : String} {first : List Value} {Q : Value → Shared → Prop} {args : List (Bool × Sem Value)} (hplain : args.any (·.1) = false)
    (h : wpAny M A (evalArgs (.type T) true args []) (fun a s₁ => wpS SC M A (call (.type T) (first ++ a.pos) a.kw) Q E s₁) E s) : wpS SC M A (callWith pos (.type T) first args []) Q E s := by
  unfold callWith
  refine wpS_any (wpAny_holding (wpAny_mono h (fun a s₁ h₁ => wpS_any (wpAny_standAt ?_)) fun _ _ x => x))
  simp only [hplain, List.any_nil, Bool.or_false]
  refine wpS_any (wpAny_pure ?_)
  have tail : ∀ {t : Sem Value}, wpS SC M A t Q E s₁ → wpS SC M A (t >>= fun r => holding [r] point >>= fun _ => pure r) Q E s₁ :=
    fun ht => wpS_bind (wpS_mono ht (fun r s₂ hr => wpS_any (wpAny_holding (wpAny_point (wpS_pure hr)))) fun _ _ x => x)
  exact tail h₁
theorem wpS_Call_K {KF : Frag} {id : Str} {p pos : Pos} {e : Expr} {rest : List Expr} {Q : Value → Shared → Prop}
    (h : wpAny M A (eval (.Name id p) env) (fun f s₁ => keepIn KF f = true ∧ wpAny M A (spliced (backTo pos (starEach (e :: rest) env))) (fun vs s₂ => KF.In s₂.heap ∧ wpS SC M A (call f vs) Q E s₂) E s₁) E s)
    (he : starEach (e :: rest) env = (false, eval e env) :: starEach rest env := by rfl) (hplain : (backTo pos (starEach rest env)).any (·.1) = false := by rfl) :
    wpS SC M A (eval (.Call (.Name id p) (e :: rest) [] pos) env) Q E s := by
  rw [arm_eval_Call_Name']
  refine wpS_any (wpAny_mono h (fun f s₁ h₁ => ?_) fun _ _ x => x)
  obtain ⟨hk, h₁⟩ := h₁
  rw [he] at h₁ ⊢
  exact wpS_callWith (first := []) (by show ((false || (backTo pos (starEach rest env)).any (·.1)) || false) = false; rw [hplain]; rfl) (keeps_K hk) (evalArgs_plain h₁)
theorem wpS_Call_type {T : String} {id : Str} {p pos : Pos} {e : Expr} {rest : List Expr} {Q : Value → Shared → Prop}
    (h : wpAny M A (eval (.Name id p) env) (fun f s₁ => f = .type T ∧ wpAny M A (spliced (backTo pos (starEach (e :: rest) env))) (fun vs s₂ => wpS SC M A (call (.type T) vs) Q E s₂) E s₁) E s)
    (he : starEach (e :: rest) env = (false, eval e env) :: starEach rest env := by rfl) (hplain : (backTo pos (starEach rest env)).any (·.1) = false := by rfl) :
    wpS SC M A (eval (.Call (.Name id p) (e :: rest) [] pos) env) Q E s := by
  rw [arm_eval_Call_Name']
  refine wpS_any (wpAny_mono h (fun f s₁ h₁ => ?_) fun _ _ x => x)
  obtain ⟨rfl, h₁⟩ := h₁
  rw [he] at h₁ ⊢
  exact wpS_callWith_type (first := []) (by show (false || (backTo pos (starEach rest env)).any (·.1)) = false; rw [hplain]; rfl) (evalArgs_plain h₁)
end
section
variable {prog : Program} {w : World} {A : Around} {R : Result → Shared → Prop} {s : Shared}
theorem codeS_func {body : List Stmt} {env : Env}
    (h : wpS SC (model prog w) (A.deeper env) (execs body env) (fun f s' => R (.ok (.ret (match f with | .ret v => v | _ => .none))) s')
      (fun e s' => wpAny (model prog w) (A.deeper env) (leaving env e) (fun _ s'' => R (.error e) s'') (fun e' s'' => R (.error e') s'') s') s) :
    codeS SC (model prog w) A (.func body env) R s := by
  refine codeS_of_tree ?_
  show wpS _ _ (A.deeper env) (do point; match ← (execs body env).onRaise (leaving env) with | .ret v => ret v | _ => ret .none) _ _ s
  refine wpS_any (wpAny_point (wpS_bind (wpS_onRaise (wpS_mono h (fun f s' h' => ?_) fun _ _ h' => h'))))
  cases f <;> exact wpS_pure h'
theorem codeS_call_function {a : Addr} {args : Args} {o : Obj} {fd : FuncData} {body : List Stmt} (hroom : A.depth < recursionLimit) (ho : s.heap.get? a = some o)
    (hd' : o.data = .func fd) (hco : fd.scope.isCoroutine = false) (hgen : fd.scope.isGenerator = false) (hbody : fd.body = .stmts body) (hcd : s.heap.CodeRec fd.code fd.qualname)
    (h : wpAny (model prog w) A.in1 (bindArgs fd args) (fun binds s₁ =>
      wpAny (model prog w) A.in1 (newFunctionEnv fd.scope fd.globals fd.closure binds (fd.qualname ++ ".<locals>.") (some a) fd.code none fd.builtins)
        (fun env s₂ => s₂.heap.NoLimit ∧ codeS SC (model prog w) A (.func body env) R s₂) (fun e s' => R (.error e) s') s₁) (fun e s' => R (.error e) s') s) :
    codeS SC (model prog w) A (.call (.ref a) args) R s := by
  refine codeS_of_tree ?_
  show wpS _ _ A.in1 (callAny (.ref a) args) _ _ s
  simp only [callAny]
  refine wpS_any (wpAny_load ho ?_)
  obtain ⟨c, oc, vs, tq, hc, hoc, hdc, hq⟩ := hcd
  simp only [hd', callFunction, hco, hgen, hbody, hc]
  rw [hc] at h
  refine wpS_any (m := field (.ref c) 1) (wpAny_field hoc hdc hq (wpS_any (wpAny_pure ?_)))
  exact wpS_any (wpAny_mono h (fun binds s₁ h₁ => wpS_any (wpAny_mono h₁ (fun env s₂ h₂ => wpS_any (wpAny_enterFrame h₂.1 hroom
    (wpS_pure ⟨rfl, sc_swap rfl, h₂.2⟩))) fun _ _ h' => h')) fun _ _ h' => h')
theorem codeS_call_def {a : Addr} {o : Obj} {fd : FuncData} {body : List Stmt} {args : Args} {binds : List (Str × Value)}
    (hroom : A.depth < recursionLimit) (ho : s.heap.get? a = some o) (hdata : o.data = .func fd) (hlim : s.heap.NoLimit) (hcd : s.heap.CodeRec fd.code fd.qualname)
    (hbody : fd.body = .stmts body) (hbind : BindsTo s fd args binds)
    (hcell : ∀ x ∈ fd.scope.names, x.2 ≠ .cell) (hloc : ∀ x ∈ binds, fd.scope.names.lookup x.1 = some .local)
    (h : ∀ h₀, h₀.Ns s.heap.objs.size (fun x => binds.reverse.lookup x) → (∀ b o, s.heap.get? b = some o → h₀.get? b = some o) →
      wpS SC (model prog w) (A.deeper (callEnv fd s.heap.objs.size a)) (execs body (callEnv fd s.heap.objs.size a)) (fun f s' => R (.ok (.ret (match f with | .ret v => v | _ => .none))) s')
        (fun e s' => wpAny (model prog w) (A.deeper (callEnv fd s.heap.objs.size a)) (leaving (callEnv fd s.heap.objs.size a) e) (fun _ s'' => R (.error e) s'') (fun e' s'' => R (.error e') s'') s')
        { s with heap := h₀, toks := s.toks + binds.length })
    (hco : fd.scope.isCoroutine = false := by rfl) (hgen : fd.scope.isGenerator = false := by rfl) (hk : fd.scope.kind = .function := by rfl) :
    codeS SC (model prog w) A (.call (.ref a) args) R s := by
  refine codeS_call_function hroom ho hdata hco hgen hbody hcd (hbind _ _ _ _ ?_)
  refine wpAny_newFunctionEnv hcell hloc (fun h₀ hns₀ hsb₀ => ⟨hlim.fresh _ hsb₀, codeS_func (h h₀ hns₀ fun b o e => ?_)⟩) hk
  exact hsb₀.extBut b o (Nat.ne_of_lt (Heap.lt_size e)) (Heap.get?_push_of_some _ e)
end
theorem enterS {w : World} {A : Around} {s : Shared} {base : Heap} {outer : List Env} {mean : ExcName → Option Value} {mg mb : Str → Option Value} {R : Result → Shared → Prop}
    {name qual : Str} {params : Arguments} {body : List Stmt} {scope : Scope} {dV kV doc pm cdv ct oc : Value} {an od : Option Addr} {osl : Array (Option Value)} {f : Addr} {args : Args} {binds : List (Str × Value)}
    (B : Below A base outer s.heap) (XB : (Mine.hd.heap_39 w.params).In base) (TB : Top Mine.hd.view_39 (looseW Mine.hd.view_39 [Str.ofString "_twin_re_1", Str.ofString "_ver_stages", Str.ofString "_norm_version"]) mean mg mb base)
    (ho : (Mine.hd.heap_39 w.params).lookup f = some ⟨oc, od, .func (fnOf name qual params body scope dV kV doc pm an cdv ct), osl⟩) (hcd : codeIn (Mine.hd.heap_39 w.params) cdv qual = true) (hroom : A.depth < recursionLimit)
    (hbind : BindsTo s (fnOf name qual params body scope dV kV doc pm an cdv ct) args binds) (hloc : ∀ y ∈ binds, scope.names.lookup y.1 = some .local)
    (h : ∀ L' h₁, Fr s.heap L' h₁ (fun y => binds.reverse.lookup y) → News s.heap L' h₁ [] → (Mine.hd.heap_39 w.params).In s.heap → Top Mine.hd.view_39 (looseW Mine.hd.view_39 [Str.ofString "_twin_re_1", Str.ofString "_ver_stages", Str.ofString "_norm_version"]) mean mg mb s.heap →
      wpS SC (model PySem.Challenge.rw_pe0058_01.row.prog w) (A.deeper (envOf qual scope L' f cdv)) (execs body (envOf qual scope L' f cdv))
        (fun fl s' => R (.ok (.ret (match fl with | .ret v => v | _ => .none))) s')
        (fun e s' => wpAny (model PySem.Challenge.rw_pe0058_01.row.prog w) (A.deeper (envOf qual scope L' f cdv)) (leaving (envOf qual scope L' f cdv) e) (fun _ s'' => R (.error e) s'') (fun e' s'' => R (.error e') s'') s')
        { s with heap := h₁, toks := s.toks + binds.length })
    (hco : scope.isCoroutine = false) (hgen : scope.isGenerator = false) (hk : scope.kind = .function)
    (hcell : ∀ x ∈ scope.names, x.2 ≠ .cell) : codeS SC (model PySem.Challenge.rw_pe0058_01.row.prog w) A (.call (.ref f) args) R s :=
  have X : (Mine.hd.heap_39 w.params).In s.heap := XB.keeps B.stays
  codeS_call_def (fd := fnOf name qual params body scope dV kV doc pm an cdv ct) (body := body) (binds := binds) hroom (X _ _ ho) rfl (TB.nolimit.keeps B.stays) (codeRec_of X hcd) rfl hbind hcell hloc
    (fun h₁ hns hk₁ => h s.heap.objs.size h₁ ⟨hns, hk₁, Nat.le_refl _⟩ News.nil X (TB.keeps B.stays)) hco hgen hk
end Mine

end
section
open PySem PySem.W PyProof.Rows PySem.Calls
set_option maxHeartbeats 1000000
namespace Mine
open LCg
section
variable {M : Model} {A : Around} {E : Value → Shared → Prop} {s : Shared} {env : Env}
theorem wpS_comprehension {e : Expr} {scope : Scope} {pos : Pos} {newAcc first : Sem Value} {g : Comprehension} {gs : List Comprehension} {cl : List (Str × Addr)} {Q : Value → Shared → Prop}
    (hcl : clausesOf e = g :: gs) (hs : ∀ x, foldedSetIterable g.iter env x = pure x) (hclos : closureFor scope env = pure cl)
    (hkind : scope.kind = .function) (hnames : ∀ x ∈ scope.names, x.2 = .local → scope.names.lookup x.1 = some .local)
    (h : wpAny M A first (fun x s₁ => wpAny M A (pyIter x) (fun it s₂ => wpAny M A newAcc (fun acc s₃ =>
      wpAny M A (newFunctionEnv scope env.globals cl [] env.qual none .none (some env)) (fun cenv s₄ =>
        codeS SC M A (.compStart e 0 it acc { cenv with scope := relabel scope env }) (compPost M A E none Q acc cenv.locals) s₄) E s₃) E s₂) E s₁) E s) :
    wpS SC M A (comprehension e scope env pos newAcc false first none) Q E s := by
  unfold comprehension
  rw [hclos, hcl]
  refine wpS_any (wpAny_mono h (fun x s₁ h₁ => wpS_any (wpAny_standAt (wpS_any (wpAny_of_eq (hs x) (wpS_any (wpAny_holding (wpAny_mono h₁ (fun it s₂ h₂ => ?_)
      fun _ _ h' => h'))))))) fun _ _ h' => h')
  have key : ∀ {t : Sem Value}, wpS SC M A t Q E s₂ → ∀ (c : Prop) [Decidable c] (pos : Pos), wpS SC M A (if c then (standAt pos >>= fun _ => t) else t) Q E s₂ := fun ht c _ pos => by
    split
    · exact wpS_any (wpAny_standAt ht)
    · exact ht
  refine key ?_ _ _
  refine wpS_any (wpAny_mono h₂ (fun acc s₃ h₃ => wpS_any (wpAny_pure (wpS_any (wpAny_mono h₃ (fun cenv s₄ h₄ => ?_) fun _ _ h' => h')))) fun _ _ h' => h')
  dsimp only
  have hv : ∀ x ∈ (scope.names.filter fun x => (x.2 == .local || x.2 == .cell) && x.1 != (".0" : Str)).reverse, x.2 = .local →
      Env.kindOf { cenv with scope := relabel scope env } x.1 = some .local := fun x hx hl => lookup_relabel_local (hnames x (List.mem_filter.mp (List.mem_reverse.mp hx)).1 hl)
  refine wpS_holding (wpS_bind (wpS_attempt (wpS_holding (wpS_run (sc_under _) (codeS_mono h₄ fun r s' hr => ?_)))))
  cases r with
  | ok f =>
    obtain ⟨m, hn, hr⟩ := hr
    exact wpS.of_any (wpAny_bind (wpAny_holding (wpAny_comp_letGo (cenv := { cenv with scope := relabel scope env }) hkind _ s' m hv hn fun h' m' _ hs' => wpAny_pure (hr h' hs'))))
  | error x =>
    obtain ⟨m, hn, hr⟩ := hr
    exact wpS.of_any (wpAny_bind (wpAny_holding (wpAny_comp_letGo (cenv := { cenv with scope := relabel scope env }) hkind _ s' m hv hn fun h' m' _ hs' => wpAny_mono (hr h' hs' _ rfl) (fun _ _ f => f.elim) fun _ _ y => y)))
theorem codeS_loop {c : Code} {R : Result → Shared → Prop} (hq : c.quiet = true) (I : Nat → Shared → Prop)
    (turn : ∀ n s, I n s → wpS SC M (A.under c) (M.den c)
      (fun fin s' => match fin with | .done f => R (.ok f) s' | .again c' => c' = c ∧ ∃ m, m < n ∧ I m s') (fun e s' => R (.error e) s') s)
    (n : Nat) (h : I n s) : codeS SC M A c R s := by
  induction n using Nat.strongRecOn generalizing s with
  | ind n ih =>
    refine codeS_of_tree (wpS_mono (turn n s h) (fun fin s' hf => ?_) fun _ _ h' => h')
    cases fin with
    | done f => exact hf
    | again c' => obtain ⟨rfl, m, hm, hI⟩ := hf; exact ⟨hq, fun _ x => x, ih m hm hI⟩
end
section
variable {prog : Program} {w : World} {A : Around} {E : Value → Shared → Prop} {R : Result → Shared → Prop} {s : Shared}
theorem codeS_compStart_list {elt target iter : Expr} {ifs : List Expr} {rest : List Comprehension} {scope : Scope} {pos : Pos} {it acc : Value} {env : Env}
    (h0 : codeS SC (model prog w) A (.compLoop (.ListComp elt (⟨target, iter, ifs, 0⟩ :: rest) scope pos) 0 it acc env) R s)
    (h : wpAny (model prog w) A (pyIter it) (fun it' s' => codeS SC (model prog w) A (.compLoop (.ListComp elt (⟨target, iter, ifs, 0⟩ :: rest) scope pos) 0 it' acc env) R s')
      (notedBy (model prog w) A env fun x s' => R (.error x) s') s) :
    codeS SC (model prog w) A (.compStart (.ListComp elt (⟨target, iter, ifs, 0⟩ :: rest) scope pos) 0 it acc env) R s := by
  refine codeS_of_tree ?_
  show wpS _ _ _ ((compStart (.ListComp elt (⟨target, iter, ifs, 0⟩ :: rest) scope pos) 0 it acc env).onRaise (fun x => do noteFrame x env; standAt theWindowsPlace)) _ _ s
  refine wpS_onRaise (wpS_mono (E := notedBy (model prog w) A env fun x s' => R (.error x) s') ?_ (fun _ _ q => q) fun _ _ hx => wpAny_bind (wpAny_mono hx (fun _ _ e => wpAny_standAt e) fun _ _ e => e))
  unfold compStart
  show wpS _ _ _ (ask >>= _) _ _ s
  refine wpS_any (wpAny_askSetting ?_)
  split
  · first
      | exact wpS_any (wpAny_pure (wpS_pure ⟨rfl, sc_swap rfl, h0⟩))
      | exact wpS_pure ⟨rfl, sc_swap rfl, h0⟩
  · first
      | exact wpS_any (wpAny_rule (wpS_any (wpAny_standAt (wpS_any (wpAny_mono h (fun it' s' h' => wpS_pure ⟨rfl, sc_swap rfl, h'⟩) fun _ _ x => x)))))
      | (refine wpS_any (wpAny_rule ?_); show wpS _ _ _ (standAt iter.pos >>= _) _ _ s; exact wpS_any (wpAny_standAt (wpS_any (wpAny_mono h (fun it' s' h' => wpS_pure ⟨rfl, sc_swap rfl, h'⟩) fun _ _ x => x))))
/-- the tests of a clause -/
abbrev testsOf (ifs : List Expr) (env : Env) : Sem Bool := forIn ifs true fun c r => if r = true then do let ok ← isTrue c env (eval c env); pure (ForInStep.yield ok) else pure (ForInStep.yield r)
theorem codeS_compLoop {elt target iter : Expr} {ifs : List Expr} {scope : Scope} {pos : Pos} {it acc : Value} {env : Env} (I : Nat → Shared → Prop)
    (turn : ∀ n s, I n s → wpAny (model prog w) A (pyNext it) (fun r s₁ => match r with
      | none => R (.ok .next) s₁
      | some v => wpAny (model prog w) A (assign target env v) (fun _ s₂ =>
          wpS SC (model prog w) A (testsOf ifs env) (fun ok s₃ =>
            if ok = true then wpS SC (model prog w) A (eval elt env) (fun x s₄ =>
              wpAny (model prog w) A (call (.builtin "list.append") [acc, x]) (fun _ s₅ => ∃ m, m < n ∧ I m s₅) (notedBy (model prog w) A env fun e s' => R (.error e) s') s₄) (notedBy (model prog w) A env fun e s' => R (.error e) s') s₃
            else ∃ m, m < n ∧ I m s₃) (notedBy (model prog w) A env fun e s' => R (.error e) s') s₂) (notedBy (model prog w) A env fun e s' => R (.error e) s') s₁) (notedBy (model prog w) A env fun e s' => R (.error e) s') s)
    (n : Nat) (h : I n s) (ht : ∀ v, letOwnedTupleGo target it v = pure () := by intro _; rfl) :
    codeS SC (model prog w) A (.compLoop (.ListComp elt [⟨target, iter, ifs, 0⟩] scope pos) 0 it acc env) R s := by
  refine codeS_loop rfl I (fun n s hI => ?_) n h
  show wpS _ _ A ((compTurn (.ListComp elt [⟨target, iter, ifs, 0⟩] scope pos) 0 it acc env).onRaise (fun x => do noteFrame x env; theTreesLotGoes x)) _ _ s
  refine wpS_onRaise (wpS_mono (E := notedBy (model prog w) A env fun x s' => R (.error x) s') ?_ (fun _ _ q => q) fun _ _ hx => wpAny_bind (wpAny_mono hx (fun _ _ e => wpAny_theTreesLotGoes e) fun _ _ e => e))
  rw [compTurn_list]
  refine wpS_any (wpAny_standAt (wpS_any (wpAny_mono (turn n s hI) (fun r s₁ h₁ => ?_) fun _ _ h' => h')))
  cases r with
  | none => exact wpS_pure h₁
  | some v =>
    refine wpS_any (wpAny_of_eq (ht v) ?_)
    refine wpS_any (wpAny_mono h₁ (fun _ s₂ h₂ => wpS_bind (wpS_mono h₂ (fun ok s₃ h₃ => ?_) fun _ _ h' => h')) fun _ _ h' => h')
    cases ok with
    | false => exact wpS_pure ⟨rfl, h₃⟩
    | true =>
      exact wpS_bind (wpS_bind (wpS_mono h₃ (fun x s₄ h₄ => wpS_any (wpAny_mono h₄ (fun _ s₅ h₅ => wpS_pure (wpS_pure ⟨rfl, h₅⟩)) fun _ _ h' => h')) fun _ _ h' => h'))
theorem tests_nil {env : Env} {Q : Bool → Shared → Prop} (h : Q true s) : wpS SC (model prog w) A (testsOf [] env) Q E s := wpS_pure h
theorem tests_one {env : Env} {c : Expr} {Q : Bool → Shared → Prop} (h : wpS SC (model prog w) A (isTrue c env (eval c env)) Q E s) : wpS SC (model prog w) A (testsOf [c] env) Q E s := by
  simp only [testsOf, List.forIn_cons, List.forIn_nil, if_true]
  exact wpS_bind (wpS_bind (wpS_mono h (fun b s' hb => wpS_pure (wpS_pure hb)) fun _ _ x => x))
end
end Mine

end
section
open PySem PySem.W PyProof.Rows PySem.Calls
set_option maxHeartbeats 1000000
namespace Mine
open LCg
/-- a turn's end: the heap stands on some ground of the family, the ledger is kept -/
def StepEnd (Gd : Heap → Prop) (L : Addr) (m : Str → Option Value) (s : Shared) (l : List (Addr × Obj)) (P : Prop) (s₂ : Shared) : Prop :=
  P ∧ ∃ g' h' tk', s₂ = { s with heap := h', toks := tk' } ∧ Gd g' ∧ Fr g' L h' m ∧ News g' L h' l
theorem StepEnd.intro {Gd : Heap → Prop} {g' h' : Heap} {L : Addr} {m : Str → Option Value} {s : Shared} {l : List (Addr × Obj)} {P : Prop} {tk' : Nat} (hg : P) (G : Gd g') (F : Fr g' L h' m) (N : News g' L h' l) :
    StepEnd Gd L m s l P { s with heap := h', toks := tk' } := ⟨hg, g', h', tk', rfl, G, F, N⟩
section
variable {prog : Program} {w : World} {A : Around} {E : Value → Shared → Prop} {s : Shared} {L : Addr} {m : Str → Option Value} {env : Env}
theorem comp_block {elt iter : Expr} {ifs : List Expr} {x : Str} {px : Pos} {scope : Scope} {cl : List (Str × Addr)} {pos : Pos} {s₂ : Shared} {g : Heap} {I ax : Addr} {its : Array Value} {news : List (Addr × Obj)} {Gd : Heap → Prop}
    {Inv : Nat → List Value → Prop} {RR : Value → Addr → Result → Shared → Prop} (hh : A.handled = none) (hax : ax ≠ I)
    (hsz : its.size ≤ sizeLine) (same : ∀ g g', Gd g → Gd g' → ∀ b, g.get? b = none → g'.get? b = none)
    (src : ∀ g h, Gd g → Fr g L h m → News g L h news → h.IsList ax its)
    (hcell : ∀ y ∈ scope.names, y.2 ≠ .cell) (hkind : scope.kind = .function) (hx : scope.names.lookup x = some .local) (hst : s₂.heap.IsListIter I ax 0 ∧ s₂.heap.IsList ax its)
    (G : Gd g) (F : Fr g L s₂.heap m) (N : News g L s₂.heap news) (hIL : L ≠ I) (hI₀ : g.get? I = none) (off : ∀ p ∈ news, p.1 ≠ I)
    (turn : ∀ i v ys g I oI C oC D m₂ h tk (E' : Value → Shared → Prop), its[i]? = some v → Inv i ys → ys.length ≤ i → Gd g → NsObj oC m₂ → m₂ x = some v → Fr g L h m → News g L h ((I, oI) :: (C, oC) :: (D, lst ys) :: news) →
      wpS SC (model prog w) A (testsOf ifs (compEnvC scope cl C env)) (fun ok s' => if ok = true then
        wpS SC (model prog w) A (eval elt (compEnvC scope cl C env)) (fun y s'' => StepEnd Gd L m s₂ ((I, oI) :: (C, oC) :: (D, lst ys) :: news) (Inv (i + 1) (ys ++ [y])) s'') E' s'
        else StepEnd Gd L m s₂ ((I, oI) :: (C, oC) :: (D, lst ys) :: news) (Inv (i + 1) ys) s') E' { s₂ with heap := h, toks := tk })
    (h0 : Inv 0 [])
    (hRR : ∀ g D C h tk m' ys, Gd g → Fr g L h m → News g L h ((D, lst ys) :: news) → h.Ns C m' → g.get? C = none → g.get? D = none → C ≠ L → D ≠ L → C ≠ D → (∀ p ∈ news, p.1 ≠ C) → Inv its.size ys → RR (.ref D) C (.ok .next) { s₂ with heap := h, toks := tk }) :
    wpAny (model prog w) A (newList []) (fun acc s₃ => wpAny (model prog w) A (newFunctionEnv scope env.globals cl [] env.qual none .none (some env)) (fun cenv s₄ =>
      codeS SC (model prog w) A (.compStart (.ListComp elt [⟨.Name x px, iter, ifs, 0⟩] scope pos) 0 (.ref I) acc { cenv with scope := relabel scope env }) (RR acc cenv.locals) s₄) E s₃) E s₂ := by
  have W := Walks.list (prog := prog) (w := w) (A := A) hh I ax hax its
  have hfp : ∀ b ∈ [I, ax], b < s₂.heap.objs.size := fun b hb => by
    rcases List.mem_cons.mp hb with rfl | hb
    · obtain ⟨_, e, _⟩ := hst.1; exact Heap.lt_size e
    · rw [List.mem_singleton.mp hb]; obtain ⟨_, e, _⟩ := hst.2; exact Heap.lt_size e
  refine wpAny_newObj_type (wpAny_newFunctionEnv hcell (by intro y hy; simp at hy) (fun h₁ hns₁ hsb₁ => ?_) hkind)
  dsimp only at hns₁ hsb₁ ⊢
  generalize hH2 : s₂.heap.push { cls := .type "list", dict := none, data := .seq ([] : List Value).toArray } = H2 at hns₁ hsb₁ ⊢
  have hC : H2.objs.size = s₂.heap.objs.size + 1 := by rw [← hH2, Heap.size_push]
  have hDC : s₂.heap.objs.size ≠ H2.objs.size := by rw [hC]; exact Nat.ne_of_lt (Nat.lt_succ_self _)
  have below : ∀ b, b < s₂.heap.objs.size → b ≠ H2.objs.size ∧ b ≠ s₂.heap.objs.size := fun b hb => ⟨by rw [hC]; exact Nat.ne_of_lt (Nat.lt_succ_of_lt hb), Nat.ne_of_lt hb⟩
  have hDf : s₂.heap.objs.size ∉ [I, ax] := fun hm => Nat.lt_irrefl _ (hfp _ hm)
  have hCf : H2.objs.size ∉ [I, ax] := fun hm => by have := hfp _ hm; rw [hC] at this; exact Nat.lt_irrefl _ (Nat.lt_of_succ_lt this)
  have hIlt : I < s₂.heap.objs.size := hfp I (.head _)
  have old : ∀ b o, s₂.heap.get? b = some o → h₁.get? b = some o := fun b o e => hsb₁.extBut b o (below b (Heap.lt_size e)).1 (Heap.get?_push_of_some _ (hH2 ▸ Heap.get?_push_of_some _ e))
  have hacc : h₁.get? s₂.heap.objs.size = some (lst []) := hsb₁.extBut _ _ hDC (Heap.get?_push_of_some _ (hH2 ▸ Heap.get?_push_size _ rfl))
  have hst₁ := W.frame _ _ _ hst fun b _ o e => old b o e
  have fresh : ∀ a, s₂.heap.objs.size ≤ a → s₂.heap.get? a = none := fun a ha => by
    cases e : s₂.heap.get? a with
    | none => rfl
    | some o' => exact absurd (Heap.lt_size e) (Nat.not_lt.mpr ha)
  have fresh₀ : ∀ a, s₂.heap.objs.size ≤ a → g.get? a = none := fun a ha => by
    cases e : g.get? a with
    | none => rfl
    | some o' => have := F.keep a o' e; rw [fresh a ha] at this; cases this
  have hD₀ : ∀ g', Gd g' → g'.get? s₂.heap.objs.size = none := fun g' G' => same g g' G G' _ (fresh₀ _ (Nat.le_refl _))
  have hC₀ : ∀ g', Gd g' → g'.get? H2.objs.size = none := fun g' G' => same g g' G G' _ (fresh₀ _ (by rw [hC]; exact Nat.le_succ _))
  have hI₁ : ∀ g', Gd g' → g'.get? I = none := fun g' G' => same g g' G G' _ hI₀
  have hLlt : L < s₂.heap.objs.size := F.ns.lt
  have hDL : s₂.heap.objs.size ≠ L := Ne.symm (below L hLlt).2
  have hCL : H2.objs.size ≠ L := Ne.symm (below L hLlt).1
  have hCI : I ≠ H2.objs.size := (below I hIlt).1
  have hDI : I ≠ s₂.heap.objs.size := (below I hIlt).2
  have offn : ∀ p ∈ news, p.1 ≠ I ∧ p.1 ≠ H2.objs.size ∧ p.1 ≠ s₂.heap.objs.size := fun p hp => ⟨off p hp, (below _ (Heap.lt_size (N p hp).1)).1, (below _ (Heap.lt_size (N p hp).1)).2⟩
  have loop : ∀ s₃ : Shared, s₃ = { s₂ with heap := h₁, toks := s₂.toks + ([] : List (Str × Value)).length } →
      codeS SC (model prog w) A (.compLoop (.ListComp elt [⟨.Name x px, iter, ifs, 0⟩] scope pos) 0 (.ref I) (.ref s₂.heap.objs.size) (compEnvC scope cl H2.objs.size env))
        (RR (.ref s₂.heap.objs.size) H2.objs.size) s₃ := by
    rintro s₃ rfl
    refine codeS_compLoop
      (fun k s' => ∃ g' h' tk i ys m', s' = { s₂ with heap := h', toks := tk } ∧ i ≤ its.size ∧ k = its.size + 1 - i ∧ ys.length ≤ i ∧ (h'.IsListIter I ax i ∧ h'.IsList ax its) ∧ Gd g' ∧ Fr g' L h' m ∧ h'.Ns H2.objs.size m' ∧ News g' L h' ((s₂.heap.objs.size, lst ys) :: news) ∧
        Inv i ys) ?_ (its.size + 1)
      ⟨g, h₁, _, 0, [], _, rfl, Nat.zero_le _, rfl, Nat.le_refl _, hst₁, G, F.keeps old, hns₁, fun p hp => ?_, h0⟩
    · rintro k s' ⟨g', h', tk, i, ys, m', rfl, hi, rfl, hyl, hst', G', F', hn', N', R'⟩
      by_cases hlt : i < its.size
      · refine W.item i _ _ _ hlt hst' fun v h₂ tk₂ hPv hst₂ hk₂ => ?_
        refine wpAny_assign_Name (wpAny_storeName_local (lookup_relabel_local hx) (hn'.at' fun o e => hk₂ _ o (by simpa using Ne.symm hCI) e) (fun h₃ hn₃ hs₃ => ?_) (by simp [compEnvC, relabel, hkind]))
        have hst₃ := W.frame _ _ _ hst₂ fun b hb o e => hs₃.extBut b o (fun q => hCf (by have q' : b = H2.objs.size := q; rw [← q']; exact hb)) e
        obtain ⟨oI, heI, hoI⟩ := hst₃.1
        obtain ⟨oC, heC, hoC⟩ := ns_obj hn₃
        have F₃ : Fr g' L h₃ m := (fr_but F' hk₂ hIL (hI₁ g' G')).change hs₃ hCL (hC₀ g' G')
        have N₂ : News g' L h₂ ((s₂.heap.objs.size, lst ys) :: news) := news_but N' hk₂ fun p hp => by
          rcases List.mem_cons.mp hp with rfl | hp
          · exact Ne.symm hDI
          · exact (offn p hp).1
        have N₃ : News g' L h₃ ((I, oI) :: (H2.objs.size, oC) :: (s₂.heap.objs.size, lst ys) :: news) := fun p hp => by
          rcases List.mem_cons.mp hp with rfl | hp
          · exact ⟨heI, Ne.symm hIL, hI₁ g' G'⟩
          · rcases List.mem_cons.mp hp with rfl | hp
            · exact ⟨heC, hCL, hC₀ g' G'⟩
            · have z := N₂ p hp
              refine ⟨hs₃.extBut _ _ ?_ z.1, z.2⟩
              rcases List.mem_cons.mp hp with rfl | hp
              · exact hDC
              · exact (offn p hp).2.1
        refine wpS_mono (turn i v ys g' I oI H2.objs.size oC s₂.heap.objs.size _ h₃ _ _ hPv R' hyl G' hoC (by simp) F₃ N₃) (fun ok s₄ h₄ => ?_) fun _ _ e => e
        cases ok with
        | true =>
          simp only [if_true] at h₄ ⊢
          refine wpS_mono h₄ (fun y s₅ h₅ => ?_) fun _ _ e => e
          obtain ⟨P₅, g₄, h₄, tk₄, rfl, G₄, F₄, N₄⟩ := h₅
          have zI := (N₄ (I, oI) List.mem_cons_self).1
          have zC := (N₄ (H2.objs.size, oC) (List.mem_cons_of_mem _ List.mem_cons_self)).1
          have zD := (N₄ (s₂.heap.objs.size, lst ys) (List.mem_cons_of_mem _ (List.mem_cons_of_mem _ List.mem_cons_self))).1
          have N₄' : News g₄ L h₄ news := fun p hp => N₄ p (List.mem_cons_of_mem _ (List.mem_cons_of_mem _ (List.mem_cons_of_mem _ hp)))
          have hst₄ : h₄.IsListIter I ax (i + 1) ∧ h₄.IsList ax its := ⟨⟨oI, zI, hoI⟩, src g₄ h₄ G₄ F₄ N₄'⟩
          refine append_at (hsz := by show ys.toArray.size ≤ sizeLine; rw [List.size_toArray]; exact Nat.le_trans (Nat.le_trans hyl hi) hsz) zD fun h₅ hs₅ hD₅ => ?_
          refine ⟨its.size + 1 - (i + 1), by omega, g₄, h₅, tk₄, i + 1, ys ++ [y], _, rfl, hlt, rfl, by rw [List.length_append, List.length_singleton]; exact Nat.succ_le_succ hyl, W.frame _ _ _ hst₄ fun b hb o e => hs₅.extBut b o (fun q => hDf (q ▸ hb)) e, G₄, F₄.change hs₅ hDL (hD₀ g₄ G₄),
            (hoC.ns zC).sameBut hs₅ (Ne.symm hDC), fun p hp => ?_, P₅⟩
          · rcases List.mem_cons.mp hp with rfl | hp
            · exact ⟨hD₅.trans (congrArg some (lst_snoc ys y)), hDL, hD₀ g₄ G₄⟩
            · exact ⟨hs₅.extBut _ _ (offn p hp).2.2 (N₄' p hp).1, (N₄' p hp).2⟩
        | false =>
          simp only [Bool.false_eq_true, if_false] at h₄ ⊢
          obtain ⟨P₅, g₄, h₅, tk₄, rfl, G₄, F₄, N₄⟩ := h₄
          have zI := (N₄ (I, oI) List.mem_cons_self).1
          have zC := (N₄ (H2.objs.size, oC) (List.mem_cons_of_mem _ List.mem_cons_self)).1
          have N₄' : News g₄ L h₅ news := fun p hp => N₄ p (List.mem_cons_of_mem _ (List.mem_cons_of_mem _ (List.mem_cons_of_mem _ hp)))
          have hst₄ : h₅.IsListIter I ax (i + 1) ∧ h₅.IsList ax its := ⟨⟨oI, zI, hoI⟩, src g₄ h₅ G₄ F₄ N₄'⟩
          refine ⟨its.size + 1 - (i + 1), by omega, g₄, h₅, tk₄, i + 1, ys, _, rfl, hlt, rfl, Nat.le_succ_of_le hyl, hst₄, G₄, F₄, hoC.ns zC, fun p hp => ?_, P₅⟩
          · rcases List.mem_cons.mp hp with rfl | hp
            · exact N₄ _ (List.mem_cons_of_mem _ (List.mem_cons_of_mem _ List.mem_cons_self))
            · exact N₄' p hp
      · obtain rfl : i = its.size := Nat.le_antisymm hi (Nat.not_lt.mp hlt)
        refine W.done _ _ _ hst' fun h₂ tk₂ hk₂ => ?_
        exact hRR g' _ _ h₂ tk₂ _ ys G' (fr_but F' hk₂ hIL (hI₁ g' G')) (news_but N' hk₂ fun p hp => by
          rcases List.mem_cons.mp hp with rfl | hp
          · exact Ne.symm hDI
          · exact (offn p hp).1) (hn'.at' fun o e => hk₂ _ o (by simpa using Ne.symm hCI) e) (hC₀ g' G') (hD₀ g' G') hCL hDL (Ne.symm hDC) (fun p hp => (offn p hp).2.1) R'
    · rcases List.mem_cons.mp hp with rfl | hp
      · exact ⟨hacc, hDL, hD₀ g G⟩
      · exact ⟨old _ _ (N p hp).1, (N p hp).2⟩
  exact codeS_compStart_list (loop _ rfl) (W.self 0 _ _ _ hst₁ (loop _ rfl))
/-- what the iterable of a comprehension is to be: a list that stands, with the turns and the end -/
def SrcS (prog : Program) (w : World) (A : Around) (L : Addr) (m : Str → Option Value) (env : Env) (elt : Expr) (ifs : List Expr) (x : Str) (scope : Scope) (cl : List (Str × Addr)) (Q : Value → Shared → Prop) (xv : Value) (s₁ : Shared) : Prop :=
  ∃ ax its news, ∃ Gd : Heap → Prop, ∃ g, ∃ Inv : Nat → List Value → Prop, xv = .ref ax ∧ A.handled = none ∧ its.size ≤ sizeLine ∧ (∀ g g', Gd g → Gd g' → ∀ b, g.get? b = none → g'.get? b = none) ∧
    (∀ g h, Gd g → Fr g L h m → News g L h news → h.IsList ax its) ∧ Gd g ∧ Fr g L s₁.heap m ∧ News g L s₁.heap news ∧
    (∀ i v ys g I oI C oC D m₂ h tk (E' : Value → Shared → Prop), its[i]? = some v → Inv i ys → ys.length ≤ i → Gd g → NsObj oC m₂ → m₂ x = some v → Fr g L h m → News g L h ((I, oI) :: (C, oC) :: (D, lst ys) :: news) →
      wpS SC (model prog w) A (testsOf ifs (compEnvC scope cl C env)) (fun ok s' => if ok = true then
        wpS SC (model prog w) A (eval elt (compEnvC scope cl C env)) (fun y s'' => StepEnd Gd L m s₁ ((I, oI) :: (C, oC) :: (D, lst ys) :: news) (Inv (i + 1) (ys ++ [y])) s'') E' s'
        else StepEnd Gd L m s₁ ((I, oI) :: (C, oC) :: (D, lst ys) :: news) (Inv (i + 1) ys) s') E' { s₁ with heap := h, toks := tk }) ∧
    Inv 0 [] ∧ (∀ g ys D h tk, Inv its.size ys → Gd g → Fr g L h m → News g L h ((D, lst ys) :: news) → Q (.ref D) { s₁ with heap := h, toks := tk })
theorem wpS_ListComp {elt iter : Expr} {ifs : List Expr} {x : Str} {px : Pos} {scope : Scope} {cl : List (Str × Addr)} {pos : Pos} {Q : Value → Shared → Prop}
    (hclos : closureFor scope env = pure cl) (hcell : ∀ y ∈ scope.names, y.2 ≠ .cell) (hkind : scope.kind = .function)
    (hnames : ∀ y ∈ scope.names, y.2 = .local → scope.names.lookup y.1 = some .local) (hx : scope.names.lookup x = some .local)
    (h : wpAny (model prog w) A (eval iter env) (SrcS prog w A L m env elt ifs x scope cl Q) E s)
    (hs : ∀ x, foldedSetIterable iter env x = pure x := by intro _; rfl) :
    wpS SC (model prog w) A (eval (.ListComp elt [⟨.Name x px, iter, ifs, 0⟩] scope pos) env) Q E s := by
  rw [eval_ListComp]
  refine wpS_comprehension rfl hs hclos hkind hnames (wpAny_mono h (fun xv s₁ h₁ => ?_) fun _ _ e => e)
  obtain ⟨ax, its, news, Gd, g, Inv, rfl, hh, hsz, same, src, G, F, N, turn, h0, fin⟩ := h₁
  have hl := src g _ G F N
  have hlt : ax < s₁.heap.objs.size := by obtain ⟨_, e, _⟩ := hl; exact Heap.lt_size e
  refine wpAny_pyIter_list hl ?_
  have up : ∀ b o, s₁.heap.get? b = some o → (s₁.heap.push { cls := .type "list_iterator", data := .fields #[.ref ax, .int 0 0] }).get? b = some o := fun b o e => Heap.get?_push_of_some _ e
  refine comp_block hh (Nat.ne_of_lt hlt) hsz same src hcell hkind hx ⟨⟨_, Heap.get?_push_size _ rfl, rfl, rfl⟩, hl.push _⟩ G (F.keeps up) (N.grown up) (Nat.ne_of_lt F.ns.lt) (next_is_new F) (fun p hp => Nat.ne_of_lt (Heap.lt_size (N p hp).1)) turn h0 ?_
  intro g D C h tk m' ys G' F' N' hn hC₀ hD₀ hCL hDL hCD offC fi
  refine ⟨m', hn, fun h'' hs'' => fin g ys D h'' tk fi G' (F'.change hs'' hCL hC₀) (fun p hp => ?_)⟩
  refine ⟨hs''.extBut _ _ ?_ (N' p hp).1, (N' p hp).2⟩
  rcases List.mem_cons.mp hp with rfl | hp
  · exact Ne.symm hCD
  · exact offC p hp
end
end Mine

end
section
open PySem PySem.W PyProof.Rows PySem.Calls
set_option maxHeartbeats 1000000
namespace Mine
/-- a contract under the claim's caller -/
def TurnsS (w : World) (d u : Nat) (f : Addr) (vs : List Value) (P : Heap → Prop) (R : Heap → Value → Heap → Prop) : Prop :=
  ∀ (outer : List Env) (base : Heap) (mean : ExcName → Option Value) (mg mb : Str → Option Value) (s : Shared) (Q E : Value → Shared → Prop),
    Below (AA d u outer) base outer s.heap → (Mine.hd.heap_39 w.params).In base → Top Mine.hd.view_39 (looseW Mine.hd.view_39 [Str.ofString "_twin_re_1", Str.ofString "_ver_stages", Str.ofString "_norm_version"]) mean mg mb base → KtsDicts (fsOf outer) s.heap → P s.heap →
    (∀ v g' h' tk', KtsTurn (fsOf outer) s.heap g' → g'.StaysIn h' → R s.heap v h' → Q v { s with heap := h', toks := tk' }) →
    wpS SC (model PySem.Challenge.rw_pe0058_01.row.prog w) (AA d u outer) (call (.ref f) vs) Q E s
theorem Turns.toS {w : World} {d u : Nat} {f : Addr} {vs : List Value} {P : Heap → Prop} {R : Heap → Value → Heap → Prop} (C : Turns w d u f vs P R) : TurnsS w d u f vs P R :=
  fun outer base mean mg mb s Q E B XB TB D hP h => wpS.of_any (C outer base mean mg mb s Q E B XB TB D hP h)
theorem weakenS {α : Type} {M : Model} {A A' : Around} {t : Sem α} {Q : α → Shared → Prop} {E : Value → Shared → Prop} {s : Shared} (h : wpS SC M A t Q E s)
    (h1 : A'.handled = A.handled) (h2 : A'.depth ≤ A.depth) (h3 : A'.frames = A.frames) (h4 : A'.guards = A.guards) (h5 : A'.units ≤ A.units) : wpS SC M A' t Q E s :=
  fun Γ p hΓ q => h Γ p ⟨hΓ.1.trans h1, Nat.le_trans hΓ.2.1 h2, fun l hl => hΓ.2.2.1 l (h3.trans hl), fun g hg => hΓ.2.2.2.1 g (h4.trans hg), Nat.le_trans hΓ.2.2.2.2 h5⟩ q
theorem kts_list {fs : List Addr} {g g' : Heap} {l : Addr} {a : Array Value} (T : KtsTurn fs g g') (D : KtsDicts fs g) (h : g.IsList l a) : g'.IsList l a := by
  obtain ⟨o, ho, r⟩ := h
  by_cases m : l ∈ fs
  · obtain ⟨o', es, n, ho', hd⟩ := D l m
    rw [ho] at ho'
    cases ho'
    obtain ⟨_, k, hk⟩ := r
    rw [hd] at hk
    cases hk
  · exact ⟨o, T.other l o ho m, r⟩
/-- a turned heap, seen from the caller's frame -/
theorem turned {A₀ : Around} {outer : List Env} {base h₀ h g' h' : Heap} {L a : Addr} {m : Str → Option Value} {news : List (Addr × Obj)} {n : Str} {sc : Scope} {cd : Value}
    (B : Below A₀ base outer h₀) (F : Fr h₀ L h m) (N : News h₀ L h news) (D : KtsDicts (fsOf outer) h₀) (T : KtsTurn (fsOf (envOf n sc L a cd :: outer)) h g') (st : g'.StaysIn h') :
    ∃ g₂, KtsTurn (fsOf outer) h₀ g₂ ∧ Fr g₂ L h' m ∧ News g₂ L h' news ∧ Below A₀ base outer g₂ ∧ KtsDicts (fsOf outer) g₂ := by
  have mem : ∀ b, b ∈ fsOf (envOf n sc L a cd :: outer) ↔ b = L ∨ b ∈ fsOf outer := fun b => by
    constructor
    · exact kts_mem
    · rintro (rfl | hb)
      · exact List.mem_filterMap.mpr ⟨_, List.mem_cons_self, rfl⟩
      · obtain ⟨env, he, hf⟩ := List.mem_filterMap.mp hb
        exact List.mem_filterMap.mpr ⟨env, List.mem_cons_of_mem _ he, hf⟩
  have hL₀ := kts_self F
  obtain ⟨T₂, S₂⟩ := kts_turn_at (h := h') (fs := fsOf outer) (g := h₀)
    (fun b hb => by obtain ⟨_, o, ho, _⟩ := B.frames.mem hb; exact ⟨o, ho⟩)
    (fun b o e nm => st b o (T.other b o (F.keep b o e) fun hm => by
      rcases (mem b).mp hm with z | z
      · rw [z, hL₀] at e; cases e
      · exact nm z))
    (fun b o e hm => by
      obtain ⟨sl, hs⟩ := T.frame b o (F.keep b o e) ((mem b).mpr (.inr hm))
      exact ⟨sl, st _ _ hs⟩)
  have D₂ := D.turn T₂
  refine ⟨_, T₂, ⟨?_, S₂, by rw [T₂.size]; exact F.above⟩, fun p hp => ⟨?_, (N p hp).2.1, T₂.none_ _ (N p hp).2.2⟩, ⟨B.stack, fun b o e => T₂.other b o (B.stays b o e) (fun hm => by
    rw [(B.frames.mem hm).1] at e
    cases e), B.frames.of_keeps fun b o e _ => ?_⟩, D₂⟩
  · obtain ⟨o, es, ep, ho, hd, r⟩ := F.ns
    obtain ⟨sl, hs⟩ := T.frame L o ho ((mem L).mpr (.inl rfl))
    exact ⟨_, es, ep, st _ _ hs, hd, r⟩
  · refine st _ _ (T.other _ _ (N p hp).1 fun hm => ?_)
    rcases (mem p.1).mp hm with z | z
    · exact (N p hp).2.1 z
    · obtain ⟨_, o, ho, _⟩ := B.frames.mem z
      rw [(N p hp).2.2] at ho; cases ho
  · obtain ⟨sl, hs⟩ := T₂.up e
    exact ⟨_, hs, rfl⟩
theorem dicts_up {outer : List Env} {h₀ h : Heap} {L a : Addr} {m : Str → Option Value} {n : Str} {sc : Scope} {cd : Value} (F : Fr h₀ L h m) (D : KtsDicts (fsOf outer) h₀) : KtsDicts (fsOf (envOf n sc L a cd :: outer)) h := fun b hb => by
  rcases kts_mem hb with rfl | hb
  · obtain ⟨o, es, ep, ho, hd, _⟩ := F.ns
    exact ⟨o, es, ep, ho, hd⟩
  · obtain ⟨o, es, k, ho, hd⟩ := D b hb
    exact ⟨o, es, k, F.keep _ _ ho, hd⟩
theorem use_turns {w : World} {d u : Nat} {f : Addr} {vs : List Value} {P : Heap → Prop} {R : Heap → Value → Heap → Prop} (C : Turns w d u f vs P R) {d' u' : Nat} {outer : List Env} {base h₀ : Heap} {L a : Addr} {m : Str → Option Value}
    {news : List (Addr × Obj)} {s : Shared} {mean : ExcName → Option Value} {mg mb : Str → Option Value} {n : Str} {sc : Scope} {cd : Value} {Q E : Value → Shared → Prop}
    (B : Below (AA d' u' outer) base outer h₀) (F : Fr h₀ L s.heap m) (N : News h₀ L s.heap news) (XB : (Mine.hd.heap_39 w.params).In base) (TB : Top Mine.hd.view_39 (looseW Mine.hd.view_39 [Str.ofString "_twin_re_1", Str.ofString "_ver_stages", Str.ofString "_norm_version"]) mean mg mb base) (D : KtsDicts (fsOf outer) h₀) (hP : P s.heap) (hd : d' + 1 ≤ d) (hu : u' + 3 ≤ u)
    (h : ∀ v g' h' tk', KtsTurn (fsOf outer) h₀ g' → Fr g' L h' m → News g' L h' news → Below (AA d' u' outer) base outer g' → (Mine.hd.heap_39 w.params).In g' → Top Mine.hd.view_39 (looseW Mine.hd.view_39 [Str.ofString "_twin_re_1", Str.ofString "_ver_stages", Str.ofString "_norm_version"]) mean mg mb g' → KtsDicts (fsOf outer) g' → R s.heap v h' → Q v { s with heap := h', toks := tk' })
    (hk : sc.kind = .function := by rfl) :
    wpAny (model PySem.Challenge.rw_pe0058_01.row.prog w) ((AA d' u' outer).deeper (envOf n sc L a cd)) (call (.ref f) vs) Q E s := by
  have B' := B.push (name := n) (scope := sc) (a := a) (cd := cd) F hk
  refine weaken (C (envOf n sc L a cd :: outer) base mean mg mb s Q E ⟨rfl, B'.stays, B'.frames⟩ XB TB (dicts_up F D) hP fun v g' h' tk' T st r => ?_) rfl hd rfl rfl hu
  obtain ⟨g₂, T₂, F₂, N₂, B₂, D₂⟩ := turned B F N D T st
  exact h v g₂ h' tk' T₂ F₂ N₂ B₂ (XB.keeps B₂.stays) (TB.keeps B₂.stays) D₂ r
theorem use_turnsS {w : World} {d u : Nat} {f : Addr} {vs : List Value} {P : Heap → Prop} {R : Heap → Value → Heap → Prop} (C : TurnsS w d u f vs P R) {d' u' : Nat} {outer : List Env} {base h₀ : Heap} {L a : Addr} {m : Str → Option Value}
    {news : List (Addr × Obj)} {s : Shared} {mean : ExcName → Option Value} {mg mb : Str → Option Value} {n : Str} {sc : Scope} {cd : Value} {Q E : Value → Shared → Prop}
    (B : Below (AA d' u' outer) base outer h₀) (F : Fr h₀ L s.heap m) (N : News h₀ L s.heap news) (XB : (Mine.hd.heap_39 w.params).In base) (TB : Top Mine.hd.view_39 (looseW Mine.hd.view_39 [Str.ofString "_twin_re_1", Str.ofString "_ver_stages", Str.ofString "_norm_version"]) mean mg mb base) (D : KtsDicts (fsOf outer) h₀) (hP : P s.heap) (hd : d' + 1 ≤ d) (hu : u' + 3 ≤ u)
    (h : ∀ v g' h' tk', KtsTurn (fsOf outer) h₀ g' → Fr g' L h' m → News g' L h' news → Below (AA d' u' outer) base outer g' → (Mine.hd.heap_39 w.params).In g' → Top Mine.hd.view_39 (looseW Mine.hd.view_39 [Str.ofString "_twin_re_1", Str.ofString "_ver_stages", Str.ofString "_norm_version"]) mean mg mb g' → KtsDicts (fsOf outer) g' → R s.heap v h' → Q v { s with heap := h', toks := tk' })
    (hk : sc.kind = .function := by rfl) :
    wpS SC (model PySem.Challenge.rw_pe0058_01.row.prog w) ((AA d' u' outer).deeper (envOf n sc L a cd)) (call (.ref f) vs) Q E s := by
  have B' := B.push (name := n) (scope := sc) (a := a) (cd := cd) F hk
  refine weakenS (C (envOf n sc L a cd :: outer) base mean mg mb s Q E ⟨rfl, B'.stays, B'.frames⟩ XB TB (dicts_up F D) hP fun v g' h' tk' T st r => ?_) rfl hd rfl rfl hu
  obtain ⟨g₂, T₂, F₂, N₂, B₂, D₂⟩ := turned B F N D T st
  exact h v g₂ h' tk' T₂ F₂ N₂ B₂ (XB.keeps B₂.stays) (TB.keeps B₂.stays) D₂ r
end Mine

end
section
open PySem PySem.W PyProof.Rows PySem.Calls
set_option maxHeartbeats 1000000
namespace Mine
/-- a reply that holds a text -/
def respT (text : Str) : Str := Str.ofString "229 (." ++ text ++ Str.ofString ".)"
theorem respT_l (text : Str) : (respT text).cps.toList = [50, 50, 57, 32, 40, 46] ++ text.cps.toList ++ [46, 41] := by
  have e1 : (Str.ofString "229 (.").cps = #[50, 50, 57, 32, 40, 46] := by decide +kernel
  have e2 : (Str.ofString ".)").cps = #[46, 41] := by decide +kernel
  show ((Str.ofString "229 (.").cps ++ text.cps ++ (Str.ofString ".)").cps).toList = _
  rw [e1, e2, Array.toList_append, Array.toList_append]
theorem len_l (x : Str) : x.length = x.cps.toList.length := by rw [Array.length_toList]; rfl
theorem respT_len (text : Str) : (respT text).length = text.length + 8 := by
  rw [len_l, respT_l, len_l text]
  simp only [List.length_append, List.length_cons, List.length_nil]
  omega
theorem getD_l (x : Str) (v : Nat) : x.cps.getD v 0 = x.cps.toList.getD v 0 := by
  obtain ⟨⟨l⟩⟩ := x
  simp [Array.getD, List.getD]
  split
  · rename_i h
    simp [h]
  · rename_i h
    simp [Nat.not_lt.mp h]
theorem resp_head (text : Str) : Txt.slice (respT text) none (some 3) = Str.ofString "229" := by
  have h := eq_of_beq (slice_closes_to (x := respT text) (j := 3) ⟨by decide, by rw [← len_l, respT_len]; omega⟩)
  rw [h, respT_l]
  have e : (Str.ofString "229") = ⟨#[50, 50, 57]⟩ := by decide +kernel
  rw [e]
  simp
theorem resp_mid (text : Str) : Txt.slice (respT text) (some 5) (some ((text.length : Int) + 7)) = Txt.join (Str.ofString ".") [⟨#[]⟩, text, ⟨#[]⟩] := by
  have h := eq_of_beq (slice_closes (x := respT text) (i := 5) (j := (text.length : Int) + 7) ⟨by decide, by omega, by rw [← len_l, respT_len]; omega⟩)
  rw [h, respT_l]
  refine str_ext ?_
  have e1 : Txt.join (Str.ofString ".") [⟨#[]⟩, text, ⟨#[]⟩] = Str.join ⟨#[46]⟩ [⟨#[]⟩, text, ⟨#[]⟩] := by
    rw [show (Str.ofString ".") = ⟨#[46]⟩ by decide +kernel]
    exact StrLaws.glued_eq_join _ _
  rw [e1, joinL_eq]
  simp only [joinL, List.map_cons, List.map_nil]
  have e2 : ((text.length : Int) + 7 - 5).toNat = text.cps.toList.length + 2 := by rw [len_l]; omega
  rw [e2]
  show ((([50, 50, 57, 32, 40, 46] ++ text.cps.toList ++ [46, 41]).drop 5).take _) = _
  simp only [List.cons_append, List.nil_append, List.drop_succ_cons, List.drop_zero]
  rw [List.take_succ_cons, List.take_append, List.take_of_length_le (by omega)]
  simp
theorem find_eq3 (x y : Str) : Txt.find x y = Txt.find3 x y 0 := by
  unfold Txt.find Txt.find3
  rfl
theorem resp_left (text : Str) : Txt.find (respT text) (Str.ofString "(") = 4 := by
  have e0 : Str.ofString "(" = ⟨#[40]⟩ := by decide +kernel
  rw [find_eq3, e0]
  have hi : fromIndex (respT text).length 0 = 0 := rfl
  have at4 : (respT text).cps.getD 4 0 = 40 := by rw [getD_l, respT_l]; rfl
  have hl := respT_len text
  rcases StrLaws.find3_spec (respT text) 40 0 with ⟨_, h⟩ | ⟨k, e, h1, h2, h3, h4⟩
  · exact absurd at4 (h 4 (by rw [hi]; omega) (by omega))
  · have hk : k = 4 := by
      rcases Nat.lt_trichotomy k 4 with h | h | h
      · rw [getD_l, respT_l] at h3
        have : k = 0 ∨ k = 1 ∨ k = 2 ∨ k = 3 := by omega
        rcases this with rfl | rfl | rfl | rfl <;> simp at h3
      · exact h
      · exact absurd at4 (h4 4 (by rw [hi]; omega) h)
    rw [e, hk]
    rfl
theorem resp_right {text : Str} (ht : (41 : Nat) ∉ text.cps.toList) : Txt.find3 (respT text) (Str.ofString ")") 5 = (text.length : Int) + 7 := by
  have e0 : Str.ofString ")" = ⟨#[41]⟩ := by decide +kernel
  rw [e0]
  have hi : fromIndex (respT text).length 5 = 5 := rfl
  have hl := respT_len text
  have atn : (respT text).cps.getD (text.length + 7) 0 = 41 := by
    rw [getD_l, respT_l, len_l]
    rw [List.getD_eq_getElem?_getD, List.getElem?_append_right (by simp)]
    simp
  rcases StrLaws.find3_spec (respT text) 41 5 with ⟨_, h⟩ | ⟨k, e, h1, h2, h3, h4⟩
  · exact absurd atn (h _ (by rw [hi]; omega) (by omega))
  · have hk : k = text.length + 7 := by
      rcases Nat.lt_trichotomy k (text.length + 7) with h | h | h
      · rw [getD_l, respT_l] at h3
        rw [hi] at h1
        exfalso
        obtain ⟨j, rfl⟩ : ∃ j, k = 5 + j := ⟨k - 5, by omega⟩
        rw [show 5 + j = j + 5 by omega] at h3
        simp only [List.cons_append, List.nil_append, List.getD_cons_succ] at h3
        cases j with
        | zero => simp at h3
        | succ j =>
          rw [List.getD_cons_succ] at h3
          by_cases hj : j < text.cps.toList.length
          · rw [List.getD_eq_getElem?_getD, List.getElem?_append_left hj, List.getElem?_eq_getElem hj] at h3
            exact ht ((show text.cps.toList[j] = 41 from h3) ▸ List.getElem_mem hj)
          · have : j = text.cps.toList.length := by rw [len_l] at h; omega
            subst this
            rw [List.getD_eq_getElem?_getD, List.getElem?_append_right (Nat.le_refl _)] at h3
            simp at h3
      · exact h
      · exact absurd atn (h4 _ (by rw [hi]; omega) h)
    rw [e, hk]
    push_cast
    rfl
theorem item_at {x : Str} {i : Nat} {c : Nat} (h : x.cps.toList[i]? = some c) : Txt.item x (i : Int) = ⟨#[c]⟩ := by
  have hi : i < x.length := by rw [len_l]; exact (List.getElem?_eq_some_iff.mp h).1
  unfold Txt.item Txt.charAt
  have e : seqIndex? (i : Int) x.length = some i := by
    unfold seqIndex?
    simp
    omega
  rw [e]
  show (⟨#[(x.cps[i]?).getD 0]⟩ : Str) = _
  rw [← Array.getElem?_toList, h]
  rfl
theorem resp_five (text : Str) : Txt.item (respT text) 5 = Str.ofString "." := by
  rw [show (Str.ofString ".") = ⟨#[46]⟩ by decide +kernel]
  exact item_at (i := 5) (by rw [respT_l]; rfl)
theorem resp_six (text : Str) : Txt.item (respT text) ((text.length : Int) + 7 - 1) = Str.ofString "." := by
  rw [show (Str.ofString ".") = ⟨#[46]⟩ by decide +kernel, show (text.length : Int) + 7 - 1 = ((text.length + 6 : Nat) : Int) by omega]
  refine item_at ?_
  rw [respT_l, len_l]
  rw [List.getElem?_append_right (by simp)]
  simp
theorem join_mid {qs : List Str} (hne : qs ≠ []) : Txt.join (Str.ofString ".") [⟨#[]⟩, Txt.join (Str.ofString ".") qs, ⟨#[]⟩] = Txt.join (Str.ofString ".") (⟨#[]⟩ :: qs ++ [⟨#[]⟩]) := by
  rw [show (Str.ofString ".") = ⟨#[46]⟩ by decide +kernel]
  have e : ∀ l, Txt.join ⟨#[46]⟩ l = Str.join ⟨#[46]⟩ l := fun l => StrLaws.glued_eq_join _ _
  rw [e, e, e]
  refine str_ext ?_
  rw [joinL_eq, joinL_eq]
  simp only [List.map_cons, List.map_nil, List.cons_append, List.map_append]
  rw [joinL_eq]
  have key : ∀ l : List (List Nat), l ≠ [] → joinL 46 (l ++ [[]]) = joinL 46 l ++ [46] := by
    intro l
    induction l with
    | nil => intro h; exact absurd rfl h
    | cons p r ih =>
      intro _
      cases r with
      | nil => simp [joinL]
      | cons q r =>
        have := ih (by simp)
        show p ++ 46 :: joinL 46 ((q :: r) ++ [[]]) = _
        rw [this]
        simp [joinL]
  have hm : qs.map (·.cps.toList) ≠ [] := by simpa using hne
  have k1 := key _ hm
  obtain ⟨q, r, hq⟩ : ∃ q r, qs.map (·.cps.toList) = q :: r := by
    cases h : qs.map (·.cps.toList) with
    | nil => exact absurd h hm
    | cons q r => exact ⟨q, r, rfl⟩
  rw [hq] at k1 ⊢
  show [] ++ 46 :: (joinL 46 (q :: r) ++ 46 :: joinL 46 [[]]) = [] ++ 46 :: joinL 46 ((q :: r) ++ [[]])
  rw [k1]
  rfl
theorem resp_parts {qs : List Str} (hne : qs ≠ []) (hd : NoDot qs) :
    Txt.split (Txt.slice (respT (Txt.join (Str.ofString ".") qs)) (some 5) (some (((Txt.join (Str.ofString ".") qs).length : Int) + 7))) (Str.ofString ".") = ⟨#[]⟩ :: qs ++ [⟨#[]⟩] := by
  rw [resp_mid, join_mid hne]
  refine split_join (by simp) fun p hp => ?_
  rcases List.mem_append.mp hp with hp | hp
  · rcases List.mem_cons.mp hp with rfl | hp
    · simp
    · exact hd p hp
  · rw [List.mem_singleton.mp hp]; simp
end Mine

end
section
open PySem PySem.W PyProof.Rows PySem.Calls
set_option maxHeartbeats 1000000
namespace Mine
local macro_rules | `(tactic| walk_at "pad 0") => `(tactic| fail "no line")
local macro_rules | `(tactic| walk_at "pad 1") => `(tactic| fail "no line")
local macro_rules | `(tactic| walk_at "pad 2") => `(tactic| fail "no line")
local macro_rules | `(tactic| walk_at "pad 3") => `(tactic| fail "no line")
local macro_rules | `(tactic| walk_at "pad 4") => `(tactic| fail "no line")
local macro_rules | `(tactic| walk_at "pad 5") => `(tactic| fail "no line")
local macro_rules | `(tactic| walk_at "pad 6") => `(tactic| fail "no line")
local macro_rules | `(tactic| walk_at "pad 7") => `(tactic| fail "no line")
local macro_rules | `(tactic| walk_at "pad 8") => `(tactic| fail "no line")
local macro_rules | `(tactic| walk_at "pad 9") => `(tactic| fail "no line")
local macro_rules | `(tactic| walk_at "pad 10") => `(tactic| fail "no line")
local macro_rules | `(tactic| walk_at "pad 11") => `(tactic| fail "no line")
local macro_rules | `(tactic| walk_at "pad 12") => `(tactic| fail "no line")
local macro_rules | `(tactic| walk_at "pad 13") => `(tactic| fail "no line")
local macro_rules | `(tactic| walk_at "pad 14") => `(tactic| fail "no line")
local macro_rules | `(tactic| walk_at "pad 15") => `(tactic| fail "no line")
local macro_rules | `(tactic| walk_at "pad 16") => `(tactic| fail "no line")
local macro_rules | `(tactic| walk_at "pad 17") => `(tactic| fail "no line")
local macro_rules | `(tactic| walk_at "pad 18") => `(tactic| fail "no line")
local macro_rules | `(tactic| walk_at "pad 19") => `(tactic| fail "no line")
section
variable {prog : Program} {w : World} {A : Around} {E Q : Value → Shared → Prop} {s : Shared} {h₀ : Heap} {L : Addr} {m : Str → Option Value} {news : List (Addr × Obj)} {x y z : Str} {t u : Tok} {value slice : Expr}
theorem slice_to {j : Int} {uj : Tok} (e : Txt.slice x none (some j) = y) (hsz : x.length ≤ sizeLine) (hF : Fr h₀ L s.heap m) (hN : News h₀ L s.heap news) (h : ∀ h' t' k, Fr h₀ L h' m → News h₀ L h' news → Q (.str y t') { s with heap := h', toks := k })
    (hs : subscripted slice false (.str x t) (.ref s.heap.objs.size) = operate [.ref s.heap.objs.size, .str x t] (getItem (.str x t) (.ref s.heap.objs.size)) := by with_unfolding_all rfl)
    (ht : ∀ r, letTemporaryGo value (.str x t) r = pure () := by intro _; with_unfolding_all rfl) :
    wpAny (model prog w) A (subscriptTail value slice (.str x t) (.ref s.heap.objs.size)) Q E { s with heap := s.heap.push { cls := .type "slice", data := .fields #[.none, .int j uj, .none] } } :=
  slice_strN_ns_len hF hN (fun h' t' k a b _ => by rw [e]; exact h h' t' k a b) hs ht hsz
theorem slice_mid {i j : Int} {ui uj : Tok} (e : Txt.slice x (some i) (some j) = y) (hsz : x.length ≤ sizeLine) (hF : Fr h₀ L s.heap m) (hN : News h₀ L s.heap news) (h : ∀ h' t' k, Fr h₀ L h' m → News h₀ L h' news → Q (.str y t') { s with heap := h', toks := k })
    (hs : subscripted slice false (.str x t) (.ref s.heap.objs.size) = operate [.ref s.heap.objs.size, .str x t] (getItem (.str x t) (.ref s.heap.objs.size)) := by with_unfolding_all rfl)
    (ht : ∀ r, letTemporaryGo value (.str x t) r = pure () := by intro _; with_unfolding_all rfl) :
    wpAny (model prog w) A (subscriptTail value slice (.str x t) (.ref s.heap.objs.size)) Q E { s with heap := s.heap.push { cls := .type "slice", data := .fields #[.int i ui, .int j uj, .none] } } :=
  slice_strN_ss_len hF hN (fun h' t' k a b _ => by rw [e]; exact h h' t' k a b) hs ht hsz
theorem find_to {n : Int} (e : Txt.find x y = n) (h : Q (.int n s.toks) { s with toks := s.toks + 1 }) : wpAny (model prog w) A (call (.builtin "str.find") [.str x t, .str y u]) Q E s := SC.find (by rw [e]; exact h)
theorem find3_to {i n : Int} {v : Tok} (e : Txt.find3 x y i = n) (h : Q (.int n s.toks) { s with toks := s.toks + 1 }) : wpAny (model prog w) A (call (.builtin "str.find") [.str x t, .str y u, .int i v]) Q E s := SC.find3 (by rw [e]; exact h)
theorem item_to {i : Int} (e : Txt.item x i = y) (hr : fitsSsize i = true) (h1 : -(x.length : Int) ≤ i) (h2 : i < x.length) (h : Q (.str y s.toks) { s with toks := s.toks + 1 })
    (hs : subscripted slice false (.str x t) (.int i u) = operate [.str x t, .int i u] (getItem (.str x t) (.int i u)) := by with_unfolding_all rfl)
    (ht : ∀ r, letTemporaryGo value (.str x t) r = pure () := by intro _; with_unfolding_all rfl) :
    wpAny (model prog w) A (subscriptTail value slice (.str x t) (.int i u)) Q E s :=
  item_str hr h1 h2 (fun _ => by rw [e]; exact h) hs ht
end
theorem peer_item {prog : Program} {w : World} {A : Around} {E Q : Value → Shared → Prop} {s : Shared} {h₀ : Heap} {L : Addr} {m : Str → Option Value} {pa : Addr} {a b : Value} {k : Nat} {u : Tok} {value slice : Expr} (F : Fr h₀ L s.heap m)
    (hP : h₀.get? pa = some { cls := .type "tuple", data := .seq #[a, b] k }) (h : Q a s)
    (hs : subscripted slice false (.ref pa) (.int 0 u) = operate [.ref pa, .int 0 u] (getItem (.ref pa) (.int 0 u)) := by with_unfolding_all rfl) (hg : ∀ r, letTemporaryGo value (.ref pa) r = pure () := by intro _; with_unfolding_all rfl) :
    wpAny (model prog w) A (subscriptTail value slice (.ref pa) (.int 0 u)) Q E s :=
  item_tuple (j := 0) (items := #[a, b]) ⟨_, F.keep _ _ hP, rfl, _, rfl⟩ (by decide) (by decide) rfl rfl h hs hg
theorem made_of {h h' : Heap} {e : Addr} {X : String} {args : List Value} (x : Heap.MadeExc h h' e X args) : Heap.MadeExcOf h h' e (.type X) args := ⟨x.keeps, x.new, x.there⟩
theorem len_no {ps qs : List Str} (hpl : ps.length = qs.length + 2) (h : (ps.length : Int) ≠ 5) : qs.length ≠ 3 := by omega
theorem len_yes {ps qs : List Str} (hpl : ps.length = qs.length + 2) (h : (ps.length : Int) = 5) : qs.length = 3 := by omega
theorem len_strs2 {prog : Program} {w : World} {A : Around} {E Q : Value → Shared → Prop} {s : Shared} {D : Addr} {its : List Value} {ps : List Str} (hl : s.heap.IsList D its.toArray) (h : StrsAre its ps) (hle : ps.length ≤ 64)
    (hQ : Q (.int (ps.length : Int) (s.toks + 1)) { s with toks := s.toks + 1 + 1 }) : wpAny (model prog w) A (call (.builtin "len") [.ref D]) Q E s :=
  len_list hl (by rw [List.size_toArray, h.length]; omega) (by rw [List.size_toArray, h.length]; exact hQ)
theorem strs_get {its : List Value} {ps : List Str} {i : Nat} {q : Str} (h : StrsAre its ps) (hq : ps[i]? = some q) : ∃ t, its.toArray[i]? = some (.str q t) := by
  have hi : i < its.length := by rw [h.length]; exact (List.getElem?_eq_some_iff.mp hq).1
  obtain ⟨y, t, e, hy⟩ := h.item i _ (List.getElem?_eq_getElem hi)
  rw [hq] at hy
  cases hy
  exact ⟨t, by rw [List.getElem?_toArray, List.getElem?_eq_getElem hi, e]⟩
theorem raisedS_nil {base G : Heap} {l : List Env} {e t : Addr} {cls : Value} {vs : List Value} {news : List (Addr × Obj)} {h : Heap} (R : RaisedS base G l e cls t vs news h) : RaisedS base G l e cls t vs [] h := by
  obtain ⟨⟨B, hB, hBG, hl, hfl, hnew⟩, htup⟩ := R
  exact ⟨⟨B, hB, hBG, (fun q hq => absurd hq (by simp)), hfl, hnew⟩, htup⟩
/-- a part as int() takes or refuses it (no word of the menu) -/
def IntOk (x : Str) : Prop := (∃ n, PySem.intText? x = some n ∧ x.length ≤ 640) ∨ (x = Str.ofString "x" ∨ x = Str.ofString "")
structure IsResp (resp : Str) (n : Nat) (mid : Str) (ps : List Str) : Prop where
  len : resp.length = n + 8
  le : n ≤ 900
  sz : resp.length ≤ sizeLine
  f1 : Txt.slice resp none (some 3) = Str.ofString "229"
  f2 : Txt.find resp (Str.ofString "(") = 4
  f3 : Txt.find3 resp (Str.ofString ")") (4 + 1) = (n : Int) + 7
  f5 : Txt.item resp (4 + 1) = Str.ofString "."
  f6 : Txt.item resp ((n : Int) + 7 - 1) = Str.ofString "."
  f7 : Txt.slice resp (some (4 + 1)) (some ((n : Int) + 7)) = mid
  f8 : Txt.split mid (Str.ofString ".") = ps
  midl : mid.length ≤ 1000
local macro_rules | `(tactic| k_steps) => `(tactic| repeat' (first | (k_unfold; (try dsimp only)) | walk1 | (dsimp only; walk1)))
local macro_rules | `(tactic| walk_at "subscriptTail Name Slice str ref") => `(tactic| (k_here; k_dflt (refine slice_to (s := ⟨_, _, _, _, _⟩) (IsResp.f1 (by assumption)) (IsResp.sz (by assumption)) (by k_asm) (by k_asm) ?_); intro h' t' tk' F' N'; (try k_sweep)))
local macro_rules | `(tactic| walk_at "subscriptTail Name Slice str ref") => `(tactic| (k_here; k_dflt (refine slice_mid (s := ⟨_, _, _, _, _⟩) (IsResp.f7 (by assumption)) (IsResp.sz (by assumption)) (by k_asm) (by k_asm) ?_); intro h' t' tk' F' N'; (try k_sweep)))
local macro_rules | `(tactic| walk_at "call builtin:str.find") => `(tactic| (k_here; first | k_dflt (refine find_to (IsResp.f2 (by assumption)) ?_) | k_dflt (refine find3_to (IsResp.f3 (by assumption)) ?_)))
local macro_rules | `(tactic| walk_at "subscriptTail Name BinOp str int") => `(tactic| (k_here; first
  | ((with_reducible show wpAny _ _ (subscriptTail _ _ (Value.str _ _) (Value.int (HSub.hSub _ _) _)) _ _ _); k_dflt (refine item_to (IsResp.f6 (by assumption)) (fitsSsize_of (N := 9223372036854775808) (by omega) (by omega) (Int.le_refl _)) (by omega) (by omega) ?_))
  | ((with_reducible show wpAny _ _ (subscriptTail _ _ (Value.str _ _) (Value.int (HAdd.hAdd _ _) _)) _ _ _); k_dflt (refine item_to (IsResp.f5 (by assumption)) (by decide) (by omega) (by omega) ?_))))
local macro_rules | `(tactic| walk_at "call builtin:str.split") => `(tactic| (k_here; k_dflt (refine split_D (IsResp.f8 (by assumption)) (by k_asm) (by k_asm) (by decide +kernel) (by exact Nat.le_trans (Nat.add_le_add_right (IsResp.midl (by assumption)) 2) (by decide)) ?_); intro D' its' h' tk' hits' F' N'; (try k_sweep)))
local macro_rules | `(tactic| walk_at "call builtin:len") => `(tactic| (k_here; k_dflt (refine len_strs2 (by kmk_list) (by assumption) (by assumption) ?_)))
local macro_rules | `(tactic| walk_at "subscriptTail Name Constant ref int") => `(tactic| (k_here; first
  | ((with_reducible show wpAny _ _ (subscriptTail _ _ (Value.ref _) (Value.int 3 _)) _ _ _); k_dflt (refine item_list (by kmk_list) (by decide) (by decide) (by assumption) ?_))
  | ((with_reducible show wpAny _ _ (subscriptTail _ _ (Value.ref _) (Value.int 0 _)) _ _ _); k_dflt (refine peer_item (by k_asm) (by assumption) ?_))))
theorem parse_spec (w : World) (resp : Str) (n : Nat) (mid : Str) (qs : List Str) (ps : List Str) (I : IsResp resp n mid ps) (hps : ps = ⟨#[]⟩ :: qs ++ [⟨#[]⟩]) (hq : qs.length ≤ 60) (good : ∀ q ∈ qs, IntOk q) (t : Tok) (pa : Addr) (t1 t2 : Tok) (k : Nat)
    :
    ∀ (outer : List Env) (base : Heap) (mean : ExcName → Option Value) (mg mb : Str → Option Value) (s : Shared) (Q E : Value → Shared → Prop), Below (AA 550 2500 outer) base outer s.heap → (Mine.hd.heap_39 w.params).In base → Top Mine.hd.view_39 (looseW Mine.hd.view_39 [Str.ofString "_twin_re_1", Str.ofString "_ver_stages", Str.ofString "_norm_version"]) mean mg mb base →
    KtsDicts (fsOf outer) s.heap → s.heap.get? pa = some { cls := .type "tuple", data := .seq #[.str (Str.ofString "h") t1, .int 21 t2] k } →
    (∀ q m, qs.length = 3 → qs[2]? = some q → PySem.intText? q = some m → ∀ D tt kk h' tk', s.heap.StaysIn h' → h'.get? D = some { cls := .type "tuple", data := .seq [Value.str (Str.ofString "h") t1, Value.int m tt].toArray kk } → Q (.ref D) { s with heap := h', toks := tk' }) →
    (∀ q, qs.length = 3 → qs[2]? = some q → (q = Str.ofString "x" ∨ q = Str.ofString "") → ∀ e t' args h' tk', RaisedS base s.heap outer e (.type "ValueError") t' args [] h' → s.heap.UpToSlots h' → E (.ref e) { s with heap := h', toks := tk' }) →
    (qs.length ≠ 3 → ∀ e t' h' tk', RaisedS base s.heap outer e (.ref 87) t' [.str resp t] [] h' → s.heap.UpToSlots h' → E (.ref e) { s with heap := h', toks := tk' }) →
    wpS SC (model PySem.Challenge.rw_pe0058_01.row.prog w) (AA 550 2500 outer) (call (.ref 96) [.str resp t, .ref pa]) Q E s := by
  w_on
  w_top on
  k_fill
  intro outer base mean mg mb s Q E B XB TB D hP hret hval hpro
  have XS := XB.keeps B.stays
  have hlen := I.len
  have hle := I.le
  have hpl : ps.length = qs.length + 2 := by rw [hps]; simp
  have hpl64 : ps.length ≤ 64 := by rw [hpl]; omega
  refine wpS_call (sc_under _) ?_
  k_dflt (refine' enterS (binds := [(Str.ofString "resp", .str resp t), (Str.ofString "peer", .ref pa)]) ?k1 ?k2 ?k3 ?k4 ?k5 ?k6 ?k7 ?k8 ?_ ?c2 ?c3 ?c4 ?c5; (case k1 => assumption); (case k2 => assumption); (case k3 => assumption); (case k4 => k_is); (case k5 => k_is); (case k6 => exact (by decide : 550 < recursionLimit)); (case k7 => exact BindsTo.of_eq rfl); (case k8 => exact locs rfl); (case c2 => exact rfl); (case c3 => exact rfl); (case c4 => exact rfl); (case c5 => decide); k_whole)
  intro L' h' F' N' X' T'
  dsimp only
  iterate 8 (refine wpS_execs_any ?_; k_steps; (try (with_reducible show wpAny _ _ _ _ _ _; exact absurd (by assumption) (by omega))); (try dsimp only))
  · exact hpro (len_no hpl (by assumption)) _ _ _ _ (raisedS_nil (by assumption)) (by assumption)
  · have h3 : qs.length = 3 := len_yes hpl (by assumption)
    obtain ⟨q, hq2⟩ : ∃ q, qs[2]? = some q := ⟨_, List.getElem?_eq_getElem (by omega)⟩
    have hq3 : ps[3]? = some q := by
      rw [hps, List.cons_append, List.getElem?_cons_succ, List.getElem?_append_left (by omega)]; exact hq2
    obtain ⟨tq, hit⟩ := strs_get (by assumption) hq3
    dsimp only
    refine wpS_execs_any ?_
    k_steps
    dsimp only
    refine wpS_execs_S (wpS_Assign (by rfl) (wpS_Call_type (T := "int") ?_))
    k_steps
    rcases good q (List.mem_of_getElem? hq2) with ⟨mq, hm, hl⟩ | hx
    · refine wpS.of_any (KIN.call_text hm hl ?_)
      dsimp only
      k_steps
      exact hret q mq h3 hq2 hm _ _ _ _ _ (Fr.keep (by assumption)) (News.get (by assumption) (by k_mem))
    · refine wpS.weak (int_refuses hx rfl ?_) (fun l h => .inl h)
      intro h' e' tk' args' me'
      dsimp only
      refine leave_raiseS (by assumption) (made_of me') (by assumption) (by assumption) ?_
      intro h2 t2' R2 _ U2
      exact hval q h3 hq2 hx _ _ _ _ _ (raisedS_nil R2) U2
end Mine

end
section
open PySem PySem.W PyProof.Rows PySem.Calls
set_option maxHeartbeats 1000000
namespace Mine
theorem bs_kind : builtinKind "BaseException.__str__" = some .slot := by decide +kernel
theorem bs_split : splitId "BaseException.__str__" = some ("BaseException", "__str__") := by decide +kernel
theorem bs_bind (self : Value) : bindSpecial (.builtin "BaseException.__str__") self = pure (.builtin "BaseException.__str__", [self]) := by
  have hop : withoutEnding? "BaseException.__str__" "#opaque" = none := by decide +kernel
  have hdat : withoutEnding? "BaseException.__str__" "#data" = none := by decide +kernel
  simp only [bindSpecial, typeOf, builtinType, hop, hdat, bs_kind]; rfl
section
variable {prog : Program} {w : World} {A : Around} {E : Value → Shared → Prop} {s : Shared} {KF : Frag} {e t0 C : Addr} {oe : Obj} {ws : Array Value}
theorem own_args {M : Model} {items : List Value} {Q : Value × List Value → Shared → Prop} (ho : s.heap.get? e = some oe) (hd : oe.data = .fields ws) (h0 : ws[0]? = some (.ref t0)) (ht : s.heap.TupAt t0 items) (hq : Q (.ref t0, items) s) :
    wpAny M A (Builtin.BaseException.bexcArgs (.ref e)) Q E s := by
  obtain ⟨ot, k, hto, _, htd⟩ := ht
  unfold Builtin.BaseException.bexcArgs
  refine wpAny_bind (wpAny_field ho hd h0 (wpAny_bind (wpAny_seqItems hto htd ?_)))
  have : items.toArray.toList = items := by simp
  show wpAny M A (pure (Value.ref t0, items.toArray.toList)) Q E s
  rw [this]; exact wpAny_pure hq
theorem own_str_entry {m : Str} {tk : Tok} {Q : Fin → Shared → Prop} (ho : s.heap.get? e = some oe) (hd : oe.data = .fields ws) (h0 : ws[0]? = some (.ref t0)) (ht : s.heap.TupAt t0 [.str m tk]) (hq : Q (.done (.ret (.str m tk))) s) :
    wpAny (model prog w) A (Builtin.«BaseException.__str__» ⟨[.ref e], []⟩) Q E s := by
  unfold Builtin.«BaseException.__str__»
  repeat (first | with_reducible refine own_args ho hd h0 ht ?_ | wp_step)
  exact hq
theorem own_check (X : KF.In s.heap) (hs : subIn KF (.ref C) (.type "BaseException") = some true) (ho : s.heap.get? e = some oe) (hc : oe.cls = .ref C) {Q : Unit → Shared → Prop} (hq : Q () s) :
    wpAny (model prog w) A (checkBuiltinCall "BaseException.__str__" ⟨[.ref e], []⟩) Q E s := by
  obtain ⟨h, g, d, t, os⟩ := s
  have row : Manifest.signature? "BaseException.__str__" = Manifest.signature? "BaseException.__str__" := rfl
  have inst : ∀ {Q : Bool → Shared → Prop}, Q true ⟨h, g, d, t, os⟩ → wpAny (model prog w) A (isInstance (.ref e) (.type "BaseException")) Q E ⟨h, g, d, t, os⟩ := fun hQ => by
    unfold isInstance
    have LT : Looks (model prog w) h (typeOf (.ref e)) (.ref C) := by
      rw [← hc]
      exact (Looks.ld ho).andThen .now
    exact wpAny_bind (LT.here ((looks_subIn X hs).here hQ))
  simp only [checkBuiltinCall, bs_kind, bs_split]
  refine wpAny_bind (inst ?_)
  have ha := PySem.F.args_bexc_str (.ref e)
  unfold argsOk at ha
  exact wpAny_of_eq ha hq
theorem call_own_str (X : KF.In s.heap) (hs : subIn KF (.ref C) (.type "BaseException") = some true) (ho : s.heap.get? e = some oe) (hc : oe.cls = .ref C) (hd : oe.data = .fields ws) (h0 : ws[0]? = some (.ref t0)) {m : Str} {tk : Tok} (ht : s.heap.TupAt t0 [.str m tk])
    {Q : Value → Shared → Prop} (hq : Q (.str m tk) s) : wpAny (model prog w) A (call (.builtin "BaseException.__str__") [.ref e]) Q E s := by
  refine wpAny_call (codeAny_call_builtin (by decide +kernel) PySem.F.entry_bexc_str (own_check X hs ho hc (own_str_entry ho hd h0 ht ?_)))
  exact hq
theorem str_own_exc (hu : A.units + 2 < cLine) (X : KF.In s.heap) (hf : findIn KF (.ref C) "__str__" = some (some (.builtin "BaseException.__str__"))) (hs : subIn KF (.ref C) (.type "BaseException") = some true)
    (ho : s.heap.get? e = some oe) (hc : oe.cls = .ref C) (hd : oe.data = .fields ws) (h0 : ws[0]? = some (.ref t0)) {m : Str} {tk : Tok} (ht : s.heap.TupAt t0 [.str m tk]) {Q : Value → Shared → Prop} (hq : Q (.str m tk) s) :
    wpAny (model prog w) A (call (.type "str") [.ref e]) Q E s := by
  refine callType_codes (T := "str") (Bi := Builtin.«object.__init__») (Q₁ := fun r s₁ => ∃ y u, r = .str y u ∧ Q r s₁) PySem.F.called_str (PySem.F.typeCall_str_1 _) PySem.F.entry_object_init ?_ ?_
  · refine codeAny_of_tree ?_
    show wpAny _ A.in1.in1 (do checkBuiltinCall "str.__new__" ⟨[.type "str", .ref e], []⟩; again (.builtin "str.__new__" ⟨[.type "str", .ref e], []⟩)) _ _ s
    refine wpAny_bind (wpAny_of_eq (PySem.F.newCall_str_1 _) (wpAny_pure ⟨plainId_quiet (by decide +kernel) _, codeAny_builtin PySem.F.entry_str_new ?_⟩))
    rw [Around.under_plainId (by decide +kernel) _]
    rw [str_new_tree]
    refine wpAny_bind (wpAny_pure ?_)
    refine wpAny_bind (wpAny_of_eq isSubtype_str_str ?_)
    refine wpAny_bind (wpAny_mono (Q := fun r s₁ => ∃ y u, r = .str y u ∧ Q r s₁) (E := fun e s' => E e s') ?_ (fun r s₁ hr => wpAny_pure hr) fun _ _ y => y)
    unfold PySem.Builtin.Str.strOf
    rw [show PySem.Builtin.Str.isExactStr (.ref e) = false from rfl]
    refine wpAny_bind (m := cRoomFor _ _) (wpAny_cRoomFor hu ?_)
    have LT : Looks (model prog w) s.heap (typeOf (.ref e)) (.ref C) := by
      rw [← hc]
      exact (Looks.ld ho).andThen .now
    refine wpAny_bind (m := callSpecial? (.ref e) (Str.ofString "__str__")) ?_
    refine wpAny_bind (wpAny_bind (LT.here ((looks_findIn X hf).here (wpAny_holding (wpAny_bind (wpAny_of_eq (bs_bind _) (wpAny_bind (call_own_str X hs ho hc hd h0 ht ?_))))))))
    exact wpAny_pure (wpAny_pure ⟨_, _, rfl, hq⟩)
  · rintro obj s₁ ⟨y, u, rfl, hq⟩
    exact ⟨typeIs_str _ _ _, PySem.F.args_object_init_2 _ _, object_init_meets PySem.F.called_str.init.lookup PySem.F.called_str.made (by decide) prog w A.in1 _ s₁ ⟨typeIs_str _ _ _, rfl, hq⟩⟩
/-- str() of what was caught, of a class of the program's own -/
theorem str_got {h₀ : Heap} {L : Addr} {news : List (Addr × Obj)} {m : Str} {tk : Tok} (hu : A.units + 2 < cLine) (G : Got news e t0 (.ref C) [.str m tk]) (N : News h₀ L s.heap news) {mm : Str → Option Value} (F : Fr h₀ L s.heap mm) (X : KF.In h₀) (hf : findIn KF (.ref C) "__str__" = some (some (.builtin "BaseException.__str__")))
    (hs : subIn KF (.ref C) (.type "BaseException") = some true) {Q : Value → Shared → Prop} (hq : Q (.str m tk) s) : wpAny (model prog w) A (call (.type "str") [.ref e]) Q E s := by
  obtain ⟨oe, ot, ws, nt, h1, h2, h3, h4, h5, h6, h7⟩ := G
  exact str_own_exc hu (X.keeps F.keep) hf hs (N _ h1).1 h3 h4 h5 ⟨ot, nt, (N _ h2).1, h6, h7⟩ hq
end
end Mine

end
section
open PySem PySem.W PyProof.Rows PySem.Calls
set_option maxHeartbeats 1000000
namespace Mine
local macro_rules | `(tactic| walk_at "pad 0") => `(tactic| fail "no line")
local macro_rules | `(tactic| walk_at "pad 1") => `(tactic| fail "no line")
local macro_rules | `(tactic| walk_at "pad 2") => `(tactic| fail "no line")
local macro_rules | `(tactic| walk_at "pad 3") => `(tactic| fail "no line")
local macro_rules | `(tactic| walk_at "pad 4") => `(tactic| fail "no line")
local macro_rules | `(tactic| walk_at "pad 5") => `(tactic| fail "no line")
local macro_rules | `(tactic| walk_at "pad 6") => `(tactic| fail "no line")
local macro_rules | `(tactic| walk_at "pad 7") => `(tactic| fail "no line")
local macro_rules | `(tactic| walk_at "pad 8") => `(tactic| fail "no line")
local macro_rules | `(tactic| walk_at "pad 9") => `(tactic| fail "no line")
local macro_rules | `(tactic| walk_at "pad 10") => `(tactic| fail "no line")
local macro_rules | `(tactic| walk_at "pad 11") => `(tactic| fail "no line")
local macro_rules | `(tactic| walk_at "pad 12") => `(tactic| fail "no line")
local macro_rules | `(tactic| walk_at "pad 13") => `(tactic| fail "no line")
local macro_rules | `(tactic| walk_at "pad 14") => `(tactic| fail "no line")
local macro_rules | `(tactic| walk_at "pad 15") => `(tactic| fail "no line")
local macro_rules | `(tactic| walk_at "pad 16") => `(tactic| fail "no line")
local macro_rules | `(tactic| walk_at "pad 17") => `(tactic| fail "no line")
local macro_rules | `(tactic| walk_at "pad 18") => `(tactic| fail "no line")
local macro_rules | `(tactic| walk_at "pad 19") => `(tactic| fail "no line")
local macro_rules | `(tactic| walk_at "pad 20") => `(tactic| fail "no line")
local macro_rules | `(tactic| walk_at "pad 21") => `(tactic| fail "no line")
local macro_rules | `(tactic| walk_at "pad 22") => `(tactic| fail "no line")
local macro_rules | `(tactic| walk_at "pad 23") => `(tactic| fail "no line")
local macro_rules | `(tactic| walk_at "pad 24") => `(tactic| fail "no line")
local macro_rules | `(tactic| walk_at "pad 25") => `(tactic| fail "no line")
local macro_rules | `(tactic| walk_at "pad 26") => `(tactic| fail "no line")
local macro_rules | `(tactic| walk_at "pad 27") => `(tactic| fail "no line")
/-- what _law_answer tells of a reply that holds these parts -/
def ansD (qs : List Str) (resp : Str) : PyData :=
  if qs.length = 3 then (match PySem.intText? (qs.getD 2 Str.empty) with | none => .str (Str.ofString "value") | some n => .tuple [.str (Str.ofString "h"), .int n]) else .str (Str.ofString "proto: " ++ resp)
theorem up_frame {d u d' u' : Nat} {outer : List Env} {base h₀ h : Heap} {L a : Addr} {m : Str → Option Value} {n : Str} {sc : Scope} {cd : Value} (B : Below (AA d' u' outer) base outer h₀) (F : Fr h₀ L h m) (hk : sc.kind = .function := by rfl) :
    Below (AA d u (envOf n sc L a cd :: outer)) base (envOf n sc L a cd :: outer) h := ⟨rfl, (B.push (name := n) (a := a) (cd := cd) F hk).stays, (B.push (name := n) (a := a) (cd := cd) F hk).frames⟩
theorem ans_num {qs : List Str} {resp q : Str} {n : Int} {t t' : Tok} {k : Nat} {D : Addr} {h : Heap} (h3 : qs.length = 3) (hq : qs[2]? = some q) (hm : PySem.intText? q = some n)
    (g : h.get? D = some { cls := .type "tuple", data := .seq [Value.str (Str.ofString "h") t, Value.int n t'].toArray k }) : PySem.Reads h (.ref D) (ansD qs resp) ([] ++ ([] ++ [])) := by
  have e : PySem.intText? (qs.getD 2 Str.empty) = some n := by rw [List.getD_eq_getElem?_getD, hq]; exact hm
  rw [ansD, if_pos h3, e]
  exact .tuple g rfl rfl (.cons (.str _ _) (.cons (.int _ _) .nil))
theorem ans_val {qs : List Str} {resp q : Str} {t : Tok} {h : Heap} (h3 : qs.length = 3) (hq : qs[2]? = some q) (hx : q = Str.ofString "x" ∨ q = Str.ofString "") : PySem.Reads h (.str (Str.ofString "value") t) (ansD qs resp) [] := by
  have e : PySem.intText? (qs.getD 2 Str.empty) = none := by
    rw [List.getD_eq_getElem?_getD, hq]
    rcases hx with rfl | rfl <;> decide +kernel
  rw [ansD, if_pos h3, e]
  exact .str _ _
theorem ans_pro {qs : List Str} {resp : Str} {t : Tok} {h : Heap} (h3 : qs.length ≠ 3) : PySem.Reads h (.str (Str.ofString "proto: " ++ resp) t) (ansD qs resp) [] := by
  rw [ansD, if_neg h3]
  exact .str _ _
local macro_rules | `(tactic| k_steps) => `(tactic| repeat' (first | (k_unfold; (try dsimp only)) | walk1 | (dsimp only; walk1)))
theorem answer_spec (w : World) (resp : Str) (n : Nat) (mid : Str) (qs ps : List Str) (I : IsResp resp n mid ps) (hps : ps = ⟨#[]⟩ :: qs ++ [⟨#[]⟩]) (hq : qs.length ≤ 60) (good : ∀ q ∈ qs, IntOk q) (t : Tok) :
    TurnsS w 548 2490 115 [.str resp t] (fun _ => True) (fun _ v h' => ∃ as, PySem.Reads h' v (ansD qs resp) as) := by
  unfold TurnsS
  w_on
  w_top on
  k_fill
  intro outer base mean mg mb s Q E B XB TB D hP hret
  have XS := XB.keeps B.stays
  have hlen := I.len
  have hle := I.le
  refine wpS_call (sc_under _) ?_
  k_dflt (refine' enterS (binds := [(Str.ofString "reply", .str resp t)]) ?k1 ?k2 ?k3 ?k4 ?k5 ?k6 ?k7 ?k8 ?_ ?c2 ?c3 ?c4 ?c5; (case k1 => assumption); (case k2 => assumption); (case k3 => assumption); (case k4 => k_is); (case k5 => k_is); (case k6 => exact (by decide : 548 < recursionLimit)); (case k7 => exact BindsTo.of_eq rfl); (case k8 => exact locs rfl); (case c2 => exact rfl); (case c3 => exact rfl); (case c4 => exact rfl); (case c5 => decide); k_whole)
  intro L' h' F' N' X' T'
  dsimp only
  refine wpS_execs_S (wpS_Try ?_)
  refine wpS_execs_S (wpS_Return (wpS_Call_K (KF := (Mine.hd.heap_39 w.params)) ?_))
  k_steps
  rename Fr _ _ _ _ => F2
  rename News _ _ _ _ => N2
  refine weakenS (parse_spec w resp n mid qs ps I hps hq good t _ _ _ _ (_ :: outer) base mean mg mb _ _ _ (up_frame B F2) XB TB (dicts_up F2 D) (News.get N2 (by k_mem)) ?ret ?val ?pro) rfl (by show 548 + 1 ≤ 550; decide) rfl rfl (by show 2490 + 3 ≤ 2500; decide)
  case ret =>
    intro q mq h3 hq2 hm D2 tt kk h2 tk2 st g2
    dsimp only
    exact hret _ _ _ _ KtsTurn.refl (fun b o e => st b o (F2.keep b o e)) ⟨_, ans_num h3 hq2 hm g2⟩
  case val =>
    intro q h3 hq2 hx e t' args h2 tk2 R2 U2
    dsimp only
    k_steps
    dsimp only
    exact hret _ _ _ _ (by assumption) (Fr.keep (by assumption)) ⟨_, ans_val h3 hq2 hx⟩
  case pro =>
    intro h3 e t' h2 tk2 R2 U2
    dsimp only
    k_steps
    refine' str_got ?u ?G ?N ?F ?X ?f ?s ?_
    case G => assumption
    case N => assumption
    case F => assumption
    case X => assumption
    case f => k_is
    case s => k_is
    case u => show 2490 + 3 + 2 < cLine; decide
    dsimp only
    k_steps
    exact hret _ _ _ _ (by assumption) (Fr.keep (by assumption)) ⟨_, ans_pro h3⟩
end Mine

end
section
open PySem PySem.W PyProof.Rows PySem.Calls
set_option maxHeartbeats 1000000
namespace Mine
open PySem.Builtin.Re
/-- the machine, driven to its end within k turns -/
noncomputable def drive : Nat → Sre.M → Option Sre.M
  | 0, _ => none
  | k + 1, m => let m := m.runFor reTurnSteps; if m.outcome.isSome then some m else drive k m
section
variable {prog : Program} {w : World} {A : Around} {E : Value → Shared → Prop} {s : Shared}
theorem drive_run : ∀ {k : Nat} {m m' : Sre.M} {n : Nat} {Q : Sre.M → Shared → Prop}, drive k m = some m' → k ≤ n → Q m' s → wpAny (model prog w) A (reDrive n m) Q E s
  | 0, _, _, _, _, e, _, _ => by cases e
  | k + 1, m, m', n, Q, e, hn, hq => by
    obtain ⟨n, rfl⟩ : ∃ j, n = j + 1 := ⟨n - 1, by omega⟩
    unfold drive at e
    unfold reDrive
    dsimp only at e ⊢
    split at e
    · rename_i ho
      rw [if_pos ho]
      cases e
      exact wpAny_pure hq
    · rename_i ho
      rw [if_neg ho]
      exact wpAny_bind (wpAny_rule (drive_run e (by omega) hq))
theorem rules_run (m : Sre.M) : ∀ (l : List Nat) {Q : PUnit → Shared → Prop}, Q ⟨⟩ s → wpAny (model prog w) A (forIn l PUnit.unit fun i r => if m.seen.has i = true then do rule (Sre.names.getD i ""); pure (ForInStep.yield PUnit.unit) else pure (ForInStep.yield PUnit.unit)) Q E s
  | [], _, hq => wpAny_pure hq
  | i :: l, Q, hq => by
    rw [List.forIn_cons]
    refine wpAny_bind (wpAny_mono (Q := fun r s' => r = ForInStep.yield PUnit.unit ∧ s' = s) (E := E) ?_ (fun r s' h => ?_) fun _ _ e => e)
    · split
      · exact wpAny_bind (wpAny_rule (wpAny_pure ⟨rfl, rfl⟩))
      · exact wpAny_pure ⟨rfl, rfl⟩
    · obtain ⟨rfl, h2⟩ := h
      rw [h2]
      exact rules_run m l hq
theorem run_end {m m' : Sre.M} {Q : Option Sre.M → Shared → Prop} {k : Nat} (e : drive k m = some m') (hk : k ≤ 2 ^ 64) (hq : match m'.outcome with | some .matched => Q (some m') s | some .failed => Q none s | _ => False) :
    wpAny (model prog w) A (reRunToEnd m) Q E s := by
  unfold reRunToEnd
  refine wpAny_bind (drive_run e hk ?_)
  refine wpAny_bind (rules_run m' _ ?_)
  cases ho : m'.outcome with
  | none => rw [ho] at hq; exact hq.elim
  | some o =>
    rw [ho] at hq
    cases o with
    | matched => exact wpAny_pure hq
    | failed => exact wpAny_pure hq
    | stuck why => exact hq.elim
end
end Mine

end
section
open PySem PySem.W PyProof.Rows PySem.Calls
set_option maxHeartbeats 1000000
namespace Mine
open PySem.Builtin.Re
open PySem.Sre (M)
/-- the pattern's code -/
def code1 : Array Nat := #[14, 4, 0, 1, 4294967295, 17, 0, 7, 14, 24, 10, 1, 4294967295, 13, 5, 22, 48, 57, 0, 1, 15, 17, 15, 13, 11, 9, 0, 26624, 2147483648, 0, 0, 0, 0, 0, 0, 15, 2, 0, 17, 1, 1]
theorem runFor_done {m : M} (h : m.outcome.isSome = true) : ∀ n, M.runFor n m = m
  | 0 => rfl
  | n + 1 => by unfold M.runFor; rw [if_pos h]
theorem runFor_add : ∀ (a b : Nat) (m : M), M.runFor (a + b) m = M.runFor b (M.runFor a m)
  | 0, b, m => by rw [Nat.zero_add]; rfl
  | a + 1, b, m => by
    by_cases h : m.outcome.isSome = true
    · rw [runFor_done h, runFor_done h, runFor_done h]
    · rw [Nat.add_right_comm]
      show (if m.outcome.isSome = true then m else M.runFor (a + b) m.step) = M.runFor b (if m.outcome.isSome = true then m else M.runFor a m.step)
      rw [if_neg h, if_neg h]
      exact runFor_add a b m.step
theorem drive_of : ∀ (j k : Nat) (m : M), (M.runFor k m).outcome.isSome = true → k ≤ 4 * j → 0 < j → drive j m = some (M.runFor k m)
  | 0, _, _, _, _, h => absurd h (Nat.lt_irrefl 0)
  | j + 1, k, m, ho, hk, _ => by
    unfold drive
    show (if (M.runFor 4 m).outcome.isSome = true then some (M.runFor 4 m) else drive j (M.runFor 4 m)) = _
    by_cases h4 : k ≤ 4
    · have e : M.runFor 4 m = M.runFor k m := by
        conv => lhs; rw [show 4 = k + (4 - k) by omega, runFor_add]
        exact runFor_done ho _
      rw [e, if_pos ho]
    · have e : M.runFor k m = M.runFor (k - 4) (M.runFor 4 m) := by
        conv => lhs; rw [show k = 4 + (k - 4) by omega, runFor_add]
      by_cases h : (M.runFor 4 m).outcome.isSome = true
      · rw [if_pos h, e, runFor_done h]
      · rw [if_neg h, e]
        exact drive_of j (k - 4) _ (e ▸ ho) (by omega) (by omega)
section
variable (text : Array Nat) (p lim n : Nat) (seen : Sre.Seen)
def fA : Sre.Frame := { wait := .nextStart, pc := 5, pos := p, outermost := true }
def fB (pc : Nat) : Sre.Frame := { wait := .nextBranch, pc := pc, pos := p, outermost := true, kept := { lastmark := 0 } }
def fC : Sre.Frame := { wait := .giveBack, pc := 9, pos := p + n, outermost := true, count := n, kept := { lastmark := 0 } }
def mA : M := { code := code1, text, lim, start := p, lastStart := lim, pc := 5, pos := p, handed := p, marks := #[none, none], frames := [fA p], weight := 1, seen := ({} : Sre.Seen).add 14 }
def mB : M := { code := code1, text, lim, start := p, lastStart := lim, pc := 9, pos := p, handed := p, marks := #[some p, none], lastmark := 0, frames := [fB p 8, fA p], weight := 2, seen }
def mC : M := { code := code1, text, lim, start := p, lastStart := lim, pc := 20, pos := p + n, handed := p + n, marks := #[some p, none], lastmark := 0, frames := [fC p n, fB p 8, fA p], weight := 3, seen }
def mD : M := { code := code1, text, lim, start := p, lastStart := lim, pc := 23, pos := p, handed := p, marks := #[some p, none], lastmark := 0, frames := [fB p 22, fA p], weight := 2, seen }
def mE : M := { code := code1, text, lim, start := p, lastStart := lim, pc := 35, pos := p + 1, handed := p, marks := #[some p, none], lastmark := 0, frames := [fB p 22, fA p], weight := 2, seen }
theorem start_is (h : p < lim) : Sre.forSearch code1 text 1 p lim false = mA text p lim := by
  have e : (decide (p > lim) || decide (lim - p < 1)) = false := by simp; omega
  unfold Sre.forSearch
  have e2 : (Sre.header code1).1 = 1 := by decide +kernel
  dsimp only
  rw [e2, if_neg (by rw [e]; decide)]
  kernel_rfl
def sB : Sre.Seen := (((({} : Sre.Seen).add 14).add 17).add 7)
theorem seg_AB : M.runFor 2 (mA text p lim) = mB text p lim sB := by kernel_rfl
theorem seg_B : (mB text p lim sB).step = (if (1 : Int) > (lim : Int) - (p : Int) then ({ mB text p lim (sB.add 24) with answer := some false } : M) else
    match Sre.run code1 text 13 (min 4294967295 ((lim : Int) - (p : Int)).toNat) p 0 ((sB.add 24).add 13) with
    | .error why => (mB text p lim (sB.add 24)).stick why
    | .ok (n, seen) => if n < 1 then { mB text p lim seen with answer := some false } else ({ mB text p lim seen with pos := p + n } : M).afterRun .giveBack n { lastmark := 0 }) := by kernel_rfl
theorem seg_BC : ({ mB text p lim seen with pos := p + n } : M).afterRun .giveBack n { lastmark := 0 } = mC text p lim n seen := by kernel_rfl
theorem end_C : (M.runFor 7 (mC text p lim n seen)).outcome = some .matched ∧ (M.runFor 7 (mC text p lim n seen)).start = p ∧ (M.runFor 7 (mC text p lim n seen)).handed = p + n ∧
    (M.runFor 7 (mC text p lim n seen)).lastmark = 1 ∧ (M.runFor 7 (mC text p lim n seen)).marks = #[some p, some (p + n)] := ⟨by kernel_rfl, by kernel_rfl, by kernel_rfl, by kernel_rfl, by kernel_rfl⟩
theorem seg_BD : M.step { mB text p lim seen with answer := some false } = mD text p lim seen := by kernel_rfl
theorem seg_D : (mD text p lim seen).step = (if p ≥ lim then { mD text p lim (seen.add 13) with answer := some false } else
    match Sre.accepts code1 23 (text.getD p 0) (seen.add 13) with
    | .error why => (mD text p lim (seen.add 13)).stick why
    | .ok (false, seen) => { mD text p lim seen with answer := some false }
    | .ok (true, seen) => mE text p lim seen) := by kernel_rfl
theorem end_E : (M.runFor 6 (mE text p lim seen)).outcome = some .matched ∧ (M.runFor 6 (mE text p lim seen)).start = p ∧ (M.runFor 6 (mE text p lim seen)).handed = p + 1 ∧
    (M.runFor 6 (mE text p lim seen)).lastmark = 1 ∧ (M.runFor 6 (mE text p lim seen)).marks = #[some p, some (p + 1)] := ⟨by kernel_rfl, by kernel_rfl, by kernel_rfl, by kernel_rfl, by kernel_rfl⟩
end

def isDig (c : Nat) : Bool := decide (48 ≤ c) && decide (c ≤ 57)
theorem accepts_set (c : Nat) (seen : Sre.Seen) : Sre.accepts code1 13 c seen = if isDig c = true then .ok (true, seen.add 22) else .ok (false, (seen.add 22).add 0) := by kernel_rfl
noncomputable def digits (text : Array Nat) : Nat → Nat → Nat
  | 0, _ => 0
  | n + 1, p => if isDig (text.getD p 0) = true then digits text n (p + 1) + 1 else 0
theorem digits_succ (text : Array Nat) (n p : Nat) : digits text (n + 1) p = if isDig (text.getD p 0) = true then digits text n (p + 1) + 1 else 0 := rfl
theorem run_is (text : Array Nat) : ∀ (n p found : Nat) (seen : Sre.Seen), ∃ seen', Sre.run code1 text 13 n p found seen = .ok (found + digits text n p, seen')
  | 0, _, found, seen => ⟨seen, rfl⟩
  | n + 1, p, found, seen => by
    by_cases h : isDig (text.getD p 0) = true
    · obtain ⟨s', e⟩ := run_is text n (p + 1) (found + 1) (seen.add 22)
      refine ⟨s', ?_⟩
      show (Sre.accepts code1 13 (text.getD p 0) seen >>= fun r => if r.1 = true then Sre.run code1 text 13 n (p + 1) (found + 1) r.2 else pure (found, r.2)) = _
      rw [accepts_set, if_pos h]
      show Sre.run code1 text 13 n (p + 1) (found + 1) (seen.add 22) = _
      rw [e, digits_succ, if_pos h, Nat.add_assoc, Nat.add_comm 1]
    · refine ⟨(seen.add 22).add 0, ?_⟩
      show (Sre.accepts code1 13 (text.getD p 0) seen >>= fun r => if r.1 = true then Sre.run code1 text 13 n (p + 1) (found + 1) r.2 else pure (found, r.2)) = _
      rw [accepts_set, if_neg h, digits_succ, if_neg h]
      rfl
def grp (m : M) : Option (Nat × Nat) := if (0 : Int) ≥ m.lastmark then none else match m.marks.getD 0 none, m.marks.getD 1 none with
  | some b, some e => if e < b then none else some (b, e)
  | _, _ => none
theorem grp_is {m : M} {p e : Nat} (h1 : m.lastmark = 1) (h2 : m.marks = #[some p, some e]) (h : p ≤ e) : grp m = some (p, e) := by
  unfold grp
  rw [h1, h2, if_neg (by decide)]
  show (if e < p then none else some (p, e)) = _
  rw [if_neg (by omega)]
/-- a search that finds a token here -/
def Finds (text : Array Nat) (p e : Nat) : Prop := ∃ m, drive 64 (Sre.forSearch code1 text 1 p text.size false) = some m ∧ m.outcome = some .matched ∧ m.start = p ∧ m.handed = e ∧ grp m = some (p, e)
theorem to_B {text : Array Nat} {p lim : Nat} (hp : p < lim) (hl : lim ≤ 4294967295) : ∃ seen', M.runFor 3 (Sre.forSearch code1 text 1 p lim false) =
    if digits text (lim - p) p < 1 then { mB text p lim seen' with answer := some false } else mC text p lim (digits text (lim - p) p) seen' := by
  obtain ⟨s', e⟩ := run_is text (lim - p) p 0 ((sB.add 24).add 13)
  refine ⟨s', ?_⟩
  rw [start_is text p lim hp, show 3 = 2 + 1 from rfl, runFor_add, seg_AB]
  show (mB text p lim sB).step = _
  rw [seg_B, if_neg (by omega), show min 4294967295 ((lim : Int) - (p : Int)).toNat = lim - p by omega, e]
  rw [Nat.zero_add]
  dsimp only
  rw [seg_BC]
theorem finds_digits {text : Array Nat} {p k : Nat} (hp : p < text.size) (hl : text.size ≤ 4294967295) (hk : digits text (text.size - p) p = k) (h : 1 ≤ k) : Finds text p (p + k) := by
  obtain ⟨s', e⟩ := to_B (text := text) hp hl
  rw [hk, if_neg (by omega)] at e
  have z := end_C text p text.size k s'
  have e2 : M.runFor 10 (Sre.forSearch code1 text 1 p text.size false) = M.runFor 7 (mC text p text.size k s') := by rw [show 10 = 3 + 7 from rfl, runFor_add, e]
  refine ⟨_, drive_of 64 10 _ (by rw [e2, z.1]; rfl) (by decide) (by decide), ?_⟩
  rw [e2]
  exact ⟨z.1, z.2.1, z.2.2.1, grp_is z.2.2.2.1 z.2.2.2.2 (by omega)⟩
theorem finds_mark {text : Array Nat} {p : Nat} (hp : p < text.size) (hl : text.size ≤ 4294967295) (hc : text.getD p 0 = 46 ∨ text.getD p 0 = 45) : Finds text p (p + 1) := by
  obtain ⟨s', e⟩ := to_B (text := text) hp hl
  have hd : digits text (text.size - p) p = 0 := by
    obtain ⟨j, hj⟩ : ∃ j, text.size - p = j + 1 := ⟨text.size - p - 1, by omega⟩
    rw [hj, digits_succ, if_neg (by rcases hc with h | h <;> rw [h] <;> decide)]
  rw [hd, if_pos (by omega)] at e
  have e3 : (mD text p text.size s').step = mE text p text.size ((s'.add 13).add 9) := by
    rw [seg_D, if_neg (by omega)]
    rcases hc with h | h <;> rw [h] <;> kernel_rfl
  have z := end_E text p text.size ((s'.add 13).add 9)
  have e2 : M.runFor 11 (Sre.forSearch code1 text 1 p text.size false) = M.runFor 6 (mE text p text.size ((s'.add 13).add 9)) := by
    rw [show 11 = 3 + (1 + (1 + 6)) from rfl, runFor_add, e, runFor_add, show M.runFor 1 ({ mB text p text.size s' with answer := some false } : M) = mD text p text.size s' from seg_BD text p text.size s', runFor_add,
      show M.runFor 1 (mD text p text.size s') = (mD text p text.size s').step by kernel_rfl, e3]
  refine ⟨_, drive_of 64 11 _ (by rw [e2, z.1]; rfl) (by decide) (by decide), ?_⟩
  rw [e2]
  exact ⟨z.1, z.2.1, z.2.2.1, grp_is z.2.2.2.1 z.2.2.2.2 (by omega)⟩
theorem finds_not (text : Array Nat) : ∃ m, drive 64 (Sre.forSearch code1 text 1 text.size text.size false) = some m ∧ m.outcome = some .failed := by
  have e : (Sre.forSearch code1 text 1 text.size text.size false) = ({ code := code1, text, lim := text.size, start := text.size, pc := 5, pos := text.size, handed := text.size, marks := #[none, none], answer := some false, seen := ({} : Sre.Seen).add 14 } : M) := by
    unfold Sre.forSearch
    have e : (decide (text.size > text.size) || decide (text.size - text.size < 1)) = true := by simp
    have e2 : (Sre.header code1).1 = 1 := by decide +kernel
    dsimp only
    rw [e2, if_pos e]
    kernel_rfl
  rw [e]
  exact ⟨_, drive_of 64 1 _ (by kernel_rfl) (by decide) (by decide), by kernel_rfl⟩
/-- where the pattern cuts a text: the pieces and groups, and where the last piece begins -/
noncomputable def cuts (text : Array Nat) : Nat → Nat → Option (List (Nat × Nat) × Nat)
  | 0, _ => none
  | k + 1, p => if p = text.size then some ([], p) else if text.size < p then none else
    let d := digits text (text.size - p) p
    let e := if 1 ≤ d then some (p + d) else if text.getD p 0 = 46 ∨ text.getD p 0 = 45 then some (p + 1) else none
    match e with
    | none => none
    | some e => (cuts text k e).map fun r => ((p, p) :: (p, e) :: r.1, r.2)
theorem cuts_step {text : Array Nat} {k p : Nat} {r : List (Nat × Nat) × Nat} (hl : text.size ≤ 4294967295) (h : cuts text (k + 1) p = some r) :
    (p = text.size ∧ r = ([], p)) ∨ ∃ e r', Finds text p e ∧ p < e ∧ cuts text k e = some r' ∧ r = ((p, p) :: (p, e) :: r'.1, r'.2) := by
  unfold cuts at h
  split at h
  · exact .inl ⟨by assumption, by cases h; rfl⟩
  split at h
  · cases h
  right
  dsimp only at h
  generalize he : (if 1 ≤ digits text (text.size - p) p then some (p + digits text (text.size - p) p) else if text.getD p 0 = 46 ∨ text.getD p 0 = 45 then some (p + 1) else none) = oe at h
  have hp : p < text.size := by omega
  cases oe with
  | none => cases h
  | some e =>
  dsimp only at h
  have F : Finds text p e ∧ p < e := by
    by_cases hd : 1 ≤ digits text (text.size - p) p
    · rw [if_pos hd] at he; cases he; exact ⟨finds_digits hp hl rfl hd, by omega⟩
    · rw [if_neg hd] at he
      by_cases hc : text.getD p 0 = 46 ∨ text.getD p 0 = 45
      · rw [if_pos hc] at he; cases he; exact ⟨finds_mark hp hl hc, by omega⟩
      · rw [if_neg hc] at he; cases he
  cases hc : cuts text k e with
  | none => rw [hc] at h; cases h
  | some r' => rw [hc] at h; cases h; exact ⟨e, r', F.1, F.2, hc, rfl⟩
end Mine

end
section
open PySem PySem.W PyProof.Rows PySem.Calls
set_option maxHeartbeats 1000000
namespace Mine
open PySem.Builtin.Re
open PySem.Sre (M)
theorem forIn_inv {α β : Type} {M : Model} {A : Around} {E : Value → Shared → Prop} {body : α → β → Sem (ForInStep β)} (I : Nat → β → Shared → Prop) {Q : β → Shared → Prop}
    (turn : ∀ k a st s, I (k + 1) st s → wpAny M A (body a st) (fun r s' => ∃ st', r = .yield st' ∧ I k st' s') E s) (fin : ∀ st s, I 0 st s → Q st s) :
    ∀ (l : List α) (st : β) (s : Shared), I l.length st s → wpAny M A (forIn l st body) Q E s
  | [], st, s, h => wpAny_pure (fin st s h)
  | a :: l, st, s, h => by
    rw [List.forIn_cons]
    refine wpAny_bind (wpAny_mono (turn l.length a st s h) (fun r s' hr => ?_) fun _ _ e => e)
    obtain ⟨st', rfl, h'⟩ := hr
    exact forIn_inv I turn fin l st' s' h'
def sl (text : Array Nat) (p : Nat × Nat) : Str := ⟨text.extract p.1 p.2⟩
section
variable {prog : Program} {w : World} {A : Around} {E : Value → Shared → Prop} {s : Shared}
theorem next_found {t : ReTarget} {p e : Nat} {Q : Option M → Shared → Prop} (hc : t.code = code1) (hg : t.groups = 1) (hl : t.lim = t.text.size) (F : Finds t.text p e)
    (h : ∀ m, m.start = p → m.handed = e → grp m = some (p, e) → Q (some m) s) : wpAny (model prog w) A (reNextFound t p false) Q E s := by
  obtain ⟨m, hd, ho, h1, h2, h3⟩ := F
  unfold reNextFound
  rw [hc, hg, hl]
  refine run_end hd (by decide) ?_
  rw [ho]
  exact h m h1 h2 h3
theorem next_none {t : ReTarget} {Q : Option M → Shared → Prop} (hc : t.code = code1) (hg : t.groups = 1) (hl : t.lim = t.text.size) (h : Q none s) : wpAny (model prog w) A (reNextFound t t.text.size false) Q E s := by
  obtain ⟨m, hd, ho⟩ := finds_not t.text
  unfold reNextFound
  rw [hc, hg, hl]
  refine run_end hd (by decide) ?_
  rw [ho]
  exact h
theorem group_is {t : ReTarget} {m : M} {b e : Nat} {Q : Value → Shared → Prop} (hk : t.kind = 0) (hm : grp m = some (b, e)) (hsz : t.text.size ≤ sizeLine) (h : Q (.str (sl t.text (b, e)) s.toks) { s with toks := s.toks + 1 }) : wpAny (model prog w) A (reMachineGroup t m 1 (pure .none)) Q E s := by
  unfold reMachineGroup
  unfold grp at hm
  split at hm
  · cases hm
  rename_i h0
  show wpAny _ _ (if (0 : Int) ≥ m.lastmark then pure Value.none else match m.marks.getD 0 none, m.marks.getD 1 none with | some b, some e => if e < b then reWrongSpan else reSlice t.text t.kind b e | _, _ => pure .none) _ _ _
  rw [if_neg h0]
  show wpAny _ _ (match m.marks.getD 0 none, m.marks.getD 1 none with | some b, some e => if e < b then reWrongSpan else reSlice t.text t.kind b e | _, _ => pure .none) _ _ _
  split at hm
  · rename_i b' e' h1 h2
    (try rw [h1, h2])
    (try dsimp only)
    split at hm
    · cases hm
    · rename_i hlt
      cases hm
      rw [if_neg hlt]
      unfold reSlice
      rw [hk]
      refine wpAny_mkStr h ?_
      show (t.text.extract b e).size ≤ _
      rw [Array.size_extract]
      omega
  · cases hm
theorem whole_target {pa : Addr} {op : Obj} {fs : Array Value} {x : Str} {t : Tok} {ca : Addr} {oc : Obj} {items : Array Value} {nc : Nat} {Q : ReTarget → Shared → Prop}
    (ho : s.heap.get? pa = some op) (hd : op.data = .fields fs) (h5 : fs.getD 5 .none = .ref ca) (h6 : reRawNat (fs.getD 6 .none) = 0) (h2 : reRawNat (fs.getD 2 .none) = 1)
    (hc : s.heap.get? ca = some oc) (hcd : oc.data = .seq items nc) (hcode : (items.map reRawOf).map (·.toNat) = code1)
    (h : Q { pattern := .ref pa, string := .str x t, code := code1, text := x.cps, kind := 0, groups := 1, pos := 0, lim := x.cps.size } s) : wpAny (model prog w) A (reWholeTarget (.ref pa) (.str x t)) Q E s := by
  unfold reWholeTarget
  refine wpAny_bind (wpAny_fieldsOf ho hd ?_)
  have e1 : reTextOf (.str x t) = pure (x.cps, 0) := rfl
  rw [e1]
  refine wpAny_bind (wpAny_pure ?_)
  dsimp only
  rw [h6]
  simp only [beq_self_eq_true, show ((0 : Nat) == 1) = false from rfl, Bool.and_false, Bool.false_and, Bool.false_eq_true, if_false]
  have e2 : reNoCollectionInside (.str x t) 0 = pure () := rfl
  rw [e2]
  refine wpAny_bind (wpAny_pure ?_)
  unfold reRawItems
  rw [h5]
  refine wpAny_bind (wpAny_bind (wpAny_seqItems hc hcd (wpAny_pure ?_)))
  refine wpAny_pure ?_
  dsimp only [Option.getD_some]
  rw [hcode, h2]
  exact h
theorem slice_is {text : Array Nat} {b e : Nat} {Q : Value → Shared → Prop} (hsz : text.size ≤ sizeLine) (h : Q (.str (sl text (b, e)) s.toks) { s with toks := s.toks + 1 }) : wpAny (model prog w) A (reSlice text 0 b e) Q E s := by
  unfold reSlice
  refine wpAny_mkStr h ?_
  show (text.extract b e).size ≤ _
  rw [Array.size_extract]
  omega
theorem strs_one {b : Str} {u : Tok} : StrsAre [.str b u] [b] := .cons _ _ .nil
theorem cuts_len {text : Array Nat} (hl : text.size ≤ 4294967295) : ∀ {k p : Nat} {r : List (Nat × Nat) × Nat}, cuts text k p = some r → r.1.length + 2 * p ≤ 2 * text.size
  | 0, _, _, h => by cases h
  | k + 1, p, r, h => by
    rcases cuts_step hl h with ⟨rfl, rfl⟩ | ⟨e, r', F, hlt, hc, rfl⟩
    · simp
    · have := cuts_len hl hc
      simp only [List.length_cons]
      omega
/-- the loop's state, k turns before its end -/
def SplitInv (text : Array Nat) (all : List (Nat × Nat)) (z : Nat) (s : Shared) (k : Nat) (st : Array Value × Nat × Nat × Bool × Int × Bool) (s' : Shared) : Prop :=
  ∃ out p n over tk, st = (out, p, p, false, n, over) ∧ s' = { s with toks := tk } ∧ (over = true → StrsAre out.toList (all.map (sl text)) ∧ p = z) ∧
    (over = false → ∃ pre rest, all = pre ++ rest ∧ StrsAre out.toList (pre.map (sl text)) ∧ cuts text k p = some (rest, z))
theorem split_tree {pa : Addr} {op : Obj} {fs : Array Value} {x : Str} {t : Tok} {all : List (Nat × Nat)} {z : Nat} {Q : Fin → Shared → Prop} {ca : Addr} {oc : Obj} {items : Array Value} {nc : Nat}
    (ho : s.heap.get? pa = some op) (hd : op.data = .fields fs) (h5 : fs.getD 5 .none = .ref ca) (h6 : reRawNat (fs.getD 6 .none) = 0) (h2 : reRawNat (fs.getD 2 .none) = 1)
    (hc : s.heap.get? ca = some oc) (hcd : oc.data = .seq items nc) (hcode : (items.map reRawOf).map (·.toNat) = code1) (hsz : x.cps.size ≤ 1000)
    (hcut : cuts x.cps (2 * x.cps.size + 3) 0 = some (all, z))
    (h : ∀ its tk, StrsAre its (all.map (sl x.cps) ++ [sl x.cps (z, x.cps.size)]) → Q (.done (.ret (.ref s.heap.objs.size))) { s with heap := s.heap.push { cls := .type "list", data := .seq its.toArray }, toks := tk }) :
    wpAny (model prog w) A (Builtin.«re.Pattern.split» ⟨[.ref pa, .str x t], []⟩) Q E s := by
  unfold Builtin.«re.Pattern.split»
  dsimp only
  have hn : reNamed "re.Pattern.split" "split" ["string", "maxsplit"] 1 [.str x t] [] = pure [some (.str x t), none] := by with_unfolding_all rfl
  rw [hn]
  refine wpAny_bind (wpAny_pure ?_)
  dsimp only
  refine wpAny_bind (wpAny_pure ?_)
  refine wpAny_bind (whole_target ho hd h5 h6 h2 hc hcd hcode ?_)
  have hz : x.cps.size ≤ sizeLine := Nat.le_trans hsz (by decide)
  refine wpAny_bind (forIn_inv (SplitInv x.cps all z s) ?turn ?fin _ _ _ ?start)
  case start =>
    refine ⟨#[], 0, 0, false, s.toks, rfl, rfl, (fun e => nomatch e), fun _ => ⟨[], all, rfl, .nil, ?_⟩⟩
    rw [List.length_range]
    exact hcut
  case turn =>
    rintro k a st s' ⟨out, p, n, over, tk, rfl, rfl, hov, hno⟩
    dsimp only
    cases over with
    | true =>
      simp only [Bool.not_true, Bool.false_eq_true, if_false]
      exact wpAny_pure ⟨_, rfl, out, p, n, true, tk, rfl, rfl, hov, fun e => by cases e⟩
    | false =>
      obtain ⟨pre, rest, rfl, hs, hcu⟩ := hno rfl
      simp only [Bool.not_false, if_true, bne_self_eq_false, Bool.false_and, Bool.false_eq_true, if_false]
      rcases cuts_step (Nat.le_trans hsz (by decide)) hcu with ⟨rfl, hr⟩ | ⟨e, r', F, hlt, hcu', hr⟩
      · cases hr
        refine wpAny_bind (next_none rfl rfl rfl ?_)
        dsimp only
        exact wpAny_pure ⟨_, rfl, out, _, n, true, tk, rfl, rfl, fun _ => ⟨by rw [List.append_nil]; exact hs, rfl⟩, fun e => by cases e⟩
      · cases hr
        refine wpAny_bind (next_found rfl rfl rfl F fun m h1 h2 h3 => ?_)
        dsimp only
        have hne : (e == p) = false := by simp; omega
        rw [h1, h2, hne]
        refine wpAny_bind (slice_is hz ?_)
        rw [show List.range 1 = [0] from rfl, List.forIn_cons]
        refine wpAny_bind (wpAny_bind (wpAny_bind (group_is rfl h3 hz (wpAny_pure ?_))))
        dsimp only
        rw [List.forIn_nil]
        refine wpAny_pure (wpAny_pure ⟨_, rfl, _, e, _, false, _, rfl, rfl, (fun e => nomatch e), fun _ => ⟨pre ++ [(p, p), (p, e)], r'.1, by simp, ?_, hcu'⟩⟩)
        simp only [Array.toList_push, List.map_append, List.map_cons, List.map_nil, List.append_assoc, List.cons_append, List.nil_append]
        exact hs.append' (.cons _ _ (.cons _ _ .nil))
  case fin =>
    rintro st s' ⟨out, p, n, over, tk, rfl, rfl, hov, hno⟩
    cases over with
    | false => obtain ⟨_, _, _, _, hcu⟩ := hno rfl; cases hcu
    | true =>
      obtain ⟨hs, rfl⟩ := hov rfl
      dsimp only
      simp only [Bool.not_true, Bool.false_eq_true, if_false]
      refine wpAny_bind (slice_is hz ?_)
      have hal := cuts_len (Nat.le_trans hsz (by decide)) hcut
      have hol : out.size = all.length := by rw [← Array.length_toList, hs.length, List.length_map]
      refine wpAny_bind (wpAny_newObj_type (hd := ?hz) (wpAny_pure ?_))
      case hz =>
        show (out.push _).toList.toArray.size ≤ 2 ^ 24
        simp only [Array.toArray_toList, Array.size_push]
        dsimp only at hal
        omega
      exact h (out.push (.str (sl x.cps (p, x.cps.size)) tk)).toList (tk + 1) (by rw [Array.toList_push]; exact hs.append' strs_one)
end
end Mine

end
section
open PySem PySem.W PyProof.Rows PySem.Calls
set_option maxHeartbeats 1000000
namespace Mine
theorem pat_attrs : PlainAttrs "re.Pattern" :=
  ⟨⟨"object.__getattribute__", by rw [typeLookup_type, builtinLookup_eq_fast]; kernel_rfl, by decide +kernel⟩, by rw [typeLookup_type, builtinLookup_eq_fast]; kernel_rfl⟩
theorem pat_owner : Manifest.owners.lookup (String.ofList ['n', 'r', 'e', 't', 't', 'a', 'P', '.', 'e', 'r'].reverse) = some Manifest.sig_re_Pattern := by kernel_rfl
theorem pat_slot : Slot "re.Pattern" "split" "re.Pattern.split" :=
  .of (owner := "re.Pattern") (n := "split") (by rw [typeLookup_type, builtinLookup_eq_fast]; kernel_rfl) (by decide +kernel) (by decide +kernel) (by decide +kernel)
    (by first | exact .inl (by decide +kernel) | exact .inr (by decide +kernel)) (by rw [isSubtype_type]; kernel_rfl)
theorem pat_type : typeOf (.builtin "re.Pattern.split") = pure (.type "method_descriptor") := by show builtinType _ = _; rw [builtinType_eq_fast]; kernel_rfl
theorem pat_entry : entryFor table "re.Pattern.split" = some Builtin.«re.Pattern.split» := entryFor_of_tree (by kernel_rfl)
theorem pat_args (a b : Value) : argsOk "re.Pattern.split" ⟨[a, b], []⟩ := by
  unfold argsOk; rw [signature?_of (id := "re.Pattern.split") (n := ['t', 'i', 'l', 'p', 's']) (o := ['n', 'r', 'e', 't', 't', 'a', 'P', '.', 'e', 'r']) (by kernel_rfl) pat_owner]; kernel_rfl
noncomputable def patFs (w : World) : Array Value := match (Mine.hd.heap_39 w.params).lookup 36 with
  | some o => (match o.data with | .fields fs => fs | _ => #[])
  | none => #[]
noncomputable def patIts (w : World) : Array Value := match (Mine.hd.heap_39 w.params).lookup 35 with
  | some o => (match o.data with | .seq fs _ => fs | _ => #[])
  | none => #[]
theorem pat_here (w : World) : ∃ fs items, (Mine.hd.heap_39 w.params).lookup 36 = some { cls := .type "re.Pattern", data := .fields fs } ∧ (Mine.hd.heap_39 w.params).lookup 35 = some { cls := .type "tuple", data := .seq items } ∧ fs.getD 5 .none = .ref 35 ∧ Builtin.Re.reRawNat (fs.getD 6 .none) = 0 ∧
    Builtin.Re.reRawNat (fs.getD 2 .none) = 1 ∧ (items.map Builtin.Re.reRawOf).map (·.toNat) = code1 :=
  ⟨patFs w, patIts w, by kernel_rfl, by kernel_rfl, by kernel_rfl, by kernel_rfl, by kernel_rfl, by kernel_rfl⟩
section
variable {prog : Program} {w : World} {A : Around} {E : Value → Shared → Prop} {s : Shared} {h₀ : Heap} {L : Addr} {m : Str → Option Value} {news : List (Addr × Obj)}
theorem pat_method {pl : Sem Bool} {Q : Value × List Value → Shared → Prop} (X : (Mine.hd.heap_39 w.params).In h₀) (F : Fr h₀ L s.heap m) (h : Q (.builtin "re.Pattern.split", [.ref 36]) s) : wpAny (model prog w) A (getMethod (.ref 36) (Str.ofString "split") pl) Q E s := by
  obtain ⟨fs, items, h36, h35, _⟩ := pat_here w
  have g36 := F.keep _ _ (X _ _ h36)
  exact getMethod_builtin (T := "re.Pattern") ⟨_, g36, rfl⟩ pat_attrs pat_slot pat_type (fun a e => by cases e; exact ⟨_, g36, rfl⟩) h
theorem pat_split {x : Str} {t : Tok} {all : List (Nat × Nat)} {z : Nat} {Q : Value → Shared → Prop} (X : (Mine.hd.heap_39 w.params).In h₀) (F : Fr h₀ L s.heap m) (N : News h₀ L s.heap news) (hsz : x.cps.size ≤ 1000) (hcut : cuts x.cps (2 * x.cps.size + 3) 0 = some (all, z))
    (h : ∀ its tk D h', StrsAre its (all.map (sl x.cps) ++ [sl x.cps (z, x.cps.size)]) → Fr h₀ L h' m → News h₀ L h' ((D, { cls := .type "list", data := .seq its.toArray }) :: news) → (∀ p ∈ news, p.1 < D) → Q (.ref D) { s with heap := h', toks := tk }) :
    wpAny (model prog w) A (call (.builtin "re.Pattern.split") [.ref 36, .str x t]) Q E s := by
  obtain ⟨fs, items, h36, h35, h5, h6, h2, hcode⟩ := pat_here w
  have g36 := F.keep _ _ (X _ _ h36)
  have g35 := F.keep _ _ (X _ _ h35)
  refine wpAny_call (codeAny_call_builtin pat_slot.plain pat_entry (pat_slot.check _ _ _ _ _ _ _ _ ⟨_, g36, rfl⟩ (pat_args _ _) ?_))
  refine split_tree g36 rfl h5 h6 h2 g35 rfl hcode hsz hcut fun its tk hs => ?_
  exact h its tk _ _ hs (F.push _) (News.push F N _) (fun p hp => Heap.lt_size (N p hp).1)
end
end Mine

end
section
open PySem PySem.W PyProof.Rows PySem.Calls
set_option maxHeartbeats 1000000
namespace Mine
section
variable {prog : Program} {w : World} {A : Around} {E : Value → Shared → Prop} {s : Shared} {env : Env} {h₀ : Heap} {x : Str} {body : List Stmt} {Q : Flow → Shared → Prop}
/-- a turn's end of a loop that changes one object's state -/
def LoopEnd (h₀ : Heap) (L : Addr) (x : Str) (stored : List Str) (m₀ : Str → Option Value) (s : Shared) (p : Addr × Obj) (R : Addr) (cst : List (Addr × Obj)) {σ : Type} (led : σ → Obj) (P : σ → Prop) (f : Flow) (s' : Shared) : Prop :=
  f = .next ∧ ∃ c' h' tk' m', s' = { s with heap := h', toks := tk' } ∧ Fr h₀ L h' m' ∧ (∀ y, y ≠ x → stored.contains y = false → m' y = m₀ y) ∧ News h₀ L h' (p :: (R, led c') :: cst) ∧ P c'
theorem loop_list {σ : Type} {l R : Addr} {its : List Value} {m₀ : Str → Option Value} {cst : List (Addr × Obj)} (led : σ → Obj) (stored : List Str) (c₀ : σ) (P : Nat → σ → Prop) (hh : A.handled = none)
    (hl : (l, { cls := .type "list", data := .seq its.toArray }) ∈ cst) (F : Fr h₀ env.locals s.heap m₀) (N : News h₀ env.locals s.heap ((R, led c₀) :: cst)) (h0 : P 0 c₀)
    (turn : ∀ i v c (u : Str → Option Value) h tk I oI, its[i]? = some v → P i c → Fr h₀ env.locals h (fun y => if y = x then some v else if stored.contains y then u y else m₀ y) → News h₀ env.locals h ((I, oI) :: (R, led c) :: cst) → R < I →
      wpAny (model prog w) A (execs body env) (LoopEnd h₀ env.locals x stored m₀ s (I, oI) R cst led (P (i + 1))) E { s with heap := h, toks := tk })
    (done : ∀ c (u : Str → Option Value) h tk, P its.length c → Fr h₀ env.locals h (fun y => if y = x then u y else if stored.contains y then u y else m₀ y) → News h₀ env.locals h ((R, led c) :: cst) → Q .next { s with heap := h, toks := tk }) :
    wpAny (model prog w) A (pyIter (.ref l)) (fun it s₂ => LoopAtV prog w A h₀ env x body Q E it s₂) E s := by
  have hN := N _ (List.mem_cons_of_mem _ hl)
  have hls : s.heap.IsList l its.toArray := ⟨_, hN.1, rfl, _, rfl⟩
  have hll : l < s.heap.objs.size := Heap.lt_size hN.1
  have hne : l ≠ s.heap.objs.size := Nat.ne_of_lt hll
  have hlt : ∀ p ∈ (R, led c₀) :: cst, p.1 < s.heap.objs.size := fun p hp => Heap.lt_size (N p hp).1
  refine wpAny_pyIter_list hls ?_
  have W := Walks.list (prog := prog) (w := w) hh s.heap.objs.size l hne its.toArray
  generalize hI : s.heap.objs.size = I at *
  let J : Nat → (Str → Option Value) → List (Addr × Obj) → Prop := fun i m₁ news₁ => (∃ c, news₁ = (R, led c) :: cst ∧ P i c) ∧ ∀ y, y ≠ x → stored.contains y = false → m₁ y = m₀ y
  have off : ∀ c, ∀ p ∈ (R, led c) :: cst, p.1 ∉ [I] := fun c p hp hm => by
    rcases List.mem_cons.mp hp with rfl | hp
    · exact absurd (hlt _ List.mem_cons_self) ((List.mem_singleton.mp hm) ▸ Nat.lt_irrefl _)
    · exact absurd (hlt p (List.mem_cons_of_mem _ hp)) ((List.mem_singleton.mp hm) ▸ Nat.lt_irrefl _)
  have hI₀ : h₀.get? I = none := hI ▸ next_is_new F
  refine ⟨I, [I, l], [I], _, _, _, m₀, (R, led c₀) :: cst, J, rfl, W, ?_, ?_, off c₀, ?_, F.push _, fun p hp => ⟨Heap.get?_push_of_some _ (N p hp).1, (N p hp).2⟩, ⟨⟨c₀, rfl, h0⟩, fun _ _ _ => rfl⟩, ?_, ?_⟩
  · intro hm
    rcases List.mem_cons.mp hm with e | hm
    · exact absurd F.ns.lt (e ▸ hI ▸ Nat.lt_irrefl _)
    · exact hN.2.1 (List.mem_singleton.mp hm).symm
  · intro b hb
    rw [List.mem_singleton.mp hb]
    exact hI₀
  · exact ⟨⟨_, hI ▸ Heap.get?_push_size _ rfl, rfl, rfl⟩, hls.at fun o e => Heap.get?_push_of_some _ e⟩
  · rintro i v m₁ news₁ s₁ own ⟨hh', tk', rfl⟩ hin hP ⟨⟨c, rfl, hPc⟩, hJ⟩ hoff h5 h6 h7 hs F₁ N₁
    have e : (fun y => if y = x then some v else m₁ y) = fun y => if y = x then some v else if stored.contains y then m₁ y else m₀ y := by
      funext y
      by_cases h1 : y = x
      · simp [h1]
      · simp only [if_neg h1]
        cases h2 : stored.contains y with
        | true => simp
        | false => simp only [Bool.false_eq_true, if_false]; exact hJ y h1 h2
    rw [e] at F₁
    obtain ⟨oI, hoI, _⟩ := hs.1
    have hl1 := (N₁ _ (List.mem_append_right own (List.mem_cons_of_mem _ hl))).1
    have NI : News h₀ env.locals hh' ((I, oI) :: (R, led c) :: cst) := fun p hp => by
      rcases List.mem_cons.mp hp with rfl | hp
      · exact N₁ _ (List.mem_append.mpr (.inl (h7 I List.mem_cons_self hI₀ oI hoI)))
      · exact N₁ p (List.mem_append.mpr (.inr hp))
    refine wpAny_mono (turn i v c m₁ hh' tk' I oI (by simpa using hP) hPc F₁ NI (hlt _ List.mem_cons_self)) (fun f s₂ p => ?_) fun _ _ e => e
    obtain ⟨rfl, c', h', tk2, m', rfl, F', hm, N', hP'⟩ := p
    refine .next ⟨rfl, h', tk2, m', (R, led c') :: cst, rfl, F', fun p hp => ?_, off c', ⟨c', rfl, hP'⟩, hm⟩
    rcases List.mem_append.mp hp with hp | hp
    · rcases List.mem_cons.mp (h5 p hp) with q | q
      · have : p = (I, oI) := Prod.ext q (by have z := h6 p hp; rw [q] at z; exact Option.some.inj (z.symm.trans hoI))
        rw [this]
        exact N' _ List.mem_cons_self
      · have q' : p.1 = l := List.mem_singleton.mp q
        have : p = (l, { cls := .type "list", data := .seq its.toArray }) := Prod.ext q' (by have z := h6 p hp; rw [q'] at z; exact Option.some.inj (z.symm.trans hl1))
        rw [this]
        exact N' _ (List.mem_cons_of_mem _ (List.mem_cons_of_mem _ hl))
    · exact N' p (List.mem_cons_of_mem _ hp)
  · rintro h' tk m' news' F' N' _ ⟨⟨c, rfl, hPc⟩, hJ⟩
    refine done c m' h' tk (by simpa using hPc) ?_ N'
    have e : (fun y => if y = x then m' y else if stored.contains y then m' y else m₀ y) = m' := by
      funext y
      by_cases h1 : y = x
      · simp [h1]
      · simp only [if_neg h1]
        cases h2 : stored.contains y with
        | true => simp
        | false => simp only [Bool.false_eq_true, if_false]; exact (hJ y h1 h2).symm
    rw [e]
    exact F'
end
end Mine

end
section
open PySem PySem.W PyProof.Rows PySem.Calls PySem.NumText
set_option maxHeartbeats 4000000
namespace Mine
theorem typeCall_int_2 (a b : Value) : checkTypeCall "int" ⟨[a, b], []⟩ = pure () := by kernel_rfl
theorem newCall_int_2 (a b : Value) : checkBuiltinCall "int.__new__" ⟨[.type "int", a, b], []⟩ = pure () := by kernel_rfl
structure Held (p : Prop) : Prop where
  out : p
/-- int(text, 10) of a text that reads as a number -/
theorem gives_text10 {x : PySem.Str} {u t : Tok} {n : Int} (hl : x.length ≤ 640) (hn : PySem.intText? x = some n) : Gives (Builtin.«int.__new__» ⟨[.type "int", .str x u, .int 10 t], []⟩) (.int n) :=
  .of_wp fun M A E s Q h => by
    obtain ⟨hp, g, d, tk, os⟩ := s
    have f1 := F.conv_sub_int
    have f2 := F.madeHere_int
    have f6 : typeOf (.str x u) = pure (.type "str") := rfl
    have hs : (numSeenOf x).length ≤ 640 := Nat.le_trans (seen_length x) hl
    have hr : (int_private% "readNumeral") 0 10 (numSeenOf x) = (int_private% "Numeral.value") n ∧ ((numSeenOf x).length == (numTextOf x).length) = true := by
      rcases read0 x hs with ⟨m, h1, h2, h3⟩ | ⟨h1, _⟩
      · rw [hn] at h1
        injection h1 with h1
        subst h1
        exact ⟨h3, h2⟩
      · rw [hn] at h1
        cases h1
    have hk := Held.mk (And.intro hs hr)
    clear hs hr hl hn
    repeat (any_goals (first
      | assumption
      | ((with_reducible show wpAny _ _ ((int_private% "intFromText") _ _ _) _ _ _); refine KIN.wp_text hk.out.1 hk.out.2.1 hk.out.2.2 ?_)
      | wp_step))
    all_goals first | exact ⟨_, rfl, h⟩ | skip
section
variable {prog : Program} {w : World} {A : Around} {E : Value → Shared → Prop} {s : Shared} {Q : Value → Shared → Prop} {x : PySem.Str} {t u : Tok} {n : Int}
theorem call_text10 (hn : PySem.intText? x = some n) (hl : x.length ≤ 640) (h : Q (.int n s.toks) { s with toks := s.toks + 1 }) : wpAny (model prog w) A (call (.type "int") [.str x t, .int 10 u]) Q E s :=
  callType_new F.called_int F.newNe_int (typeCall_int_2 _ _) (newCall_int_2 _ _) (fun obj => F.args_object_init_3 obj _ _) F.entry_int_new (gives_text10 hl hn).meets (show (Made.int n).post _ s from ⟨rfl, h⟩)
end
end Mine

end
section
open PySem PySem.W PyProof.Rows PySem.Calls
set_option maxHeartbeats 1000000
namespace Mine
local macro_rules | `(tactic| walk_at "pad 0") => `(tactic| fail "no line")
local macro_rules | `(tactic| walk_at "pad 1") => `(tactic| fail "no line")
local macro_rules | `(tactic| walk_at "pad 2") => `(tactic| fail "no line")
local macro_rules | `(tactic| walk_at "pad 3") => `(tactic| fail "no line")
local macro_rules | `(tactic| walk_at "pad 4") => `(tactic| fail "no line")
local macro_rules | `(tactic| walk_at "pad 5") => `(tactic| fail "no line")
local macro_rules | `(tactic| walk_at "pad 6") => `(tactic| fail "no line")
local macro_rules | `(tactic| walk_at "pad 7") => `(tactic| fail "no line")
local macro_rules | `(tactic| walk_at "pad 8") => `(tactic| fail "no line")
local macro_rules | `(tactic| walk_at "pad 9") => `(tactic| fail "no line")
local macro_rules | `(tactic| walk_at "pad 10") => `(tactic| fail "no line")
local macro_rules | `(tactic| walk_at "pad 11") => `(tactic| fail "no line")
local macro_rules | `(tactic| walk_at "pad 12") => `(tactic| fail "no line")
local macro_rules | `(tactic| walk_at "pad 13") => `(tactic| fail "no line")
local macro_rules | `(tactic| walk_at "pad 14") => `(tactic| fail "no line")
local macro_rules | `(tactic| walk_at "pad 15") => `(tactic| fail "no line")
local macro_rules | `(tactic| walk_at "pad 16") => `(tactic| fail "no line")
local macro_rules | `(tactic| walk_at "pad 17") => `(tactic| fail "no line")
local macro_rules | `(tactic| walk_at "pad 18") => `(tactic| fail "no line")
local macro_rules | `(tactic| walk_at "pad 19") => `(tactic| fail "no line")
local macro_rules | `(tactic| walk_at "pad 20") => `(tactic| fail "no line")
local macro_rules | `(tactic| walk_at "pad 21") => `(tactic| fail "no line")
local macro_rules | `(tactic| walk_at "pad 22") => `(tactic| fail "no line")
local macro_rules | `(tactic| walk_at "pad 23") => `(tactic| fail "no line")
local macro_rules | `(tactic| walk_at "pad 24") => `(tactic| fail "no line")
local macro_rules | `(tactic| walk_at "pad 25") => `(tactic| fail "no line")
local macro_rules | `(tactic| walk_at "pad 26") => `(tactic| fail "no line")
local macro_rules | `(tactic| walk_at "pad 27") => `(tactic| fail "no line")
local macro_rules | `(tactic| walk_at "pad 28") => `(tactic| fail "no line")
/-- what the pieces of a version tell -/
def isMark (p : Str) : Bool := !(Builtin.Str.occurrences (Str.ofString "._+-") p 0 (Str.ofString "._+-").length 1).isEmpty
def valOf (p : Str) : List Int := if isMark p then [] else [100, (PySem.intText? p).getD 0]
def valsOf (ps : List Str) : List Int := ps.flatMap valOf
def PieceOk (p : Str) : Prop := isMark p = true ∨ (isMark p = false ∧ ∃ n, PySem.intText? p = some n ∧ p.length ≤ 640)
theorem vals_mark {ps : List Str} {i : Nat} {p : Str} (hp : ps[i]? = some p) (h : isMark p = true) : valsOf (ps.take (i + 1)) = valsOf (ps.take i) := by
  unfold valsOf
  rw [List.take_add_one, hp, List.flatMap_append]
  simp [valOf, h]
theorem vals_num {ps : List Str} {i : Nat} {p : Str} {n : Int} (hp : ps[i]? = some p) (h : isMark p = false) (hn : PySem.intText? p = some n) : valsOf (ps.take (i + 1)) = valsOf (ps.take i) ++ [100, n] := by
  unfold valsOf
  rw [List.take_add_one, hp, List.flatMap_append]
  simp [valOf, h, hn]
theorem ints_two {vs : List Value} {ns : List Int} {a b : Int} {t u : Tok} (h : IntsAre vs ns) : IntsAre (vs ++ [.int a t, .int b u]) (ns ++ [a, b]) := by
  induction h with
  | nil => exact .cons _ _ (.cons _ _ .nil)
  | cons _ _ _ ih => exact .cons _ _ ih
theorem vals_len (ps : List Str) (i : Nat) : (valsOf (ps.take i)).length ≤ 2 * i := by
  induction i with
  | zero => simp [valsOf]
  | succ i ih =>
    rw [List.take_add_one]
    unfold valsOf at ih ⊢
    rw [List.flatMap_append, List.length_append]
    have : (List.flatMap valOf ps[i]?.toList).length ≤ 2 := by
      cases ps[i]? with
      | none => simp
      | some p => simp [valOf]; split <;> simp
    omega
section
variable {prog : Program} {w : World} {A : Around} {E : Value → Shared → Prop} {s : Shared} {h₀ : Heap} {L : Addr} {m : Str → Option Value} {news : List (Addr × Obj)}
theorem swap2 {h : Heap} {a b : Addr × Obj} (N : News h₀ L h [a, b]) : News h₀ L h [b, a] := fun p hp => N p (by simp at hp ⊢; exact hp.symm)
theorem asNat {a b : Addr} (h : a < b) : @LT.lt Nat _ a b := h
theorem notIn_to {x y : Str} {t u : Tok} {b : Bool} {Q : Value → Shared → Prop} (e : (!(Builtin.Str.occurrences x y 0 x.length 1).isEmpty) = b) (h : Q (.bool (!b)) s) : wpAny (model prog w) A (compareOp .NotIn (.str y u) (.str x t)) Q E s := PyProof.Rows.notIn_str (by rw [e]; exact h)
theorem ext_two {D b : Addr} {l : List Value} {n n2 : Nat} {a c : Value} {news' : List (Addr × Obj)} {Q : Value → Shared → Prop} (F : Fr h₀ L s.heap m) (N : News h₀ L s.heap news) (hb : (b, ({ cls := .type "tuple", data := .seq [a, c].toArray n2 } : Obj)) ∈ news)
    (U : Upd D (listOf l.toArray n) (listOf (l ++ [a, c]).toArray (n + 1)) news news') (hl : l.length ≤ 1000)
    (h : ∀ h', Fr h₀ L h' m → News h₀ L h' news' → Q .none { s with heap := h' }) : wpAny (model prog w) A (call (.builtin "list.extend") [.ref D, .ref b]) Q E s := by
  refine kup_extend (its := l.toArray) (its2 := [a, c].toArray) F N hb (by simp) (by simp) U ?_ ?_ ?_ h
  · have : Builtin.List.listTooLong (l.toArray.size + [a, c].toArray.size) = false := by
      unfold Builtin.List.listTooLong
      simp
      have : (1000 : Nat) + 2 ≤ sizeLine := by decide
      omega
    rw [this]; simp
  · show l.length ≤ sizeLine
    exact Nat.le_trans hl (by decide)
  · show l.length + 2 ≤ sizeLine + 1
    exact Nat.le_trans (Nat.add_le_add_right hl 2) (by decide)
theorem pat_split2 {x : Str} {t : Tok} {all : List (Nat × Nat)} {z : Nat} {ps : List Str} {Q : Value → Shared → Prop} (hps : all.map (sl x.cps) ++ [sl x.cps (z, x.cps.size)] = ps) (X : (Mine.hd.heap_39 w.params).In h₀) (F : Fr h₀ L s.heap m) (N : News h₀ L s.heap news) (hsz : x.cps.size ≤ 100) (hcut : cuts x.cps (2 * x.cps.size + 3) 0 = some (all, z))
    (h : ∀ its tk D h', StrsAre its ps → Fr h₀ L h' m → News h₀ L h' ((D, { cls := .type "list", data := .seq its.toArray }) :: news) → (∀ p ∈ news, p.1 < D) → Q (.ref D) { s with heap := h', toks := tk }) :
    wpAny (model prog w) A (call (.builtin "re.Pattern.split") [.ref 36, .str x t]) Q E s := by
  subst hps
  exact pat_split X F N (Nat.le_trans hsz (by decide)) hcut h
end
local macro_rules | `(tactic| k_steps) => `(tactic| repeat' (first | (k_unfold; (try dsimp only)) | walk1 | (dsimp only; walk1)))
local macro_rules | `(tactic| walk_at "getMethod ref") => `(tactic| (k_here; (with_reducible show wpAny _ _ (getMethod (Value.ref 36) (PySem.Str.ofString "split") _) _ _ _); k_dflt (refine pat_method (by assumption) (by k_asm) ?_)))
local macro_rules | `(tactic| walk_at "call builtin:re.Pattern.split") => `(tactic| (k_here; k_dflt (refine pat_split2 (by assumption) (by assumption) (by k_asm) (by k_asm) (by assumption) (by assumption) ?_); intro its' tk' D' h' hs' F' N' lt'))
local macro_rules | `(tactic| walk_at "compareOp NotIn str str") => `(tactic| (k_here; refine notIn_to (by assumption) ?_))
local macro_rules | `(tactic| walk_at "call type:int") => `(tactic| (k_here; refine call_text10 (by assumption) (by assumption) ?_))
local macro_rules | `(tactic| walk_at "call builtin:list.extend") => `(tactic| (k_here; k_dflt (refine' ext_two ?F ?N ?b ?U ?l ?_; (case F => k_asm); (case N => k_asm); (case b => k_mem); (case U => k_upd); (case l => assumption)); intro h' F' N'))
local macro_rules | `(tactic| walk_at "pyIter ref") => `(tactic| fail "here")
theorem cmp_spec (w : World) (x : Str) (t : Tok) (all : List (Nat × Nat)) (z : Nat) (hsz : x.cps.size ≤ 100) (hcut : cuts x.cps (2 * x.cps.size + 3) 0 = some (all, z)) (ok : ∀ p ∈ all.map (sl x.cps) ++ [sl x.cps (z, x.cps.size)], PieceOk p) (hn : all.length ≤ 400) :
    Calm w 550 2500 44 [.str x t] (fun _ => True) (fun h v h' => ∃ D its c, v = .ref D ∧ h.get? D = none ∧ h'.get? D = some { cls := .type "list", data := .seq its c } ∧ IntsAre its.toList (valsOf (all.map (sl x.cps) ++ [sl x.cps (z, x.cps.size)]))) := by
  unfold Calm
  w_on
  w_top on
  k_fill
  intro outer base mean mg mb s Q E B XB TB hP hret
  refine wpAny_call ?_
  k_dflt (refine' enter (binds := [(Str.ofString "version", .str x t)]) ?k1 ?k2 ?k3 ?k4 ?k5 ?k6 ?k7 ?k8 ?_ ?c2 ?c3 ?c4 ?c5; (case k1 => assumption); (case k2 => assumption); (case k3 => assumption); (case k4 => k_is); (case k5 => k_is); (case k6 => exact (by decide : 550 < recursionLimit)); (case k7 => exact BindsTo.of_eq rfl); (case k8 => exact locs rfl); (case c2 => exact rfl); (case c3 => exact rfl); (case c4 => exact rfl); (case c5 => decide); k_whole)
  intro L' h' F' N' X' T'
  dsimp only
  k_fold
  revert ok
  generalize hps : all.map (sl x.cps) ++ [sl x.cps (z, x.cps.size)] = ps at *
  k_steps
  rename StrsAre _ ps => hs1
  rename List Value => its'
  rename Fr _ _ _ _ => F2
  rename News _ _ _ [_, _] => N2
  rename ∀ p, p ∈ ps → PieceOk p => ok1
  rename ∀ p, p ∈ [_] → _ < _ => lt1
  have lt2 := asNat (lt1 _ List.mem_cons_self)
  dsimp only at lt2
  clear lt1
  have hpl : ps.length ≤ 401 := by rw [← hps]; simp; omega
  refine loop_list (led := fun c : List Value × Nat => W.listOf c.1.toArray c.2) [Str.ofString "t"] ([], 0) (fun i c => IntsAre c.1 (valsOf (ps.take i))) rfl (List.mem_singleton.mpr rfl) F2 (swap2 N2) .nil ?turn ?done
  case turn =>
    intro i v c u h1 tk1 I oI hv hI F1 N1 lt1
    obtain ⟨p, tp, rfl, hp⟩ := hs1.item i _ hv
    have lt3 := asNat lt1
    have hcl : c.1.length ≤ 1000 := by
      rw [IntsAre.length hI]
      have := vals_len ps i
      have : i < ps.length := (List.getElem?_eq_some_iff.mp hp).1
      omega
    rcases ok1 p (List.mem_of_getElem? hp) with hm | ⟨hm, n, hn1, hn2⟩
    · have hm2 := hm
      unfold isMark at hm2
      k_steps
      exact ⟨rfl, c, _, _, _, rfl, F1, fun y h1 h2 => by (simp only [List.contains_cons, List.contains_nil, Bool.or_false, beq_eq_false_iff_ne, ne_eq] at h2; simp [h1, h2]), N1, by rw [vals_mark hp hm]; exact hI⟩
    · have hm2 := hm
      unfold isMark at hm2
      k_steps
      rename Fr _ _ _ _ => F4
      rename News _ _ _ (_ :: _ :: _ :: _) => N4
      refine ⟨rfl, (c.1 ++ [_, _], c.2 + 1), _, _, _, rfl, F4, fun y h1 h2 => by (simp only [List.contains_cons, List.contains_nil, Bool.or_false, beq_eq_false_iff_ne, ne_eq] at h2; simp [h1, h2]), (fun q hq => N4 q (List.mem_cons_of_mem _ hq)), ?_⟩
      rw [vals_num hp hm hn1]
      exact ints_two hI
  case done =>
    intro c u h1 tk1 hI F1 N1
    k_steps
    dsimp only
    have hl : its'.length = ps.length := hs1.length
    rw [hl, List.take_of_length_le (Nat.le_refl _)] at hI
    exact hret _ _ _ F1.keep ⟨_, _, _, rfl, (N1 _ List.mem_cons_self).2.2, (N1 _ List.mem_cons_self).1, hI⟩
end Mine

end
section
open PySem PySem.W PyProof.Rows PySem.Calls
set_option maxHeartbeats 1000000
namespace Mine
open LCg
section
variable {prog : Program} {w : World} {A : Around} {E : Value → Shared → Prop} {R : Result → Shared → Prop} {s : Shared}
abbrev NN (prog : Program) (w : World) (A : Around) (env : Env) (R : Result → Shared → Prop) : Value → Shared → Prop := notedBy (model prog w) A env fun e s' => R (.error e) s'
/-- a comprehension of two clauses without tests -/
abbrev two (elt i1 i2 t1 t2 : Expr) (scope : Scope) (pos : Pos) : Expr := .ListComp elt [⟨t1, i1, [], 0⟩, ⟨t2, i2, [], 0⟩] scope pos
theorem compTurn_two0 (elt i1 i2 t1 t2 : Expr) (scope : Scope) (pos : Pos) (it acc : Value) (env : Env) : compTurn (two elt i1 i2 t1 t2 scope pos) 0 it acc env = (standAt i1.pos >>= fun _ => pyNext it >>= fun r => match r with
      | none => pure (.done .next)
      | some v => letOwnedTupleGo t1 it v >>= fun _ => assign t1 env v >>= fun _ => eval i2 env >>= fun x => standAt i2.pos >>= fun _ => foldedSetIterable i2 env x >>= fun x => holding [x] (pyIter x) >>= fun it2 =>
          runOwn (.compStart (two elt i1 i2 t1 t2 scope pos) 1 it2 acc env) env >>= fun _ => again (.compLoop (two elt i1 i2 t1 t2 scope pos) 0 it acc env)) := by rfl
theorem compTurn_two1 (elt i1 i2 t1 t2 : Expr) (scope : Scope) (pos : Pos) (it acc : Value) (env : Env) : compTurn (two elt i1 i2 t1 t2 scope pos) 1 it acc env = (standAt i2.pos >>= fun _ => pyNext it >>= fun r => match r with
      | none => pure (.done .next)
      | some v => letOwnedTupleGo t2 it v >>= fun _ => assign t2 env v >>= fun _ =>
        (eval elt env >>= fun x => call (.builtin "list.append") [acc, x] >>= fun _ => pure ()) >>= fun _ => again (.compLoop (two elt i1 i2 t1 t2 scope pos) 1 it acc env)) := by rfl
theorem codeAny_two0 {elt i1 i2 t1 t2 : Expr} {scope : Scope} {pos : Pos} {it acc : Value} {env : Env} (hA : A.handled = none) (I : Nat → Shared → Prop)
    (turn : ∀ n s, I n s → wpAny (model prog w) A (pyNext it) (fun r s₁ => match r with
      | none => R (.ok .next) s₁
      | some v => wpAny (model prog w) A (assign t1 env v) (fun _ s₂ => wpAny (model prog w) A (eval i2 env) (fun x s₃ => wpAny (model prog w) A (pyIter x) (fun it2 s₄ =>
          codeAny (model prog w) A (.compStart (two elt i1 i2 t1 t2 scope pos) 1 it2 acc env) (fun r s₅ => match r with | .ok _ => ∃ m, m < n ∧ I m s₅ | .error _ => False) s₄) (NN prog w A env R) s₃) (NN prog w A env R) s₂) (NN prog w A env R) s₁) (NN prog w A env R) s)
    (n : Nat) (h : I n s) (ht : ∀ v, letOwnedTupleGo t1 it v = pure () := by intro _; rfl) (hs : ∀ x, foldedSetIterable i2 env x = pure x := by intro _; rfl) :
    codeAny (model prog w) A (.compLoop (two elt i1 i2 t1 t2 scope pos) 0 it acc env) R s := by
  refine codeAny_loop rfl I (fun n s hI => ?_) n h
  show wpAny _ A ((compTurn (two elt i1 i2 t1 t2 scope pos) 0 it acc env).onRaise (fun x => do noteFrame x env; theTreesLotGoes x)) _ _ s
  refine wpAny_noted ?_
  rw [compTurn_two0]
  refine wpAny_bind (wpAny_standAt (wpAny_bind (wpAny_mono (turn n s hI) (fun r s₁ h₁ => ?_) fun _ _ h' => h')))
  cases r with
  | none => exact wpAny_pure h₁
  | some v =>
    refine wpAny_bind (wpAny_of_eq (ht v) ?_)
    refine wpAny_bind (wpAny_mono h₁ (fun _ s₂ h₂ => wpAny_bind (wpAny_mono h₂ (fun x s₃ h₃ => ?_) fun _ _ h' => h')) fun _ _ h' => h')
    refine wpAny_bind (wpAny_standAt (wpAny_bind (wpAny_of_eq (hs x) (wpAny_bind (wpAny_holding (wpAny_mono h₃ (fun it2 s₄ h₄ => ?_) fun _ _ h' => h'))))))
    have hm : A.mark none = A := by
      cases A; cases hA; rfl
    refine wpAny_bind (wpAny_runOwn ?_)
    rw [hm]
    refine codeAny_mono h₄ fun r s₅ h₅ => ?_
    cases r with
    | error e => exact h₅.elim
    | ok f => exact wpAny_pure ⟨rfl, h₅⟩
theorem codeAny_two1 {elt i1 i2 t1 t2 : Expr} {scope : Scope} {pos : Pos} {it acc : Value} {env : Env} (I : Nat → Shared → Prop)
    (turn : ∀ n s, I n s → wpAny (model prog w) A (pyNext it) (fun r s₁ => match r with
      | none => R (.ok .next) s₁
      | some v => wpAny (model prog w) A (assign t2 env v) (fun _ s₂ => wpAny (model prog w) A (eval elt env) (fun x s₃ =>
          wpAny (model prog w) A (call (.builtin "list.append") [acc, x]) (fun _ s₄ => ∃ m, m < n ∧ I m s₄) (NN prog w A env R) s₃) (NN prog w A env R) s₂) (NN prog w A env R) s₁) (NN prog w A env R) s)
    (n : Nat) (h : I n s) (ht : ∀ v, letOwnedTupleGo t2 it v = pure () := by intro _; rfl) :
    codeAny (model prog w) A (.compLoop (two elt i1 i2 t1 t2 scope pos) 1 it acc env) R s := by
  refine codeAny_loop rfl I (fun n s hI => ?_) n h
  show wpAny _ A ((compTurn (two elt i1 i2 t1 t2 scope pos) 1 it acc env).onRaise (fun x => do noteFrame x env; theTreesLotGoes x)) _ _ s
  refine wpAny_noted ?_
  rw [compTurn_two1]
  refine wpAny_bind (wpAny_standAt (wpAny_bind (wpAny_mono (turn n s hI) (fun r s₁ h₁ => ?_) fun _ _ h' => h')))
  cases r with
  | none => exact wpAny_pure h₁
  | some v =>
    refine wpAny_bind (wpAny_of_eq (ht v) ?_)
    refine wpAny_bind (wpAny_mono h₁ (fun _ s₂ h₂ => wpAny_bind (wpAny_bind (wpAny_mono h₂ (fun x s₃ h₃ => wpAny_bind (wpAny_mono h₃ (fun _ s₄ h₄ => wpAny_pure (wpAny_pure ⟨rfl, h₄⟩)) fun _ _ h' => h')) fun _ _ h' => h'))) fun _ _ h' => h')
theorem codeAny_twoStart {elt i1 i2 t1 t2 : Expr} {scope : Scope} {pos : Pos} {it acc : Value} {env : Env}
    (h0 : codeAny (model prog w) A (.compLoop (two elt i1 i2 t1 t2 scope pos) 1 it acc env) R s)
    (h : wpAny (model prog w) A (pyIter it) (fun it' s' => codeAny (model prog w) A (.compLoop (two elt i1 i2 t1 t2 scope pos) 1 it' acc env) R s') (NN prog w A env R) s) :
    codeAny (model prog w) A (.compStart (two elt i1 i2 t1 t2 scope pos) 1 it acc env) R s := by
  refine codeAny_of_tree ?_
  show wpAny _ _ ((compStart (two elt i1 i2 t1 t2 scope pos) 1 it acc env).onRaise (fun x => do noteFrame x env; standAt theWindowsPlace)) _ _ s
  refine wpAny_notedAt ?_
  unfold compStart
  show wpAny _ _ (ask >>= _) _ _ s
  refine wpAny_bind (wpAny_askSetting (wpAny_ite ?_))
  split
  · first
      | exact wpAny_bind (wpAny_pure (wpAny_pure ⟨rfl, h0⟩))
      | exact wpAny_pure ⟨rfl, h0⟩
  · first
      | exact wpAny_bind (wpAny_rule (wpAny_bind (wpAny_standAt (wpAny_bind (wpAny_mono h (fun it' s' h' => wpAny_pure ⟨rfl, h'⟩) fun _ _ x => x)))))
      | (refine wpAny_bind (wpAny_rule ?_); show wpAny _ _ (standAt i2.pos >>= _) _ _ s; exact wpAny_bind (wpAny_standAt (wpAny_bind (wpAny_mono h (fun it' s' h' => wpAny_pure ⟨rfl, h'⟩) fun _ _ x => x))))
end
end Mine

end
section
open PySem PySem.W PyProof.Rows PySem.Calls
set_option maxHeartbeats 1000000
namespace Mine
open LCg
/-- addresses that no entry of the ledger has -/
def OffAll (as : List Addr) (nw : List (Addr × Obj)) : Prop := ∀ p ∈ nw, ∀ a ∈ as, p.1 ≠ a
def Moves (g : Heap) (L I : Addr) (S : List (Addr × Obj) → Prop) (St : Nat → Heap → Prop) : Prop :=
  (∀ i h, St i h → ∃ o, h.get? I = some o) ∧ ∀ i h h' o nw, St i h → h.get? I = some o → h'.get? I = some o → (∀ b o, g.get? b = some o → h'.get? b = some o) → News g L h' nw → S nw → St i h'
/-- an element's end: the own entries stand, the ledger may have grown -/
def EltEnd (g : Heap) (L : Addr) (m : Str → Option Value) (s₂ : Shared) (own nw : List (Addr × Obj)) (post : Value → List (Addr × Obj) → Prop) (y : Value) (s' : Shared) : Prop :=
  ∃ h' tk' nw', s' = { s₂ with heap := h', toks := tk' } ∧ Fr g L h' m ∧ News g L h' (own ++ nw') ∧ (∀ p ∈ nw', p ∈ nw ∨ ∀ q ∈ own, p.1 ≠ q.1) ∧ post y nw'
section
variable {prog : Program} {w : World} {A : Around} {E : Value → Shared → Prop} {R : Result → Shared → Prop} {env : Env} {g : Heap} {L : Addr} {m : Str → Option Value} {s₂ : Shared}
theorem inner_run {elt i1 i2 : Expr} {x y : Str} {px py : Pos} {scope : Scope} {cl : List (Str × Addr)} {pos : Pos} {I1 I2 C D : Addr} {o1 : Obj} {v : Value} {fp2 : List Addr} {n2 : Nat} {P2 : Nat → Value → Prop} {St2 : Nat → Heap → Prop}
    {S2 : List (Addr × Obj) → Prop} {Inv2 : Nat → List Value → List (Addr × Obj) → Prop} {h : Heap} {tk : Nat} {ys : List Value} {nw : List (Addr × Obj)} {m₁ : Str → Option Value}
    (W2 : Walks prog w A I2 fp2 [I2] n2 P2 St2) (M2 : Moves g L I2 S2 St2) (hkind : scope.kind = .function) (hy : scope.names.lookup y = some .local) (hxy : x ≠ y)
    (dist : I1 ≠ I2 ∧ C ≠ I2 ∧ D ≠ I2 ∧ I1 ≠ C ∧ I1 ≠ D ∧ C ≠ D) (hL : L ≠ I2 ∧ L ≠ C ∧ L ≠ D) (hg : g.get? I2 = none ∧ g.get? C = none ∧ g.get? D = none) (hfp : C ∉ fp2 ∧ D ∉ fp2)
    (turn : ∀ j v2 ys nw o2 oC m₂ h tk (E' : Value → Shared → Prop), j < n2 → P2 j v2 → Inv2 j ys nw → S2 nw → NsObj oC m₂ → m₂ x = some v → m₂ y = some v2 → Fr g L h m → News g L h ((I2, o2) :: (I1, o1) :: (C, oC) :: (D, lst ys) :: nw) → OffAll [I1, I2, C, D] nw →
      wpAny (model prog w) A (eval elt (compEnvC scope cl C env)) (EltEnd g L m s₂ [(I2, o2), (I1, o1), (C, oC), (D, lst ys)] nw (fun yv nw' => Inv2 (j + 1) (ys ++ [yv]) nw' ∧ S2 nw')) E' { s₂ with heap := h, toks := tk })
    (hsz : ∀ j ys nw, Inv2 j ys nw → ys.length ≤ sizeLine)
    (fin : ∀ h tk ys nw m₂, Inv2 n2 ys nw → S2 nw → OffAll [I1, I2, C, D] nw → Fr g L h m → h.Ns C m₂ → News g L h ((I1, o1) :: (D, lst ys) :: nw) → R (.ok .next) { s₂ with heap := h, toks := tk })
    (st : St2 0 h) (F : Fr g L h m) (hC : h.Ns C m₁) (hx : m₁ x = some v) (N : News g L h ((I1, o1) :: (D, lst ys) :: nw)) (off : OffAll [I1, I2, C, D] nw) (i0 : Inv2 0 ys nw) (s0 : S2 nw) :
    codeAny (model prog w) A (.compLoop (two elt i1 i2 (.Name x px) (.Name y py) scope pos) 1 (.ref I2) (.ref D) (compEnvC scope cl C env)) R { s₂ with heap := h, toks := tk } := by
  obtain ⟨d1, d2, d3, d4, d5, d6⟩ := dist
  obtain ⟨l1, l2, l3⟩ := hL
  obtain ⟨g1, g2, g3⟩ := hg
  refine codeAny_two1 (fun k s' => ∃ h' tk j ys nw m', s' = { s₂ with heap := h', toks := tk } ∧ j ≤ n2 ∧ k = n2 + 1 - j ∧ St2 j h' ∧ Fr g L h' m ∧ h'.Ns C m' ∧ m' x = some v ∧ News g L h' ((I1, o1) :: (D, lst ys) :: nw) ∧ OffAll [I1, I2, C, D] nw ∧ Inv2 j ys nw ∧ S2 nw) ?_ (n2 + 1)
    ⟨h, tk, 0, ys, nw, m₁, rfl, Nat.zero_le _, rfl, st, F, hC, hx, N, off, i0, s0⟩
  rintro k s' ⟨h', tk, j, ys, nw, m', rfl, hj, rfl, st', F', hn', hx', N', off', i', s'⟩
  by_cases hlt : j < n2
  · refine W2.item j _ _ _ hlt st' fun v2 h₂ tk₂ hPv st₂ hk₂ => ?_
    refine wpAny_assign_Name (wpAny_storeName_local (lookup_relabel_local hy) (hn'.at' fun o e => hk₂ _ o (by simpa using d2) e) (fun h₃ hn₃ hs₃ => ?_) (by simp [compEnvC, relabel, hkind]))
    have st₃ : St2 (j + 1) h₃ := W2.frame _ _ _ st₂ fun b hb o e => hs₃.extBut b o (fun q => hfp.1 (by have q' : b = C := q; rw [← q']; exact hb)) e
    obtain ⟨o2, e2⟩ := M2.1 _ _ st₃
    obtain ⟨oC, eC, hoC⟩ := ns_obj hn₃
    have F₃ : Fr g L h₃ m := (fr_but F' hk₂ l1 g1).change hs₃ (Ne.symm l2) g2
    have N₂ : News g L h₂ ((I1, o1) :: (D, lst ys) :: nw) := news_but N' hk₂ fun p hp => by
      rcases List.mem_cons.mp hp with rfl | hp
      · exact d1
      rcases List.mem_cons.mp hp with rfl | hp
      · exact d3
      · exact off' p hp I2 (by simp)
    have N₃ : News g L h₃ ((I2, o2) :: (I1, o1) :: (C, oC) :: (D, lst ys) :: nw) := fun p hp => by
      rcases List.mem_cons.mp hp with rfl | hp
      · exact ⟨e2, Ne.symm l1, g1⟩
      rcases List.mem_cons.mp hp with rfl | hp
      · have z := N₂ _ List.mem_cons_self
        exact ⟨hs₃.extBut _ _ d4 z.1, z.2⟩
      rcases List.mem_cons.mp hp with rfl | hp
      · exact ⟨eC, Ne.symm l2, g2⟩
      · have z := N₂ p (List.mem_cons_of_mem _ hp)
        refine ⟨hs₃.extBut _ _ ?_ z.1, z.2⟩
        rcases List.mem_cons.mp hp with rfl | hp
        · exact Ne.symm d6
        · exact off' p hp C (by simp)
    refine wpAny_mono (turn j v2 ys nw o2 oC _ h₃ _ _ hlt hPv i' s' hoC (by simp only [if_neg hxy]; exact hx') (by simp) F₃ N₃ off') (fun yv s₄ h₄ => ?_) fun _ _ e => e
    obtain ⟨h₄, tk₄, nw₄, rfl, F₄, N₄, new₄, i₄, s₄⟩ := h₄
    have z2 := (N₄ (I2, o2) List.mem_cons_self).1
    have zC := (N₄ (C, oC) (by simp)).1
    have zD := (N₄ (D, lst ys) (by simp)).1
    have z1 := N₄ (I1, o1) (by simp)
    have N₄' : News g L h₄ nw₄ := fun p hp => N₄ p (by simp [hp])
    have off₄ : OffAll [I1, I2, C, D] nw₄ := fun p hp a ha => by
      rcases new₄ p hp with hq | hq
      · exact off' p hq a ha
      · simp only [List.mem_cons, List.not_mem_nil, or_false] at ha
        rcases ha with rfl | rfl | rfl | rfl
        · exact hq (_, o1) (by simp)
        · exact hq (_, o2) (by simp)
        · exact hq (_, oC) (by simp)
        · exact hq (_, lst ys) (by simp)
    have st₄ : St2 (j + 1) h₄ := M2.2 _ _ _ _ _ st₃ e2 z2 F₄.keep N₄' s₄
    refine append_at (hsz := by show ys.toArray.size ≤ sizeLine; rw [List.size_toArray]; exact hsz _ _ _ i') zD fun h₅ hs₅ hD₅ => ?_
    refine ⟨n2 + 1 - (j + 1), by omega, h₅, tk₄, j + 1, ys ++ [yv], nw₄, _, rfl, hlt, rfl, W2.frame _ _ _ st₄ fun b hb o e => hs₅.extBut b o (fun q => hfp.2 (q ▸ hb)) e, F₄.change hs₅ (Ne.symm l3) g3,
      (hoC.ns zC).sameBut hs₅ d6, (by simp only [if_neg hxy]; exact hx'), fun p hp => ?_, off₄, i₄, s₄⟩
    rcases List.mem_cons.mp hp with rfl | hp
    · exact ⟨hs₅.extBut _ _ d5 z1.1, z1.2⟩
    rcases List.mem_cons.mp hp with rfl | hp
    · exact ⟨hD₅.trans (congrArg some (lst_snoc ys yv)), Ne.symm l3, g3⟩
    · exact ⟨hs₅.extBut _ _ (off₄ p hp D (by simp)) (N₄' p hp).1, (N₄' p hp).2⟩
  · obtain rfl : j = n2 := Nat.le_antisymm hj (Nat.not_lt.mp hlt)
    refine W2.done _ _ _ st' fun h₂ tk₂ hk₂ => ?_
    refine fin h₂ tk₂ ys nw m' i' s' off' (fr_but F' hk₂ l1 g1) (hn'.at' fun o e => hk₂ _ o (by simpa using d2) e) (news_but N' hk₂ fun p hp => ?_)
    rcases List.mem_cons.mp hp with rfl | hp
    · exact d1
    rcases List.mem_cons.mp hp with rfl | hp
    · exact d3
    · exact off' p hp I2 (by simp)
/-- what the second clause's iterable is to be, seen where its iterator is made -/
def InnerAt (prog : Program) (w : World) (A : Around) (env : Env) (g : Heap) (L : Addr) (m : Str → Option Value) (s₂ : Shared) (elt : Expr) (x y : Str) (scope : Scope) (cl : List (Str × Addr)) (I1 C D : Addr) (o1 : Obj) (v : Value) (oC : Obj) (ys : List Value)
    (nw : List (Addr × Obj)) (post : List Value → List (Addr × Obj) → Prop) (it2 : Value) (s₄ : Shared) : Prop :=
  ∃ (I2 : Addr) (fp2 : List Addr) (n2 : Nat) (P2 : Nat → Value → Prop) (St2 : Nat → Heap → Prop) (S2 : List (Addr × Obj) → Prop) (Inv2 : Nat → List Value → List (Addr × Obj) → Prop) (nw2 : List (Addr × Obj)) (h : Heap) (tk : Nat),
    it2 = .ref I2 ∧ s₄ = { s₂ with heap := h, toks := tk } ∧ Walks prog w A I2 fp2 [I2] n2 P2 St2 ∧ Moves g L I2 S2 St2 ∧ St2 0 h ∧ Fr g L h m ∧ News g L h ((I1, o1) :: (C, oC) :: (D, lst ys) :: nw2) ∧ OffAll [I1, I2, C, D] nw2 ∧
    (I1 ≠ I2 ∧ C ≠ I2 ∧ D ≠ I2 ∧ L ≠ I2 ∧ g.get? I2 = none) ∧ (C ∉ fp2 ∧ D ∉ fp2) ∧ S2 nw2 ∧ Inv2 0 ys nw2 ∧ (∀ j ys nw, Inv2 j ys nw → ys.length ≤ sizeLine) ∧
    (∀ j v2 ys nw o2 oC m₂ h tk (E' : Value → Shared → Prop), j < n2 → P2 j v2 → Inv2 j ys nw → S2 nw → NsObj oC m₂ → m₂ x = some v → m₂ y = some v2 → Fr g L h m → News g L h ((I2, o2) :: (I1, o1) :: (C, oC) :: (D, lst ys) :: nw) → OffAll [I1, I2, C, D] nw →
      wpAny (model prog w) A (eval elt (compEnvC scope cl C env)) (EltEnd g L m s₂ [(I2, o2), (I1, o1), (C, oC), (D, lst ys)] nw (fun yv nw' => Inv2 (j + 1) (ys ++ [yv]) nw' ∧ S2 nw')) E' { s₂ with heap := h, toks := tk }) ∧
    (∀ ys nw, Inv2 n2 ys nw → S2 nw → post ys nw)
theorem block_two {elt i1 i2 : Expr} {x y : Str} {px py : Pos} {scope : Scope} {cl : List (Str × Addr)} {pos : Pos} {I1 : Addr} {fp1 : List Addr} {n1 : Nat} {P1 : Nat → Value → Prop} {St1 : Nat → Heap → Prop} {S1 : List (Addr × Obj) → Prop} {news : List (Addr × Obj)}
    {Inv : Nat → List Value → List (Addr × Obj) → Prop} {RR : Value → Addr → Result → Shared → Prop} (hh : A.handled = none)
    (W1 : Walks prog w A I1 fp1 [I1] n1 P1 St1) (M1 : Moves g L I1 S1 St1)
    (hcell : ∀ y ∈ scope.names, y.2 ≠ .cell) (hkind : scope.kind = .function) (hx : scope.names.lookup x = some .local) (hy : scope.names.lookup y = some .local) (hxy : x ≠ y) (hst : St1 0 s₂.heap) (hfp : ∀ b ∈ fp1, b < s₂.heap.objs.size)
    (F : Fr g L s₂.heap m) (N : News g L s₂.heap news) (hIL : L ≠ I1) (hI₀ : g.get? I1 = none) (off : ∀ p ∈ news, p.1 ≠ I1) (hS : S1 news) (h0 : Inv 0 [] news)
    (turn : ∀ i v ys nw oI oC C D m₂ h tk (E' : Value → Shared → Prop), i < n1 → P1 i v → Inv i ys nw → NsObj oC m₂ → m₂ x = some v → Fr g L h m → News g L h ((I1, oI) :: (C, oC) :: (D, lst ys) :: nw) → OffAll [I1, C, D] nw → I1 ≠ C ∧ I1 ≠ D ∧ C ≠ D →
      wpAny (model prog w) A (eval i2 (compEnvC scope cl C env)) (fun xv s₃ => wpAny (model prog w) A (pyIter xv) (InnerAt prog w A env g L m s₂ elt x y scope cl I1 C D oI v oC ys nw (fun ys nw => Inv (i + 1) ys nw ∧ S1 nw)) E' s₃) E' { s₂ with heap := h, toks := tk })
    (hRR : ∀ D C h tk m' ys news', Fr g L h m → News g L h ((D, lst ys) :: news') → OffAll [C, D] news' → h.Ns C m' → g.get? C = none → g.get? D = none → C ≠ L → D ≠ L → C ≠ D → Inv n1 ys news' → RR (.ref D) C (.ok .next) { s₂ with heap := h, toks := tk })
    (hs : ∀ x C, foldedSetIterable i2 (compEnvC scope cl C env) x = pure x := by intro _ _; rfl) :
    wpAny (model prog w) A (newList []) (fun acc s₃ => wpAny (model prog w) A (newFunctionEnv scope env.globals cl [] env.qual none .none (some env)) (fun cenv s₄ =>
      codeAny (model prog w) A (.compStart (two elt i1 i2 (.Name x px) (.Name y py) scope pos) 0 (.ref I1) acc { cenv with scope := relabel scope env }) (RR acc cenv.locals) s₄) E s₃) E s₂ := by
  refine wpAny_newObj_type (wpAny_newFunctionEnv hcell (by intro y hy; simp at hy) (fun h₁ hns₁ hsb₁ => ?_) hkind)
  dsimp only at hns₁ hsb₁ ⊢
  generalize hH2 : s₂.heap.push { cls := .type "list", dict := none, data := .seq ([] : List Value).toArray } = H2 at hns₁ hsb₁ ⊢
  have hC : H2.objs.size = s₂.heap.objs.size + 1 := by rw [← hH2, Heap.size_push]
  have hDC : s₂.heap.objs.size ≠ H2.objs.size := by rw [hC]; exact Nat.ne_of_lt (Nat.lt_succ_self _)
  have below : ∀ b, b < s₂.heap.objs.size → b ≠ H2.objs.size ∧ b ≠ s₂.heap.objs.size := fun b hb => ⟨by rw [hC]; exact Nat.ne_of_lt (Nat.lt_succ_of_lt hb), Nat.ne_of_lt hb⟩
  have hCf : H2.objs.size ∉ fp1 := fun hm => by have := hfp _ hm; rw [hC] at this; exact Nat.lt_irrefl _ (Nat.lt_of_succ_lt this)
  have hIlt : I1 < s₂.heap.objs.size := hfp I1 (W1.sub I1 (List.mem_singleton.mpr rfl))
  have old : ∀ b o, s₂.heap.get? b = some o → h₁.get? b = some o := fun b o e => hsb₁.extBut b o (below b (Heap.lt_size e)).1 (Heap.get?_push_of_some _ (hH2 ▸ Heap.get?_push_of_some _ e))
  have hacc : h₁.get? s₂.heap.objs.size = some (lst []) := hsb₁.extBut _ _ hDC (Heap.get?_push_of_some _ (hH2 ▸ Heap.get?_push_size _ rfl))
  have hst₁ : St1 0 h₁ := W1.frame _ _ _ hst fun b _ o e => old b o e
  have fresh : ∀ a, s₂.heap.objs.size ≤ a → s₂.heap.get? a = none := fun a ha => by
    cases e : s₂.heap.get? a with
    | none => rfl
    | some o' => exact absurd (Heap.lt_size e) (Nat.not_lt.mpr ha)
  have fresh₀ : ∀ a, s₂.heap.objs.size ≤ a → g.get? a = none := fun a ha => by
    cases e : g.get? a with
    | none => rfl
    | some o' => have := F.keep a o' e; rw [fresh a ha] at this; cases this
  have hD₀ : g.get? s₂.heap.objs.size = none := fresh₀ _ (Nat.le_refl _)
  have hC₀ : g.get? H2.objs.size = none := fresh₀ _ (by rw [hC]; exact Nat.le_succ _)
  have hLlt : L < s₂.heap.objs.size := F.ns.lt
  have hDL : s₂.heap.objs.size ≠ L := Ne.symm (below L hLlt).2
  have hCL : H2.objs.size ≠ L := Ne.symm (below L hLlt).1
  have hCI : I1 ≠ H2.objs.size := (below I1 hIlt).1
  have hDI : I1 ≠ s₂.heap.objs.size := (below I1 hIlt).2
  generalize hDD : s₂.heap.objs.size = D at *
  generalize hCC : H2.objs.size = C at *
  have off₀ : OffAll [I1, C, D] news := fun p hp a ha => by
    simp only [List.mem_cons, List.not_mem_nil, or_false] at ha
    have hlt : p.1 < D := hDD ▸ Heap.lt_size (N p hp).1
    rcases ha with rfl | rfl | rfl
    · exact off p hp
    · exact (below _ hlt).1
    · exact (below _ hlt).2
  have loop : ∀ s₃ : Shared, s₃ = { s₂ with heap := h₁, toks := s₂.toks + ([] : List (Str × Value)).length } →
      codeAny (model prog w) A (.compLoop (two elt i1 i2 (.Name x px) (.Name y py) scope pos) 0 (.ref I1) (.ref D) (compEnvC scope cl C env)) (RR (.ref D) C) s₃ := by
    rintro s₃ rfl
    refine codeAny_two0 hh (fun k s' => ∃ h' tk i ys nw m', s' = { s₂ with heap := h', toks := tk } ∧ i ≤ n1 ∧ k = n1 + 1 - i ∧ St1 i h' ∧ Fr g L h' m ∧ h'.Ns C m' ∧ News g L h' ((D, lst ys) :: nw) ∧ OffAll [I1, C, D] nw ∧ S1 nw ∧ Inv i ys nw) ?_ (n1 + 1)
      ⟨h₁, _, 0, [], news, _, rfl, Nat.zero_le _, rfl, hst₁, F.keeps old, hns₁, fun p hp => ?_, off₀, hS, h0⟩ (hs := fun x => hs x C)
    · rintro k s' ⟨h', tk, i, ys, nw, m', rfl, hi, rfl, st', F', hn', N', off', s', i'⟩
      by_cases hlt : i < n1
      · refine W1.item i _ _ _ hlt st' fun v h₂ tk₂ hPv st₂ hk₂ => ?_
        refine wpAny_assign_Name (wpAny_storeName_local (lookup_relabel_local hx) (hn'.at' fun o e => hk₂ _ o (by simpa using Ne.symm hCI) e) (fun h₃ hn₃ hs₃ => ?_) (by simp [compEnvC, relabel, hkind]))
        have st₃ : St1 (i + 1) h₃ := W1.frame _ _ _ st₂ fun b hb o e => hs₃.extBut b o (fun q => hCf (by have q' : b = C := q; rw [← q']; exact hb)) e
        obtain ⟨o1, e1⟩ := M1.1 _ _ st₃
        obtain ⟨oC, eC, hoC⟩ := ns_obj hn₃
        have F₃ : Fr g L h₃ m := (fr_but F' hk₂ hIL hI₀).change hs₃ hCL hC₀
        have N₂ : News g L h₂ ((D, lst ys) :: nw) := news_but N' hk₂ fun p hp => by
          rcases List.mem_cons.mp hp with rfl | hp
          · exact Ne.symm hDI
          · exact off' p hp I1 (by simp)
        have N₃ : News g L h₃ ((I1, o1) :: (C, oC) :: (D, lst ys) :: nw) := fun p hp => by
          rcases List.mem_cons.mp hp with rfl | hp
          · exact ⟨e1, Ne.symm hIL, hI₀⟩
          rcases List.mem_cons.mp hp with rfl | hp
          · exact ⟨eC, hCL, hC₀⟩
          · have z := N₂ p hp
            refine ⟨hs₃.extBut _ _ ?_ z.1, z.2⟩
            rcases List.mem_cons.mp hp with rfl | hp
            · exact hDC
            · exact off' p hp C (by simp)
        refine wpAny_mono (turn i v ys nw o1 oC C D _ h₃ _ _ hlt hPv i' hoC (by simp) F₃ N₃ off' ⟨hCI, hDI, Ne.symm hDC⟩) (fun xv s₅ h₅ => wpAny_mono h₅ (fun it2 s₄ h₄ => ?_) fun _ _ e => e) fun _ _ e => e
        obtain ⟨I2, fp2, n2, P2, St2, S2, Inv2, nw2, h, tk, rfl, rfl, W2, M2, st2, F₄, N₄, off₄, ⟨a1, a2, a3, a4, a5⟩, hf2, s2, iv2, hsz, et, fin⟩ := h₄
        have zC := (N₄ (C, oC) (by simp)).1
        have N₄' : News g L h ((I1, o1) :: (D, lst ys) :: nw2) := fun p hp => N₄ p (by
          rcases List.mem_cons.mp hp with rfl | hp
          · simp
          · exact List.mem_cons_of_mem _ (List.mem_cons_of_mem _ hp))
        have run := fun {m₁ : Str → Option Value} (hC1 : h.Ns C m₁) (hx1 : m₁ x = some v) => inner_run (R := fun r s₅ => match r with | .ok _ => ∃ m_1, m_1 < n1 + 1 - i ∧ ∃ h' tk i ys nw m', s₅ = { s₂ with heap := h', toks := tk } ∧ i ≤ n1 ∧ m_1 = n1 + 1 - i ∧ St1 i h' ∧ Fr g L h' m ∧ h'.Ns C m' ∧ News g L h' ((D, lst ys) :: nw) ∧ OffAll [I1, C, D] nw ∧ S1 nw ∧ Inv i ys nw | .error _ => False)
          (i1 := i1) (i2 := i2) (px := px) (py := py) (pos := pos) W2 M2 hkind hy hxy ⟨a1, a2, a3, hCI, hDI, Ne.symm hDC⟩ ⟨a4, Ne.symm hCL, Ne.symm hDL⟩ ⟨a5, hC₀, hD₀⟩ hf2 et hsz (fun h tk ys nw m₂ i5 s5 off5 F5 n5 N5 => by
            obtain ⟨p5, q5⟩ := fin ys nw i5 s5
            have N6 : News g L h nw := fun p hp => N5 p (List.mem_cons_of_mem _ (List.mem_cons_of_mem _ hp))
            exact ⟨n1 + 1 - (i + 1), by omega, h, tk, i + 1, ys, nw, m₂, rfl, hlt, rfl, M1.2 _ _ _ _ _ st₃ e1 (N5 _ List.mem_cons_self).1 F5.keep N6 q5, F5, n5, fun p hp => N5 p (List.mem_cons_of_mem _ hp),
              fun p hp a ha => off5 p hp a (by simp only [List.mem_cons, List.not_mem_nil, or_false] at ha ⊢; rcases ha with rfl | rfl | rfl <;> simp), q5, p5⟩) (tk := tk) st2 F₄ hC1 hx1 N₄' off₄ iv2 s2
        have run' := run (hoC.ns zC) (by simp)
        exact codeAny_twoStart run' (W2.self 0 _ _ _ st2 run')
      · obtain rfl : i = n1 := Nat.le_antisymm hi (Nat.not_lt.mp hlt)
        refine W1.done _ _ _ st' fun h₂ tk₂ hk₂ => ?_
        exact hRR _ _ h₂ tk₂ _ ys nw (fr_but F' hk₂ hIL hI₀) (news_but N' hk₂ fun p hp => by
          rcases List.mem_cons.mp hp with rfl | hp
          · exact Ne.symm hDI
          · exact off' p hp I1 (by simp)) (fun p hp a ha => off' p hp a (by simp only [List.mem_cons, List.not_mem_nil, or_false] at ha ⊢; rcases ha with rfl | rfl <;> simp)) (hn'.at' fun o e => hk₂ _ o (by simpa using Ne.symm hCI) e) hC₀ hD₀ hCL hDL (Ne.symm hDC) i'
    · rcases List.mem_cons.mp hp with rfl | hp
      · exact ⟨hacc, hDL, hD₀⟩
      · exact ⟨old _ _ (N p hp).1, (N p hp).2⟩
  exact codeAny_compStart_list (loop _ rfl) (W1.self 0 _ _ _ hst₁ (loop _ rfl))
end
end Mine

end
section
open PySem PySem.W PyProof.Rows PySem.Calls
set_option maxHeartbeats 1000000
namespace Mine
open LCg
section
variable {prog : Program} {w : World} {A : Around} {E : Value → Shared → Prop} {R : Result → Shared → Prop} {s : Shared} {env : Env} {g : Heap} {L : Addr} {m : Str → Option Value} {s₂ : Shared}
/-- what the first clause's iterable is to be, seen where its iterator is made -/
def OuterAt (prog : Program) (w : World) (A : Around) (env : Env) (g : Heap) (L : Addr) (m : Str → Option Value) (elt i2 : Expr) (x y : Str) (scope : Scope) (cl : List (Str × Addr)) (fin : Shared → Addr → Heap → Nat → List Value → List (Addr × Obj) → Prop) (it : Value) (s₂ : Shared) : Prop :=
  ∃ (I1 : Addr) (fp1 : List Addr) (n1 : Nat) (P1 : Nat → Value → Prop) (St1 : Nat → Heap → Prop) (S1 : List (Addr × Obj) → Prop) (news : List (Addr × Obj)) (Inv : Nat → List Value → List (Addr × Obj) → Prop),
    it = .ref I1 ∧ A.handled = none ∧ Walks prog w A I1 fp1 [I1] n1 P1 St1 ∧ Moves g L I1 S1 St1 ∧ St1 0 s₂.heap ∧ (∀ b ∈ fp1, b < s₂.heap.objs.size) ∧ Fr g L s₂.heap m ∧ News g L s₂.heap news ∧ g.get? I1 = none ∧ L ≠ I1 ∧ (∀ p ∈ news, p.1 ≠ I1) ∧ S1 news ∧ Inv 0 [] news ∧
    (∀ i v ys nw oI oC C D m₂ h tk (E' : Value → Shared → Prop), i < n1 → P1 i v → Inv i ys nw → NsObj oC m₂ → m₂ x = some v → Fr g L h m → News g L h ((I1, oI) :: (C, oC) :: (D, lst ys) :: nw) → OffAll [I1, C, D] nw → I1 ≠ C ∧ I1 ≠ D ∧ C ≠ D →
      wpAny (model prog w) A (eval i2 (compEnvC scope cl C env)) (fun xv s₃ => wpAny (model prog w) A (pyIter xv) (InnerAt prog w A env g L m s₂ elt x y scope cl I1 C D oI v oC ys nw (fun ys nw => Inv (i + 1) ys nw ∧ S1 nw)) E' s₃) E' { s₂ with heap := h, toks := tk }) ∧
    (∀ D h tk ys nw, Inv n1 ys nw → OffAll [D] nw → News g L h ((D, lst ys) :: nw) → Fr g L h m → fin s₂ D h tk ys nw)
theorem ListComp_two {elt i1 i2 : Expr} {x y : Str} {px py : Pos} {scope : Scope} {cl : List (Str × Addr)} {pos : Pos} {Q : Value → Shared → Prop}
    (hclos : closureFor scope env = pure cl) (hcell : ∀ y ∈ scope.names, y.2 ≠ .cell) (hkind : scope.kind = .function)
    (hnames : ∀ y ∈ scope.names, y.2 = .local → scope.names.lookup y.1 = some .local) (hx : scope.names.lookup x = some .local) (hy : scope.names.lookup y = some .local) (hxy : x ≠ y)
    (h : wpAny (model prog w) A (eval i1 env) (fun xv s₁ => wpAny (model prog w) A (pyIter xv) (OuterAt prog w A env g L m elt i2 x y scope cl (fun s₂ D h tk ys nw => Q (.ref D) { s₂ with heap := h, toks := tk })) E s₁) E s)
    (hs1 : ∀ x, foldedSetIterable i1 env x = pure x := by intro _; rfl) (hs : ∀ x C, foldedSetIterable i2 (compEnvC scope cl C env) x = pure x := by intro _ _; rfl) :
    wpAny (model prog w) A (eval (two elt i1 i2 (.Name x px) (.Name y py) scope pos) env) Q E s := by
  rw [eval_ListComp]
  refine wpAny_comprehension_free (use := none) rfl hs1 hclos hkind hnames (wpAny_mono h (fun xv s₁ h₁ => wpAny_mono h₁ (fun it s₂ h₂ => ?_) fun _ _ e => e) fun _ _ e => e)
  obtain ⟨I1, fp1, n1, P1, St1, S1, news, Inv, rfl, hh, W1, M1, st1, hfp, F, N, hI0, hIL, off, hS, h0, turn, fin⟩ := h₂
  refine block_two hh W1 M1 hcell hkind hx hy hxy st1 hfp F N hIL hI0 off hS h0 turn ?_ hs
  intro D C h tk m' ys nw F' N' off' hn hC₀ hD₀ hCL hDL hCD iv
  refine ⟨m', hn, fun h'' hs'' => fin D h'' tk ys nw iv (fun p hp a ha => off' p hp a (by simp at ha ⊢; exact .inr ha)) (fun p hp => ?_) (F'.change hs'' hCL hC₀)⟩
  refine ⟨hs''.extBut _ _ ?_ (N' p hp).1, (N' p hp).2⟩
  rcases List.mem_cons.mp hp with rfl | hp
  · exact Ne.symm hCD
  · exact off' p hp C (by simp)
theorem Assign_two {elt i1 i2 : Expr} {x y z : Str} {px py pz : Pos} {scope : Scope} {cl : List (Str × Addr)} {pos spos : Pos} {Q : Flow → Shared → Prop} (hLe : env.locals = L)
    (hsw : swapsWith (two elt i1 i2 (.Name x px) (.Name y py) scope pos) (some (.Name z pz)) spos.line env = pure true)
    (hclos : closureFor scope env = pure cl) (hcell : ∀ y ∈ scope.names, y.2 ≠ .cell) (hkind : scope.kind = .function)
    (hnames : ∀ y ∈ scope.names, y.2 = .local → scope.names.lookup y.1 = some .local) (hx : scope.names.lookup x = some .local) (hy : scope.names.lookup y = some .local) (hxy : x ≠ y)
    (hz : env.kindOf z = some .local) (hp : (env.scope.kind == .class || (env.scope.kind == .module && env.locals != env.globals)) = false)
    (h : wpAny (model prog w) A (eval i1 env) (fun xv s₁ => wpAny (model prog w) A (pyIter xv) (OuterAt prog w A env g L m elt i2 x y scope cl (fun s₂ D h tk ys nw =>
      ∀ h' tk, Fr g L h' (fun u => if u = z then some (.ref D) else m u) → News g L h' ((D, lst ys) :: nw) → Q .next { s₂ with heap := h', toks := tk })) E s₁) E s)
    (hs1 : ∀ x, foldedSetIterable i1 env x = pure x := by intro _; rfl) (hs : ∀ x C, foldedSetIterable i2 (compEnvC scope cl C env) x = pure x := by intro _ _; rfl) :
    wpAny (model prog w) A (exec (.Assign [.Name z pz] (two elt i1 i2 (.Name x px) (.Name y py) scope pos) spos) env) Q E s := by
  subst hLe
  rw [exec_Assign_Name_used _ _ _ _ hsw]
  refine wpAny_bind (wpAny_standAt (wpAny_bind ?_))
  show wpAny _ A (do let _ ← comprehension (two elt i1 i2 (.Name x px) (.Name y py) scope pos) scope env _ (newList []) false (eval i1 env) (some (assign (.Name z pz) env))) _ _ s
  refine wpAny_bind (wpAny_mono (wpAny_comprehension_free (use := some (assign (.Name z pz) env)) (Q := fun _ s' => Q .next s') rfl hs1 hclos hkind hnames
    (wpAny_mono h (fun xv s₁ h₁ => wpAny_mono h₁ (fun it s₂ h₂ => ?_) fun _ _ e => e) fun _ _ e => e)) (fun _ s' hq => wpAny_pure (wpAny_pure hq)) fun _ _ e => e)
  obtain ⟨I1, fp1, n1, P1, St1, S1, news, Inv, rfl, hh, W1, M1, st1, hfp, F, N, hI0, hIL, off, hS, h0, turn, fin⟩ := h₂
  refine block_two hh W1 M1 hcell hkind hx hy hxy st1 hfp F N hIL hI0 off hS h0 turn ?_ hs
  intro D C h' tk m' ys nw F' N' off' hn hC₀ hD₀ hCL hDL hCD iv
  have fin' := fin D h' tk ys nw iv (fun p hp a ha => off' p hp a (by simp at ha ⊢; exact .inr ha)) N' F'
  show wpAny _ A (assign (.Name z pz) env (.ref D)) _ _ _
  refine wpAny_assign_Name (wpAny_storeName_local hz F'.ns (fun h₂ hn₂ hs₂ => ?_) hp)
  have hL₀ : g.get? env.locals = none := Heap.get?_none_of_le F'.above
  have F₂ : Fr g env.locals h₂ (fun u => if u = z then some (.ref D) else m u) := ⟨hn₂, fun b o e => hs₂.extBut b o (fun q => by rw [q, hL₀] at e; cases e) (F'.keep b o e), F'.above⟩
  refine ⟨m', hn.sameBut hs₂ hCL, fun h'' hs'' => fin' h'' _ (F₂.change hs'' hCL hC₀) (fun p hp => ?_)⟩
  have q : h₂.get? p.1 = some p.2 := hs₂.extBut _ _ (N' p hp).2.1 (N' p hp).1
  refine ⟨hs''.extBut _ _ ?_ q, (N' p hp).2⟩
  rcases List.mem_cons.mp hp with rfl | hp
  · exact Ne.symm hCD
  · exact off' p hp C (by simp)
/-- the sources: a list of the ledger, a range -/
theorem moves_list {I ax : Addr} {its : Array Value} {k : Nat} : Moves g L I (fun nw => (ax, ({ cls := .type "list", data := .seq its k } : Obj)) ∈ nw) (fun i h => h.IsListIter I ax i ∧ h.IsList ax its) :=
  ⟨fun i h st => by obtain ⟨o, e, _⟩ := st.1; exact ⟨o, e⟩, fun i h h' o nw st e e' kk N S => ⟨by obtain ⟨o', q, r⟩ := st.1; rw [e] at q; cases q; exact ⟨o, e', r⟩, ⟨_, (N _ S).1, rfl, _, rfl⟩⟩⟩
theorem moves_range {I : Addr} {a : Int} {n : Nat} : Moves g L I (fun _ => True) (fun i h => IsRangeIter h I (a + (i : Nat) * 1) ((n : Int) - (i : Nat)) 1) := ⟨fun _ _ st => ⟨_, st⟩, range_st⟩
end
end Mine

end
section
open PySem PySem.W PyProof.Rows PySem.Calls
set_option maxHeartbeats 1000000
namespace Mine
open LCg
section
variable {prog : Program} {w : World} {A : Around} {E : Value → Shared → Prop} {s : Shared} {env : Env} {g : Heap} {L : Addr} {m : Str → Option Value}
theorem ListComp_twoF {elt i1 i2 : Expr} {x y : Str} {px py : Pos} {scope : Scope} {cl : List (Str × Addr)} {pos : Pos} {Q : Value → Shared → Prop} (_ : Fr g L s.heap m)
    (hclos : closureFor scope env = pure cl) (hcell : ∀ y ∈ scope.names, y.2 ≠ .cell) (hkind : scope.kind = .function)
    (hnames : ∀ y ∈ scope.names, y.2 = .local → scope.names.lookup y.1 = some .local) (hx : scope.names.lookup x = some .local) (hy : scope.names.lookup y = some .local) (hxy : x ≠ y)
    (h : wpAny (model prog w) A (eval i1 env) (fun xv s₁ => wpAny (model prog w) A (pyIter xv) (OuterAt prog w A env g L m elt i2 x y scope cl (fun s₂ D h tk _ _ => Q (.ref D) { s₂ with heap := h, toks := tk })) E s₁) E s)
    (hs1 : ∀ x, foldedSetIterable i1 env x = pure x := by intro _; rfl) (hs : ∀ x C, foldedSetIterable i2 (compEnvC scope cl C env) x = pure x := by intro _ _; rfl) :
    wpAny (model prog w) A (eval (two elt i1 i2 (.Name x px) (.Name y py) scope pos) env) Q E s := by
  refine ListComp_two (g := g) (L := L) (m := m) hclos hcell hkind hnames hx hy hxy (wpAny_mono h (fun xv s₁ h₁ => wpAny_mono h₁ (fun it s₂ h₂ => ?_) fun _ _ e => e) fun _ _ e => e) hs1 hs
  obtain ⟨I1, fp1, n1, P1, St1, S1, news, Inv, e, hh, W1, M1, st1, hfp, F, N, hI0, hIL, off, hS, h0, turn, fin⟩ := h₂
  exact ⟨I1, fp1, n1, P1, St1, S1, news, Inv, e, hh, W1, M1, st1, hfp, F, N, hI0, hIL, off, hS, h0, turn, fun D h tk ys nw a b c d => fin D h tk ys nw a b c d⟩
theorem fresh_at {h : Heap} {news : List (Addr × Obj)} (N : News g L h news) : ∀ p ∈ news, p.1 ≠ h.objs.size := fun p hp => Nat.ne_of_lt (Heap.lt_size (N p hp).1)
/-- a list as the first clause's source -/
theorem outer_list {elt i2 : Expr} {x y : Str} {scope : Scope} {cl : List (Str × Addr)} {fin : Shared → Addr → Heap → Nat → List Value → List (Addr × Obj) → Prop} {ax : Addr} {its : Array Value} {k : Nat} {news : List (Addr × Obj)} (Inv : Nat → List Value → List (Addr × Obj) → Prop)
    (hh : A.handled = none) (F : Fr g L s.heap m) (N : News g L s.heap news) (hm : (ax, ({ cls := .type "list", data := .seq its k } : Obj)) ∈ news) (h0 : Inv 0 [] news)
    (turn : ∀ hp I1 i v ys nw oI oC C D m₂ h tk (E' : Value → Shared → Prop), its[i]? = some v → Inv i ys nw → NsObj oC m₂ → m₂ x = some v → Fr g L h m → News g L h ((I1, oI) :: (C, oC) :: (D, lst ys) :: nw) → OffAll [I1, C, D] nw → I1 ≠ C ∧ I1 ≠ D ∧ C ≠ D →
      wpAny (model prog w) A (eval i2 (compEnvC scope cl C env)) (fun xv s₃ => wpAny (model prog w) A (pyIter xv) (InnerAt prog w A env g L m { s with heap := hp } elt x y scope cl I1 C D oI v oC ys nw (fun ys nw => Inv (i + 1) ys nw ∧ (ax, ({ cls := .type "list", data := .seq its k } : Obj)) ∈ nw)) E' s₃) E' { s with heap := h, toks := tk })
    (hfin : ∀ hp D h tk ys nw, Inv its.size ys nw → OffAll [D] nw → News g L h ((D, lst ys) :: nw) → Fr g L h m → fin { s with heap := hp } D h tk ys nw) :
    wpAny (model prog w) A (pyIter (.ref ax)) (OuterAt prog w A env g L m elt i2 x y scope cl fin) E s := by
  have hl : s.heap.IsList ax its := ⟨_, (N _ hm).1, rfl, _, rfl⟩
  have hlt : ax < s.heap.objs.size := Heap.lt_size (N _ hm).1
  refine wpAny_pyIter_list hl ?_
  have up : ∀ b o, s.heap.get? b = some o → (s.heap.push { cls := .type "list_iterator", data := .fields #[.ref ax, .int 0 0] }).get? b = some o := fun b o e => Heap.get?_push_of_some _ e
  refine ⟨_, _, _, _, _, _, news, Inv, rfl, hh, Walks.list hh s.heap.objs.size ax (Nat.ne_of_lt hlt) its, moves_list (k := k), ⟨⟨_, Heap.get?_push_size _ rfl, rfl, rfl⟩, hl.push _⟩, fun b hb => ?_, F.keeps up, N.grown up, next_is_new F, Nat.ne_of_lt F.ns.lt, fresh_at N, hm, h0, ?_, ?_⟩
  · show b < (s.heap.push _).objs.size
    rw [Heap.size_push]
    rcases List.mem_cons.mp hb with rfl | hb
    · exact Nat.lt_succ_self _
    · rw [List.mem_singleton.mp hb]; exact Nat.lt_succ_of_lt hlt
  · intro i v ys nw oI oC C D m₂ h tk E' _ hP iv hC hx F' N' off' ne'
    exact turn _ _ i v ys nw oI oC C D m₂ h tk E' hP iv hC hx F' N' off' ne'
  · intro D h tk ys nw iv off' N' F'
    exact hfin _ D h tk ys nw iv off' N' F'
/-- a range as the first clause's source -/
theorem outer_range {elt i2 : Expr} {x y : Str} {scope : Scope} {cl : List (Str × Addr)} {fin : Shared → Addr → Heap → Nat → List Value → List (Addr × Obj) → Prop} {r : Addr} {a b : Int} {t u v : Tok} {n : Nat} {news : List (Addr × Obj)} (Inv : Nat → List Value → List (Addr × Obj) → Prop)
    (hh : A.handled = none) (F : Fr g L s.heap m) (N : News g L s.heap news) (hr : IsRange s.heap r a b 1 t u v) (hsm : Builtin.Range.small a b 1 = true) (hn : Builtin.Range.rangeSize a b 1 = ((n : Nat) : Int)) (h0 : Inv 0 [] news)
    (turn : ∀ hp I1 i t ys nw oI oC C D m₂ h tk (E' : Value → Shared → Prop), i < n → Inv i ys nw → NsObj oC m₂ → m₂ x = some (.int (a + (i : Int)) t) → Fr g L h m → News g L h ((I1, oI) :: (C, oC) :: (D, lst ys) :: nw) → OffAll [I1, C, D] nw → I1 ≠ C ∧ I1 ≠ D ∧ C ≠ D →
      wpAny (model prog w) A (eval i2 (compEnvC scope cl C env)) (fun xv s₃ => wpAny (model prog w) A (pyIter xv) (InnerAt prog w A env g L m { s with heap := hp } elt x y scope cl I1 C D oI (.int (a + (i : Int)) t) oC ys nw (fun ys nw => Inv (i + 1) ys nw ∧ True)) E' s₃) E' { s with heap := h, toks := tk })
    (hfin : ∀ hp D h tk ys nw, Inv n ys nw → OffAll [D] nw → News g L h ((D, lst ys) :: nw) → Fr g L h m → fin { s with heap := hp } D h tk ys nw) :
    wpAny (model prog w) A (pyIter (.ref r)) (OuterAt prog w A env g L m elt i2 x y scope cl fin) E s := by
  refine wpAny_pyIter_range hr hsm ?_
  refine ⟨_, _, _, _, _, _, news, Inv, rfl, hh, range_walks hh a n, moves_range, by show IsRangeIter _ _ _ _ _; rw [hn]; simpa using Heap.get?_push_size _ rfl, fun b hb => ?_, F.keeps fun _ _ e => Heap.get?_push_of_some _ e, N.grown fun _ _ e => Heap.get?_push_of_some _ e, next_is_new F, Nat.ne_of_lt F.ns.lt, fresh_at N, trivial, h0, ?_, ?_⟩
  · rw [List.mem_singleton.mp hb]
    show s.heap.objs.size < (s.heap.push _).objs.size
    rw [Heap.size_push]; exact Nat.lt_succ_self _
  · rintro i v ys nw oI oC C D m₂ h tk E' hi ⟨t', rfl⟩ iv hC hx F' N' off' ne'
    exact turn _ _ i t' ys nw oI oC C D m₂ h tk E' hi iv hC hx F' N' off' ne'
  · intro D h tk ys nw iv off' N' F'
    exact hfin _ D h tk ys nw iv off' N' F'
/-- a list of the ledger's head as the second clause's source -/
theorem inner_list {elt : Expr} {x y : Str} {scope : Scope} {cl : List (Str × Addr)} {I1 C D ax : Addr} {o1 oC : Obj} {v : Value} {ys : List Value} {nw : List (Addr × Obj)} {post : List Value → List (Addr × Obj) → Prop} {s₂ : Shared} {its : Array Value} {k : Nat} {h : Heap} {tk : Nat} (Inv2 : Nat → List Value → List (Addr × Obj) → Prop)
    (hh : A.handled = none) (F : Fr g L h m) (N : News g L h ((ax, ({ cls := .type "list", data := .seq its k } : Obj)) :: (I1, o1) :: (C, oC) :: (D, lst ys) :: nw)) (off : OffAll [I1, C, D] nw) (hax : ax ≠ I1 ∧ ax ≠ C ∧ ax ≠ D)
    (h0 : Inv2 0 ys ((ax, ({ cls := .type "list", data := .seq its k } : Obj)) :: nw)) (hsz : ∀ j ys nw, Inv2 j ys nw → ys.length ≤ sizeLine)
    (et : ∀ I2 j v2 ys nw o2 oC m₂ h tk (E' : Value → Shared → Prop), its[j]? = some v2 → Inv2 j ys nw → NsObj oC m₂ → m₂ x = some v → m₂ y = some v2 → Fr g L h m → News g L h ((I2, o2) :: (I1, o1) :: (C, oC) :: (D, lst ys) :: nw) → OffAll [I1, I2, C, D] nw →
      wpAny (model prog w) A (eval elt (compEnvC scope cl C env)) (EltEnd g L m s₂ [(I2, o2), (I1, o1), (C, oC), (D, lst ys)] nw (fun yv nw' => Inv2 (j + 1) (ys ++ [yv]) nw' ∧ ((ax, ({ cls := .type "list", data := .seq its k } : Obj)) ∈ nw → (ax, ({ cls := .type "list", data := .seq its k } : Obj)) ∈ nw'))) E' { s₂ with heap := h, toks := tk })
    (fin : ∀ ys nw, Inv2 its.size ys nw → post ys nw) : wpAny (model prog w) A (pyIter (.ref ax)) (InnerAt prog w A env g L m s₂ elt x y scope cl I1 C D o1 v oC ys nw post) E { s₂ with heap := h, toks := tk } := by
  have hl : h.IsList ax its := ⟨_, (N _ List.mem_cons_self).1, rfl, _, rfl⟩
  have hlt : ax < h.objs.size := Heap.lt_size (N _ List.mem_cons_self).1
  refine wpAny_pyIter_list hl ?_
  have up : ∀ b o, h.get? b = some o → (h.push { cls := .type "list_iterator", data := .fields #[.ref ax, .int 0 0] }).get? b = some o := fun b o e => Heap.get?_push_of_some _ e
  have fr := fresh_at N
  have hC := fr (C, oC) (by simp)
  have hD := fr (D, lst ys) (by simp)
  have hI := fr (I1, o1) (by simp)
  refine ⟨h.objs.size, [h.objs.size, ax], its.size, _, _, fun nw => (ax, ({ cls := .type "list", data := .seq its k } : Obj)) ∈ nw, Inv2, (ax, { cls := .type "list", data := .seq its k }) :: nw, _, tk, rfl, rfl, Walks.list hh h.objs.size ax (Nat.ne_of_lt hlt) its, moves_list (k := k), ⟨⟨_, Heap.get?_push_size _ rfl, rfl, rfl⟩, hl.push _⟩,
    F.keeps up, fun p hp => ?_, fun p hp a ha => ?_, ⟨hI, hC, hD, Nat.ne_of_lt F.ns.lt, next_is_new F⟩, ⟨?_, ?_⟩, List.mem_cons_self, h0, hsz, ?_, fun ys nw i _ => fin ys nw i⟩
  · have z := N.grown up p (by
      simp only [List.mem_cons] at hp ⊢
      rcases hp with h | h | h | h | h <;> simp [h])
    exact z
  · simp only [List.mem_cons, List.not_mem_nil, or_false] at ha
    rcases List.mem_cons.mp hp with rfl | hp
    · rcases ha with rfl | rfl | rfl | rfl
      · exact hax.1
      · exact Nat.ne_of_lt hlt
      · exact hax.2.1
      · exact hax.2.2
    · rcases ha with rfl | rfl | rfl | rfl
      · exact off p hp _ (by simp)
      · exact fr p (by simp [hp])
      · exact off p hp _ (by simp)
      · exact off p hp _ (by simp)
  · simp only [List.mem_cons, List.not_mem_nil, or_false, not_or]
    exact ⟨hC, Ne.symm hax.2.1⟩
  · simp only [List.mem_cons, List.not_mem_nil, or_false, not_or]
    exact ⟨hD, Ne.symm hax.2.2⟩
  · intro j v2 ys nw o2 oC m₂ h tk E' _ hP iv hS hC hx hy F' N' off'
    refine wpAny_mono (et _ j v2 ys nw o2 oC m₂ h tk E' hP iv hC hx hy F' N' off') (fun yv s' q => ?_) fun _ _ e => e
    obtain ⟨h', tk', nw', a, b, c, d, e, f⟩ := q
    exact ⟨h', tk', nw', a, b, c, d, e, f hS⟩
/-- a range as the second clause's source -/
theorem inner_range {elt : Expr} {x y : Str} {scope : Scope} {cl : List (Str × Addr)} {I1 C D r : Addr} {o1 oC : Obj} {v : Value} {ys : List Value} {nw nw0 : List (Addr × Obj)} {post : List Value → List (Addr × Obj) → Prop} {s₂ : Shared} {h : Heap} {tk : Nat} {a b : Int} {t u z : Tok} {n : Nat} (Inv2 : Nat → List Value → List (Addr × Obj) → Prop)
    (hh : A.handled = none) (F : Fr g L h m) (N : News g L h ((I1, o1) :: (C, oC) :: (D, lst ys) :: nw)) (off : OffAll [I1, C, D] nw) (hr : IsRange h r a b 1 t u z) (hsm : Builtin.Range.small a b 1 = true) (hn : Builtin.Range.rangeSize a b 1 = ((n : Nat) : Int))
    (h0 : Inv2 0 ys nw) (hsz : ∀ j ys nw, Inv2 j ys nw → ys.length ≤ sizeLine)
    (et : ∀ I2 j t ys nw o2 oC m₂ h tk (E' : Value → Shared → Prop), j < n → Inv2 j ys nw → NsObj oC m₂ → m₂ x = some v → m₂ y = some (.int (a + (j : Int)) t) → Fr g L h m → News g L h ((I2, o2) :: (I1, o1) :: (C, oC) :: (D, lst ys) :: nw) → OffAll [I1, I2, C, D] nw →
      wpAny (model prog w) A (eval elt (compEnvC scope cl C env)) (EltEnd g L m s₂ [(I2, o2), (I1, o1), (C, oC), (D, lst ys)] nw (fun yv nw' => Inv2 (j + 1) (ys ++ [yv]) nw')) E' { s₂ with heap := h, toks := tk })
    (fin : ∀ ys nw, Inv2 n ys nw → post ys nw) : wpAny (model prog w) A (pyIter (.ref r)) (InnerAt prog w A env g L m s₂ elt x y scope cl I1 C D o1 v oC ys nw0 post) E { s₂ with heap := h, toks := tk } := by
  refine wpAny_pyIter_range hr hsm ?_
  have up : ∀ q o, h.get? q = some o → (h.push { cls := .type "range_iterator", data := .fields #[.int a 0, .int (Builtin.Range.rangeSize a b 1) 0, .int 1 0] }).get? q = some o := fun b o e => Heap.get?_push_of_some _ e
  have fr := fresh_at N
  have hC := fr (C, oC) (by simp)
  have hD := fr (D, lst ys) (by simp)
  have hI := fr (I1, o1) (by simp)
  refine ⟨h.objs.size, [h.objs.size], n, _, _, fun _ => True, Inv2, nw, _, tk, rfl, rfl, range_walks hh a n, moves_range, by show IsRangeIter _ _ _ _ _; rw [hn]; simpa using Heap.get?_push_size _ rfl,
    F.keeps fun _ _ e => Heap.get?_push_of_some _ e, N.grown fun _ _ e => Heap.get?_push_of_some _ e, fun p hp a ha => ?_, ⟨hI, hC, hD, Nat.ne_of_lt F.ns.lt, next_is_new F⟩, ⟨by simpa using hC, by simpa using hD⟩, trivial, h0, hsz, ?_, fun ys nw i _ => fin ys nw i⟩
  · simp only [List.mem_cons, List.not_mem_nil, or_false] at ha
    rcases ha with rfl | rfl | rfl | rfl
    · exact off p hp _ (by simp)
    · exact fr p (by simp [hp])
    · exact off p hp _ (by simp)
    · exact off p hp _ (by simp)
  · rintro j v2 ys nw o2 oC m₂ h tk E' hj ⟨t', rfl⟩ iv _ hC hx hy F' N' off'
    refine wpAny_mono (et _ j t' ys nw o2 oC m₂ h tk E' hj iv hC hx hy F' N' off') (fun yv s' q => ?_) fun _ _ e => e
    obtain ⟨h', tk', nw', a, b, c, d, e⟩ := q
    exact ⟨h', tk', nw', a, b, c, d, e, trivial⟩
end
end Mine

end
section
open PySem PySem.W PyProof.Rows PySem.Calls
set_option maxHeartbeats 1000000
namespace Mine
/-- the parts of the law's row -/
def menu : List Str := [Str.ofString "08", Str.ofString "12", Str.ofString "", Str.ofString " 7", Str.ofString "1_0", Str.ofString "x", Str.ofString "-3", Str.ofString "+4"]
def Part (p : Str) : Prop := p ∈ menu
theorem part_cases {P : Str → Prop} (h : ∀ p ∈ menu, P p) {p : Str} (hp : Part p) : P p := h p hp
theorem menu_all {P : Str → Prop} (h0 : P (Str.ofString "08")) (h1 : P (Str.ofString "12")) (h2 : P (Str.ofString "")) (h3 : P (Str.ofString " 7")) (h4 : P (Str.ofString "1_0")) (h5 : P (Str.ofString "x")) (h6 : P (Str.ofString "-3")) (h7 : P (Str.ofString "+4")) {p : Str} (hp : Part p) : P p := by
  unfold Part menu at hp
  simp only [List.mem_cons, List.not_mem_nil, or_false] at hp
  rcases hp with rfl | rfl | rfl | rfl | rfl | rfl | rfl | rfl <;> assumption
theorem part_ok {p : Str} (h : Part p) : PartOk p :=
  menu_all (P := PartOk) (.inl ⟨8, by decide +kernel, by decide +kernel, by decide +kernel⟩) (.inl ⟨12, by decide +kernel, by decide +kernel, by decide +kernel⟩) (.inr ⟨by decide +kernel, .inr rfl⟩)
    (.inl ⟨7, by decide +kernel, by decide +kernel, by decide +kernel⟩) (.inl ⟨10, by decide +kernel, by decide +kernel, by decide +kernel⟩) (.inr ⟨by decide +kernel, .inl rfl⟩) (.inl ⟨-3, by decide +kernel, by decide +kernel, by decide +kernel⟩)
    (.inl ⟨4, by decide +kernel, by decide +kernel, by decide +kernel⟩) h
theorem part_short {p : Str} (h : Part p) : p.length ≤ 8 := menu_all (P := fun p => p.length ≤ 8) (by decide +kernel) (by decide +kernel) (by decide +kernel) (by decide +kernel) (by decide +kernel) (by decide +kernel) (by decide +kernel) (by decide +kernel) h
theorem part_dot {p : Str} (h : Part p) : (46 : Nat) ∉ p.cps.toList := menu_all (P := fun p => (46 : Nat) ∉ p.cps.toList) (by decide +kernel) (by decide +kernel) (by decide +kernel) (by decide +kernel) (by decide +kernel) (by decide +kernel) (by decide +kernel) (by decide +kernel) h
theorem part_par {p : Str} (h : Part p) : (41 : Nat) ∉ p.cps.toList := menu_all (P := fun p => (41 : Nat) ∉ p.cps.toList) (by decide +kernel) (by decide +kernel) (by decide +kernel) (by decide +kernel) (by decide +kernel) (by decide +kernel) (by decide +kernel) (by decide +kernel) h
theorem ok_int {p : Str} (h : PartOk p) : IntOk p := by
  rcases h with ⟨n, _, a, b⟩ | ⟨_, h⟩
  · exact .inl ⟨n, a, b⟩
  · exact .inr h
theorem int_num {p : Str} (h : PartOk p) : PySem.intText? p = numO p := by
  rcases h with ⟨n, a, b, _⟩ | ⟨a, rfl | rfl⟩
  · rw [a, b]
  · decide +kernel
  · decide +kernel
/-- what a number's text is like -/
theorem numT_good {p : Str} : (∃ n, numO p = some n ∧ PySem.intText? (numT p) = some n) ∨ numO p = none := by
  cases h : numO p with
  | none => exact .inr rfl
  | some n =>
    left
    refine ⟨n, rfl, ?_⟩
    unfold numT
    rw [h]
    rcases num_small h with rfl | rfl | rfl | rfl | rfl | rfl <;> decide +kernel
theorem numT_int {p : Str} {n : Int} (h : numO p = some n) : PySem.intText? (numT p) = some n := by
  rcases numT_good (p := p) with ⟨m, a, b⟩ | a
  · rw [h] at a; cases a; exact b
  · rw [h] at a; cases a
theorem numT_dot (p : Str) : (46 : Nat) ∉ (numT p).cps.toList := by
  unfold numT
  cases h : numO p with
  | none => decide +kernel
  | some n => rcases num_small h with rfl | rfl | rfl | rfl | rfl | rfl <;> decide +kernel
theorem numT_par (p : Str) : (41 : Nat) ∉ (numT p).cps.toList := by
  unfold numT
  cases h : numO p with
  | none => decide +kernel
  | some n => rcases num_small h with rfl | rfl | rfl | rfl | rfl | rfl <;> decide +kernel
theorem joinL_len (c : Nat) : ∀ l : List (List Nat), (joinL c l).length ≤ (l.map (·.length)).sum + l.length
  | [] => Nat.le_refl _
  | [p] => by simp [joinL]
  | p :: q :: r => by
    have ih := joinL_len c (q :: r)
    simp only [joinL, List.length_append, List.length_cons, List.map_cons, List.sum_cons] at ih ⊢
    omega
theorem joinL_mem {c d : Nat} (hd : d ≠ c) : ∀ {l : List (List Nat)}, (∀ p ∈ l, d ∉ p) → d ∉ joinL c l
  | [], _ => by simp [joinL]
  | [p], h => h p List.mem_cons_self
  | p :: q :: r, h => by
    have ih := joinL_mem hd (l := q :: r) fun x m => h x (List.mem_cons_of_mem _ m)
    simp only [joinL, List.mem_append, List.mem_cons, not_or]
    exact ⟨h p List.mem_cons_self, hd, ih⟩
theorem txt_joinL (parts : List Str) : (Txt.join (Str.ofString ".") parts).cps.toList = joinL 46 (parts.map (·.cps.toList)) := by
  have e1 : Txt.join ⟨#[46]⟩ parts = Str.join ⟨#[46]⟩ parts := StrLaws.glued_eq_join _ _
  rw [show (Str.ofString ".") = ⟨#[46]⟩ by decide +kernel, e1, joinL_eq]
theorem join_short {parts : List Str} (h : Short parts) (hn : parts.length ≤ 12) : (Txt.join (Str.ofString ".") parts).length ≤ 108 := by
  rw [len_l, txt_joinL]
  have h1 := joinL_len 46 (parts.map (·.cps.toList))
  have h2 := short_sum h
  have e : (List.map (fun x => x.length) (List.map (fun x : Str => x.cps.toList) parts)).sum = (parts.map (·.length)).sum := by
    rw [List.map_map]
    congr 1
  rw [e, List.length_map] at h1
  omega
theorem join_par {parts : List Str} (h : ∀ p ∈ parts, (41 : Nat) ∉ p.cps.toList) : (41 : Nat) ∉ (Txt.join (Str.ofString ".") parts).cps.toList := by
  rw [txt_joinL]
  refine joinL_mem (by decide) fun p hp => ?_
  obtain ⟨q, hq, rfl⟩ := List.mem_map.mp hp
  exact h q hq
theorem is_resp {qs : List Str} (hne : qs ≠ []) (hd : NoDot qs) (hp : ∀ p ∈ qs, (41 : Nat) ∉ p.cps.toList) (hs : Short qs) (hn : qs.length ≤ 12) :
    IsResp (respT (Txt.join (Str.ofString ".") qs)) (Txt.join (Str.ofString ".") qs).length (Txt.slice (respT (Txt.join (Str.ofString ".") qs)) (some 5) (some (((Txt.join (Str.ofString ".") qs).length : Int) + 7))) (⟨#[]⟩ :: qs ++ [⟨#[]⟩]) where
  len := respT_len _
  le := Nat.le_trans (join_short hs hn) (by decide)
  sz := by rw [respT_len]; exact Nat.le_trans (Nat.add_le_add_right (join_short hs hn) 8) (by decide)
  f1 := resp_head _
  f2 := resp_left _
  f3 := resp_right (join_par hp)
  f5 := resp_five _
  f6 := resp_six _
  f7 := rfl
  f8 := resp_parts hne hd
  midl := by
    rw [resp_mid, len_l, txt_joinL]
    simp only [List.map_cons, List.map_nil, joinL, List.length_append, List.length_cons, List.length_nil]
    have := join_short hs hn
    rw [len_l] at this
    omega
/-- a version's normed parts -/
def normP (parts : List Str) : List Str := if parts.any (fun p => (numO p).isNone) then parts.take 3 else (parts.take 3).map numT
theorem normed_join (parts : List Str) : normedT parts = Txt.join (Str.ofString ".") (normP parts) := rfl
theorem normP_ne {parts : List Str} (h : parts ≠ []) : normP parts ≠ [] := by
  unfold normP
  cases parts with
  | nil => exact absurd rfl h
  | cons p r => split <;> simp
theorem normP_len (parts : List Str) : (normP parts).length = (parts.take 3).length := by
  unfold normP
  split
  · rfl
  · rw [List.length_map]
theorem normP_all {P : Str → Prop} {parts : List Str} (h : ∀ p ∈ parts, P p) (hT : ∀ p, P (numT p)) : ∀ p ∈ normP parts, P p := fun p hp => by
  unfold normP at hp
  split at hp
  · exact h p (List.mem_of_mem_take hp)
  · obtain ⟨q, _, rfl⟩ := List.mem_map.mp hp
    exact hT q
theorem normP_int {parts : List Str} (h : ∀ p ∈ parts, PartOk p) : ∀ q ∈ normP parts, IntOk q := fun q hq => by
  unfold normP at hq
  split at hq
  · exact ok_int (h q (List.mem_of_mem_take hq))
  · rename_i ha
    obtain ⟨p, hp, rfl⟩ := List.mem_map.mp hq
    have hp' := List.mem_of_mem_take hp
    have hn : numO p ≠ none := by
      intro e
      apply ha
      rw [List.any_eq_true]
      exact ⟨p, hp', by rw [e]; rfl⟩
    obtain ⟨n, hn⟩ := Option.ne_none_iff_exists'.mp hn
    exact .inl ⟨n, numT_int hn, Nat.le_trans (short_nums [p] _ (by simp)) (by decide)⟩
theorem num_empty : numO Str.empty = none := by decide +kernel
theorem int_empty : PySem.intText? Str.empty = none := by decide +kernel
theorem ans_due1 {parts : List Str} {r : Str} (h : ∀ p ∈ parts, PartOk p) : ansD parts r = dueD parts r := by
  unfold ansD dueD
  by_cases h3 : parts.length = 3
  · rw [if_pos h3, if_pos h3]
    have : PySem.intText? (parts.getD 2 Str.empty) = numO (parts.getD 2 Str.empty) := by
      rw [List.getD_eq_getElem?_getD, List.getElem?_eq_getElem (by omega)]
      exact int_num (h _ (List.getElem_mem _))
    rw [this]
    all_goals (cases numO (parts.getD 2 Str.empty) <;> rfl)
  · rw [if_neg h3, if_neg h3]
theorem ans_due2 {parts : List Str} {r : Str} (h : ∀ p ∈ parts, PartOk p) : ansD (normP parts) r = dueD (parts.take 3) r := by
  unfold normP
  split
  · exact ans_due1 fun p hp => h p (List.mem_of_mem_take hp)
  · rename_i ha
    unfold ansD dueD
    rw [List.length_map]
    by_cases h3 : (parts.take 3).length = 3
    · rw [if_pos h3, if_pos h3]
      have hn : numO ((parts.take 3)[2]'(by omega)) ≠ none := by
        intro e
        apply ha
        rw [List.any_eq_true]
        exact ⟨_, List.mem_of_mem_take (List.getElem_mem (by omega : 2 < (parts.take 3).length)), by rw [e]; rfl⟩
      obtain ⟨n, hn⟩ := Option.ne_none_iff_exists'.mp hn
      have e1 : ((parts.take 3).map numT).getD 2 Str.empty = numT ((parts.take 3)[2]'(by omega)) := by
        rw [List.getD_eq_getElem?_getD, List.getElem?_map, List.getElem?_eq_getElem (by omega)]; rfl
      have e2 : (parts.take 3).getD 2 Str.empty = ((parts.take 3)[2]'(by omega)) := by
        rw [List.getD_eq_getElem?_getD, List.getElem?_eq_getElem (by omega)]; rfl
      rw [e1, e2, numT_int hn, hn]
    · rw [if_neg h3, if_neg h3]
/-- the second call of _norm_version -/
theorem split_init {l : List Str} (hd : NoDot l) : Txt.split (Txt.join (Str.ofString ".") l) (Str.ofString ".") = if l = [] then [Str.ofString ""] else l := by
  by_cases h : l = []
  · rw [if_pos h, h]; decide +kernel
  · rw [if_neg h]; exact split_join h hd
theorem normed_empty : normedT [Str.ofString ""] = normedT [] := by decide +kernel
end Mine

end
section
open PySem PySem.W PyProof.Rows PySem.Calls
set_option maxHeartbeats 4000000
namespace Mine
def nText (n : Int) : Str := Str.ofString (toString n)
def pieceB (p : Str) : Bool := isMark p || (match PySem.intText? p with | some _ => decide (p.length ≤ 640) | none => false)
theorem pieceB_ok {p : Str} (h : pieceB p = true) : PieceOk p := by
  unfold pieceB at h
  unfold PieceOk
  cases hm : isMark p with
  | true => exact .inl rfl
  | false =>
    right
    rw [hm, Bool.false_or] at h
    cases hn : PySem.intText? p with
    | none => rw [hn] at h; cases h
    | some n => rw [hn] at h; exact ⟨rfl, n, rfl, of_decide_eq_true h⟩
def nums6 : List Int := [8, 12, 7, 10, -3, 4]
def nTx (n : Int) : Str := if n = 8 then ⟨#[56]⟩ else if n = 12 then ⟨#[49, 50]⟩ else if n = 7 then ⟨#[55]⟩ else if n = 10 then ⟨#[49, 48]⟩ else if n = 4 then ⟨#[52]⟩ else ⟨#[45, 51]⟩
theorem nTx_is {n : Int} (h : n ∈ nums6) : nText n = nTx n := by
  simp only [nums6, List.mem_cons, List.not_mem_nil, or_false] at h
  rcases h with rfl | rfl | rfl | rfl | rfl | rfl <;> decide +kernel
/-- the pieces of a number, of a version of numbers -/
def pcs (n : Int) : List Str := if n = -3 then [⟨#[]⟩, ⟨#[45]⟩, ⟨#[]⟩, ⟨#[51]⟩] else [⟨#[]⟩, nTx n]
def expP (ns : List Int) : List Str := match ns with
  | [] => []
  | a :: r => pcs a ++ (r.flatMap fun n => [⟨#[]⟩, ⟨#[46]⟩] ++ pcs n) ++ [⟨#[]⟩]
noncomputable def chkX (x : Str) (exp : List Str) : Bool := match cuts x.cps (2 * x.cps.size + 3) 0 with
  | none => false
  | some (all, z) => decide (all.map (sl x.cps) ++ [sl x.cps (z, x.cps.size)] = exp) && decide (x.cps.size ≤ 100)
noncomputable def chkN (ns : List Int) : Bool := chkX (Txt.join (⟨#[46]⟩) (ns.map nTx)) (expP ns)
theorem pcs_vals {n : Int} (h : n ∈ nums6) : valsOf (pcs n) = [100, (n.natAbs : Int)] := by
  simp only [nums6, List.mem_cons, List.not_mem_nil, or_false] at h
  rcases h with rfl | rfl | rfl | rfl | rfl | rfl <;> decide +kernel
theorem pcs_ok {n : Int} (h : n ∈ nums6) : (pcs n).all pieceB = true := by
  simp only [nums6, List.mem_cons, List.not_mem_nil, or_false] at h
  rcases h with rfl | rfl | rfl | rfl | rfl | rfl <;> decide +kernel
theorem vals_app (a b : List Str) : valsOf (a ++ b) = valsOf a ++ valsOf b := List.flatMap_append
theorem vals_dot : valsOf [⟨#[]⟩, ⟨#[46]⟩] = [] := by decide +kernel
theorem vals_end : valsOf [⟨#[]⟩] = [] := by decide +kernel
theorem ok_dot : [(⟨#[]⟩ : Str), ⟨#[46]⟩].all pieceB = true := by decide +kernel
theorem ok_end : [(⟨#[]⟩ : Str)].all pieceB = true := by decide +kernel
theorem vals_rest : ∀ {r : List Int}, (∀ n ∈ r, n ∈ nums6) → valsOf (r.flatMap fun n => [⟨#[]⟩, ⟨#[46]⟩] ++ pcs n) = r.flatMap fun n => [100, (n.natAbs : Int)]
  | [], _ => rfl
  | n :: r, h => by
    rw [List.flatMap_cons, List.flatMap_cons, vals_app, vals_app, vals_dot, pcs_vals (h n List.mem_cons_self), vals_rest fun x hx => h x (List.mem_cons_of_mem _ hx)]
    rfl
theorem exp_vals {ns : List Int} (h : ∀ n ∈ ns, n ∈ nums6) : valsOf (expP ns) = ns.flatMap fun n => [100, (n.natAbs : Int)] := by
  cases ns with
  | nil => rfl
  | cons a r =>
    show valsOf (pcs a ++ _ ++ _) = _
    rw [vals_app, vals_app, vals_end, pcs_vals (h a List.mem_cons_self), vals_rest fun x hx => h x (List.mem_cons_of_mem _ hx), List.append_nil, List.flatMap_cons]
theorem exp_ok {ns : List Int} (h : ∀ n ∈ ns, n ∈ nums6) : ∀ p ∈ expP ns, PieceOk p := fun p hp => by
  refine pieceB_ok ?_
  cases ns with
  | nil => cases hp
  | cons a r =>
    rcases List.mem_append.mp hp with hp | hp
    · rcases List.mem_append.mp hp with hp | hp
      · exact List.all_eq_true.mp (pcs_ok (h a List.mem_cons_self)) p hp
      · obtain ⟨n, hn, hp⟩ := List.mem_flatMap.mp hp
        rcases List.mem_append.mp hp with hp | hp
        · exact List.all_eq_true.mp ok_dot p hp
        · exact List.all_eq_true.mp (pcs_ok (h n (List.mem_cons_of_mem _ hn))) p hp
    · exact List.all_eq_true.mp ok_end p hp
theorem chk1 : (nums6.all fun a => chkN [a]) = true := by decide +kernel
theorem chk2 : (nums6.all fun a => nums6.all fun b => chkN [a, b]) = true := by decide +kernel
theorem chk3 : (nums6.all fun a => nums6.all fun b => nums6.all fun c => chkN [a, b, c]) = true := by decide +kernel
theorem num6 {p : Str} (h : (numO p).isNone = false) : (numO p).getD 0 ∈ nums6 := by
  cases hn : numO p with
  | none => rw [hn] at h; cases h
  | some n => rcases num_small hn with rfl | rfl | rfl | rfl | rfl | rfl <;> decide
/-- the numbers of a version, behind 100, without sign -/
def absL (parts : List Str) : List Int := (parts.take 3).flatMap fun p => [100, (((numO p).getD 0).natAbs : Int)]
theorem cmp_law {parts : List Str} (hne : parts ≠ []) (ha : (parts.any fun p => (numO p).isNone) = false) : ∃ all z, cuts (normedT parts).cps (2 * (normedT parts).cps.size + 3) 0 = some (all, z) ∧
    (∀ p ∈ all.map (sl (normedT parts).cps) ++ [sl (normedT parts).cps (z, (normedT parts).cps.size)], PieceOk p) ∧ valsOf (all.map (sl (normedT parts).cps) ++ [sl (normedT parts).cps (z, (normedT parts).cps.size)]) = absL parts ∧ all.length ≤ 400 ∧
    (normedT parts).cps.size ≤ 100 := by
  have e : normedT parts = Txt.join (Str.ofString ".") (((parts.take 3).map fun p => (numO p).getD 0).map nText) := by
    unfold normedT
    rw [if_neg (by rw [ha]; decide), List.map_map]
    rfl
  have e2 : absL parts = ((parts.take 3).map fun p => (numO p).getD 0).flatMap fun n => [100, (n.natAbs : Int)] := by
    unfold absL
    rw [List.flatMap_map]
  have hm : ∀ n ∈ (parts.take 3).map (fun p => (numO p).getD 0), n ∈ nums6 := fun n hn => by
    obtain ⟨p, hp, rfl⟩ := List.mem_map.mp hn
    refine num6 ?_
    rw [List.any_eq_false] at ha
    have := ha p (List.mem_of_mem_take hp)
    simpa [Option.isNone_eq_false_iff, Option.isSome_iff_ne_none] using this
  have e3 : ((parts.take 3).map fun p => (numO p).getD 0).map nText = ((parts.take 3).map fun p => (numO p).getD 0).map nTx := List.map_congr_left fun n hn => nTx_is (hm n hn)
  rw [e, e2, e3, show (Str.ofString ".") = ⟨#[46]⟩ by decide +kernel]
  have hl : ((parts.take 3).map fun p => (numO p).getD 0).length ≤ 3 := by rw [List.length_map, List.length_take]; omega
  have hne' : ((parts.take 3).map fun p => (numO p).getD 0) ≠ [] := by
    cases parts with
    | nil => exact absurd rfl hne
    | cons p r => simp
  generalize ((parts.take 3).map fun p => (numO p).getD 0) = ns at hm hl hne'
  have h : chkN ns = true := by
    match ns, hm, hl, hne' with
    | [a], hm, _, _ => exact List.all_eq_true.mp chk1 a (hm a (by simp))
    | [a, b], hm, _, _ => exact List.all_eq_true.mp (List.all_eq_true.mp chk2 a (hm a (by simp))) b (hm b (by simp))
    | [a, b, c], hm, _, _ => exact List.all_eq_true.mp (List.all_eq_true.mp (List.all_eq_true.mp chk3 a (hm a (by simp))) b (hm b (by simp))) c (hm c (by simp))
    | _ :: _ :: _ :: _ :: _, _, hl, _ => simp at hl
  unfold chkN chkX at h
  split at h
  · cases h
  · rename_i all z hc
    simp only [Bool.and_eq_true, decide_eq_true_eq] at h
    refine ⟨all, z, hc, ?_, ?_, ?_, h.2⟩
    · rw [h.1]; exact exp_ok hm
    · rw [h.1]; exact exp_vals hm
    · have := cuts_len (Nat.le_trans h.2 (by decide)) hc
      dsimp only at this
      omega
end Mine

end
section
open PySem PySem.W PyProof.Rows PySem.Calls
set_option maxHeartbeats 2000000
namespace Mine
section
variable {w : World} {d' u' : Nat} {outer : List Env} {base h₀ : Heap} {L a : Addr} {m : Str → Option Value} {news : List (Addr × Obj)} {s : Shared} {mean : ExcName → Option Value} {mg mb : Str → Option Value} {n : Str} {sc : Scope} {cd : Value} {Q E : Value → Shared → Prop}
theorem use_normed {D : Addr} {its : Array Value} {parts : List Str} (B : Below (AA d' u' outer) base outer h₀) (F : Fr h₀ L s.heap m) (N : News h₀ L s.heap news) (XB : (Mine.hd.heap_39 w.params).In base) (TB : Top Mine.hd.view_39 (looseW Mine.hd.view_39 [Str.ofString "_twin_re_1", Str.ofString "_ver_stages", Str.ofString "_norm_version"]) mean mg mb base) (hl : s.heap.IsList D its) (hp : StrsAre its.toList parts)
    (hn : parts.length ≤ 64) (hs : Short parts) (hd : d' + 1 ≤ 550) (hu : u' + 3 ≤ 2500)
    (h : ∀ t h' tk', Fr h₀ L h' m → News h₀ L h' news → Q (.str (normedT parts) t) { s with heap := h', toks := tk' }) (hk : sc.kind = .function := by rfl) :
    wpAny (model PySem.Challenge.rw_pe0058_01.row.prog w) ((AA d' u' outer).deeper (envOf n sc L a cd)) (call (.ref 108) [.ref D]) Q E s :=
  use_calm (normed_spec w D its.toList parts hp hn hs) B F N XB TB (by show s.heap.IsList D its.toList.toArray; rw [Array.toArray_toList]; exact hl) hd hu (fun v h' tk' F' N' _ r => by obtain ⟨t, rfl⟩ := r; exact h t h' tk' F' N') hk
theorem use_number {x : Str} {t : Tok} (B : Below (AA d' u' outer) base outer h₀) (F : Fr h₀ L s.heap m) (N : News h₀ L s.heap news) (XB : (Mine.hd.heap_39 w.params).In base) (TB : Top Mine.hd.view_39 (looseW Mine.hd.view_39 [Str.ofString "_twin_re_1", Str.ofString "_ver_stages", Str.ofString "_norm_version"]) mean mg mb base) (hd : d' + 1 ≤ 600) (hu : u' + 3 ≤ 3000)
    (h : ∀ v h' tk', PyProof.V.Flat v (numD x) → Fr h₀ L h' m → News h₀ L h' news → Q v { s with heap := h', toks := tk' }) (hk : sc.kind = .function := by rfl) :
    wpAny (model PySem.Challenge.rw_pe0058_01.row.prog w) ((AA d' u' outer).deeper (envOf n sc L a cd)) (call (.ref 103) [.str x t]) Q E s :=
  use_calm (number_spec w x t) B F N XB TB True.intro hd hu (fun v h' tk' F' N' _ r => h v h' tk' r F' N') hk
theorem use_due {D : Addr} {its : Array Value} {parts : List Str} {r : Str} {t : Tok} (B : Below (AA d' u' outer) base outer h₀) (F : Fr h₀ L s.heap m) (N : News h₀ L s.heap news) (XB : (Mine.hd.heap_39 w.params).In base) (TB : Top Mine.hd.view_39 (looseW Mine.hd.view_39 [Str.ofString "_twin_re_1", Str.ofString "_ver_stages", Str.ofString "_norm_version"]) mean mg mb base) (hl : s.heap.IsList D its) (hp : StrsAre its.toList parts)
    (hn : parts.length ≤ 64) (hr : r.length ≤ 1000) (hd : d' + 1 ≤ 550) (hu : u' + 3 ≤ 2500)
    (h : ∀ v h' tk', (∃ as, PySem.Reads h' v (dueD parts r) as) → s.heap.StaysIn h' → Fr h₀ L h' m → News h₀ L h' news → Q v { s with heap := h', toks := tk' }) (hk : sc.kind = .function := by rfl) :
    wpAny (model PySem.Challenge.rw_pe0058_01.row.prog w) ((AA d' u' outer).deeper (envOf n sc L a cd)) (call (.ref 122) [.ref D, .str r t]) Q E s :=
  use_calm (due_spec w D its.toList parts r t hp hn hr) B F N XB TB (by show s.heap.IsList D its.toList.toArray; rw [Array.toArray_toList]; exact hl) hd hu (fun v h' tk' F' N' st r => h v h' tk' r st F' N') hk
theorem use_cmp {parts : List Str} {t : Tok} (B : Below (AA d' u' outer) base outer h₀) (F : Fr h₀ L s.heap m) (N : News h₀ L s.heap news) (XB : (Mine.hd.heap_39 w.params).In base) (TB : Top Mine.hd.view_39 (looseW Mine.hd.view_39 [Str.ofString "_twin_re_1", Str.ofString "_ver_stages", Str.ofString "_norm_version"]) mean mg mb base) (hne : parts ≠ []) (ha : (parts.any fun p => (numO p).isNone) = false)
    (hd : d' + 1 ≤ 550) (hu : u' + 3 ≤ 2500)
    (h : ∀ D its c h' tk', IntsAre its.toList (absL parts) → Fr h₀ L h' m → News h₀ L h' ((D, { cls := .type "list", data := .seq its c }) :: news) → Q (.ref D) { s with heap := h', toks := tk' }) (hk : sc.kind = .function := by rfl) :
    wpAny (model PySem.Challenge.rw_pe0058_01.row.prog w) ((AA d' u' outer).deeper (envOf n sc L a cd)) (call (.ref 44) [.str (normedT parts) t]) Q E s := by
  obtain ⟨all, z, h1, h2, h3, h4, h5⟩ := cmp_law hne ha
  refine use_calm (cmp_spec w (normedT parts) t all z h5 h1 h2 h4) B F N XB TB True.intro hd hu (fun v h' tk' F' N' st r => ?_) hk
  obtain ⟨D, its, c, rfl, g0, g, i⟩ := r
  rw [h3] at i
  refine h D its c h' tk' i F' fun p hp => ?_
  rcases List.mem_cons.mp hp with rfl | hp
  · refine ⟨g, ?_, ?_⟩
    · rintro rfl
      obtain ⟨o, _, _, ho, _⟩ := F.ns
      dsimp only at ho
      rw [g0] at ho
      cases ho
    · cases q : h₀.get? D with
      | none => rfl
      | some o => have := F.keep D o q; rw [g0] at this; cases this
  · exact N' p hp
theorem use_norm1 {l : Addr} {its : Array Value} {parts : List Str} {t : Tok} (B : Below (AA d' u' outer) base outer h₀) (F : Fr h₀ L s.heap m) (N : News h₀ L s.heap news) (XB : (Mine.hd.heap_39 w.params).In base) (TB : Top Mine.hd.view_39 (looseW Mine.hd.view_39 [Str.ofString "_twin_re_1", Str.ofString "_ver_stages", Str.ofString "_norm_version"]) mean mg mb base) (D : KtsDicts (fsOf outer) h₀) (hP : h₀.IsList l its)
    (hok : ∀ p ∈ parts, Part p) (hne : parts ≠ []) (hn : parts.length ≤ 12) (hd : d' + 1 ≤ 550) (hu : u' + 3 ≤ 2500)
    (h : ∀ t g' h' tk', KtsTurn (fsOf outer) h₀ g' → Fr g' L h' m → News g' L h' news → Below (AA d' u' outer) base outer g' → (Mine.hd.heap_39 w.params).In g' → Top Mine.hd.view_39 (looseW Mine.hd.view_39 [Str.ofString "_twin_re_1", Str.ofString "_ver_stages", Str.ofString "_norm_version"]) mean mg mb g' → KtsDicts (fsOf outer) g' → g'.IsList l its → Q (.str (normedT parts) t) { s with heap := h', toks := tk' }) (hk : sc.kind = .function := by rfl) :
    wpAny (model PySem.Challenge.rw_pe0058_01.row.prog w) ((AA d' u' outer).deeper (envOf n sc L a cd)) (call (.ref 52) [.str (Txt.join (Str.ofString ".") parts) t]) Q E s := by
  have hsh : Short parts := fun p h => part_short (hok p h)
  refine use_turns (norm_spec1 w _ t parts (split_join hne fun p h => part_dot (hok p h)) (Nat.le_trans (join_short hsh hn) (by decide)) (by omega) (fun p h => part_ok (hok p h)) hsh) B F N XB TB D True.intro hd hu (fun v g' h' tk' T' F' N' B' X' T2 D' r => ?_) hk
  obtain ⟨t', rfl⟩ := r
  exact h t' g' h' tk' T' F' N' B' X' T2 D' (kts_list T' D hP)
/-- what the second call of _norm_version gives back -/
def norm2T (ini : List Str) (b : Str) : Str := normedT (if b.length = 0 then (if ini = [] then [Str.ofString ""] else ini) else (if ini = [] then [Str.ofString ""] else ini) ++ [b])
theorem part_nil : Part (Str.ofString "") := by unfold Part menu; simp
theorem use_norm2 {l : Addr} {its : Array Value} {ini : List Str} {b : Str} {t u : Tok} (B : Below (AA d' u' outer) base outer h₀) (F : Fr h₀ L s.heap m) (N : News h₀ L s.heap news) (XB : (Mine.hd.heap_39 w.params).In base) (TB : Top Mine.hd.view_39 (looseW Mine.hd.view_39 [Str.ofString "_twin_re_1", Str.ofString "_ver_stages", Str.ofString "_norm_version"]) mean mg mb base) (D : KtsDicts (fsOf outer) h₀) (hP : h₀.IsList l its)
    (hok : ∀ p ∈ ini, Part p) (hb : Part b) (hn : ini.length ≤ 12) (hd : d' + 1 ≤ 550) (hu : u' + 3 ≤ 2500)
    (h : ∀ t g' h' tk', KtsTurn (fsOf outer) h₀ g' → Fr g' L h' m → News g' L h' news → Below (AA d' u' outer) base outer g' → (Mine.hd.heap_39 w.params).In g' → Top Mine.hd.view_39 (looseW Mine.hd.view_39 [Str.ofString "_twin_re_1", Str.ofString "_ver_stages", Str.ofString "_norm_version"]) mean mg mb g' → KtsDicts (fsOf outer) g' → g'.IsList l its → Q (.str (norm2T ini b) t) { s with heap := h', toks := tk' }) (hk : sc.kind = .function := by rfl) :
    wpAny (model PySem.Challenge.rw_pe0058_01.row.prog w) ((AA d' u' outer).deeper (envOf n sc L a cd)) (call (.ref 52) [.str (Txt.join (Str.ofString ".") ini) t, .str b u]) Q E s := by
  have hok2 : ∀ p ∈ (if ini = [] then [Str.ofString ""] else ini), Part p := fun p hp => by
    split at hp
    · rw [List.mem_singleton.mp hp]; exact part_nil
    · exact hok p hp
  have hl2 : (if ini = [] then [Str.ofString ""] else ini).length ≤ 12 := by
    split
    · decide
    · exact hn
  have hsh : Short ini := fun p h => part_short (hok p h)
  refine use_turns (norm_spec2 w _ b t u _ (split_init fun p h => part_dot (hok p h)) (Nat.le_trans (join_short hsh hn) (by decide)) (Nat.le_trans hl2 (by decide)) (fun p h => part_ok (hok2 p h)) (part_ok hb) (fun p hp => ?_)) B F N XB TB D True.intro hd hu (fun v g' h' tk' T' F' N' B' X' T2 D' r => ?_) hk
  · rcases List.mem_append.mp hp with hp | hp
    · exact part_short (hok2 p hp)
    · rw [List.mem_singleton.mp hp]; exact part_short hb
  · obtain ⟨t', rfl⟩ := r
    exact h t' g' h' tk' T' F' N' B' X' T2 D' (kts_list T' D hP)
end
section
variable {prog : Program} {w : World} {A : Around} {E : Value → Shared → Prop} {s : Shared}
theorem ne_same {x : Str} {t u : Tok} {Q : Value → Shared → Prop} (h : Q (.bool false) s) : wpAny (model prog w) A (compareOp .NotEq (.str x t) (.str x u)) Q E s := ne_str (by simpa using h)
theorem eq_to {x y : Str} {t u : Tok} {b : Bool} {Q : Value → Shared → Prop} (e : (x == y) = b) (h : Q (.bool b) s) : wpAny (model prog w) A (compareOp .Eq (.str x t) (.str y u)) Q E s := eq_str (by rw [e]; exact h)
end
end Mine

end
section
open PySem PySem.W PyProof.Rows PySem.Calls
set_option maxHeartbeats 1000000
namespace Mine
open LCg
/-- what is a tuple stays -/
def TupLike (h h' : Heap) : Prop := ∀ b o vs n, h.get? b = some o → o.cls = .type "tuple" → o.data = .seq vs n → h'.get? b = some o
theorem TupLike.of {h h' : Heap} (k : ∀ b o, h.get? b = some o → h'.get? b = some o) : TupLike h h' := fun b o _ _ e _ _ => k b o e
theorem TupLike.trans {a b c : Heap} (x : TupLike a b) (y : TupLike b c) : TupLike a c := fun i o vs n e c d => y i o vs n (x i o vs n e c d) c d
theorem TupLike.but {h h' : Heap} {I : Addr} {oI : Obj} (hI : h.get? I = some oI) (hc : oI.cls ≠ .type "tuple" ∨ ∀ vs n, oI.data ≠ .seq vs n) (k : ∀ b o, b ≠ I → h.get? b = some o → h'.get? b = some o) : TupLike h h' :=
  fun b o vs n e c d => k b o (fun q => by subst q; rw [hI] at e; cases e; exact hc.elim (fun hc => hc c) (fun hc => hc _ _ d)) e
/-- a turn's end, the word speaking of the heap -/
def StepEndH (Gd : Heap → Prop) (L : Addr) (m : Str → Option Value) (s : Shared) (l : List (Addr × Obj)) (P : Heap → Prop) (s₂ : Shared) : Prop :=
  ∃ g' h' tk', s₂ = { s with heap := h', toks := tk' } ∧ P h' ∧ Gd g' ∧ Fr g' L h' m ∧ News g' L h' l
section
variable {prog : Program} {w : World} {A : Around} {E : Value → Shared → Prop} {s : Shared} {L : Addr} {m : Str → Option Value} {env : Env}
theorem comp_blockH {elt iter : Expr} {ifs : List Expr} {x : Str} {px : Pos} {scope : Scope} {cl : List (Str × Addr)} {pos : Pos} {s₂ : Shared} {g : Heap} {I ax : Addr} {its : Array Value} {news : List (Addr × Obj)} {Gd : Heap → Prop}
    {Inv : Nat → List Value → Heap → Prop} {RR : Value → Addr → Result → Shared → Prop} (hh : A.handled = none) (stay : ∀ i ys h h', Inv i ys h → TupLike h h' → Inv i ys h') (hax : ax ≠ I)
    (hsz : its.size ≤ sizeLine) (same : ∀ g g', Gd g → Gd g' → ∀ b, g.get? b = none → g'.get? b = none)
    (src : ∀ g h, Gd g → Fr g L h m → News g L h news → h.IsList ax its)
    (hcell : ∀ y ∈ scope.names, y.2 ≠ .cell) (hkind : scope.kind = .function) (hx : scope.names.lookup x = some .local) (hst : s₂.heap.IsListIter I ax 0 ∧ s₂.heap.IsList ax its)
    (G : Gd g) (F : Fr g L s₂.heap m) (N : News g L s₂.heap news) (hIL : L ≠ I) (hI₀ : g.get? I = none) (off : ∀ p ∈ news, p.1 ≠ I)
    (turn : ∀ i v ys g I oI C oC D m₂ h tk (E' : Value → Shared → Prop), its[i]? = some v → Inv i ys h → ys.length ≤ i → Gd g → NsObj oC m₂ → m₂ x = some v → Fr g L h m → News g L h ((I, oI) :: (C, oC) :: (D, lst ys) :: news) →
      wpS SC (model prog w) A (testsOf ifs (compEnvC scope cl C env)) (fun ok s' => if ok = true then
        wpS SC (model prog w) A (eval elt (compEnvC scope cl C env)) (fun y s'' => StepEndH Gd L m s₂ ((I, oI) :: (C, oC) :: (D, lst ys) :: news) (Inv (i + 1) (ys ++ [y])) s'') E' s'
        else StepEndH Gd L m s₂ ((I, oI) :: (C, oC) :: (D, lst ys) :: news) (Inv (i + 1) ys) s') E' { s₂ with heap := h, toks := tk })
    (h0 : Inv 0 [] s₂.heap)
    (hRR : ∀ g D C h tk m' ys, Gd g → Fr g L h m → News g L h ((D, lst ys) :: news) → h.Ns C m' → g.get? C = none → g.get? D = none → C ≠ L → D ≠ L → C ≠ D → (∀ p ∈ news, p.1 ≠ C) → Inv its.size ys h → RR (.ref D) C (.ok .next) { s₂ with heap := h, toks := tk }) :
    wpAny (model prog w) A (newList []) (fun acc s₃ => wpAny (model prog w) A (newFunctionEnv scope env.globals cl [] env.qual none .none (some env)) (fun cenv s₄ =>
      codeS SC (model prog w) A (.compStart (.ListComp elt [⟨.Name x px, iter, ifs, 0⟩] scope pos) 0 (.ref I) acc { cenv with scope := relabel scope env }) (RR acc cenv.locals) s₄) E s₃) E s₂ := by
  have W := Walks.list (prog := prog) (w := w) (A := A) hh I ax hax its
  have hfp : ∀ b ∈ [I, ax], b < s₂.heap.objs.size := fun b hb => by
    rcases List.mem_cons.mp hb with rfl | hb
    · obtain ⟨_, e, _⟩ := hst.1; exact Heap.lt_size e
    · rw [List.mem_singleton.mp hb]; obtain ⟨_, e, _⟩ := hst.2; exact Heap.lt_size e
  refine wpAny_newObj_type (wpAny_newFunctionEnv hcell (by intro y hy; simp at hy) (fun h₁ hns₁ hsb₁ => ?_) hkind)
  dsimp only at hns₁ hsb₁ ⊢
  generalize hH2 : s₂.heap.push { cls := .type "list", dict := none, data := .seq ([] : List Value).toArray } = H2 at hns₁ hsb₁ ⊢
  have hC : H2.objs.size = s₂.heap.objs.size + 1 := by rw [← hH2, Heap.size_push]
  have hDC : s₂.heap.objs.size ≠ H2.objs.size := by rw [hC]; exact Nat.ne_of_lt (Nat.lt_succ_self _)
  have below : ∀ b, b < s₂.heap.objs.size → b ≠ H2.objs.size ∧ b ≠ s₂.heap.objs.size := fun b hb => ⟨by rw [hC]; exact Nat.ne_of_lt (Nat.lt_succ_of_lt hb), Nat.ne_of_lt hb⟩
  have hDf : s₂.heap.objs.size ∉ [I, ax] := fun hm => Nat.lt_irrefl _ (hfp _ hm)
  have hCf : H2.objs.size ∉ [I, ax] := fun hm => by have := hfp _ hm; rw [hC] at this; exact Nat.lt_irrefl _ (Nat.lt_of_succ_lt this)
  have hIlt : I < s₂.heap.objs.size := hfp I (.head _)
  have old : ∀ b o, s₂.heap.get? b = some o → h₁.get? b = some o := fun b o e => hsb₁.extBut b o (below b (Heap.lt_size e)).1 (Heap.get?_push_of_some _ (hH2 ▸ Heap.get?_push_of_some _ e))
  have hacc : h₁.get? s₂.heap.objs.size = some (lst []) := hsb₁.extBut _ _ hDC (Heap.get?_push_of_some _ (hH2 ▸ Heap.get?_push_size _ rfl))
  have hst₁ := W.frame _ _ _ hst fun b _ o e => old b o e
  have fresh : ∀ a, s₂.heap.objs.size ≤ a → s₂.heap.get? a = none := fun a ha => by
    cases e : s₂.heap.get? a with
    | none => rfl
    | some o' => exact absurd (Heap.lt_size e) (Nat.not_lt.mpr ha)
  have fresh₀ : ∀ a, s₂.heap.objs.size ≤ a → g.get? a = none := fun a ha => by
    cases e : g.get? a with
    | none => rfl
    | some o' => have := F.keep a o' e; rw [fresh a ha] at this; cases this
  have hD₀ : ∀ g', Gd g' → g'.get? s₂.heap.objs.size = none := fun g' G' => same g g' G G' _ (fresh₀ _ (Nat.le_refl _))
  have hC₀ : ∀ g', Gd g' → g'.get? H2.objs.size = none := fun g' G' => same g g' G G' _ (fresh₀ _ (by rw [hC]; exact Nat.le_succ _))
  have hI₁ : ∀ g', Gd g' → g'.get? I = none := fun g' G' => same g g' G G' _ hI₀
  have hLlt : L < s₂.heap.objs.size := F.ns.lt
  have hDL : s₂.heap.objs.size ≠ L := Ne.symm (below L hLlt).2
  have hCL : H2.objs.size ≠ L := Ne.symm (below L hLlt).1
  have hCI : I ≠ H2.objs.size := (below I hIlt).1
  have hDI : I ≠ s₂.heap.objs.size := (below I hIlt).2
  have offn : ∀ p ∈ news, p.1 ≠ I ∧ p.1 ≠ H2.objs.size ∧ p.1 ≠ s₂.heap.objs.size := fun p hp => ⟨off p hp, (below _ (Heap.lt_size (N p hp).1)).1, (below _ (Heap.lt_size (N p hp).1)).2⟩
  have loop : ∀ s₃ : Shared, s₃ = { s₂ with heap := h₁, toks := s₂.toks + ([] : List (Str × Value)).length } →
      codeS SC (model prog w) A (.compLoop (.ListComp elt [⟨.Name x px, iter, ifs, 0⟩] scope pos) 0 (.ref I) (.ref s₂.heap.objs.size) (compEnvC scope cl H2.objs.size env))
        (RR (.ref s₂.heap.objs.size) H2.objs.size) s₃ := by
    rintro s₃ rfl
    refine codeS_compLoop
      (fun k s' => ∃ g' h' tk i ys m', s' = { s₂ with heap := h', toks := tk } ∧ i ≤ its.size ∧ k = its.size + 1 - i ∧ ys.length ≤ i ∧ (h'.IsListIter I ax i ∧ h'.IsList ax its) ∧ Gd g' ∧ Fr g' L h' m ∧ h'.Ns H2.objs.size m' ∧ News g' L h' ((s₂.heap.objs.size, lst ys) :: news) ∧
        Inv i ys h') ?_ (its.size + 1)
      ⟨g, h₁, _, 0, [], _, rfl, Nat.zero_le _, rfl, Nat.le_refl _, hst₁, G, F.keeps old, hns₁, fun p hp => ?_, stay _ _ _ _ h0 (.of old)⟩
    · rintro k s' ⟨g', h', tk, i, ys, m', rfl, hi, rfl, hyl, hst', G', F', hn', N', R'⟩
      by_cases hlt : i < its.size
      · refine W.item i _ _ _ hlt hst' fun v h₂ tk₂ hPv hst₂ hk₂ => ?_
        refine wpAny_assign_Name (wpAny_storeName_local (lookup_relabel_local hx) (hn'.at' fun o e => hk₂ _ o (by simpa using Ne.symm hCI) e) (fun h₃ hn₃ hs₃ => ?_) (by simp [compEnvC, relabel, hkind]))
        have hst₃ := W.frame _ _ _ hst₂ fun b hb o e => hs₃.extBut b o (fun q => hCf (by have q' : b = H2.objs.size := q; rw [← q']; exact hb)) e
        obtain ⟨oI, heI, hoI⟩ := hst₃.1
        obtain ⟨oC, heC, hoC⟩ := ns_obj hn₃
        have F₃ : Fr g' L h₃ m := (fr_but F' hk₂ hIL (hI₁ g' G')).change hs₃ hCL (hC₀ g' G')
        have N₂ : News g' L h₂ ((s₂.heap.objs.size, lst ys) :: news) := news_but N' hk₂ fun p hp => by
          rcases List.mem_cons.mp hp with rfl | hp
          · exact Ne.symm hDI
          · exact (offn p hp).1
        have N₃ : News g' L h₃ ((I, oI) :: (H2.objs.size, oC) :: (s₂.heap.objs.size, lst ys) :: news) := fun p hp => by
          rcases List.mem_cons.mp hp with rfl | hp
          · exact ⟨heI, Ne.symm hIL, hI₁ g' G'⟩
          · rcases List.mem_cons.mp hp with rfl | hp
            · exact ⟨heC, hCL, hC₀ g' G'⟩
            · have z := N₂ p hp
              refine ⟨hs₃.extBut _ _ ?_ z.1, z.2⟩
              rcases List.mem_cons.mp hp with rfl | hp
              · exact hDC
              · exact (offn p hp).2.1
        obtain ⟨oI0, eI0, cI0, dI0⟩ := hst'.1
        obtain ⟨oC0, esC0, nC0, eC0, dC0, _⟩ := hn'
        have t1 : TupLike h' h₂ := .but eI0 (.inl (by rw [cI0]; decide)) fun b o q => hk₂ b o (by simpa using q)
        have t2 : TupLike h₂ h₃ := .but (hk₂ _ _ (by simpa using Ne.symm hCI) eC0) (.inr (fun vs n q => by rw [dC0] at q; cases q)) fun b o q => hs₃.extBut b o q
        refine wpS_mono (turn i v ys g' I oI H2.objs.size oC s₂.heap.objs.size _ h₃ _ _ hPv (stay _ _ _ _ R' (t1.trans t2)) hyl G' hoC (by simp) F₃ N₃) (fun ok s₄ h₄ => ?_) fun _ _ e => e
        cases ok with
        | true =>
          simp only [if_true] at h₄ ⊢
          refine wpS_mono h₄ (fun y s₅ h₅ => ?_) fun _ _ e => e
          obtain ⟨g₄, h₄, tk₄, rfl, P₅, G₄, F₄, N₄⟩ := h₅
          have zI := (N₄ (I, oI) List.mem_cons_self).1
          have zC := (N₄ (H2.objs.size, oC) (List.mem_cons_of_mem _ List.mem_cons_self)).1
          have zD := (N₄ (s₂.heap.objs.size, lst ys) (List.mem_cons_of_mem _ (List.mem_cons_of_mem _ List.mem_cons_self))).1
          have N₄' : News g₄ L h₄ news := fun p hp => N₄ p (List.mem_cons_of_mem _ (List.mem_cons_of_mem _ (List.mem_cons_of_mem _ hp)))
          have hst₄ : h₄.IsListIter I ax (i + 1) ∧ h₄.IsList ax its := ⟨⟨oI, zI, hoI⟩, src g₄ h₄ G₄ F₄ N₄'⟩
          refine append_at (hsz := by show ys.toArray.size ≤ sizeLine; rw [List.size_toArray]; exact Nat.le_trans (Nat.le_trans hyl hi) hsz) zD fun h₅ hs₅ hD₅ => ?_
          refine ⟨its.size + 1 - (i + 1), by omega, g₄, h₅, tk₄, i + 1, ys ++ [y], _, rfl, hlt, rfl, by rw [List.length_append, List.length_singleton]; exact Nat.succ_le_succ hyl, W.frame _ _ _ hst₄ fun b hb o e => hs₅.extBut b o (fun q => hDf (q ▸ hb)) e, G₄, F₄.change hs₅ hDL (hD₀ g₄ G₄),
            (hoC.ns zC).sameBut hs₅ (Ne.symm hDC), fun p hp => ?_, stay _ _ _ _ P₅ (.but zD (.inl (show (Value.type "list") ≠ Value.type "tuple" by decide)) fun b o q => hs₅.extBut b o q)⟩
          · rcases List.mem_cons.mp hp with rfl | hp
            · exact ⟨hD₅.trans (congrArg some (lst_snoc ys y)), hDL, hD₀ g₄ G₄⟩
            · exact ⟨hs₅.extBut _ _ (offn p hp).2.2 (N₄' p hp).1, (N₄' p hp).2⟩
        | false =>
          simp only [Bool.false_eq_true, if_false] at h₄ ⊢
          obtain ⟨g₄, h₅, tk₄, rfl, P₅, G₄, F₄, N₄⟩ := h₄
          have zI := (N₄ (I, oI) List.mem_cons_self).1
          have zC := (N₄ (H2.objs.size, oC) (List.mem_cons_of_mem _ List.mem_cons_self)).1
          have N₄' : News g₄ L h₅ news := fun p hp => N₄ p (List.mem_cons_of_mem _ (List.mem_cons_of_mem _ (List.mem_cons_of_mem _ hp)))
          have hst₄ : h₅.IsListIter I ax (i + 1) ∧ h₅.IsList ax its := ⟨⟨oI, zI, hoI⟩, src g₄ h₅ G₄ F₄ N₄'⟩
          refine ⟨its.size + 1 - (i + 1), by omega, g₄, h₅, tk₄, i + 1, ys, _, rfl, hlt, rfl, Nat.le_succ_of_le hyl, hst₄, G₄, F₄, hoC.ns zC, fun p hp => ?_, P₅⟩
          · rcases List.mem_cons.mp hp with rfl | hp
            · exact N₄ _ (List.mem_cons_of_mem _ (List.mem_cons_of_mem _ List.mem_cons_self))
            · exact N₄' p hp
      · obtain rfl : i = its.size := Nat.le_antisymm hi (Nat.not_lt.mp hlt)
        refine W.done _ _ _ hst' fun h₂ tk₂ hk₂ => ?_
        obtain ⟨oI0, eI0, cI0, dI0⟩ := hst'.1
        have t1 : TupLike h' h₂ := .but eI0 (.inl (by rw [cI0]; decide)) fun b o q => hk₂ b o (by simpa using q)
        exact hRR g' _ _ h₂ tk₂ _ ys G' (fr_but F' hk₂ hIL (hI₁ g' G')) (news_but N' hk₂ fun p hp => by
          rcases List.mem_cons.mp hp with rfl | hp
          · exact Ne.symm hDI
          · exact (offn p hp).1) (hn'.at' fun o e => hk₂ _ o (by simpa using Ne.symm hCI) e) (hC₀ g' G') (hD₀ g' G') hCL hDL (Ne.symm hDC) (fun p hp => (offn p hp).2.1) (stay _ _ _ _ R' t1)
    · rcases List.mem_cons.mp hp with rfl | hp
      · exact ⟨hacc, hDL, hD₀ g G⟩
      · exact ⟨old _ _ (N p hp).1, (N p hp).2⟩
  exact codeS_compStart_list (loop _ rfl) (W.self 0 _ _ _ hst₁ (loop _ rfl))
/-- what the iterable of a comprehension is to be: a list that stands, with the turns and the end -/
def SrcSH (prog : Program) (w : World) (A : Around) (L : Addr) (m : Str → Option Value) (env : Env) (elt : Expr) (ifs : List Expr) (x : Str) (scope : Scope) (cl : List (Str × Addr)) (Q : Value → Shared → Prop) (xv : Value) (s₁ : Shared) : Prop :=
  ∃ ax its news, ∃ Gd : Heap → Prop, ∃ g, ∃ Inv : Nat → List Value → Heap → Prop, xv = .ref ax ∧ (∀ i ys h h', Inv i ys h → TupLike h h' → Inv i ys h') ∧ A.handled = none ∧ its.size ≤ sizeLine ∧ (∀ g g', Gd g → Gd g' → ∀ b, g.get? b = none → g'.get? b = none) ∧
    (∀ g h, Gd g → Fr g L h m → News g L h news → h.IsList ax its) ∧ Gd g ∧ Fr g L s₁.heap m ∧ News g L s₁.heap news ∧
    (∀ i v ys g I oI C oC D m₂ h tk (E' : Value → Shared → Prop), its[i]? = some v → Inv i ys h → ys.length ≤ i → Gd g → NsObj oC m₂ → m₂ x = some v → Fr g L h m → News g L h ((I, oI) :: (C, oC) :: (D, lst ys) :: news) →
      wpS SC (model prog w) A (testsOf ifs (compEnvC scope cl C env)) (fun ok s' => if ok = true then
        wpS SC (model prog w) A (eval elt (compEnvC scope cl C env)) (fun y s'' => StepEndH Gd L m s₁ ((I, oI) :: (C, oC) :: (D, lst ys) :: news) (Inv (i + 1) (ys ++ [y])) s'') E' s'
        else StepEndH Gd L m s₁ ((I, oI) :: (C, oC) :: (D, lst ys) :: news) (Inv (i + 1) ys) s') E' { s₁ with heap := h, toks := tk }) ∧
    Inv 0 [] s₁.heap ∧ (∀ g ys D h tk, Inv its.size ys h → Gd g → Fr g L h m → News g L h ((D, lst ys) :: news) → Q (.ref D) { s₁ with heap := h, toks := tk })
theorem wpS_ListCompH {elt iter : Expr} {ifs : List Expr} {x : Str} {px : Pos} {scope : Scope} {cl : List (Str × Addr)} {pos : Pos} {Q : Value → Shared → Prop}
    (hclos : closureFor scope env = pure cl) (hcell : ∀ y ∈ scope.names, y.2 ≠ .cell) (hkind : scope.kind = .function)
    (hnames : ∀ y ∈ scope.names, y.2 = .local → scope.names.lookup y.1 = some .local) (hx : scope.names.lookup x = some .local)
    (h : wpAny (model prog w) A (eval iter env) (SrcSH prog w A L m env elt ifs x scope cl Q) E s)
    (hs : ∀ x, foldedSetIterable iter env x = pure x := by intro _; rfl) :
    wpS SC (model prog w) A (eval (.ListComp elt [⟨.Name x px, iter, ifs, 0⟩] scope pos) env) Q E s := by
  rw [eval_ListComp]
  refine wpS_comprehension rfl hs hclos hkind hnames (wpAny_mono h (fun xv s₁ h₁ => ?_) fun _ _ e => e)
  obtain ⟨ax, its, news, Gd, g, Inv, rfl, stay, hh, hsz, same, src, G, F, N, turn, h0, fin⟩ := h₁
  have hl := src g _ G F N
  have hlt : ax < s₁.heap.objs.size := by obtain ⟨_, e, _⟩ := hl; exact Heap.lt_size e
  refine wpAny_pyIter_list hl ?_
  have up : ∀ b o, s₁.heap.get? b = some o → (s₁.heap.push { cls := .type "list_iterator", data := .fields #[.ref ax, .int 0 0] }).get? b = some o := fun b o e => Heap.get?_push_of_some _ e
  refine comp_blockH hh stay (Nat.ne_of_lt hlt) hsz same src hcell hkind hx ⟨⟨_, Heap.get?_push_size _ rfl, rfl, rfl⟩, hl.push _⟩ G (F.keeps up) (N.grown up) (Nat.ne_of_lt F.ns.lt) (next_is_new F) (fun p hp => Nat.ne_of_lt (Heap.lt_size (N p hp).1)) turn (stay _ _ _ _ h0 (.of up)) ?_
  intro g D C h tk m' ys G' F' N' hn hC₀ hD₀ hCL hDL hCD offC fi
  obtain ⟨oC0, esC0, nC0, eC0, dC0, _⟩ := id hn
  refine ⟨m', hn, fun h'' hs'' => fin g ys D h'' tk (stay _ _ _ _ fi (.but eC0 (.inr (fun vs n q => by rw [dC0] at q; cases q)) fun b o q => hs''.extBut b o q)) G' (F'.change hs'' hCL hC₀) (fun p hp => ?_)⟩
  refine ⟨hs''.extBut _ _ ?_ (N' p hp).1, (N' p hp).2⟩
  rcases List.mem_cons.mp hp with rfl | hp
  · exact Ne.symm hCD
  · exact offC p hp
end
end Mine

end
section
open PySem PySem.W PyProof.Rows PySem.Calls
set_option maxHeartbeats 2000000
namespace Mine
theorem ok_of {x : Str} (h : ∀ c ∈ x.cps.toList, c < 0x110000) : PyData.strOk x = true := by
  unfold PyData.strOk
  rw [Array.all_eq_true]
  intro i hi
  exact decide_eq_true (h _ (by rw [Array.mem_toList_iff]; exact Array.getElem_mem hi))
theorem ok_at {x : Str} (h : PyData.strOk x = true) : ∀ c ∈ x.cps.toList, c < 0x110000 := fun c hc => by
  unfold PyData.strOk at h
  rw [Array.all_eq_true] at h
  rw [Array.mem_toList_iff] at hc
  obtain ⟨i, hi, e⟩ := Array.mem_iff_getElem.mp hc
  have := of_decide_eq_true (h i hi)
  rw [e] at this
  exact this
theorem ok_app {x y : Str} (hx : PyData.strOk x = true) (hy : PyData.strOk y = true) : PyData.strOk (x ++ y) = true := ok_of fun c hc => by
  rw [show (x ++ y).cps = x.cps ++ y.cps from rfl, Array.toList_append] at hc
  rcases List.mem_append.mp hc with hc | hc
  · exact ok_at hx c hc
  · exact ok_at hy c hc
theorem joinL_lt {c d : Nat} (hc : c < d) : ∀ {l : List (List Nat)}, (∀ p ∈ l, ∀ x ∈ p, x < d) → ∀ x ∈ joinL c l, x < d
  | [], _, _, h => nomatch h
  | [p], h, x, hx => h p List.mem_cons_self x hx
  | p :: q :: r, h, x, hx => by
    simp only [joinL, List.mem_append, List.mem_cons] at hx
    rcases hx with hx | rfl | hx
    · exact h p List.mem_cons_self x hx
    · exact hc
    · exact joinL_lt hc (l := q :: r) (fun y m => h y (List.mem_cons_of_mem _ m)) x hx
theorem ok_join {parts : List Str} (h : ∀ p ∈ parts, PyData.strOk p = true) : PyData.strOk (Txt.join (Str.ofString ".") parts) = true := ok_of fun c hc => by
  rw [txt_joinL] at hc
  refine joinL_lt (by decide) (fun p hp => ?_) c hc
  obtain ⟨q, hq, rfl⟩ := List.mem_map.mp hp
  exact ok_at (h q hq)
theorem ok_resp {x : Str} (h : PyData.strOk x = true) : PyData.strOk (respT x) = true := ok_app (ok_app (by decide +kernel) h) (by decide +kernel)
theorem ok_part {p : Str} (h : Part p) : PyData.strOk p = true := menu_all (P := fun p => PyData.strOk p = true) (by decide +kernel) (by decide +kernel) (by decide +kernel) (by decide +kernel) (by decide +kernel) (by decide +kernel) (by decide +kernel) (by decide +kernel) h
theorem ok_numT (p : Str) : PyData.strOk (numT p) = true := by
  unfold numT
  cases h : numO p with
  | none => decide +kernel
  | some n => rcases num_small h with rfl | rfl | rfl | rfl | rfl | rfl <;> decide +kernel
/-- what an answer is like -/
def IsAns (d : PyData) : Prop := (∃ x, d = .str x ∧ PyData.strOk x = true) ∨ ∃ a b, d = .tuple [.str a, .int b] ∧ PyData.strOk a = true
theorem ansD_is (qs : List Str) {r : Str} (h : PyData.strOk r = true) : IsAns (ansD qs r) := by
  unfold ansD
  split
  · split
    · exact .inl ⟨_, rfl, by decide +kernel⟩
    · exact .inr ⟨_, _, rfl, by decide +kernel⟩
  · exact .inl ⟨_, rfl, ok_app (by decide +kernel) h⟩
theorem dueD_is (qs : List Str) {r : Str} (h : PyData.strOk r = true) : IsAns (dueD qs r) := by
  unfold dueD
  split
  · split
    · exact .inl ⟨_, rfl, by decide +kernel⟩
    · exact .inr ⟨_, _, rfl, by decide +kernel⟩
  · exact .inl ⟨_, rfl, ok_app (by decide +kernel) h⟩
def RdV (h : Heap) (v : Value) (d : PyData) : Prop := ∃ as, PySem.Reads h v d as
theorem reads_inv {h : Heap} {v : Value} {d : PyData} (hd : IsAns d) (r : RdV h v d) : (∃ x t, v = .str x t ∧ d = .str x) ∨
    ∃ T o vs n a t b t', v = .ref T ∧ h.get? T = some o ∧ o.cls = .type "tuple" ∧ o.data = .seq vs n ∧ vs.toList = [.str a t, .int b t'] ∧ d = .tuple [.str a, .int b] := by
  obtain ⟨as, r⟩ := r
  rcases hd with ⟨x, rfl, _⟩ | ⟨a, b, rfl, _⟩
  · cases r with
    | str _ t => exact .inl ⟨x, t, rfl, rfl⟩
  · cases r with
    | @tuple T o vs n _ _ g c e all =>
      generalize hv : vs.toList = l at all
      cases all with
      | cons r1 all =>
        cases all with
        | cons r2 all =>
          cases all with
          | nil =>
            cases r1 with
            | str _ t =>
              cases r2 with
              | int _ t' => exact .inr ⟨T, o, vs, n, a, t, b, t', rfl, g, c, e, hv, rfl⟩
theorem reads_of {h : Heap} {T : Addr} {o : Obj} {vs : Array Value} {n : Nat} {a : Str} {t t' : Tok} {b : Int} (g : h.get? T = some o) (c : o.cls = .type "tuple") (e : o.data = .seq vs n) (hv : vs.toList = [.str a t, .int b t']) : RdV h (.ref T) (.tuple [.str a, .int b]) :=
  ⟨_, .tuple g c e (by rw [hv]; exact .cons (.str _ _) (.cons (.int _ _) .nil))⟩
theorem reads_stay {h h' : Heap} {v : Value} {d : PyData} (hd : IsAns d) (r : RdV h v d) (st : TupLike h h') : RdV h' v d := by
  rcases reads_inv hd r with ⟨x, t, rfl, rfl⟩ | ⟨T, o, vs, n, a, t, b, t', rfl, g, c, e, hv, rfl⟩
  · exact ⟨_, .str _ _⟩
  · exact reads_of (st _ _ _ _ g c e) c e hv
/-- an answer, its tuple of the ground or of an entry -/
def AnsG (g : Heap) (T : Addr) (o : Obj) (v : Value) (d : PyData) : Prop := (∃ x t, v = .str x t ∧ d = .str x) ∨
  ∃ T' o' vs n a t b t', v = .ref T' ∧ ((T' = T ∧ o' = o) ∨ g.get? T' = some o') ∧ o'.cls = .type "tuple" ∧ o'.data = .seq vs n ∧ vs.toList = [.str a t, .int b t'] ∧ d = .tuple [.str a, .int b]
theorem AnsG.reads {g h : Heap} {T : Addr} {o : Obj} {v : Value} {d : PyData} (x : AnsG g T o v d) (k : ∀ b o, g.get? b = some o → h.get? b = some o) (hT : h.get? T = some o) : RdV h v d := by
  rcases x with ⟨x, t, rfl, rfl⟩ | ⟨T', o', vs, n, a, t, b, t', rfl, g', c, e, hv, rfl⟩
  · exact ⟨_, .str _ _⟩
  · refine reads_of (o := o') ?_ c e hv
    rcases g' with ⟨rfl, rfl⟩ | g'
    · exact hT
    · exact k _ _ g'
theorem ans_entry {g h : Heap} {L : Addr} {m : Str → Option Value} {news : List (Addr × Obj)} {v : Value} {d : PyData} (hd : IsAns d) (r : RdV h v d) (F : Fr g L h m) (N : News g L h news) {p : Addr × Obj} (hp : p ∈ news) :
    ∃ T o, AnsG g T o v d ∧ News g L h ((T, o) :: news) := by
  have dup : News g L h ((p.1, p.2) :: news) := fun q hq => by
    rcases List.mem_cons.mp hq with rfl | hq
    · exact N p hp
    · exact N q hq
  rcases reads_inv hd r with ⟨x, t, rfl, rfl⟩ | ⟨T, o, vs, n, a, t, b, t', rfl, hg, c, e, hv, rfl⟩
  · exact ⟨p.1, p.2, .inl ⟨x, t, rfl, rfl⟩, dup⟩
  · cases hT : g.get? T with
    | some o2 =>
      have := F.keep _ _ hT
      rw [hg] at this
      cases this
      exact ⟨p.1, p.2, .inr ⟨T, o, vs, n, a, t, b, t', rfl, .inr hT, c, e, hv, rfl⟩, dup⟩
    | none =>
      refine ⟨T, o, .inr ⟨T, o, vs, n, a, t, b, t', rfl, .inl ⟨rfl, rfl⟩, c, e, hv, rfl⟩, fun q hq => ?_⟩
      rcases List.mem_cons.mp hq with rfl | hq
      · refine ⟨hg, ?_, hT⟩
        rintro rfl
        obtain ⟨oL, es, ep, eL, dL, _⟩ := F.ns
        dsimp only at eL
        rw [hg] at eL
        cases eL
        rw [e] at dL
        cases dL
      · exact N q hq
theorem eqv_ans {d : PyData} (hd : IsAns d) : PyData.eqv d d = true ∧ d.canLay0 = true ∧ d.depth ≤ 4 := by
  rcases hd with ⟨x, rfl, ok⟩ | ⟨a, b, rfl, ok⟩
  · refine ⟨?_, by simp [PyData.canLay0, ok], by simp [PyData.depth]⟩
    simp [PyData.eqv]
  · refine ⟨?_, by simp [PyData.canLay0, PyData.canLayAll0, ok], ?_⟩
    · simp [PyData.eqv, PyData.eqvAll]
    · simp [PyData.depth, PyData.depthAll]
section
variable {prog : Program} {w : World} {A : Around} {E : Value → Shared → Prop} {s : Shared}
theorem ne_lists {a b : Addr} {oa ob : Obj} {va vb : Array Value} {na nb : Nat} {x0 x1 y0 y1 : Value} {d0 d1 : PyData} {Q : Value → Shared → Prop} (ga : s.heap.get? a = some oa) (ca : oa.cls = .type "list") (ea : oa.data = .seq va na) (ha : va.toList = [x0, x1])
    (gb : s.heap.get? b = some ob) (cb : ob.cls = .type "list") (eb : ob.data = .seq vb nb) (hb : vb.toList = [y0, y1]) (h0 : IsAns d0) (h1 : IsAns d1) (rx0 : RdV s.heap x0 d0) (rx1 : RdV s.heap x1 d1) (ry0 : RdV s.heap y0 d0) (ry1 : RdV s.heap y1 d1) (hu : A.units + 64 < cLine)
    (h : Q (.bool false) s) : wpAny (model prog w) A (compareOp .NotEq (.ref a) (.ref b)) Q E s := by
  obtain ⟨_, rx0⟩ := rx0
  obtain ⟨_, rx1⟩ := rx1
  obtain ⟨_, ry0⟩ := ry0
  obtain ⟨_, ry1⟩ := ry1
  obtain ⟨e0, l0, k0⟩ := eqv_ans h0
  obtain ⟨e1, l1, k1⟩ := eqv_ans h1
  have hl : PyData.canLay0 (.list [d0, d1]) = true := by simp [PyData.canLay0, PyData.canLayAll0, l0, l1]
  have hd : (PyData.list [d0, d1]).depth ≤ 64 := by simp [PyData.depth, PyData.depthAll]; omega
  have he : PyData.eqv (.list [d0, d1]) (.list [d0, d1]) = true := by simp [PyData.eqv, PyData.eqvAll, e0, e1]
  refine SeqAt.compareNe_reads (da := .list [d0, d1]) (db := .list [d0, d1]) (.list ga ca ea (by rw [ha]; exact .cons rx0 (.cons rx1 .nil))) (.list gb cb eb (by rw [hb]; exact .cons ry0 (.cons ry1 .nil))) hl hl (by omega) ?_
  rw [he]
  exact h
end
theorem call_stay {outer : List Env} {h₀ h g' h' : Heap} {L a : Addr} {m : Str → Option Value} {n : Str} {sc : Scope} {cd : Value} (F : Fr h₀ L h m) (D : KtsDicts (fsOf outer) h₀) (T : KtsTurn (fsOf (envOf n sc L a cd :: outer)) h g') (st : g'.StaysIn h') : TupLike h h' := fun b o vs k e c d => by
  have DD := dicts_up (n := n) (sc := sc) (a := a) (cd := cd) F D
  refine st _ _ (T.other b o e fun hm => ?_)
  obtain ⟨o', es, k', ho', hd'⟩ := DD b hm
  rw [e] at ho'
  cases ho'
  rw [d] at hd'
  cases hd'
section
variable {w : World} {d' u' : Nat} {outer : List Env} {base h₀ : Heap} {L a : Addr} {m : Str → Option Value} {news : List (Addr × Obj)} {s : Shared} {mean : ExcName → Option Value} {mg mb : Str → Option Value} {n : Str} {sc : Scope} {cd : Value} {Q E : Value → Shared → Prop}
theorem use_turnsST {d u : Nat} {f : Addr} {vs : List Value} {P : Heap → Prop} {R : Heap → Value → Heap → Prop} (C : TurnsS w d u f vs P R)
    (B : Below (AA d' u' outer) base outer h₀) (F : Fr h₀ L s.heap m) (N : News h₀ L s.heap news) (XB : (Mine.hd.heap_39 w.params).In base) (TB : Top Mine.hd.view_39 (looseW Mine.hd.view_39 [Str.ofString "_twin_re_1", Str.ofString "_ver_stages", Str.ofString "_norm_version"]) mean mg mb base) (D : KtsDicts (fsOf outer) h₀) (hP : P s.heap) (hd : d' + 1 ≤ d) (hu : u' + 3 ≤ u)
    (h : ∀ v g' h' tk', KtsTurn (fsOf outer) h₀ g' → Fr g' L h' m → News g' L h' news → Below (AA d' u' outer) base outer g' → KtsDicts (fsOf outer) g' → TupLike s.heap h' → R s.heap v h' → Q v { s with heap := h', toks := tk' })
    (hk : sc.kind = .function := by rfl) :
    wpS SC (model PySem.Challenge.rw_pe0058_01.row.prog w) ((AA d' u' outer).deeper (envOf n sc L a cd)) (call (.ref f) vs) Q E s := by
  have B' := B.push (name := n) (scope := sc) (a := a) (cd := cd) F hk
  refine weakenS (C (envOf n sc L a cd :: outer) base mean mg mb s Q E ⟨rfl, B'.stays, B'.frames⟩ XB TB (dicts_up F D) hP fun v g' h' tk' T st r => ?_) rfl hd rfl rfl hu
  obtain ⟨g₂, T₂, F₂, N₂, B₂, D₂⟩ := turned B F N D T st
  exact h v g₂ h' tk' T₂ F₂ N₂ B₂ D₂ (call_stay F D T st) r
/-- _law_due, its answer kept by the ledger -/
theorem use_due2 {D : Addr} {its : Array Value} {parts : List Str} {r : Str} {t : Tok} {p : Addr × Obj} (B : Below (AA d' u' outer) base outer h₀) (F : Fr h₀ L s.heap m) (N : News h₀ L s.heap (p :: news)) (XB : (Mine.hd.heap_39 w.params).In base) (TB : Top Mine.hd.view_39 (looseW Mine.hd.view_39 [Str.ofString "_twin_re_1", Str.ofString "_ver_stages", Str.ofString "_norm_version"]) mean mg mb base) (hl : s.heap.IsList D its) (hp : StrsAre its.toList parts)
    (hn : parts.length ≤ 64) (hr : r.length ≤ 1000) (hrk : PyData.strOk r = true) (hd : d' + 1 ≤ 550) (hu : u' + 3 ≤ 2500)
    (h : ∀ v T o h' tk', AnsG h₀ T o v (dueD parts r) → Fr h₀ L h' m → News h₀ L h' ((T, o) :: p :: news) → Q v { s with heap := h', toks := tk' }) (hk : sc.kind = .function := by rfl) :
    wpAny (model PySem.Challenge.rw_pe0058_01.row.prog w) ((AA d' u' outer).deeper (envOf n sc L a cd)) (call (.ref 122) [.ref D, .str r t]) Q E s :=
  use_due B F N XB TB hl hp hn hr hd hu (fun v h' tk' R st F' N' => by
    obtain ⟨T, o, x, N2⟩ := ans_entry (dueD_is parts hrk) R F' N' List.mem_cons_self
    exact h v T o h' tk' x F' N2) hk
/-- _law_answer under the caller -/
theorem use_answer {qs : List Str} {t : Tok} (B : Below (AA d' u' outer) base outer h₀) (F : Fr h₀ L s.heap m) (N : News h₀ L s.heap news) (XB : (Mine.hd.heap_39 w.params).In base) (TB : Top Mine.hd.view_39 (looseW Mine.hd.view_39 [Str.ofString "_twin_re_1", Str.ofString "_ver_stages", Str.ofString "_norm_version"]) mean mg mb base) (D : KtsDicts (fsOf outer) h₀)
    (hne : qs ≠ []) (hdot : NoDot qs) (hpar : ∀ p ∈ qs, (41 : Nat) ∉ p.cps.toList) (hs : Short qs) (hn : qs.length ≤ 12) (hi : ∀ q ∈ qs, IntOk q) (hd : d' + 1 ≤ 548) (hu : u' + 3 ≤ 2490)
    (h : ∀ v g' h' tk', KtsTurn (fsOf outer) h₀ g' → Fr g' L h' m → News g' L h' news → Below (AA d' u' outer) base outer g' → KtsDicts (fsOf outer) g' → TupLike s.heap h' → RdV h' v (ansD qs (respT (Txt.join (Str.ofString ".") qs))) → Q v { s with heap := h', toks := tk' })
    (hk : sc.kind = .function := by rfl) :
    wpS SC (model PySem.Challenge.rw_pe0058_01.row.prog w) ((AA d' u' outer).deeper (envOf n sc L a cd)) (call (.ref 115) [.str (respT (Txt.join (Str.ofString ".") qs)) t]) Q E s :=
  use_turnsST (answer_spec w _ _ _ qs _ (is_resp hne hdot hpar hs hn) rfl (Nat.le_trans hn (by decide)) hi t) B F N XB TB D True.intro hd hu (fun v g' h' tk' T F' N' B' D' st r => h v g' h' tk' T F' N' B' D' st r) hk
theorem use_answer2 {qs : List Str} {r : Str} {t : Tok} (hr : respT (Txt.join (Str.ofString ".") qs) = r) (B : Below (AA d' u' outer) base outer h₀) (F : Fr h₀ L s.heap m) (N : News h₀ L s.heap news) (XB : (Mine.hd.heap_39 w.params).In base) (TB : Top Mine.hd.view_39 (looseW Mine.hd.view_39 [Str.ofString "_twin_re_1", Str.ofString "_ver_stages", Str.ofString "_norm_version"]) mean mg mb base) (D : KtsDicts (fsOf outer) h₀)
    (hne : qs ≠ []) (hdot : NoDot qs) (hpar : ∀ p ∈ qs, (41 : Nat) ∉ p.cps.toList) (hs : Short qs) (hn : qs.length ≤ 12) (hi : ∀ q ∈ qs, IntOk q) (hd : d' + 1 ≤ 548) (hu : u' + 3 ≤ 2490)
    (h : ∀ v g' h' tk', KtsTurn (fsOf outer) h₀ g' → Fr g' L h' m → News g' L h' news → Below (AA d' u' outer) base outer g' → KtsDicts (fsOf outer) g' → TupLike s.heap h' → RdV h' v (ansD qs r) → Q v { s with heap := h', toks := tk' })
    (hk : sc.kind = .function := by rfl) :
    wpS SC (model PySem.Challenge.rw_pe0058_01.row.prog w) ((AA d' u' outer).deeper (envOf n sc L a cd)) (call (.ref 115) [.str r t]) Q E s := by
  subst hr
  exact use_answer B F N XB TB D hne hdot hpar hs hn hi hd hu h hk
end
theorem all2_stay {h h' : Heap} (st : TupLike h h') : ∀ {ys : List Value} {ds : List PyData}, All2 (RdV h) ys ds → (∀ d ∈ ds, IsAns d) → All2 (RdV h') ys ds
  | _, _, .nil, _ => .nil
  | _, _, .cons g r, hd => .cons (reads_stay (hd _ List.mem_cons_self) g st) (all2_stay st r fun d m => hd d (List.mem_cons_of_mem _ m))
theorem all2_two {G : Value → PyData → Prop} {ys : List Value} {a b : PyData} (h : All2 G ys [a, b]) : ∃ x y, ys = [x, y] ∧ G x a ∧ G y b := by
  cases h with
  | cons g h =>
    cases h with
    | cons g' h =>
      cases h with
      | nil => exact ⟨_, _, rfl, g, g'⟩
section
variable {prog : Program} {w : World} {A : Around} {E : Value → Shared → Prop} {s : Shared} {L : Addr} {m : Str → Option Value} {env : Env}
theorem wpS_ListCompF {elt iter : Expr} {ifs : List Expr} {x : Str} {px : Pos} {scope : Scope} {cl : List (Str × Addr)} {pos : Pos} {Q : Value → Shared → Prop} {g0 : Heap} (_ : Fr g0 L s.heap m)
    (hclos : closureFor scope env = pure cl) (hcell : ∀ y ∈ scope.names, y.2 ≠ .cell) (hkind : scope.kind = .function)
    (hnames : ∀ y ∈ scope.names, y.2 = .local → scope.names.lookup y.1 = some .local) (hx : scope.names.lookup x = some .local)
    (h : wpAny (model prog w) A (eval iter env) (SrcSH prog w A L m env elt ifs x scope cl Q) E s)
    (hs : ∀ x, foldedSetIterable iter env x = pure x := by intro _; rfl) :
    wpS SC (model prog w) A (eval (.ListComp elt [⟨.Name x px, iter, ifs, 0⟩] scope pos) env) Q E s := wpS_ListCompH hclos hcell hkind hnames hx h hs
theorem SrcSH.ledger {elt : Expr} {ifs : List Expr} {x : Str} {scope : Scope} {cl : List (Str × Addr)} {Q : Value → Shared → Prop} {s₁ : Shared} {ax : Addr} {its : Array Value} {k : Nat} {news : List (Addr × Obj)} {g : Heap} (Gd : Heap → Prop) (Inv : Nat → List Value → Heap → Prop)
    (hh : A.handled = none) (F : Fr g L s₁.heap m) (N : News g L s₁.heap news) (hm : (ax, ({ cls := .type "list", data := .seq its k } : Obj)) ∈ news) (hsz : its.size ≤ sizeLine) (stay : ∀ i ys h h', Inv i ys h → TupLike h h' → Inv i ys h') (same : ∀ g g', Gd g → Gd g' → ∀ b, g.get? b = none → g'.get? b = none) (G : Gd g) (h0 : Inv 0 [] s₁.heap)
    (turn : ∀ i v ys g I oI C oC D m₂ h tk (E' : Value → Shared → Prop), its[i]? = some v → Inv i ys h → ys.length ≤ i → Gd g → LCg.NsObj oC m₂ → m₂ x = some v → Fr g L h m → News g L h ((I, oI) :: (C, oC) :: (D, LCg.lst ys) :: news) →
      wpS SC (model prog w) A (testsOf ifs (compEnvC scope cl C env)) (fun ok s' => if ok = true then
        wpS SC (model prog w) A (eval elt (compEnvC scope cl C env)) (fun y s'' => StepEndH Gd L m s₁ ((I, oI) :: (C, oC) :: (D, LCg.lst ys) :: news) (Inv (i + 1) (ys ++ [y])) s'') E' s'
        else StepEndH Gd L m s₁ ((I, oI) :: (C, oC) :: (D, LCg.lst ys) :: news) (Inv (i + 1) ys) s') E' { s₁ with heap := h, toks := tk })
    (fin : ∀ g ys D h tk, Inv its.size ys h → Gd g → Fr g L h m → News g L h ((D, LCg.lst ys) :: news) → Q (.ref D) { s₁ with heap := h, toks := tk }) : SrcSH prog w A L m env elt ifs x scope cl Q (.ref ax) s₁ :=
  ⟨ax, its, news, Gd, g, Inv, rfl, stay, hh, hsz, same, fun g h _ _ N => ⟨_, (N _ hm).1, rfl, _, rfl⟩, G, F, N, turn, h0, fin⟩
/-- the grounds that a call may turn to -/
def GdR (outer : List Env) (d u : Nat) (base h₀ : Heap) (l : Addr) (its : Array Value) (g : Heap) : Prop := KtsTurn (fsOf outer) h₀ g ∧ Below (AA d u outer) base outer g ∧ KtsDicts (fsOf outer) g ∧ g.IsList l its
theorem GdR.same {outer : List Env} {d u : Nat} {base h₀ : Heap} {l : Addr} {its : Array Value} (g g' : Heap) (G : GdR outer d u base h₀ l its g) (G' : GdR outer d u base h₀ l its g') (b : Addr) (h : g.get? b = none) : g'.get? b = none := by
  refine G'.1.none_ _ ?_
  cases e : h₀.get? b with
  | none => rfl
  | some o =>
    obtain ⟨sl, hs⟩ := G.1.up e
    rw [h] at hs
    cases hs
end
end Mine

end
section
open PySem PySem.W PyProof.Rows PySem.Calls
set_option maxHeartbeats 4000000
namespace Mine
local macro_rules | `(tactic| walk_at "pad 0") => `(tactic| fail "no line")
local macro_rules | `(tactic| walk_at "pad 1") => `(tactic| fail "no line")
local macro_rules | `(tactic| walk_at "pad 2") => `(tactic| fail "no line")
local macro_rules | `(tactic| walk_at "pad 3") => `(tactic| fail "no line")
local macro_rules | `(tactic| walk_at "pad 4") => `(tactic| fail "no line")
local macro_rules | `(tactic| walk_at "pad 5") => `(tactic| fail "no line")
local macro_rules | `(tactic| walk_at "pad 6") => `(tactic| fail "no line")
local macro_rules | `(tactic| walk_at "pad 7") => `(tactic| fail "no line")
local macro_rules | `(tactic| walk_at "pad 8") => `(tactic| fail "no line")
local macro_rules | `(tactic| walk_at "pad 9") => `(tactic| fail "no line")
local macro_rules | `(tactic| walk_at "pad 10") => `(tactic| fail "no line")
local macro_rules | `(tactic| walk_at "pad 11") => `(tactic| fail "no line")
local macro_rules | `(tactic| walk_at "pad 12") => `(tactic| fail "no line")
local macro_rules | `(tactic| walk_at "pad 13") => `(tactic| fail "no line")
local macro_rules | `(tactic| walk_at "pad 14") => `(tactic| fail "no line")
local macro_rules | `(tactic| walk_at "pad 15") => `(tactic| fail "no line")
local macro_rules | `(tactic| walk_at "pad 16") => `(tactic| fail "no line")
local macro_rules | `(tactic| walk_at "pad 17") => `(tactic| fail "no line")
local macro_rules | `(tactic| walk_at "pad 18") => `(tactic| fail "no line")
local macro_rules | `(tactic| walk_at "pad 19") => `(tactic| fail "no line")
local macro_rules | `(tactic| walk_at "pad 20") => `(tactic| fail "no line")
local macro_rules | `(tactic| walk_at "pad 21") => `(tactic| fail "no line")
local macro_rules | `(tactic| walk_at "pad 22") => `(tactic| fail "no line")
local macro_rules | `(tactic| walk_at "pad 23") => `(tactic| fail "no line")
local macro_rules | `(tactic| walk_at "pad 24") => `(tactic| fail "no line")
local macro_rules | `(tactic| walk_at "pad 25") => `(tactic| fail "no line")
local macro_rules | `(tactic| walk_at "pad 26") => `(tactic| fail "no line")
local macro_rules | `(tactic| walk_at "pad 27") => `(tactic| fail "no line")
local macro_rules | `(tactic| walk_at "pad 28") => `(tactic| fail "no line")
local macro_rules | `(tactic| walk_at "pad 29") => `(tactic| fail "no line")
local macro_rules | `(tactic| walk_at "pad 30") => `(tactic| fail "no line")
local macro_rules | `(tactic| walk_at "pad 31") => `(tactic| fail "no line")
local macro_rules | `(tactic| walk_at "pad 32") => `(tactic| fail "no line")
local macro_rules | `(tactic| walk_at "pad 33") => `(tactic| fail "no line")
local macro_rules | `(tactic| walk_at "pad 34") => `(tactic| fail "no line")
local macro_rules | `(tactic| walk_at "pad 35") => `(tactic| fail "no line")
section
variable {prog : Program} {w : World} {A : Around} {E : Value → Shared → Prop} {s : Shared}
theorem ne_as {x y : Str} {t u : Tok} {Q : Value → Shared → Prop} (e : x = y) (h : Q (.bool false) s) : wpAny (model prog w) A (compareOp .NotEq (.str x t) (.str y u)) Q E s := by subst e; exact ne_same h
theorem item_last {value slice : Expr} {l : Addr} {items : Array Value} {u : Tok} {x : Value} {Q : Value → Shared → Prop} (hl : s.heap.IsList l items) (hx : items[items.size - 1]? = some x) (h : Q x s)
    (hs : subscripted slice false (.ref l) (.int (-1) u) = operate [.ref l, .int (-1) u] (getItem (.ref l) (.int (-1) u)) := by with_unfolding_all rfl) (hg : ∀ r, letTemporaryGo value (.ref l) r = pure () := by intro _; with_unfolding_all rfl) :
    wpAny (model prog w) A (subscriptTail value slice (.ref l) (.int (-1) u)) Q E s := by
  have hlt : items.size - 1 < items.size := (Array.getElem?_eq_some_iff.mp hx).1
  refine subscriptTail_builtin hl.typeIs slot_list_getitem.lookup (wpAny_getItem_list_neg hl (by decide) (by omega) (by decide) ?_ h) hs hg
  rw [show ((-1 : Int) + items.size).toNat = items.size - 1 by omega]
  exact hx
end
theorem len_zero {b : Str} : b.length = 0 ↔ b = Str.ofString "" := by
  constructor
  · intro h
    refine str_ext ?_
    have : b.cps.toList.length = 0 := by rw [← len_l]; exact h
    rw [List.length_eq_zero_iff.mp this]
    decide +kernel
  · rintro rfl; decide +kernel
theorem norm2_empty {ini : List Str} {b : Str} (hb : b = Str.ofString "") : norm2T ini b = normedT ini := by
  unfold norm2T
  rw [if_pos (len_zero.mpr hb)]
  split
  · rename_i h; rw [h]; exact normed_empty
  · rfl
theorem norm2_some {ini parts : List Str} {b : Str} (hb : b ≠ Str.ofString "") (hp : parts = ini ++ [b]) (hn : 1 < parts.length) : norm2T ini b = normedT parts := by
  unfold norm2T
  have : ini ≠ [] := by rintro rfl; simp [hp] at hn
  rw [if_neg (fun h => hb (len_zero.mp h)), if_neg this, hp]
theorem norm2_one {ini parts : List Str} {b : Str} (hb : b ≠ Str.ofString "") (hp : parts = ini ++ [b]) (hn : ¬ 1 < parts.length) : norm2T ini b = normedT (Str.ofString "" :: parts) := by
  unfold norm2T
  have : ini = [] := by
    cases ini with
    | nil => rfl
    | cons x r => simp [hp] at hn
  rw [if_neg (fun h => hb (len_zero.mp h)), if_pos this, hp, this]
  rfl
local macro_rules | `(tactic| k_steps) => `(tactic| repeat' (first | (k_unfold; (try dsimp only)) | walk1 | (dsimp only; walk1)))
local macro_rules | `(tactic| walk_at "call builtin:str.join") => `(tactic| (k_here; k_dflt (refine join_listW (by kmk_list) (by assumption) (by decide +kernel) (by assumption) ?_); intro _ _))
local macro_rules | `(tactic| walk_at "compareOp NotEq str str") => `(tactic| (k_here; first | refine ne_same ?_ | refine ne_as (by assumption) ?_))
local macro_rules | `(tactic| walk_at "compareOp Eq str str") => `(tactic| (k_here; refine eq_to (by assumption) ?_))
local macro_rules | `(tactic| walk_at "subscriptTail Name Slice ref ref") => `(tactic| (k_here; k_dflt (refine' kmk_slice_lit ?F ?N ?l ?p ?q ?e ?_ ?s ?t ?z; (case F => k_asm); (case N => k_asm); (case l => kmk_list); (case p => kmk_part); (case q => kmk_part); (case e => first | assumption | exact pick_take _ 3); (case s => with_unfolding_all rfl); (case t => kmk_pure); (case z => assumption)); intro D' h' F' N' l1; (try k_lt l1); (try k_sweep)))
local macro_rules | `(tactic| walk_at "subscriptTail Name UnaryOp ref int") => `(tactic| (k_here; k_dflt (refine item_last (by kmk_list) (by assumption) ?_)))
theorem short_nil {parts : List Str} (h : Short parts) : Short (Str.ofString "" :: parts) := fun p hp => by
  rcases List.mem_cons.mp hp with rfl | hp
  · decide +kernel
  · exact h p hp
theorem cons_len {parts : List Str} {b : Str} (h : parts.length ≤ 5) : (b :: parts).length ≤ 64 := by rw [List.length_cons]; omega
theorem cat_room {vs : List Value} {v : Value} (h : vs.length ≤ 64) : ([v].toArray.size + vs.toArray.size) ≤ sizeLine := by
  simp only [List.size_toArray, List.length_singleton]
  exact Nat.le_trans (Nat.add_le_add_left h 1) (by decide)
local macro_rules | `(tactic| walk_at "binaryOp Add ref ref") => `(tactic| (k_here; k_dflt (refine' kmk_add_lit ?F ?N ?a ?b ?e ?_ ?z; (case F => k_asm); (case N => k_asm); (case a => kmk_list); (case b => kmk_list); (case e => exact rfl); (case z => exact cat_room (by assumption))); intro D' h' F' N' l1; (try k_lt l1); (try k_sweep)))
local macro_rules | `(tactic| walk_at "subscriptTail Name Constant ref int") => `(tactic| (k_here; refine PyProof.Rows.item_list (x := Value.str _ _) (by kmk_list) (by decide) (by decide) rfl ?_))
local macro_rules | `(tactic| walk_at "compareOp In none ref") => `(tactic| (k_here; k_dflt (refine in_none_to (by assumption) (by first | exact News.isList (by k_asm) (by k_mem) | is_list) (by assumption) (by assumption) ?_)))
local macro_rules | `(tactic| walk_at "eval ListComp") => `(tactic| fail "here")
local macro_rules | `(tactic| walk_at "pyIter ref") => `(tactic| fail "here")
local macro_rules | `(tactic| walk_at "call ref") => `(tactic| (k_here; first
  | ((with_reducible show wpAny _ _ (call (Value.ref 108) _) _ _ _); k_dflt (refine' use_normed ?B ?F ?N ?XB ?TB ?l ?p ?n ?s ?d ?u ?_; (case B => k_asm); (case F => k_asm); (case N => k_asm); (case XB => assumption); (case TB => assumption); (case l => kmk_list); (case p => first | assumption | exact StrsAre.cons _ _ (by assumption)); (case n => first | omega | exact cons_len (by assumption)); (case s => first | assumption | exact short_nil (by assumption)); (case d => decide); (case u => decide)); intro t' h' tk' F' N'; (try k_sweep))
  | ((with_reducible show wpAny _ _ (call (Value.ref 52) [_]) _ _ _); k_dflt (refine' use_norm1 ?B ?F ?N ?XB ?TB ?D ?P ?ok ?ne ?n ?d ?u ?_; (case B => k_asm); (case F => k_asm); (case N => k_asm); (case XB => assumption); (case TB => assumption); (case D => assumption); (case P => assumption); (case ok => assumption); (case ne => assumption); (case n => omega); (case d => decide); (case u => decide)); intro t' g' h' tk' T' F' N' B' X' TT' D' P'; (try k_sweep))
  | ((with_reducible show wpAny _ _ (call (Value.ref 52) [_, _]) _ _ _); k_dflt (refine' use_norm2 ?B ?F ?N ?XB ?TB ?D ?P ?ok ?ne ?n ?d ?u ?_; (case B => k_asm); (case F => k_asm); (case N => k_asm); (case XB => assumption); (case TB => assumption); (case D => assumption); (case P => assumption); (case ok => assumption); (case ne => assumption); (case n => omega); (case d => decide); (case u => decide)); intro t' g' h' tk' T' F' N' B' X' TT' D' P'; (try k_sweep))
  | ((with_reducible show wpAny _ _ (call (Value.ref 122) _) _ _ _); k_dflt (refine' use_due2 ?B ?F ?N ?XB ?TB ?l ?p ?n ?r ?o ?d ?u ?_; (case B => k_asm); (case F => k_asm); (case N => k_asm); (case XB => assumption); (case TB => assumption); (case l => kmk_list); (case p => assumption); (case n => omega); (case r => assumption); (case o => assumption); (case d => decide); (case u => decide)); intro v' T' o' h' tk' x' F' N'; (try k_sweep))
  | ((with_reducible show wpAny _ _ (call (Value.ref 103) _) _ _ _); k_dflt (refine' use_number ?B ?F ?N ?XB ?TB ?d ?u ?_; (case B => k_asm); (case F => k_asm); (case N => k_asm); (case XB => assumption); (case TB => assumption); (case d => decide); (case u => decide)); intro v9 h9 tk9 R9 F9 N9; (try k_sweep))
  | ((with_reducible show wpAny _ _ (call (Value.ref 44) _) _ _ _); k_dflt (refine' use_cmp ?B ?F ?N ?XB ?TB ?ne ?a ?d ?u ?_; (case B => k_asm); (case F => k_asm); (case N => k_asm); (case XB => assumption); (case TB => assumption); (case ne => assumption); (case a => assumption); (case d => decide); (case u => decide)); intro D9 its9 c9 h9 tk9 i9 F9 N9; (try dsimp only))
  | fail "no call rule"))
/-- the state behind the second statement of _law_right -/
def MidR (outer : List Env) (base : Heap) (s : Shared) (L' l : Addr) (parts : List Str) (vs : List Value) (f : Flow) (s' : Shared) : Prop :=
  f = .next ∧ ∃ g2 h2 tk2 t1 t2, s' = { s with heap := h2, toks := tk2 } ∧ KtsTurn (fsOf outer) s.heap g2 ∧
    Fr g2 L' h2 (fun y => if y = Str.ofString "version" then some (Value.str (Txt.join (Str.ofString ".") parts) t1) else if y = Str.ofString "normed" then some (Value.str (normedT parts) t2) else List.lookup y [(Str.ofString "parts", Value.ref l)].reverse) ∧
    Below (AA 540 2400 outer) base outer g2 ∧ KtsDicts (fsOf outer) g2 ∧ g2.IsList l vs.toArray
theorem MidR.intro {outer : List Env} {base : Heap} {s : Shared} {L' l : Addr} {parts : List Str} {vs : List Value} {g1 g2 h2 : Heap} {tk2 : Nat} {t1 t2 : Tok} (T1 : KtsTurn (fsOf outer) s.heap g1) (T2 : KtsTurn (fsOf outer) g1 g2)
    (F : Fr g2 L' h2 (fun y => if y = Str.ofString "version" then some (Value.str (Txt.join (Str.ofString ".") parts) t1) else if y = Str.ofString "normed" then some (Value.str (normedT parts) t2) else List.lookup y [(Str.ofString "parts", Value.ref l)].reverse))
    (B : Below (AA 540 2400 outer) base outer g2) (D : KtsDicts (fsOf outer) g2) (P : g2.IsList l vs.toArray) : MidR outer base s L' l parts vs .next { s with heap := h2, toks := tk2 } := ⟨rfl, g2, h2, tk2, t1, t2, rfl, T1.trans T2, F, B, D, P⟩
theorem nums_at : ∀ {vs ys : List Value} {parts : List Str} {i : Nat} {v : Value}, All2 NumRel vs ys → StrsAre vs parts → (parts.any fun p => (numO p).isNone) = false → ys[i]? = some v → ∃ p n t, parts[i]? = some p ∧ numO p = some n ∧ v = .int n t
  | _, _, _, _, _, .nil, _, _, h => by cases h
  | _, _, _, i, v, .cons g r, h, ha, hv => by
    obtain ⟨x, t', rfl, f⟩ := g
    cases h with
    | cons _ _ q =>
      rw [List.any_cons, Bool.or_eq_false_iff] at ha
      cases i with
      | zero =>
        rcases flat_num f with ⟨h, rfl⟩ | ⟨n, t, h, rfl⟩
        · rw [h] at ha; exact absurd ha.1 (by decide)
        · cases hv; exact ⟨x, n, t, rfl, h, rfl⟩
      | succ i =>
        obtain ⟨p, n, t, e1, e2, e3⟩ := nums_at r q ha.2 hv
        exact ⟨p, n, t, e1, e2, e3⟩
/-- the numbers of the first parts, behind 100 -/
def absPre (parts : List Str) (i : Nat) : List Int := ((parts.take 3).take i).flatMap fun p => [100, (((numO p).getD 0).natAbs : Int)]
theorem absPre_succ {parts : List Str} {i : Nat} {p : Str} {n : Int} (h : (parts.take 3)[i]? = some p) (hn : numO p = some n) : absPre parts (i + 1) = absPre parts i ++ [100, (n.natAbs : Int)] := by
  unfold absPre
  rw [List.take_add_one, h, List.flatMap_append]
  simp [hn]
theorem absPre_all {parts : List Str} {k : Nat} (h : (parts.take 3).length ≤ k) : absPre parts k = absL parts := by
  unfold absPre absL
  rw [List.take_of_length_le h]
theorem absPre_len (parts : List Str) (i j : Nat) (n : Int) : (absPre parts i ++ [100, n].take j).length ≤ 8 := by
  unfold absPre
  have : ((parts.take 3).take i).length ≤ 3 := by simp only [List.length_take]; omega
  have e : ∀ l : List Str, (l.flatMap fun p => [(100 : Int), (((numO p).getD 0).natAbs : Int)]).length = 2 * l.length := fun l => by
    induction l with
    | nil => rfl
    | cons a l ih => rw [List.flatMap_cons, List.length_append, ih]; simp; omega
  have h2 : (([100, n] : List Int).take j).length ≤ 2 := by rw [List.length_take]; exact Nat.min_le_right _ _
  rw [List.length_append, e]
  omega
theorem ints_app : ∀ {a b : List Value} {x y : List Int}, IntsAre a x → IntsAre b y → IntsAre (a ++ b) (x ++ y)
  | _, _, _, _, .nil, h => h
  | _, _, _, _, .cons _ _ r, h => .cons _ _ (ints_app r h)
theorem abs_if (n : Int) : (if n < 0 then -n else n) = (n.natAbs : Int) := by split <;> omega
theorem ints_snoc {vs : List Value} {l : List Int} {pre : List Int} {j : Nat} {n : Int} {t : Tok} (h : IntsAre vs (pre ++ l.take j)) (hn : l[j]? = some n) : IntsAre (vs ++ [.int n t]) (pre ++ l.take (j + 1)) := by
  rw [List.take_add_one, hn, ← List.append_assoc]
  exact ints_app h (.cons _ _ .nil)
/-- the state behind the third statement -/
def MidS (s : Shared) (g2 : Heap) (L' l : Addr) (parts : List Str) (r0 r1 : Str) (f : Flow) (s' : Shared) : Prop :=
  f = .next ∧ ∃ h2 tk2 t1 t2 t3 t4 D3, s' = { s with heap := h2, toks := tk2 } ∧
    Fr g2 L' h2 (fun z => if z = Str.ofString "replies" then some (Value.ref D3) else if z = Str.ofString "version" then some (Value.str (Txt.join (Str.ofString ".") parts) t1) else if z = Str.ofString "normed" then some (Value.str (normedT parts) t2) else List.lookup z [(Str.ofString "parts", Value.ref l)].reverse) ∧
    (h2.get? D3 = some (LCg.lst [Value.str r0 t3, Value.str r1 t4]) ∧ D3 ≠ L' ∧ g2.get? D3 = none)
/-- the state behind the fourth statement -/
def Mid4 (outer : List Env) (base : Heap) (s : Shared) (L' l : Addr) (parts : List Str) (vs : List Value) (f : Flow) (s' : Shared) : Prop :=
  f = .next ∧ ∃ g h2 tk2 t1 t2 D3, s' = { s with heap := h2, toks := tk2 } ∧ GdR outer 540 2400 base s.heap l vs.toArray g ∧
    Fr g L' h2 (fun z => if z = Str.ofString "replies" then some (Value.ref D3) else if z = Str.ofString "version" then some (Value.str (Txt.join (Str.ofString ".") parts) t1) else if z = Str.ofString "normed" then some (Value.str (normedT parts) t2) else List.lookup z [(Str.ofString "parts", Value.ref l)].reverse)
theorem MidS.intro {s : Shared} {g2 h2 : Heap} {L' l D3 : Addr} {parts : List Str} {r0 r1 : Str} {tk2 : Nat} {t1 t2 t3 t4 : Tok} {news : List (Addr × Obj)}
    (F : Fr g2 L' h2 (fun z => if z = Str.ofString "replies" then some (Value.ref D3) else if z = Str.ofString "version" then some (Value.str (Txt.join (Str.ofString ".") parts) t1) else if z = Str.ofString "normed" then some (Value.str (normedT parts) t2) else List.lookup z [(Str.ofString "parts", Value.ref l)].reverse))
    (N : News g2 L' h2 ((D3, LCg.lst [Value.str (Str.ofString "229 (." ++ Txt.join (Str.ofString ".") parts ++ Str.ofString ".)") t3, Value.str (Str.ofString "229 (." ++ normedT parts ++ Str.ofString ".)") t4]) :: news))
    (hr0 : respT (Txt.join (Str.ofString ".") parts) = r0) (hr1 : respT (Txt.join (Str.ofString ".") (normP parts)) = r1) : MidS s g2 L' l parts r0 r1 .next { s with heap := h2, toks := tk2 } := by
  subst hr0 hr1
  exact ⟨rfl, h2, tk2, t1, t2, t3, t4, D3, rfl, F, N _ List.mem_cons_self⟩
theorem in_none_to {prog : Program} {w : World} {A : Around} {E : Value → Shared → Prop} {s : Shared} {D : Addr} {vs ys : List Value} {parts : List Str} {Q : Value → Shared → Prop} {b : Bool} (e : (parts.any fun p => (numO p).isNone) = b) (hl : s.heap.IsList D ys.toArray) (hy : All2 NumRel vs ys) (hp : StrsAre vs parts)
    (h : Q (.bool b) s) : wpAny (model prog w) A (compareOp .In .none (.ref D)) Q E s := in_none hl hy hp (by rw [e]; exact h)
theorem IsList.up {g h : Heap} {L l : Addr} {m : Str → Option Value} {its : Array Value} (x : g.IsList l its) (F : Fr g L h m) : h.IsList l its := let ⟨o, ho, r⟩ := x; ⟨o, F.keep _ _ ho, r⟩
theorem right_spec (w : World) (l : Addr) (vs vi : List Value) (parts ini : List Str) (b : Str) (tb : Tok) (hp : StrsAre vs parts) (hok : ∀ p ∈ parts, Part p) (hn : parts.length ≤ 5) (hpi : parts = ini ++ [b]) (hvi : vs = vi ++ [.str b tb]) (hip : StrsAre vi ini) :
    TurnsS w 540 2400 127 [.ref l] (fun h => h.IsList l vs.toArray) (fun _ v _ => v = .bool true) := by
  unfold TurnsS
  w_on
  w_top on
  k_fill
  intro outer base mean mg mb s Q E B XB TB D hP hret
  have XS := XB.keeps B.stays
  have hne : parts ≠ [] := by rw [hpi]; simp
  have hvl : vs.length ≤ 64 := by rw [hp.length]; omega
  have hshort : Short parts := fun p h => part_short (hok p h)
  have hpa : StrsAre vs.toArray.toList parts := hp
  have hia : StrsAre vi.toArray.toList ini := hip
  have hw := short_weight hshort (by omega)
  have hsz := sz_of hvl
  have hini : ini.length ≤ 4 := by rw [hpi, List.length_append, List.length_singleton] at hn; omega
  have hoki : ∀ p ∈ ini, Part p := fun p h => hok p (by rw [hpi]; exact List.mem_append_left _ h)
  have hb : Part b := hok b (by rw [hpi]; simp)
  have hishort : Short ini := fun p h => part_short (hoki p h)
  have hwi := short_weight hishort (by omega)
  have hpick : (slicePick vs.toArray none (some (-1)) none).toList = vi := by rw [pick_init, hvi]; simp
  have hlast : vs.toArray[vs.toArray.size - 1]? = some (.str b tb) := by rw [hvi]; simp
  refine wpS_call (sc_under _) ?_
  k_dflt (refine' enterS (binds := [(Str.ofString "parts", .ref l)]) ?k1 ?k2 ?k3 ?k4 ?k5 ?k6 ?k7 ?k8 ?_ ?c2 ?c3 ?c4 ?c5; (case k1 => assumption); (case k2 => assumption); (case k3 => assumption); (case k4 => k_is); (case k5 => k_is); (case k6 => exact (by decide : 540 < recursionLimit)); (case k7 => exact BindsTo.of_eq rfl); (case k8 => exact locs rfl); (case c2 => exact rfl); (case c3 => exact rfl); (case c4 => exact rfl); (case c5 => decide); k_whole)
  intro L' h' F' N' X' T'
  dsimp only
  refine wpS_execs_any ?_
  k_steps
  dsimp only
  rename Fr _ _ _ _ => F1
  rename News _ _ _ _ => N1
  refine wpS_execs_any (wpAny_mono (Q := MidR outer base s L' l parts vs) ?first ?rest fun _ _ e => e)
  case first =>
    by_cases hb0 : b = Str.ofString ""
    · have hb1 : (b == Str.ofString "") = true := by rw [hb0]; rfl
      have hE : norm2T ini b = normedT ini := norm2_empty hb0
      k_steps
      exact MidR.intro (by assumption) (by assumption) (by assumption) (by assumption) (by assumption) (by assumption)
    · have hb1 : (b == Str.ofString "") = false := by rw [beq_eq_false_iff_ne]; exact hb0
      by_cases h1 : 1 < (parts.length : Int)
      · have hE : norm2T ini b = normedT parts := norm2_some hb0 hpi (by omega)
        k_steps
        exact MidR.intro (by assumption) (by assumption) (by assumption) (by assumption) (by assumption) (by assumption)
      · have hE : norm2T ini b = normedT (Str.ofString "" :: parts) := norm2_one hb0 hpi (by omega)
        k_steps
        exact MidR.intro (by assumption) (by assumption) (by assumption) (by assumption) (by assumption) (by assumption)
  case rest =>
    rintro f s' ⟨rfl, g2, h2, tk2, t1, t2, rfl, T2, F2, B2, D2, P2⟩
    clear F1 N1 X' T'
    have X2 := XB.keeps B2.stays
    have TT2 := TB.keeps B2.stays
    have N2 : News g2 L' h2 [] := News.nil
    have hj1 : (Txt.join (Str.ofString ".") parts).length ≤ 108 := join_short hshort (by omega)
    have hj2 : (normedT parts).length ≤ 108 := by
      rw [normed_join]
      exact join_short (normP_all (P := fun p => p.length ≤ 8) hshort fun p => short_nums [p] _ (by simp)) (by rw [normP_len, List.length_take]; omega)
    dsimp only
    obtain ⟨r0, hr0⟩ : ∃ r0, respT (Txt.join (Str.ofString ".") parts) = r0 := ⟨_, rfl⟩
    obtain ⟨r1, hr1⟩ : ∃ r1, respT (Txt.join (Str.ofString ".") (normP parts)) = r1 := ⟨_, rfl⟩
    refine wpS_execs_any (wpAny_mono (Q := MidS s g2 L' l parts r0 r1) ?first ?rest fun _ _ e => e)
    case first =>
      k_steps
      exact MidS.intro (by assumption) (by assumption) hr0 hr1
    rintro f s' ⟨rfl, h3, tk3, t1, t2, t3, t4, D3, rfl, F3, M3⟩
    have N3 : News g2 L' h3 [(D3, LCg.lst [Value.str r0 t3, Value.str r1 t4])] := fun p hp => by rw [List.mem_singleton.mp hp]; exact M3
    clear M3 N2 F2
    dsimp only
    refine wpS_execs_S (wpS_mono (Q := Mid4 outer base s L' l parts vs) ?s4 ?rest4 fun _ _ e => e)
    case s4 =>
      refine (wpS_If (wpS_isTrue_Compare (wpS_ListCompF F3 (by rfl) (by decide) (by rfl) (by decide) (by rfl) ?_)))
      k_steps
      have hi1 : ∀ q ∈ parts, IntOk q := fun q h => ok_int (part_ok (hok q h))
      have hi2 : ∀ q ∈ normP parts, IntOk q := normP_int fun p h => part_ok (hok p h)
      have hd1 : NoDot parts := fun p h => part_dot (hok p h)
      have hd2 : NoDot (normP parts) := normP_all (P := fun p => (46 : Nat) ∉ p.cps.toList) hd1 numT_dot
      have hp1 : ∀ p ∈ parts, (41 : Nat) ∉ p.cps.toList := fun p h => part_par (hok p h)
      have hp2 : ∀ p ∈ normP parts, (41 : Nat) ∉ p.cps.toList := normP_all hp1 numT_par
      have hs2 : Short (normP parts) := normP_all (P := fun p => p.length ≤ 8) hshort fun p => short_nums [p] _ (by simp)
      have hn2 : (normP parts).length ≤ 12 := by rw [normP_len, List.length_take]; omega
      have hne2 := normP_ne hne
      have ok1 : PyData.strOk (Txt.join (Str.ofString ".") parts) = true := ok_join fun p h => ok_part (hok p h)
      have ok2 : PyData.strOk (Txt.join (Str.ofString ".") (normP parts)) = true := ok_join (normP_all (fun p h => ok_part (hok p h)) ok_numT)
      have okr0 : PyData.strOk r0 = true := hr0 ▸ ok_resp ok1
      have okr1 : PyData.strOk r1 = true := hr1 ▸ ok_resp ok2
      have hans : ∀ d ∈ [dueD parts r0, dueD (parts.take 3) r1], IsAns d := fun d hd => by
        simp only [List.mem_cons, List.not_mem_nil, or_false] at hd
        rcases hd with rfl | rfl
        · exact dueD_is _ okr0
        · exact dueD_is _ okr1
      refine SrcSH.ledger (GdR outer 540 2400 base s.heap l vs.toArray) (fun i ys h => All2 (RdV h) ys ([dueD parts r0, dueD (parts.take 3) r1].take i)) rfl F3 N3 List.mem_cons_self (show 2 ≤ sizeLine by decide) (fun i ys h h' a st => all2_stay st a fun d m => hans d (List.mem_of_mem_take m)) GdR.same ⟨T2, B2, D2, P2⟩ .nil ?turn ?fin
      case turn =>
        intro i v ys g I oI C oC D m₂ h tk E' hv hinv hlen G hoC hx F N
        obtain ⟨GT, GB, GD, GP⟩ := G
        have GX := XB.keeps GB.stays
        have GTT := TB.keeps GB.stays
        clear T2 B2 D2 P2 X2 TT2 F3 N3
        refine tests_nil ?_
        simp only [if_true]
        have hv2 : (i = 0 ∧ ∃ t, v = .str r0 t) ∨ (i = 1 ∧ ∃ t, v = .str r1 t) := by
          match i, hv with
          | 0, hv => exact .inl ⟨rfl, _, by simpa using hv.symm⟩
          | 1, hv => exact .inr ⟨rfl, _, by simpa using hv.symm⟩
        rcases hv2 with ⟨rfl, t, rfl⟩ | ⟨rfl, t, rfl⟩
        · refine wpS_Call_K (KF := (Mine.hd.heap_39 w.params)) ?_
          k_steps
          refine use_answer2 hr0 GB F N XB TB GD hne hd1 hp1 hshort (by omega) hi1 (by decide) (by decide) fun v g' h' tk' T F' N' B' D' st rd => ?_
          rw [ans_due1 (fun p h => part_ok (hok p h))] at rd
          exact ⟨g', h', tk', rfl, (all2_stay st hinv fun d m => hans d (List.mem_of_mem_take m)).snoc rd, ⟨GT.trans T, B', D', kts_list T GD GP⟩, F', N'⟩
        · refine wpS_Call_K (KF := (Mine.hd.heap_39 w.params)) ?_
          k_steps
          refine use_answer2 hr1 GB F N XB TB GD hne2 hd2 hp2 hs2 hn2 hi2 (by decide) (by decide) fun v g' h' tk' T F' N' B' D' st rd => ?_
          rw [ans_due2 (fun p h => part_ok (hok p h))] at rd
          exact ⟨g', h', tk', rfl, (all2_stay st hinv fun d m => hans d (List.mem_of_mem_take m)).snoc rd, ⟨GT.trans T, B', D', kts_list T GD GP⟩, F', N'⟩
      case fin =>
        intro g ys D h tk hinv G F N
        obtain ⟨GT, GB, GD, GP⟩ := G
        have GX := XB.keeps GB.stays
        have GTT := TB.keeps GB.stays
        clear T2 B2 D2 P2 X2 TT2 F3 N3
        obtain ⟨y0, y1, rfl, rd0, rd1⟩ := all2_two hinv
        have as0 : IsAns (dueD parts r0) := dueD_is _ okr0
        have as1 : IsAns (dueD (parts.take 3) r1) := dueD_is _ okr1
        obtain ⟨T1, o1, x1, N1⟩ := ans_entry as1 rd1 F N List.mem_cons_self
        obtain ⟨T0, o0, x0, N0⟩ := ans_entry as0 rd0 F N1 List.mem_cons_self
        have hp3 : StrsAre (vs.take 3).toArray.toList (parts.take 3) := hp.take' 3
        have hn3 : (parts.take 3).length ≤ 5 := by rw [List.length_take]; omega
        have hr0l : r0.length ≤ 1000 := by rw [← hr0, respT_len]; omega
        have hr1l : r1.length ≤ 1000 := by rw [← hr1, respT_len]; have := join_short hs2 hn2; omega
        clear N N1
        have hl5 := IsList.up GP F
        dsimp only
        iterate 14 (first | (k_unfold; (try dsimp only)) | walk1 | (dsimp only; walk1))
        refine use_due2 GB F N0 XB TB (IsList.up GP F) hpa (by omega) hr0l okr0 (by decide) (by decide) ?_
        clear F N0 hl5
        intro v0 Td0 od0 h0 tk0 xd0 F0 Nd0
        dsimp only
        iterate 20 (first | (k_unfold; (try dsimp only)) | walk1 | (dsimp only; walk1))
        rename Fr _ _ _ _ => F5
        rename News _ _ _ _ => N5
        refine use_due2 GB F5 N5 XB TB (N5.isList List.mem_cons_self) hp3 (by omega) hr1l okr1 (by decide) (by decide) ?_
        clear F5 N5
        intro v1 Td1 od1 h1 tk1 xd1 F6 Nd1
        dsimp only
        iterate 2 (first | (k_unfold; (try dsimp only)) | walk1 | (dsimp only; walk1))
        rename Fr _ _ _ _ => F7
        rename News _ _ _ _ => N7
        refine ne_lists (N7 (D, LCg.lst [y0, y1]) (by simp)).1 rfl rfl rfl (N7 _ List.mem_cons_self).1 rfl rfl rfl as0 as1 (x0.reads F7.keep (N7 (T0, o0) (by simp)).1) (x1.reads F7.keep (N7 (T1, o1) (by simp)).1) (xd0.reads F7.keep (N7 (Td0, od0) (by simp)).1) (xd1.reads F7.keep (N7 (Td1, od1) (by simp)).1) (by show 2400 + 3 + 64 < cLine; decide) ?_
        clear hinv
        k_steps
        exact ⟨rfl, g, _, _, t1, t2, D3, rfl, ⟨GT, GB, GD, GP⟩, F7⟩
    case rest4 =>
      rintro f s' ⟨rfl, g, h4, tk4, t1, t2, D3, rfl, ⟨T4, B4, D4, P4⟩, F4⟩
      clear F3 N3 T2 B2 D2 P2 X2 TT2
      have X4 := XB.keeps B4.stays
      have TT4 := TB.keeps B4.stays
      have N4 : News g L' h4 [] := News.nil
      dsimp only
      iterate 1 walk1
      k_dflt (refine LCg.Assign_ListComp_U (F₀ := by k_asm) (by rfl) (by with_unfolding_all rfl) (by rfl) (by decide) (by rfl) (by decide) (by rfl) (by rfl) (by rfl) ?_)
      walk1
      refine LCg.CompSrc.base rfl F4 N4 P4 hsz ?_
      intro g'
      refine comp_all NumRel (.inl P4) ?turn ?fin
      case turn =>
        intro v I oI C oC D ys m₂ h tk E' hv hC hx F₁ N₁
        obtain ⟨x, t, rfl⟩ := strs_mem hp v hv
        k_steps
        exact TurnEnd.intro ⟨x, t, rfl, by assumption⟩ (by assumption) (by assumption)
      case fin =>
        intro ys hys
        have hyl : ys.length ≤ 64 := by rw [← hys.len]; exact hvl
        have hys2 : ys.toArray.size ≤ sizeLine := sz_of hyl
        clear F4 N4
        iterate 3 walk1
        rename Fr _ _ _ _ => F5
        rename News _ _ _ _ => N5
        cases ha : parts.any (fun p => (numO p).isNone) with
        | true =>
          k_steps
          refine in_none_to ha (N5.isList List.mem_cons_self) hys hpa ?_
          k_steps
          exact hret _ _ _ _ T4 F5.keep rfl
        | false =>
          k_steps
          refine in_none_to ha (N5.isList List.mem_cons_self) hys hpa ?_
          k_steps
          rename Fr _ _ _ _ => F9
          rename News _ _ _ _ => N9
          rename IntsAre _ (absL parts) => i9
          refine ListComp_twoF F9 (by rfl) (by decide) (by rfl) (by decide) (by rfl) (by rfl) (by decide) ?_
          k_steps
          dsimp only
          rename Fr _ _ _ _ => F10
          rename News _ _ _ (_ :: _ :: _) => N10
          rename_i D9 its9 c9 h9 tk9 D10 h10 _
          have hy3 : All2 NumRel (vs.take 3).toArray.toList (ys.take 3) := hys.take 3
          have hp3 : StrsAre (vs.take 3).toArray.toList (parts.take 3) := hp.take' 3
          have ha3 := any_take ha 3
          refine outer_list (fun i zs nw => IntsAre zs (absPre parts i) ∧ (D9, ({ cls := .type "list", data := .seq its9 c9 } : Obj)) ∈ nw ∧ (D10, W.listOf (ys.take 3).toArray 0) ∈ nw) rfl F10 N10 List.mem_cons_self ⟨.nil, by simp, by simp⟩ ?turn2 ?fin2
          case turn2 =>
            intro hp I1 i v zs nw oI oC C D m₂ h tk E' hv iv hC hx F' N' off' ne'
            obtain ⟨p, n, t, e1, e2, rfl⟩ := nums_at hy3 hp3 ha3 (by simpa using hv)
            have hlog := small_log e2
            k_steps
            rename Fr _ _ _ _ => F11
            rename News _ _ _ (_ :: _ :: _) => N11
            rename_i _ D12 h12 l12
            refine inner_list (fun j zs nw => IntsAre zs (absPre parts i ++ [100, (n.natAbs : Int)].take j) ∧ (D9, ({ cls := .type "list", data := .seq its9 c9 } : Obj)) ∈ nw ∧ (D10, W.listOf (ys.take 3).toArray 0) ∈ nw) rfl F11 N11 off'
              ⟨Nat.ne_of_gt l12.1, Nat.ne_of_gt l12.2.1, Nat.ne_of_gt l12.2.2.1⟩ ⟨by rw [List.take_zero, List.append_nil]; exact iv.1, List.mem_cons_of_mem _ iv.2.1, List.mem_cons_of_mem _ iv.2.2⟩ ?len3 ?et3 ?fin3
            case len3 =>
              rintro j zs nw ⟨hz, _⟩
              rw [IntsAre.length hz]
              exact Nat.le_trans (absPre_len parts i j _) (by decide)
            case et3 =>
              intro I2 j v2 zs nw o2 oC m₂ h tk E' hv2 iv2 hC hx hy F' N' off'
              clear F11 N11
              k_steps
              refine ⟨_, _, nw, rfl, F', N', fun p hp => .inl hp, ⟨?_, iv2.2⟩, fun h => h⟩
              have hj : (j = 0 ∧ ∃ t, v2 = .int 100 t) ∨ (j = 1 ∧ ∃ t, v2 = .int (n.natAbs : Int) t) := by
                match j, hv2 with
                | 0, hv => exact .inl ⟨rfl, _, by simpa using hv.symm⟩
                | 1, hv => exact .inr ⟨rfl, _, by rw [← abs_if]; simpa using hv.symm⟩
              rcases hj with ⟨rfl, t, rfl⟩ | ⟨rfl, t, rfl⟩
              · exact ints_snoc iv2.1 rfl
              · exact ints_snoc iv2.1 (by simp)
            case fin3 =>
              rintro zs nw ⟨hz, h1, h2⟩
              exact ⟨⟨by rw [absPre_succ e1 e2]; exact hz, h1, h2⟩, h2⟩
          case fin2 =>
            intro hp D h tk zs nw iv off' N' F'
            have h9l : h.IsList D9 its9.toList.toArray := ⟨_, (N' _ (List.mem_cons_of_mem _ iv.2.1)).1, rfl, c9, by rw [Array.toArray_toList]⟩
            have hDl : h.IsList D zs.toArray := ⟨_, (N' _ List.mem_cons_self).1, rfl, _, rfl⟩
            have e5 : absPre parts (ys.take 3).toArray.size = absL parts := absPre_all (by rw [List.size_toArray, ← hy3.len, ← hp3.length]; exact Nat.le_refl _)
            refine ke_eq_ints (s := ⟨_, _, _, _, _⟩) h9l hDl i9 (e5 ▸ iv.1) (by show 2400 + 3 + 64 < cLine; decide) ?_
            rw [decide_eq_true rfl]
            exact hret _ _ _ _ T4 F'.keep rfl
end Mine

end
section
open PySem PySem.W PyProof.Rows PySem.Calls
set_option maxHeartbeats 2000000
namespace Mine
/-- a def with cells, entered under the caller -/
theorem call_cellsS {prog : Program} {w : World} {A : Around} {R : Result → Shared → Prop} {s : Shared} {name : Str} {params : Arguments} {body : List Stmt} {scope : Scope} {pm cd doc : Value} {a : Addr} {o : Obj} {args : List Value} {binds : List (Str × Value)}
    (hroom : A.depth < recursionLimit) (ho : s.heap.get? a = some o) (hdata : o.data = .func (Calls.docDef name params body scope pm cd doc)) (hlim : s.heap.NoLimit) (hcd : s.heap.CodeRec cd name)
    (hbind : bindArgs (Calls.docDef name params body scope pm cd doc) ⟨args, []⟩ = pure binds)
    (hkind : ∀ x ∈ binds, scope.names.lookup x.1 = some .local ∨ (scope.names.lookup x.1 = some .cell ∧ ((cellsFrom (s.heap.objs.size + 1) scope.names []).lookup x.1).isSome = true))
    (hnd : ((cellsFrom 0 scope.names []).map (·.1)).Nodup)
    (h : ∀ h₁ tk cells, Fr s.heap s.heap.objs.size h₁ (bindL (envOfC name scope s.heap.objs.size a cd).kindOf binds fun _ => none) → News s.heap s.heap.objs.size h₁ cells →
      CellsAre (bindC (envOfC name scope s.heap.objs.size a cd).kindOf binds fun _ => none) (cellsFrom (s.heap.objs.size + 1) scope.names []) cells →
      wpS SC (model prog w) (A.deeper (envOfC name scope s.heap.objs.size a cd)) (execs body (envOfC name scope s.heap.objs.size a cd)) (fun f s' => R (.ok (.ret (match f with | .ret v => v | _ => .none))) s')
        (fun e s' => wpAny (model prog w) (A.deeper (envOfC name scope s.heap.objs.size a cd)) (leaving (envOfC name scope s.heap.objs.size a cd) e) (fun _ s'' => R (.error e) s'') (fun e' s'' => R (.error e') s'') s')
        { s with heap := h₁, toks := tk })
    (hco : scope.isCoroutine = false := by rfl) (hgen : scope.isGenerator = false := by rfl) (hk : scope.kind = .function := by rfl) : codeS SC (model prog w) A (.call (.ref a) ⟨args, []⟩) R s := by
  refine codeS_call_function (fd := Calls.docDef name params body scope pm cd doc) (body := body) hroom ho hdata hco hgen rfl hcd ?_
  rw [hbind, show (Calls.docDef name params body scope pm cd doc).closure = [] from rfl]
  refine wpAny_pure (wpAny_newFunctionEnv_cells hk hkind fun env he s' x => ?_)
  subst he
  refine ⟨hlim.keeps x.toInCall.keep, codeS_func ?_⟩
  obtain ⟨h₁, tk, rfl, _⟩ := x.done
  have X : Cl s.heap.objs.size (cellsFrom (s.heap.objs.size + 1) scope.names []) h₁ (bindC (envOfC name scope s.heap.objs.size a cd).kindOf binds fun _ => none) := ⟨x.cell, x.apart, x.above⟩
  obtain ⟨cells, N, Y⟩ := Cl.news (h₀ := s.heap) (Nat.le_refl _) fun n c hm => ⟨X.cell n c (lookup_of_mem_nodup (cellsFrom_names scope.names 0 (s.heap.objs.size + 1) [] [] rfl ▸ hnd) hm), X.above n c hm⟩
  exact h h₁ tk cells ⟨x.toInCall.ns, x.toInCall.keep, x.toInCall.fresh⟩ N Y
end Mine

end
section
open PySem PySem.W PyProof.Rows PySem.Calls
set_option maxHeartbeats 2000000
namespace Mine
/-- a call of a contract from a frame with cells that the claim's caller called -/
theorem use_law {w : World} {d u : Nat} {f : Addr} {vs : List Value} {P : Heap → Prop} {R : Heap → Value → Heap → Prop} (C : TurnsS w d u f vs P R) {d' u' : Nat} {h₀ : Heap} {L a : Addr} {m : Str → Option Value} {news : List (Addr × Obj)} {s : Shared}
    {mean : ExcName → Option Value} {mg mb : Str → Option Value} {n : Str} {sc : Scope} {cd : Value} {Q E : Value → Shared → Prop} (F : Fr h₀ L s.heap m) (N : News h₀ L s.heap news) (X : (Mine.hd.heap_39 w.params).In h₀) (T : Top Mine.hd.view_39 (looseW Mine.hd.view_39 [Str.ofString "_twin_re_1", Str.ofString "_ver_stages", Str.ofString "_norm_version"]) mean mg mb h₀) (hP : P s.heap) (hd : d' + 1 ≤ d) (hu : u' + 3 ≤ u)
    (h : ∀ v h' tk', Fr h₀ L h' m → News h₀ L h' news → R s.heap v h' → Q v { s with heap := h', toks := tk' }) (hk : sc.kind = .function := by rfl) :
    wpS SC (model PySem.Challenge.rw_pe0058_01.row.prog w) ((AA d' u' []).deeper (envOfC n sc L a cd)) (call (.ref f) vs) Q E s := by
  have hL₀ := kts_self F
  have Bf : Below ((AA d' u' []).deeper (envOfC n sc L a cd)) h₀ (envOfC n sc L a cd :: []) s.heap :=
    ⟨Around.frames_deeper (outer := []) rfl, fun b o e => F.keep b o e, .cons (by show sc.kind ≠ .module; rw [hk]; decide) rfl F.ns hL₀ trivial⟩
  have Df : KtsDicts (fsOf (envOfC n sc L a cd :: [])) s.heap := fun b hb => by
    have hb' : b = L := List.mem_singleton.mp hb
    subst hb'
    obtain ⟨o, es, ep, ho, hd, _⟩ := F.ns
    exact ⟨o, es, ep, ho, hd⟩
  refine weakenS (C (envOfC n sc L a cd :: []) h₀ mean mg mb s Q E ⟨rfl, Bf.stays, Bf.frames⟩ X T Df hP fun v g' h' tk' T' st r => ?_) rfl hd rfl rfl hu
  have hb : ∀ b, b ∈ fsOf (envOfC n sc L a cd :: []) → b = L := fun b hm => List.mem_singleton.mp hm
  refine h v h' tk' ⟨?_, fun b o e => st b o (T'.other b o (F.keep b o e) fun hm => ?_), F.above⟩ (fun p hp => ⟨st _ _ (T'.other _ _ (N p hp).1 fun hm => (N p hp).2.1 (hb _ hm)), (N p hp).2⟩) r
  · obtain ⟨o, es, ep, ho, hd, q⟩ := F.ns
    obtain ⟨sl, hs⟩ := T'.frame L o ho (List.mem_singleton.mpr rfl)
    exact ⟨_, es, ep, st _ _ hs, hd, q⟩
  · rw [hb b hm, hL₀] at e
    cases e
/-- _law_right of a stretch of the row -/
theorem use_right {w : World} {d' u' : Nat} {h₀ : Heap} {L a D : Addr} {m : Str → Option Value} {news : List (Addr × Obj)} {s : Shared} {its : Array Value} {parts : List Str}
    {mean : ExcName → Option Value} {mg mb : Str → Option Value} {n : Str} {sc : Scope} {cd : Value} {Q E : Value → Shared → Prop} (F : Fr h₀ L s.heap m) (N : News h₀ L s.heap news) (X : (Mine.hd.heap_39 w.params).In h₀) (T : Top Mine.hd.view_39 (looseW Mine.hd.view_39 [Str.ofString "_twin_re_1", Str.ofString "_ver_stages", Str.ofString "_norm_version"]) mean mg mb h₀) (hl : s.heap.IsList D its) (hp : StrsAre its.toList parts)
    (hok : ∀ p ∈ parts, Part p) (hne : parts ≠ []) (hn : parts.length ≤ 5) (hd : d' + 1 ≤ 540) (hu : u' + 3 ≤ 2400)
    (h : ∀ h' tk', Fr h₀ L h' m → News h₀ L h' news → Q (.bool true) { s with heap := h', toks := tk' }) (hk : sc.kind = .function := by rfl) :
    wpS SC (model PySem.Challenge.rw_pe0058_01.row.prog w) ((AA d' u' []).deeper (envOfC n sc L a cd)) (call (.ref 127) [.ref D]) Q E s := by
  obtain ⟨ini, b, rfl⟩ : ∃ ini b, parts = ini ++ [b] := ⟨parts.dropLast, parts.getLast hne, (List.dropLast_concat_getLast hne).symm⟩
  have hlen := hp.length
  obtain ⟨vi, v, hvi⟩ : ∃ vi v, its.toList = vi ++ [v] := by
    have hne' : its.toList ≠ [] := by
      intro e
      rw [e] at hlen
      simp at hlen
    exact ⟨its.toList.dropLast, its.toList.getLast hne', (List.dropLast_concat_getLast hne').symm⟩
  have hil : vi.length = ini.length := by
    rw [hvi] at hlen
    simp at hlen
    exact hlen
  have hv : ∃ tb, v = .str b tb := by
    rw [hvi] at hp
    obtain ⟨y, t, e, hy⟩ := hp.item vi.length v (by simp)
    have : y = b := by
      rw [hil] at hy
      simp at hy
      exact hy.symm
    subst this
    exact ⟨t, e⟩
  obtain ⟨tb, rfl⟩ := hv
  have hip : StrsAre vi ini := by
    have := hp.take' vi.length
    rw [hvi] at this
    rw [hil] at this
    simpa [← hil] using this
  refine use_law (right_spec w D its.toList vi (ini ++ [b]) ini b tb hp hok hn rfl hvi hip) F N X T (by show s.heap.IsList D its.toList.toArray; rw [Array.toArray_toList]; exact hl) hd hu (fun v h' tk' F' N' r => ?_) hk
  subst r
  exact h h' tk' F' N'
end Mine

end
section
open PySem PySem.W PyProof.Rows PySem.Calls
set_option maxHeartbeats 4000000
namespace Mine
local macro_rules | `(tactic| walk_at "pad 0") => `(tactic| fail "no line")
local macro_rules | `(tactic| walk_at "pad 1") => `(tactic| fail "no line")
local macro_rules | `(tactic| walk_at "pad 2") => `(tactic| fail "no line")
local macro_rules | `(tactic| walk_at "pad 3") => `(tactic| fail "no line")
local macro_rules | `(tactic| walk_at "pad 4") => `(tactic| fail "no line")
local macro_rules | `(tactic| walk_at "pad 5") => `(tactic| fail "no line")
local macro_rules | `(tactic| walk_at "pad 6") => `(tactic| fail "no line")
local macro_rules | `(tactic| walk_at "pad 7") => `(tactic| fail "no line")
local macro_rules | `(tactic| walk_at "pad 8") => `(tactic| fail "no line")
local macro_rules | `(tactic| walk_at "pad 9") => `(tactic| fail "no line")
local macro_rules | `(tactic| walk_at "pad 10") => `(tactic| fail "no line")
local macro_rules | `(tactic| walk_at "pad 11") => `(tactic| fail "no line")
local macro_rules | `(tactic| walk_at "pad 12") => `(tactic| fail "no line")
local macro_rules | `(tactic| walk_at "pad 13") => `(tactic| fail "no line")
local macro_rules | `(tactic| walk_at "pad 14") => `(tactic| fail "no line")
local macro_rules | `(tactic| walk_at "pad 15") => `(tactic| fail "no line")
local macro_rules | `(tactic| walk_at "pad 16") => `(tactic| fail "no line")
local macro_rules | `(tactic| walk_at "pad 17") => `(tactic| fail "no line")
local macro_rules | `(tactic| walk_at "pad 18") => `(tactic| fail "no line")
local macro_rules | `(tactic| walk_at "pad 19") => `(tactic| fail "no line")
local macro_rules | `(tactic| walk_at "pad 20") => `(tactic| fail "no line")
local macro_rules | `(tactic| walk_at "pad 21") => `(tactic| fail "no line")
local macro_rules | `(tactic| walk_at "pad 22") => `(tactic| fail "no line")
local macro_rules | `(tactic| walk_at "pad 23") => `(tactic| fail "no line")
local macro_rules | `(tactic| walk_at "pad 24") => `(tactic| fail "no line")
local macro_rules | `(tactic| walk_at "pad 25") => `(tactic| fail "no line")
local macro_rules | `(tactic| walk_at "pad 26") => `(tactic| fail "no line")
local macro_rules | `(tactic| walk_at "pad 27") => `(tactic| fail "no line")
local macro_rules | `(tactic| walk_at "pad 28") => `(tactic| fail "no line")
local macro_rules | `(tactic| walk_at "pad 29") => `(tactic| fail "no line")
local macro_rules | `(tactic| walk_at "pad 30") => `(tactic| fail "no line")
local macro_rules | `(tactic| walk_at "pad 31") => `(tactic| fail "no line")
local macro_rules | `(tactic| walk_at "pad 32") => `(tactic| fail "no line")
local macro_rules | `(tactic| walk_at "pad 33") => `(tactic| fail "no line")
local macro_rules | `(tactic| walk_at "pad 34") => `(tactic| fail "no line")
local macro_rules | `(tactic| walk_at "pad 35") => `(tactic| fail "no line")
local macro_rules | `(tactic| walk_at "pad 36") => `(tactic| fail "no line")
local macro_rules | `(tactic| walk_at "pad 37") => `(tactic| fail "no line")
local macro_rules | `(tactic| walk_at "pad 38") => `(tactic| fail "no line")
local macro_rules | `(tactic| walk_at "pad 39") => `(tactic| fail "no line")
local macro_rules | `(tactic| walk_at "pad 40") => `(tactic| fail "no line")
local macro_rules | `(tactic| walk_at "pad 41") => `(tactic| fail "no line")
local macro_rules | `(tactic| walk_at "pad 42") => `(tactic| fail "no line")
local macro_rules | `(tactic| walk_at "pad 43") => `(tactic| fail "no line")
local macro_rules | `(tactic| walk_at "pad 44") => `(tactic| fail "no line")
local macro_rules | `(tactic| walk_at "pad 45") => `(tactic| fail "no line")
local macro_rules | `(tactic| walk_at "pad 46") => `(tactic| fail "no line")
local macro_rules | `(tactic| walk_at "pad 47") => `(tactic| fail "no line")
local macro_rules | `(tactic| k_steps) => `(tactic| repeat' (first | (k_unfold; (try dsimp only)) | walk1 | (dsimp only; walk1)))
local macro_rules | `(tactic| walk_at "pyIter ref") => `(tactic| fail "here")
local macro_rules | `(tactic| walk_at "call builtin:len") => `(tactic| (k_here; k_dflt (refine len_strs2 (by kmk_list) (by assumption) (by omega) ?_)))
local macro_rules | `(tactic| walk_at "subscriptTail Name Slice ref ref") => `(tactic| (k_here; k_dflt (refine' kmk_slice_lit ?F ?N ?l ?p ?q ?e ?_ ?s ?t ?z; (case F => k_asm); (case N => k_asm); (case l => kmk_list); (case p => kmk_part); (case q => kmk_part); (case e => exact pick_run2 _ _ _ (by (first | assumption | omega)) (by (first | assumption | omega))); (case s => with_unfolding_all rfl); (case t => kmk_pure); (case z => assumption)); intro D' h' F' N' l1; (try k_lt l1); (try k_sweep)))
local macro_rules | `(tactic| walk_at "CompSrc") => `(tactic| fail "here")
/-- an item of the row -/
def RowRel (_ y : Value) : Prop := ∃ p t, y = .str p t ∧ Part p
theorem ints_mem : ∀ {vs : List Value} {ns : List Int}, IntsAre vs ns → ∀ v, v ∈ vs → ∃ n t, v = .int n t
  | _, _, .nil, _, h => nomatch h
  | _, _, .cons n t r, v, h => by
    rcases List.mem_cons.mp h with rfl | h
    · exact ⟨n, t, rfl⟩
    · exact ints_mem r v h
theorem ints_len {vs : List Value} {ns ms : List Int} (h : IntsAre vs (ns.take 3 ++ ms)) : vs.length ≤ 3 + ms.length := by
  rw [IntsAre.length h, List.length_append, List.length_take]
  omega
theorem arr_room {vs : List Value} (h : vs.length ≤ 3 + 8) : vs.toArray.size ≤ sizeLine := by
  rw [List.size_toArray]
  exact Nat.le_trans h (by decide)
theorem row_strs : ∀ {vs ys : List Value}, All2 RowRel vs ys → ∃ rp, StrsAre ys rp ∧ ∀ p ∈ rp, Part p
  | _, _, .nil => ⟨[], .nil, fun p h => nomatch h⟩
  | _, _, .cons g r => by
    obtain ⟨p, t, rfl, hp⟩ := g
    obtain ⟨rp, h1, h2⟩ := row_strs r
    refine ⟨p :: rp, .cons _ _ h1, fun q hq => ?_⟩
    rcases List.mem_cons.mp hq with rfl | hq
    · exact hp
    · exact h2 q hq
/-- the state behind the law's first statement -/
def MidL (s₁ : Shared) (f : Flow) (s' : Shared) : Prop :=
  f = .next ∧ ∃ h tk m R ys rp o, s' = { s₁ with heap := h, toks := tk } ∧ Fr s₁.heap s₁.heap.objs.size h m ∧ News s₁.heap s₁.heap.objs.size h [(R, LCg.lst ys), (s₁.heap.objs.size + 1, o)] ∧ o.data = .cell (some (.ref R)) ∧ StrsAre ys rp ∧ (∀ p ∈ rp, Part p) ∧ 8 ≤ rp.length ∧ rp.length ≤ 11
theorem MidL.intro {s₁ : Shared} {m : Str → Option Value} {h : Heap} {tk : Nat} {R : Addr} {ys : List Value} {o : Obj} {vs : List Value} {news : List (Addr × Obj)} (F : Fr s₁.heap s₁.heap.objs.size h m) (N : News s₁.heap s₁.heap.objs.size h ((R, LCg.lst ys) :: news)) (d : o.data = .cell (some (.ref R)))
    (hys : All2 RowRel vs ys) (hm : (s₁.heap.objs.size + 1, o) ∈ ((R, LCg.lst ys) :: news)) (lo : 8 ≤ ys.length) (hi : ys.length ≤ 11) : MidL s₁ .next { s₁ with heap := h, toks := tk } := by
  obtain ⟨rp, h1, h2⟩ := row_strs hys
  refine ⟨rfl, h, tk, m, R, ys, rp, o, rfl, F, fun p hp => ?_, d, h1, h2, by rw [← h1.length]; exact lo, by rw [← h1.length]; exact hi⟩
  rcases List.mem_cons.mp hp with rfl | hp
  · exact N _ List.mem_cons_self
  · rw [List.mem_singleton.mp hp]; exact N _ hm
/-- the stretches: lists of parts that the ledger holds -/
def GoodZ (zs : List Value) (nw : List (Addr × Obj)) : Prop := ∀ z ∈ zs, ∃ A its parts, z = .ref A ∧ (A, W.listOf its 0) ∈ nw ∧ StrsAre its.toList parts ∧ (∀ p ∈ parts, Part p) ∧ parts ≠ [] ∧ parts.length ≤ 5
/-- the state behind the law's second statement -/
def MidM (s₁ : Shared) (f : Flow) (s' : Shared) : Prop :=
  f = .next ∧ ∃ (h : Heap) (tk : Nat) (m : Str → Option Value) (D : Addr) (zs : List Value) (nw : List (Addr × Obj)), s' = { s₁ with heap := h, toks := tk } ∧ Fr s₁.heap s₁.heap.objs.size h (fun u => if u = Str.ofString "stretches" then some (.ref D) else m u) ∧ News s₁.heap s₁.heap.objs.size h ((D, LCg.lst zs) :: nw) ∧ GoodZ zs nw ∧ zs.length ≤ 1000
theorem dup_two {g h : Heap} {L : Addr} {a b p q r : Addr × Obj} {nw : List (Addr × Obj)} (N : News g L h (p :: q :: r :: nw)) (ha : a ∈ nw) (hb : b ∈ nw) : News g L h (a :: b :: p :: q :: r :: nw) := fun x hx => by
  rcases List.mem_cons.mp hx with rfl | hx
  · exact N _ (by simp [ha])
  rcases List.mem_cons.mp hx with rfl | hx
  · exact N _ (by simp [hb])
  exact N x hx
theorem dup_three {g h : Heap} {L : Addr} {a b p q r u : Addr × Obj} {nw : List (Addr × Obj)} (N : News g L h (p :: q :: r :: u :: nw)) (ha : a ∈ nw) (hb : b ∈ nw) : News g L h (a :: b :: p :: q :: r :: u :: nw) := fun x hx => by
  rcases List.mem_cons.mp hx with rfl | hx
  · exact N _ (by simp [ha])
  rcases List.mem_cons.mp hx with rfl | hx
  · exact N _ (by simp [hb])
  exact N x hx
theorem range_ok {n : Nat} (h : n ≤ 11) : Builtin.Range.small 0 (n : Int) 1 = true ∧ Builtin.Range.rangeSize 0 (n : Int) 1 = (n : Int) := by
  have : n = 0 ∨ n = 1 ∨ n = 2 ∨ n = 3 ∨ n = 4 ∨ n = 5 ∨ n = 6 ∨ n = 7 ∨ n = 8 ∨ n = 9 ∨ n = 10 ∨ n = 11 := by omega
  rcases this with rfl | rfl | rfl | rfl | rfl | rfl | rfl | rfl | rfl | rfl | rfl | rfl <;> decide
theorem pick_run2 (vs : List Value) (k n : Nat) {x y : Int} (hx : x = (k : Int)) (hy : y = (k : Int) + (n : Int)) : (slicePick vs.toArray (some x) (some y) none).toList = (vs.drop k).take n := by
  subst hx hy
  exact pick_run vs k n
theorem elt_stretch {g h : Heap} {L D8 : Addr} {m : Str → Option Value} {s₂ : Shared} {a b p q r u : Addr × Obj} {nw : List (Addr × Obj)} {zs vs : List Value} {parts : List Str} {k tk : Nat} (F : Fr g L h m) (N : News g L h ((D8, W.listOf vs.toArray 0) :: a :: b :: p :: q :: r :: u :: nw))
    (lt : ∀ x ∈ a :: b :: p :: q :: r :: u :: nw, x.1 < D8) (iz : GoodZ zs nw) (hp : StrsAre vs parts) (hok : ∀ x ∈ parts, Part x) (h1 : 1 ≤ parts.length) (h5 : parts.length ≤ 5) (hk : zs.length + 1 ≤ k) (ha : a ∈ nw) (hb : b ∈ nw) :
    EltEnd g L m s₂ [p, q, r, u] nw (fun yv nw' => GoodZ (zs ++ [yv]) nw' ∧ (zs ++ [yv]).length ≤ k ∧ a ∈ nw' ∧ b ∈ nw') (.ref D8) { s₂ with heap := h, toks := tk } := by
  refine ⟨h, tk, (D8, W.listOf vs.toArray 0) :: nw, rfl, F, fun x hx => N x ?_, fun x hx => ?_, fun z hz => ?_, by rw [List.length_append]; exact hk, List.mem_cons_of_mem _ ha, List.mem_cons_of_mem _ hb⟩
  · simp only [List.cons_append, List.nil_append, List.mem_cons] at hx ⊢
    rcases hx with h | h | h | h | h | h <;> simp [h]
  · rcases List.mem_cons.mp hx with rfl | hx
    · refine .inr fun y hy => Ne.symm (Nat.ne_of_lt (lt y ?_))
      simp only [List.mem_cons, List.not_mem_nil, or_false] at hy ⊢
      rcases hy with h | h | h | h <;> simp [h]
    · exact .inl hx
  · rcases List.mem_append.mp hz with hz | hz
    · obtain ⟨A, its, ps, e, hm, r⟩ := iz z hz
      exact ⟨A, its, ps, e, List.mem_cons_of_mem _ hm, r⟩
    · exact ⟨D8, vs.toArray, parts, List.mem_singleton.mp hz, List.mem_cons_self, hp, hok, by intro e; rw [e] at h1; simp at h1, h5⟩
theorem zz : PySem.Challenge.rw_pe0058_01.Holds := Mine.hd (by
  w_top off
  k_fill
  intro w s₀ s₁ mg mb G Y fa o pm cd doc dV kV ho hd hcd hD hmg hg args vals as hpre hlay hrd hwl hlo
  have KX := kIn_of Y
  have X := (Ground.X G).1
  have V := (Ground.X G).2
  refine Ground.open G ?_
  intro T B D TE TW
  try (refine guard_noD D (by decide +kernel) ?_; clear D)
  obtain ⟨_, _, M⟩ := bmod_of_top T
  have TA := at_of_top T
  clear hmg
  wrow_args hpre hlay hrd hwl hlo
  have K0 := below_caller (Top.heap T)
  refine wpS_call (sc_under _) ?_
  have he := Dflts.none hD rfl
  subst he
  have he := Dflts.noKw hD
  subst he
  refine call_cellsS (by decide) ho (fd_plain hd) (Top.nolimit T) hcd rfl (kinds_of (by kinds_ok)) (by decide) fun h₁ tk₁ cells F N0 X0 => ?_
  cells_open X0
  dsimp only
  (try k_fold)
  refine wpS_execs_any (wpAny_mono (Q := MidL s₁) ?first ?rest fun _ _ e => e)
  case first =>
    iterate 1 walk1
    k_dflt (refine LCg.ListComp_U (F₀ := by k_asm) (by rfl) (by decide) (by rfl) (by decide) (by rfl) ?_)
    iterate 29 (first | (k_unfold; (try dsimp only)) | walk1 | (dsimp only; walk1))
    rename Fr _ _ _ _ => F2
    rename News _ _ _ _ => N2
    rename IntsAre _ (_ ++ _) => hI2
    have hsz2 := ints_len hI2
    refine LCg.CompSrc.ledger rfl F2 N2 List.mem_cons_self (arr_room hsz2) ?_
    intro g'
    refine comp_all RowRel (.inr ⟨_, List.mem_cons_self, rfl, _, rfl⟩) ?turn ?fin
    case turn =>
      intro v I oI C oC D ys m₂ h tk E' hv hC hx F₁ N₁
      obtain ⟨n, t, rfl⟩ := ints_mem hI2 v hv
      clear F2 N2
      k_steps
      all_goals (rename News _ _ _ _ => NN; exact TurnEnd.intro ⟨_, _, rfl, by unfold Part menu; simp⟩ (by assumption) (by first | exact NN | exact fun p hp => NN p (List.mem_cons_of_mem _ hp)))
    case fin =>
      intro ys hys
      clear F2 N2
      k_steps
      rename Fr _ _ _ _ => F3
      rename News _ _ _ _ => N3
      rename _ = Data.cell _ => d3
      have hl3 : ys.length = _ := hys.len.symm.trans (IntsAre.length hI2)
      exact MidL.intro F3 N3 d3 hys (by simp) (by rw [hl3, List.length_append]; simp) (by rw [← hys.len]; exact hsz2)
  case rest =>
    rintro f s' ⟨rfl, h2, tk2, m, R, ys, rp, o2, rfl, F2, N2, d2, hrp, hpart, hlo, hhi⟩
    clear F N0 X0
    dsimp only
    refine wpS_execs_any (wpAny_mono (Q := MidM s₁) ?first2 ?rest2 fun _ _ e => e)
    case first2 =>
      refine Assign_two (g := s₁.heap) (L := s₁.heap.objs.size) (m := m) rfl (by with_unfolding_all rfl) (by rfl) (by decide) (by rfl) (by decide) (by rfl) (by rfl) (by decide) (by rfl) (by rfl) ?_
      k_steps
      rename Fr _ _ _ _ => F3
      rename News _ _ _ _ => N3
      rename IsRange _ _ _ _ _ _ _ _ => r3
      refine outer_range (n := 5) (fun i zs nw => GoodZ zs nw ∧ zs.length ≤ 11 * i ∧ (R, LCg.lst ys) ∈ nw ∧ (s₁.heap.objs.size + 1, o2) ∈ nw) rfl F3 N3 r3 (by decide) (by decide) ⟨(fun z hz => nomatch hz), by simp, by simp, by simp⟩ ?turn2 ?fin2
      case turn2 =>
        intro hp I1 i t zs nw oI oC C D m₂ h tk E' hi iv hC hx F' N' off' ne'
        obtain ⟨iz, il, iR, iC⟩ := iv
        have N4 : News s₁.heap s₁.heap.objs.size h ((R, LCg.lst ys) :: (s₁.heap.objs.size + 1, o2) :: (I1, oI) :: (C, oC) :: (D, LCg.lst zs) :: nw) := dup_two N' iR iC
        clear N' N3 F3 r3
        dsimp only
        k_steps
        dsimp only
        rename Fr _ _ _ _ => F5
        rename News _ _ _ _ => N5
        rename IsRange _ _ _ _ _ _ _ _ => r5
        obtain ⟨n, hn⟩ : ∃ n : Nat, (rp.length : Int) - (1 + (i : Int)) + 1 = (n : Int) ∧ n = rp.length - i ∧ n ≤ 11 := ⟨rp.length - i, by omega, rfl, by omega⟩
        obtain ⟨hn1, hn2, hn3⟩ := hn
        rw [hn1] at r5
        have N6 : News s₁.heap s₁.heap.objs.size _ ((I1, oI) :: (C, oC) :: (D, LCg.lst zs) :: nw) := fun p hp => N5 p (List.mem_cons_of_mem _ (List.mem_cons_of_mem _ hp))
        refine inner_range (n := n) (fun j zs nw => GoodZ zs nw ∧ zs.length ≤ min (11 * i + j) 66 ∧ (R, LCg.lst ys) ∈ nw ∧ (s₁.heap.objs.size + 1, o2) ∈ nw) rfl F5 N6 off' r5 (range_ok hn3).1 (range_ok hn3).2 ⟨iz, by omega, iR, iC⟩ ?len2 ?et2 ?fin3
        case len2 =>
          rintro j zs nw ⟨_, hl, _, _⟩
          exact Nat.le_trans (Nat.le_trans hl (Nat.min_le_right _ _)) (by decide)
        case et2 =>
          intro I2 j t2 zs nw o2' oC m₂ h tk E' hj iv2 hC hx hy F' N' off'
          obtain ⟨iz, il, iR, iC⟩ := iv2
          have N7 := dup_three N' iR iC
          clear N' N5 N6 F5 r5
          have hkx : (0 + (j : Int)) = (j : Int) := by omega
          have hky : (0 + (j : Int)) + (1 + (i : Int)) = (j : Int) + ((i + 1 : Nat) : Int) := by omega
          have hys2 : ys.toArray.size ≤ sizeLine := by rw [List.size_toArray, hrp.length]; exact Nat.le_trans hhi (by decide)
          dsimp only
          iterate 11 (first | (k_unfold; (try dsimp only)) | walk1 | (dsimp only; walk1))
          refine' kmk_slice_lit ?zF ?zN ?zl ?zp ?zq ?ze ?_ ?zs ?zt ?zz
          case zF => k_asm
          case zN => k_asm
          case zl => kmk_list
          case zp => kmk_part
          case zq => kmk_part
          case ze => exact pick_run2 ys j (i + 1) (by (first | assumption | omega)) (by (first | assumption | omega))
          case zs => with_unfolding_all rfl
          case zt => kmk_pure
          case zz => exact hys2
          intro D8 h8 F8 N8 l8
          exact elt_stretch F8 N8 l8 iz (StrsAre.take' (hrp.drop' j) (i + 1)) (fun p hp => hpart p (List.mem_of_mem_drop (List.mem_of_mem_take hp))) (by rw [List.length_take, List.length_drop]; omega) (by rw [List.length_take]; omega) (by omega) iR iC
        case fin3 =>
          rintro zs nw ⟨h1, h2, h3, h4⟩
          exact ⟨⟨h1, by omega, h3, h4⟩, trivial⟩
      case fin2 =>
        intro hp D h tk zs nw iv off' N' F' h' tk' F'' N''
        exact ⟨rfl, h', tk', m, D, zs, nw, rfl, F'', N'', iv.1, by have := iv.2.1; omega⟩
    case rest2 =>
      rintro f s' ⟨rfl, h3, tk3, m3, D, zs, nw, rfl, F3, N3, hz, hzl⟩
      clear F2 N2
      dsimp only
      have hzs : zs.toArray.size ≤ sizeLine := by rw [List.size_toArray]; exact Nat.le_trans hzl (by decide)
      refine wpS_execs_S (wpS_Return (wpS_Compare (wpS_ListCompF F3 (by rfl) (by decide) (by rfl) (by decide) (by rfl) ?_)))
      k_steps
      refine SrcSH.ledger (fun g => g = s₁.heap) (fun _ ys _ => ys = []) rfl F3 N3 List.mem_cons_self hzs (fun _ _ _ _ e _ => e) (fun g g' e e' b h => by rw [e', ← e]; exact h) rfl rfl ?turn3 ?fin3
      case turn3 =>
        intro i v ys g I oI C oC D' m₂ h tk E' hv iv hl G hoC hx F N
        subst G
        obtain ⟨A, its, parts, rfl, hm, hp, hok, hne, h5⟩ := hz v (by rw [List.getElem?_toArray] at hv; exact List.mem_of_getElem? hv)
        refine tests_one (wpS_isTrue_Not (wpS_isTrue_Call (wpS_Call_K (KF := (Mine.hd.heap_39 w.params)) ?_)))
        k_steps
        refine use_right F N KX T ⟨_, (N (A, W.listOf its 0) (by simp [hm])).1, rfl, _, rfl⟩ hp hok hne h5 (by decide) (by decide) ?_
        intro h' tk' F' N'
        dsimp only
        refine wpAny_truthy_bool ?_
        simp only [Bool.not_true, Bool.false_eq_true, if_false]
        exact ⟨s₁.heap, h', tk', rfl, iv, rfl, F', N'⟩
      case fin3 =>
        intro g ys D' h tk iv G F N
        subst iv
        subst G
        k_steps
        refine GoodW.toG ?_
        wrow_close)
end Mine

end
set_option maxRecDepth 100000 in
set_option maxHeartbeats 8000000 in
theorem PySem.Challenge.cw_pe0058_01_holds : PySem.Challenge.rw_pe0058_01.Holds := by
  exact Mine.zz
