import PyProof.Rows.All
import OpenK.AllK
import Wide.FinOn
import Wide.All
import KE.KNest
import KE.KDictOf
import KE.KDictSum
import KE.KEqDict
import PyProof.RaisesMany
import PyProof.ExcClass2
import PyProof.ExcBaseAll.Exception
import PyProof.CompUse
import Lean
import PySem.Challenge.RW_ci0025_01
set_option Elab.async false
set_option linter.unusedVariables false
section
set_option maxRecDepth 100000
open PySem PySem.Calls PyProof.Rows PySem.W PySem.Spec
namespace Mine
def keyIsStr (e : DictEntry) : Bool := match e.key with | .str _ _ => true | _ => false
def sysObs0 (h : Heap) : Bool := match h.get? 1 with
  | some ⟨_, _, .dict es _, _⟩ => es.toList.any keyIsStr
  | _ => false
/-- no second thread has been counted -/
def statObs (h : Heap) : Bool := match h.get? cStatics with
  | some ⟨_, _, .dict es _, _⟩ => (nsFind es "_thread.count").isNone
  | _ => false
def sysObs (h : Heap) : Bool := sysObs0 h && statObs h
theorem sysObs_0 {h : Heap} (x : sysObs h = true) : sysObs0 h = true := (Bool.and_eq_true_iff.mp x).1
theorem sysObs_stat {h : Heap} (x : sysObs h = true) : statObs h = true := (Bool.and_eq_true_iff.mp x).2
theorem sysObs_keeps {h h' : Heap} (k : ∀ b o, h.get? b = some o → h'.get? b = some o) (x : sysObs h = true) : sysObs h' = true := by
  have x0 := sysObs_0 x
  have x1 := sysObs_stat x
  refine Bool.and_eq_true_iff.mpr ⟨?_, ?_⟩
  · unfold sysObs0 at x0 ⊢
    cases q : h.get? 1 with
    | none => rw [q] at x0; cases x0
    | some o => rw [q] at x0; rw [k 1 o q]; exact x0
  · unfold statObs at x1 ⊢
    cases q : h.get? cStatics with
    | none => rw [q] at x1; cases x1
    | some o => rw [q] at x1; rw [k _ o q]; exact x1
theorem statObs_ns {h : Heap} (x : statObs h = true) {mc : Str → Option Value} (n : h.Ns cStatics mc) : mc "_thread.count" = none := by
  obtain ⟨⟨c, d, dt, sl⟩, es, ep, ho, hd, hk, hf⟩ := n
  simp only at hd
  subst hd
  unfold statObs at x
  rw [ho] at x
  rw [← hf]
  exact Option.isNone_iff_eq_none.mp x
def myHook (K : Params → Frag) (as : List Addr) (e : ∀ P, as = (K P).map (·.1)) : Hook where
  α := List (Option Obj) × List (Option Obj) × Bool
  obs := fun s => (as.map s.heap.get?, [43, 52, 84].map s.heap.get?, sysObs s.heap)
  val := fun w => ((K w.params).map fun p => some p.2, [43, 52, 84].map fun _ => some (tabObj #[]), true)
  says := fun w h => InK K w h ∧ (∀ P ∈ [43, 52, 84], h.get? P = some (tabObj #[])) ∧ sysObs h = true
  of := fun w s x => ⟨InK.of e w s (Prod.mk.inj x).1, List.map_inj_left.mp (Prod.mk.inj (Prod.mk.inj x).2).1, (Prod.mk.inj (Prod.mk.inj x).2).2⟩
  keeps := fun w h h' x k => ⟨InK.keeps w h h' x.1 k, fun P hP => k _ _ (x.2.1 P hP), sysObs_keeps k x.2.2⟩
end Mine
end
section
set_option maxRecDepth 100000
open PySem PySem.Calls PyProof.Rows PySem.W PySem.Spec
namespace Mine
/-- the machine's own frame that looks at what the collector has found: it never stands below a claim's call -/
def isFin : Code → Bool
  | .builtin id _ => id == "lifetime.gc.finalise"
  | _ => false
def Clean (Γ : PySem.Ctx) : Prop := isFin Γ.code = false ∧ ∀ x ∈ Γ.below, isFin x.1 = false
abbrev callerΓ : PySem.Ctx := ⟨.builtin "claim.caller" {}, none, none, [], none⟩
theorem callerΓ_clean : Clean callerΓ := ⟨by decide, fun _ h => by cases h⟩
def wpC {α : Type} (M : Model) (A : Around) (t : Sem α) (Q : α → Shared → Prop) (E : Value → Shared → Prop) (s : Shared) : Prop :=
  ∀ Γ p, Γ.In A → Clean Γ → Sem.wp M Γ t (fun a _ s' => Q a s') (fun e _ s' => E e s') p s
def codeC (M : Model) (A : Around) (c : Code) (R : Result → Shared → Prop) (s : Shared) : Prop := ∀ Γ p, Γ.code = c → Γ.Below A → Clean Γ → wpCode M Γ R p s
section
variable {α β : Type} {M : Model} {A : Around} {Q : α → Shared → Prop} {E : Value → Shared → Prop} {s : Shared}
theorem wpC_of {t : Sem α} (h : wpAny M A t Q E s) : wpC M A t Q E s := fun Γ p hΓ _ => h Γ p hΓ
theorem codeC_of {c : Code} {R : Result → Shared → Prop} (h : codeAny M A c R s) : codeC M A c R s := fun Γ p hc hΓ _ => h Γ p hc hΓ
theorem wpC_mono {t : Sem α} {Q' : α → Shared → Prop} {E' : Value → Shared → Prop} (h : wpC M A t Q E s) (hq : ∀ a s', Q a s' → Q' a s') (he : ∀ e s', E e s' → E' e s') : wpC M A t Q' E' s := fun Γ p hΓ hc =>
  Sem.wp_mono M Γ _ (fun a _ s' z => hq a s' z) (fun e _ s' z => he e s' z) p s (h Γ p hΓ hc)
theorem wpC_bind {m : Sem α} {f : α → Sem β} {Q : β → Shared → Prop} (h : wpC M A m (fun a s' => wpC M A (f a) Q E s') E s) : wpC M A (m >>= f) Q E s := fun Γ p hΓ hc => by
  rw [Sem.wp_bind']
  exact Sem.wp_mono M Γ m (fun a p' s' h' => h' Γ p' hΓ hc) (fun _ _ _ h' => h') p s (h Γ p hΓ hc)
theorem wpC_pure {a : α} {Q : α → Shared → Prop} (h : Q a s) : wpC M A (pure a) Q E s := fun _ _ _ _ => h
end
/-- the head of a claim, for the one thread that a claim is about -/
abbrev WalkC (q : Program) (loose : List Str) (XP : (Str → Option Value) → Heap → Prop) (YP : World → Heap → Prop) (r : RowW) (d : DefRec) (kwd : List (Str × Expr)) : Prop :=
  ∀ (w : World) (s₀ s₁ : Shared) (mg mb : Str → Option Value), Ground q loose r.records XP w s₀ mg mb s₁.heap → YP w s₁.heap → ∀ (a : Addr) (o : Obj) (pm cd doc dV kV : Value), s₁.heap.get? a = some o →
    o.data = .func { docDef d.name d.params d.body d.scope pm cd doc with defaults := dV, kwdefaults := kV } → s₁.heap.CodeRec cd d.name → Dflts mg s₁.heap d.params kwd dV kV → mg d.name = some (.ref a) → s₁.gens = #[] →
    ∀ (args : List WData) (vals : List Value) (as : List Addr), r.claim.pre args = true → WData.layableAll args = true → ReadsAllW r.records (classAt s₀.heap) s₁.heap vals args as → WellAll w.params s₁.heap vals args → (∀ a ∈ as, (a == sysModules) = false) →
      wpC (model r.prog w) callerA (PySem.call (.ref a) vals) (fun v s' => GoodWG r.claim (classAt s₀.heap) (ExcName.means s₀.heap) args s₁ (.ok (.ret v)) s')
        (fun e s' => GoodWG r.claim (classAt s₀.heap) (ExcName.means s₀.heap) args s₁ (.error e) s') s₁
theorem ends_caller {prog : Program} {w : World} {t : Sem Fin} {s : Shared} {R : Result → Shared → Prop} (hreg : s.asleep)
    (h : wpC (model prog w) callerA t (fun fin s' => ∃ f, fin = .done f ∧ (R (.ok f) s' ∧ leftWithCleanup s'.gens = false)) (fun e s' => R (.error e) s' ∧ leftWithCleanup s'.gens = false) s) :
    ∃ n r s' s'', runN (denote table) prog w n s ⟨t, .builtin "claim.caller" {}, default, []⟩ = .halted (outcomeOf r) s' ∧
      schedN (denote table) prog w n (.single s ⟨t, .builtin "claim.caller" {}, default, []⟩) = .halted (outcomeOf r) s' ∧ s'.forget = s''.forget ∧ R r s'' := by
  have h' : Sem.wp (model prog w) callerΓ t (Sem.finPost (model prog w) callerΓ fun r s' => R r s' ∧ leftWithCleanup s'.gens = false) (fun e _ s' => R (.error e) s' ∧ leftWithCleanup s'.gens = false) default s :=
    Sem.wp_mono _ _ t (fun fin p' s' z => by obtain ⟨f, rfl, hf⟩ := z; exact hf) (fun _ _ _ z => z) default s (h callerΓ default caller_in callerΓ_clean)
  obtain ⟨n, r, s₁, s₂, hs, hn, hfo, hR⟩ := wp_halts_full (M := model prog w) (R := R) hreg h'
  exact ⟨n, r, s₂, s₁, hn, hs, hfo, hR⟩
theorem callFrom_caller {c : ClaimW} {tree : List Value → Sem Fin} {w : World} {s : Shared} {free : Addr → Prop} {gens : Prop} {kept : Heap → Prop} (hz : s.asleep) (hgens : s.gens = #[])
    (hspec : ∀ args, c.pre args = true → WData.layableAll args = true →
      ∀ ord : List DictEntry → List DictEntry, (∀ l, (ord l).Perm l) →
      ∃ vs s₁, layAllW c.records (classAt s.heap) w.params ord args s = some (vs, s₁) ∧
        wpC (model c.prog w) callerA (tree vs) (fun fin s' => ∃ f, fin = .done f ∧ (c.Ends s args vs s₁ (.ok f) s' ∧ s'.os = s.os ∧ AllBare s'.gens ∧ kept s'.heap))
          (fun e s' => c.Ends s args vs s₁ (.error e) s' ∧ s'.os = s.os ∧ AllBare s'.gens ∧ kept s'.heap) s₁) :
    c.CallFrom (fun vs => ⟨tree vs, .builtin "claim.caller" {}, default, []⟩) w free gens kept s := by
  intro args hpre hlay ord hord
  obtain ⟨vs, s₁, hlaid, hcode⟩ := hspec args hpre hlay ord hord
  have hal := layAllW_rest _ _ _ hlaid
  obtain ⟨k, r, s', s'', hrun, hsched, hfo, hcase, hos, hkp⟩ := ends_caller (prog := c.prog) (w := w) (t := tree vs) (s := s₁)
    (R := fun r s' => c.Ends s args vs s₁ r s' ∧ s'.os = s.os ∧ kept s'.heap) (Shared.asleep_of_life hal.2.2.2 hz)
    (wpC_mono hcode (fun fin s' z => by obtain ⟨f, e, h1, h2, h3, h4⟩ := z; exact ⟨f, e, ⟨h1, h2, h4⟩, leftWithCleanup_false_of_bare h3⟩)
      (fun e s' z => by obtain ⟨h1, h2, h3, h4⟩ := z; exact ⟨⟨h1, h2, h4⟩, leftWithCleanup_false_of_bare h3⟩))
  obtain ⟨eh, _, _, eo, _⟩ := Shared.forget_eq hfo
  have hcase' := hcase.congr eh
  have hkp' : kept s'.heap := by rw [eh]; exact hkp
  have hlife : s'.heap.life = s.heap.life := (runN_life _ _ _ hrun).trans hal.2.2.2
  refine ⟨vs, s₁, hlaid, k, _, s', hsched, ?_, (fun _ i x hx => by rw [hgens] at hx; simp at hx), hkp', by rw [hlife], Shared.rest_eq (eo.trans hos)⟩
  rcases hcase' with ⟨v, rfl, d1, d2, d3, d4, d5⟩ | ⟨e, ob, cls, rfl, d1, d2, d3, d4, d5⟩
  · exact .inl ⟨v, rfl, d1, d2, d3, fun b o y _ => d4 b o y, d5⟩
  · exact .inr ⟨e, ob, cls, rfl, d1, d2, d3, d4, fun b o y _ => d5 b o y⟩
theorem open_caller {r : RowW} {run : Value → List Value → Sem Value} {tree : List Value → Sem Fin} {q : Program} {loose defs kps : List Str} {writes : Bool} {Xt : Shared → Bool} {XP : (Str → Option Value) → Heap → Prop} {α : Type} {Yf : Shared → α} {Ya : World → α} {YP : World → Heap → Prop} {N : Nat}
    (left : LeftO r.prog q loose Xt Yf Ya N) (hY : ∀ w s, Yf s = Ya w → YP w s.heap) (hYk : ∀ w h h', YP w h → (∀ b o, h.get? b = some o → h'.get? b = some o) → YP w h') (hX : ∀ s, Xt s = true → XP (s.heap.nsMap mainGlobals) s.heap) (hXk : ∀ mg h h', XP mg h → (∀ b o, h.get? b = some o → h'.get? b = some o) → XP mg h')
    (hRf : ∀ s, Xt s = true → RecFacts r.records s.heap) (hwr : (!writes || r.records.isEmpty) = true) (ok : (chainsOk q && opensWell r.prog && (frees r && r.within.isEmpty)) = true) (hb : r.prog.bare) (hw : r.promised)
    (ht : ∀ vs (w : World) (s : Shared) mg f (Q : Fin → Shared → Prop) (E : Value → Shared → Prop), s.heap.Ns mainGlobals mg → mg r.name = some f → wpC (model r.prog w) callerA (run f vs) (fun v s' => Q (.done (.ret v)) s') E s → wpC (model r.prog w) callerA (tree vs) Q E s)
    (pin : ∀ w s, s.heap.isNs mainGlobals = true → Ground q loose [] XP w s (s.heap.nsMap mainGlobals) (s.heap.nsMap builtinsNs) s.heap → ∀ n ∈ defs, isTheDefsW r.prog s.heap n)
    (call : ∀ (w : World) (s₀ s₁ : Shared) (mg mb : Str → Option Value), Ground q loose r.records XP w s₀ mg mb s₁.heap → YP w s₁.heap → ∀ (args : List WData) (vs : List Value) (as : List Addr),
      r.claim.pre args = true → WData.layableAll args = true → Laid r.records w s₀ s₁ args vs as → sysModules < s₀.heap.objs.size → ∃ f, mg r.name = some f ∧
        wpC (model r.prog w) callerA (run f vs) (fun v s' => GoodWG r.claim (classAt s₀.heap) (ExcName.means s₀.heap) args s₁ (.ok (.ret v)) s')
          (fun e s' => GoodWG r.claim (classAt s₀.heap) (ExcName.means s₀.heap) args s₁ (.error e) s') s₁) : r.claim.HoldsOpenBy (fun vs => ⟨tree vs, .builtin "claim.caller" {}, default, []⟩) defs kps writes := by
  obtain ⟨ok, k5⟩ := Bool.and_eq_true_iff.mp ok
  obtain ⟨hch, o1⟩ := Bool.and_eq_true_iff.mp ok
  obtain ⟨k5, k6⟩ := Bool.and_eq_true_iff.mp k5
  obtain ⟨hsame, hu, ha, hap, hm⟩ := frees_parts k5
  refine ⟨⟨hb, o1, by show r.makers.map _ = []; rw [hm]; rfl⟩, hw.witness, fun w => ⟨(left.behind hX hch w).1, fun s' hs' => ?_⟩⟩
  obtain ⟨s₀, hf, hg0, s, hT, hz, hgens, hg, G00, y⟩ := (left.behind (XP := fun mg h => XP mg h ∧ RecFacts r.records h) (fun s hs => ⟨hX s hs, hRf s hs⟩) hch w).2 s' hs'
  have G0 : Ground q loose [] XP w s (s.heap.nsMap mainGlobals) (s.heap.nsMap builtinsNs) s.heap := ⟨G00.T, G00.B, G00.D, G00.TE, G00.TD, G00.W, G00.X.1, G00.cls, G00.has, G00.apart, G00.once, G00.K⟩
  have RF := G00.X.2
  have hT' := hT
  refine ⟨s₀, hf, hg0, s, hT, pin w s hg G0, RF.1, RF.2.1, ?_⟩
  have hgens : s.gens = #[] := Array.eq_empty_of_size_eq_zero (beq_iff_eq.mp hgens)
  have G : Ground q loose r.records XP w s _ _ s.heap := RF.ground G0
  refine callFrom_caller (c := r.claim) hz hgens fun args hpre hlay ord hord => ?_
  obtain ⟨⟨vs, s₁⟩, hlaid⟩ := Option.isSome_iff_exists.mp (layAllW_isSome (P := w.params) (ord := ord) G.has args r.args s (pre_splitW hpre).1)
  have keeps := layAllW_keeps _ _ _ hlaid
  have hal := layAllW_rest _ _ _ hlaid
  obtain ⟨as, hrd, hin, hold⟩ := reads_layAllW hord _ _ _ hlaid hlay s₁.heap (fun _ _ e => e)
  have L : Laid r.records w s s₁ args vs as := ⟨⟨ord, hord, hlaid⟩, hrd, hin, hold, keeps, hal.1.trans hgens, hal.2.2.1⟩
  have G₁ := G.keeps hXk keeps
  obtain ⟨f, hf, h⟩ := call w s s₁ _ _ G₁ (hYk _ _ _ (hY w s y) keeps) args vs as hpre hlay L G.low
  have hi := ident_freeW hu ha hap
  have hwi : r.claim.within = [] := List.isEmpty_iff.mp k6
  exact ⟨vs, s₁, hlaid, ht vs w s₁ _ f _ _ G₁.T.g hf (wpC_mono h (fun v s' g => ⟨_, rfl, have z := g.laid (c := r.claim) hsame hwi hi L; ⟨z.1, z.2.1, z.2.2, fun q => ⟨namesKept_of hT' hg kps keeps g.2.1.old, noTable hwr q⟩⟩⟩) fun e s' g => have z := g.laid (c := r.claim) hsame hwi hi L; ⟨z.1, z.2.1, z.2.2, fun q => ⟨namesKept_of hT' hg kps keeps g.2.1.old, noTable hwr q⟩⟩)⟩
theorem PySem.W.holds_open {r : OpenRow} {q : Program} {loose : List Str} {Xt : Shared → Bool} {XP : (Str → Option Value) → Heap → Prop} {α : Type} {Yf : Shared → α} {Ya : World → α} {YP : World → Heap → Prop} {d : DefRec} {kwd : List (Str × Expr)} {N : Nat}
    (left : LeftO r.prog q loose Xt Yf Ya N) (hY : ∀ w s, Yf s = Ya w → YP w s.heap) (hYk : ∀ w h h', YP w h → (∀ b o, h.get? b = some o → h'.get? b = some o) → YP w h')
    (hX : ∀ s, Xt s = true → XP (s.heap.nsMap mainGlobals) s.heap) (hXk : ∀ mg h h', XP mg h → (∀ b o, h.get? b = some o → h'.get? b = some o) → XP mg h')
    (hdef : defOf q r.name = some (d, kwd)) (hp : r.prog.theDef r.name = some (d.params, d.body, d.scope)) (hk : kwWritten? d.params.kwonlyargs d.params.kw_defaults = some kwd) (hRf : ∀ s, Xt s = true → RecFacts r.records s.heap) (hwr : (!r.writes || r.records.isEmpty) = true)
    (k1 : r.wellSaid = true) (ok : (chainsOk q && opensWell r.prog && (frees r.toRowW && r.within.isEmpty)) = true) (hb : r.prog.bare) (hw : r.toRowW.promised)
    (call : WalkC q loose XP YP r.toRowW d kwd) : r.Holds := by
  refine ⟨k1, hw, open_caller (r := r.toRowW) (run := fun f vs => PySem.call f vs) (tree := fun vs => do match ← nsGet mainNs r.name with
      | some f => do ret (← PySem.call f vs)
      | none => unsupported "claim.caller:no-such-global") left hY hYk hX hXk hRf hwr ok hb hw
    (fun vs w s mg f Q E hg hf h => wpC_bind (wpC_of (wpAny_nsGet hg (by rw [hf]; exact wpC_bind (wpC_mono h (fun _ _ x => wpC_pure x) fun _ _ x => x)))))
    (fun w s hg G n hn => ?_) fun w s₀ s₁ mg mb G Y args vs as hpre hlay L low => ?_⟩
  · obtain rfl : n = r.name := by split at hn <;> simp_all
    exact pinned_of_view hg G hdef hp hk
  · obtain ⟨a, o, pm, cd, doc, dV, kV, h1, h2, h3, h4, h5⟩ := G.fn hdef
    exact ⟨.ref a, h1, call w s₀ s₁ mg mb G Y a o pm cd doc dV kV h2 h3 h4 h5 (defOf_name hdef ▸ h1) L.gens args vs as hpre hlay L.reads L.well (L.low low)⟩
end Mine
end
section
open PySem PySem.W PyProof.Rows

local macro_rules | `(tactic| o_head ($_f $k $a $e $_t)) => `(tactic| o_head (Mine.myHook $k $a $e))
set_option maxRecDepth 100000
set_option maxHeartbeats 8000000
namespace Mine
def nqc : PySem.Str := PySem.Str.ofString "x"
theorem nqe : nqc = nqc := rfl
name_quick tw14190725551584542720 for nqc by nqe
name_quick tw12877114100897624224 for nqc by nqe
name_quick tw9537544019596298400 for nqc by nqe
name_quick tw12268644228514654432 for nqc by nqe
name_quick tw14031254098957005024 for nqc by nqe
name_quick tw14224011070414065920 for nqc by nqe
name_quick tw10015664371746657536 for nqc by nqe
name_quick tw2193789692954389824 for nqc by nqe
name_quick tw3783086151370532256 for nqc by nqe
name_quick tw5881240552750758400 for nqc by nqe
name_quick tw5976474108018559520 for nqc by nqe
name_quick tw15376083050721069600 for nqc by nqe
name_quick tw8944806292087596576 for nqc by nqe
name_quick tw12825359941727978080 for nqc by nqe
name_quick tw4110589180456253056 for nqc by nqe
name_quick tw16328912562034613984 for nqc by nqe
name_quick tw329819065673440000 for nqc by nqe
name_quick tw16770459766345991936 for nqc by nqe
name_quick tw16817318245366136608 for nqc by nqe
name_quick tw7483462131439158144 for nqc by nqe
name_quick tw12177639751122801600 for nqc by nqe
name_quick tw12046425863553024001 for nqc by nqe
name_quick tw1059901042614829057 for nqc by nqe
name_quick tw8459811325457737761 for nqc by nqe
name_quick tw2110851967338885185 for nqc by nqe
name_quick tw12828332729040242785 for nqc by nqe
name_quick tw8473563963867554017 for nqc by nqe
name_quick tw7670514497116975361 for nqc by nqe
name_quick tw16258813485015810305 for nqc by nqe
name_quick tw8815187840785991937 for nqc by nqe
name_quick tw14821650378409806113 for nqc by nqe
name_quick tw11543547407058413889 for nqc by nqe
name_quick tw2315820567201803617 for nqc by nqe
name_quick tw3196378941336150401 for nqc by nqe
name_quick tw6841013123486265825 for nqc by nqe
name_quick tw10749366882036047329 for nqc by nqe
name_quick tw2334299552400917057 for nqc by nqe
name_quick tw8603108125212654177 for nqc by nqe
name_quick tw15079194523842364033 for nqc by nqe
name_quick tw7976981314885711489 for nqc by nqe
name_quick tw11317593695737139937 for nqc by nqe
name_quick tw15781324953245214433 for nqc by nqe
name_quick tw13236226663087606529 for nqc by nqe
name_quick tw10477944011785391905 for nqc by nqe
name_quick tw8474383852179026721 for nqc by nqe
name_quick tw17943406268862710625 for nqc by nqe
name_quick tw6792406925840432001 for nqc by nqe
name_quick tw11825729669827539873 for nqc by nqe
name_quick tw1414301608579184545 for nqc by nqe
name_quick tw12726346659333912481 for nqc by nqe
name_quick tw7581816359482902497 for nqc by nqe
name_quick tw930746551332336609 for nqc by nqe
name_quick tw4769018279307018242 for nqc by nqe
name_quick tw13615603153576403970 for nqc by nqe
name_quick tw4613930686462287906 for nqc by nqe
name_quick tw12850107946570832962 for nqc by nqe
name_quick tw704327219915372674 for nqc by nqe
name_quick tw14209830616999942402 for nqc by nqe
name_quick tw16172117957621229858 for nqc by nqe
name_quick tw17000458434675057986 for nqc by nqe
name_quick tw11510725203611331906 for nqc by nqe
name_quick tw16460519517873343938 for nqc by nqe
name_quick tw1100353791813204450 for nqc by nqe
name_quick tw4558998842232669794 for nqc by nqe
name_quick tw15215539614974913122 for nqc by nqe
name_quick tw18371169792594650754 for nqc by nqe
name_quick tw5425108064043664162 for nqc by nqe
name_quick tw2569364866550412066 for nqc by nqe
name_quick tw8595292554425487202 for nqc by nqe
name_quick tw2571919107429820419 for nqc by nqe
name_quick tw4091194055036891139 for nqc by nqe
name_quick tw2708163388286742659 for nqc by nqe
name_quick tw6636956529411117187 for nqc by nqe
name_quick tw11817470609975844035 for nqc by nqe
name_quick tw17001327861769816259 for nqc by nqe
name_quick tw7286323032743288035 for nqc by nqe
name_quick tw15247426752500302083 for nqc by nqe
name_quick tw11166942722945506595 for nqc by nqe
name_quick tw12767683915131110723 for nqc by nqe
name_quick tw16280195873916505411 for nqc by nqe
name_quick tw15542691292777871779 for nqc by nqe
name_quick tw3365093317950918147 for nqc by nqe
name_quick tw11310463157757771331 for nqc by nqe
name_quick tw6813294653679155843 for nqc by nqe
name_quick tw136631920214876835 for nqc by nqe
name_quick tw4978915544186085027 for nqc by nqe
name_quick tw14096952598973939363 for nqc by nqe
name_quick tw151948405760981731 for nqc by nqe
name_quick tw774047393022817027 for nqc by nqe
name_quick tw10887116778572429059 for nqc by nqe
name_quick tw10190238754879171395 for nqc by nqe
name_quick tw3315324234476444515 for nqc by nqe
name_quick tw14981143343336467331 for nqc by nqe
name_quick tw4430655021044022179 for nqc by nqe
name_quick tw505943868828395459 for nqc by nqe
name_quick tw12807690338718825411 for nqc by nqe
name_quick tw7232422423428716515 for nqc by nqe
name_quick tw1638017585896720355 for nqc by nqe
name_quick tw11641389924110848164 for nqc by nqe
name_quick tw6320383766622673092 for nqc by nqe
name_quick tw7299951869573292228 for nqc by nqe
name_quick tw17532718790514356516 for nqc by nqe
name_quick tw17274371674624000324 for nqc by nqe
name_quick tw4525517667737911620 for nqc by nqe
name_quick tw16180483070735683940 for nqc by nqe
name_quick tw10216692956209284516 for nqc by nqe
name_quick tw11740888236361828772 for nqc by nqe
name_quick tw288087438632003012 for nqc by nqe
name_quick tw12392613427281201732 for nqc by nqe
name_quick tw8656719876789144132 for nqc by nqe
name_quick tw1759038480177400420 for nqc by nqe
name_quick tw12233582284571471492 for nqc by nqe
name_quick tw15168306246750427876 for nqc by nqe
name_quick tw3386650904741475044 for nqc by nqe
name_quick tw7269565832213808900 for nqc by nqe
name_quick tw16752143609539240740 for nqc by nqe
name_quick tw9236379625843700516 for nqc by nqe
name_quick tw1763209079605825380 for nqc by nqe
name_quick tw18310272354389090212 for nqc by nqe
name_quick tw3195343069725486020 for nqc by nqe
name_quick tw12214085216866374628 for nqc by nqe
name_quick tw1481926694345511941 for nqc by nqe
name_quick tw9136488742655976645 for nqc by nqe
name_quick tw2735471455948067141 for nqc by nqe
name_quick tw4275521005467322725 for nqc by nqe
name_quick tw196644378293983589 for nqc by nqe
name_quick tw1711657323119017317 for nqc by nqe
name_quick tw8610040677353227653 for nqc by nqe
name_quick tw10823345740709935493 for nqc by nqe
name_quick tw2039238271031011813 for nqc by nqe
name_quick tw11882390891050353253 for nqc by nqe
name_quick tw18350330562280901221 for nqc by nqe
name_quick tw13925586954763233925 for nqc by nqe
name_quick tw5289962621202845349 for nqc by nqe
name_quick tw8704618095886561957 for nqc by nqe
name_quick tw13141144453892091621 for nqc by nqe
name_quick tw4706425542698204933 for nqc by nqe
name_quick tw18416463498863911781 for nqc by nqe
name_quick tw13607416678640721797 for nqc by nqe
name_quick tw15271515629493726085 for nqc by nqe
name_quick tw6519424955469430661 for nqc by nqe
name_quick tw11707433790658880453 for nqc by nqe
name_quick tw2660918139993853925 for nqc by nqe
name_quick tw16049961110935095269 for nqc by nqe
name_quick tw6142071019320080357 for nqc by nqe
name_quick tw3228652444460286982 for nqc by nqe
name_quick tw2895304030280410150 for nqc by nqe
name_quick tw12540713548012372134 for nqc by nqe
name_quick tw7146146830050965766 for nqc by nqe
name_quick tw8253183596043897158 for nqc by nqe
name_quick tw17993156020533580102 for nqc by nqe
name_quick tw14973007898608030118 for nqc by nqe
name_quick tw17024950926791866790 for nqc by nqe
name_quick tw3353693220867276294 for nqc by nqe
name_quick tw7581352650102555174 for nqc by nqe
name_quick tw4933834842325187142 for nqc by nqe
name_quick tw16145008321745377990 for nqc by nqe
name_quick tw17300597898927385350 for nqc by nqe
name_quick tw884248653220910886 for nqc by nqe
name_quick tw5248340912204065574 for nqc by nqe
name_quick tw10058976618658966374 for nqc by nqe
name_quick tw6944952908185719654 for nqc by nqe
name_quick tw6607189417530752870 for nqc by nqe
name_quick tw13169248704851481478 for nqc by nqe
name_quick tw7987952416473584550 for nqc by nqe
name_quick tw17475289236778735526 for nqc by nqe
name_quick tw1499420768645567495 for nqc by nqe
name_quick tw11765014963103734823 for nqc by nqe
name_quick tw1944293319124727847 for nqc by nqe
name_quick tw16979880578912567463 for nqc by nqe
name_quick tw16643706677886111943 for nqc by nqe
name_quick tw4745058802850807175 for nqc by nqe
name_quick tw6550987210724342151 for nqc by nqe
name_quick tw11682084944484805031 for nqc by nqe
name_quick tw1495452243305574823 for nqc by nqe
name_quick tw11108263761283441063 for nqc by nqe
name_quick tw15490439104401381959 for nqc by nqe
name_quick tw4090926877573551719 for nqc by nqe
name_quick tw1085346719588807367 for nqc by nqe
name_quick tw2504098582860672743 for nqc by nqe
name_quick tw7155543432591195943 for nqc by nqe
name_quick tw14326252917377295143 for nqc by nqe
name_quick tw15894407043143930727 for nqc by nqe
name_quick tw11270796479367742343 for nqc by nqe
name_quick tw17230556039016184743 for nqc by nqe
name_quick tw3633577522364906407 for nqc by nqe
name_quick tw10073347824450446311 for nqc by nqe
name_quick tw15605440718772780007 for nqc by nqe
name_quick tw4724670654266164199 for nqc by nqe
name_quick tw12527393111034389544 for nqc by nqe
name_quick tw17848772402925894760 for nqc by nqe
name_quick tw5555313912996828296 for nqc by nqe
name_quick tw686183698351167624 for nqc by nqe
name_quick tw10299114407867686024 for nqc by nqe
name_quick tw10314498396905981064 for nqc by nqe
name_quick tw15586084020490888360 for nqc by nqe
name_quick tw2422670821966735624 for nqc by nqe
name_quick tw15423634916342008072 for nqc by nqe
name_quick tw10455430044892516648 for nqc by nqe
name_quick tw4504083675297759592 for nqc by nqe
name_quick tw1370275717833778536 for nqc by nqe
name_quick tw7295312623806419368 for nqc by nqe
name_quick tw13900631225919944168 for nqc by nqe
name_quick tw18350638575300117064 for nqc by nqe
name_quick tw14265314264860633672 for nqc by nqe
name_quick tw11334522289143818824 for nqc by nqe
name_quick tw16437185098154296904 for nqc by nqe
name_quick tw6832808476680081064 for nqc by nqe
name_quick tw3470799630455053000 for nqc by nqe
name_quick tw16223305294053301992 for nqc by nqe
name_quick tw4658958612460137192 for nqc by nqe
name_quick tw13427988762788590312 for nqc by nqe
name_quick tw17815586953681464072 for nqc by nqe
name_quick tw7112787868492120936 for nqc by nqe
name_quick tw3880421473898291048 for nqc by nqe
name_quick tw3826639566459466600 for nqc by nqe
name_quick tw18036702205230433160 for nqc by nqe
name_quick tw14285374257681291273 for nqc by nqe
name_quick tw3345107109950449737 for nqc by nqe
name_quick tw14920864480051887209 for nqc by nqe
name_quick tw14837249469386935497 for nqc by nqe
name_quick tw9087420756778563785 for nqc by nqe
name_quick tw1333364371103165705 for nqc by nqe
name_quick tw17000155066101142889 for nqc by nqe
name_quick tw12981051755390344553 for nqc by nqe
name_quick tw16861218917600885097 for nqc by nqe
name_quick tw12377561305857167785 for nqc by nqe
name_quick tw757081541053455785 for nqc by nqe
name_quick tw16309933130070103497 for nqc by nqe
name_quick tw5631866682500559305 for nqc by nqe
name_quick tw8424611434330503625 for nqc by nqe
name_quick tw16432479971616331241 for nqc by nqe
name_quick tw14907048974825807369 for nqc by nqe
name_quick tw12577023982554244617 for nqc by nqe
name_quick tw2902314222560053993 for nqc by nqe
name_quick tw9062771732600952553 for nqc by nqe
name_quick tw2637321087531721449 for nqc by nqe
name_quick tw3976722010076183465 for nqc by nqe
name_quick tw7574553109774388169 for nqc by nqe
name_quick tw8999186272805695465 for nqc by nqe
name_quick tw8172093975534723114 for nqc by nqe
name_quick tw10797649063328284778 for nqc by nqe
name_quick tw1320183511955256522 for nqc by nqe
name_quick tw3094477031063562474 for nqc by nqe
name_quick tw1536587703002861866 for nqc by nqe
name_quick tw6980910045739468074 for nqc by nqe
name_quick tw13981391230805400906 for nqc by nqe
name_quick tw10970087489707964778 for nqc by nqe
name_quick tw10508964354415003018 for nqc by nqe
name_quick tw10320149354908582346 for nqc by nqe
name_quick tw15034313371233782410 for nqc by nqe
name_quick tw882838713213173450 for nqc by nqe
name_quick tw12679591844961189642 for nqc by nqe
name_quick tw13314330512976039754 for nqc by nqe
name_quick tw8488268690174267210 for nqc by nqe
name_quick tw16737559591592110954 for nqc by nqe
name_quick tw9501820088010722379 for nqc by nqe
name_quick tw10500077913531017323 for nqc by nqe
name_quick tw13549102714576105579 for nqc by nqe
name_quick tw14185684948912167051 for nqc by nqe
name_quick tw4109823476700235019 for nqc by nqe
name_quick tw383695940523520267 for nqc by nqe
name_quick tw5450187663091677483 for nqc by nqe
name_quick tw12813236842856870187 for nqc by nqe
name_quick tw17318589155259679147 for nqc by nqe
name_quick tw8032284361305108907 for nqc by nqe
name_quick tw5565278806992967083 for nqc by nqe
name_quick tw3545756843259802059 for nqc by nqe
name_quick tw14746774941630613163 for nqc by nqe
name_quick tw5823794197072137003 for nqc by nqe
name_quick tw9396933662098498411 for nqc by nqe
name_quick tw9076128300344869771 for nqc by nqe
name_quick tw4600395469775339435 for nqc by nqe
name_quick tw1184552218554016812 for nqc by nqe
name_quick tw1460277438893781036 for nqc by nqe
name_quick tw16189536214700107852 for nqc by nqe
name_quick tw4278798014809849964 for nqc by nqe
name_quick tw4071324889030633612 for nqc by nqe
name_quick tw17082801352038058188 for nqc by nqe
name_quick tw9951705424602377420 for nqc by nqe
name_quick tw6431602227632030956 for nqc by nqe
name_quick tw12494133203773749484 for nqc by nqe
name_quick tw17955133630450735404 for nqc by nqe
name_quick tw16987768009889223052 for nqc by nqe
name_quick tw4636218855388986860 for nqc by nqe
name_quick tw17045043414572947948 for nqc by nqe
name_quick tw1930203975799679532 for nqc by nqe
name_quick tw18123110421147349612 for nqc by nqe
name_quick tw5925582254088234700 for nqc by nqe
name_quick tw489095991917526796 for nqc by nqe
name_quick tw5315457868209417068 for nqc by nqe
name_quick tw2110668173088178060 for nqc by nqe
name_quick tw4775785305629353868 for nqc by nqe
name_quick tw13749758060653150092 for nqc by nqe
name_quick tw6224646082405213132 for nqc by nqe
name_quick tw8642067239939848140 for nqc by nqe
name_quick tw7785048605280242668 for nqc by nqe
name_quick tw4042386549635913901 for nqc by nqe
name_quick tw3952652319720093869 for nqc by nqe
name_quick tw17768419659990539469 for nqc by nqe
name_quick tw10719484529398299949 for nqc by nqe
name_quick tw13581749221687468397 for nqc by nqe
name_quick tw1228064911786449325 for nqc by nqe
name_quick tw1772237422875290029 for nqc by nqe
name_quick tw16374537267813192141 for nqc by nqe
name_quick tw4679858250743294509 for nqc by nqe
name_quick tw3932193239157236269 for nqc by nqe
name_quick tw11838138170533393997 for nqc by nqe
name_quick tw17846936440860909165 for nqc by nqe
name_quick tw15062378111984178829 for nqc by nqe
name_quick tw13036272033356848781 for nqc by nqe
name_quick tw17020146562604978829 for nqc by nqe
name_quick tw5310036984924271277 for nqc by nqe
name_quick tw117213463901210413 for nqc by nqe
name_quick tw16439824349840649037 for nqc by nqe
name_quick tw9265879793445154701 for nqc by nqe
name_quick tw8432684481940611981 for nqc by nqe
name_quick tw17828083071136270317 for nqc by nqe
name_quick tw12025208970609079342 for nqc by nqe
name_quick tw148260917463534702 for nqc by nqe
name_quick tw16292439048969090190 for nqc by nqe
name_quick tw1468114885665857710 for nqc by nqe
name_quick tw17060125343902188718 for nqc by nqe
name_quick tw14380340866092297550 for nqc by nqe
name_quick tw724751600484774222 for nqc by nqe
name_quick tw12170303376835216750 for nqc by nqe
name_quick tw13180171748994924942 for nqc by nqe
name_quick tw17679261114430710190 for nqc by nqe
name_quick tw1857294707202544078 for nqc by nqe
name_quick tw4318056027017086478 for nqc by nqe
name_quick tw7650934615059315214 for nqc by nqe
name_quick tw389472881494512206 for nqc by nqe
name_quick tw1305609685974793870 for nqc by nqe
name_quick tw900395245841561262 for nqc by nqe
name_quick tw3758773823038459598 for nqc by nqe
name_quick tw2401699919119007470 for nqc by nqe
name_quick tw14159497744377131790 for nqc by nqe
name_quick tw5706481520468235054 for nqc by nqe
name_quick tw563124612126607214 for nqc by nqe
name_quick tw14816952368964660110 for nqc by nqe
name_quick tw16018607276475445134 for nqc by nqe
name_quick tw6213697211615256494 for nqc by nqe
name_quick tw11985326045990495214 for nqc by nqe
name_quick tw14766643958189025262 for nqc by nqe
name_quick tw912392155897948271 for nqc by nqe
name_quick tw17429684086410527887 for nqc by nqe
name_quick tw17596809139577655471 for nqc by nqe
name_quick tw2447921434856996015 for nqc by nqe
name_quick tw6952355047532471503 for nqc by nqe
name_quick tw13471316229770301743 for nqc by nqe
name_quick tw8283515000281207119 for nqc by nqe
name_quick tw14186486079044719983 for nqc by nqe
name_quick tw4434333111790514575 for nqc by nqe
name_quick tw5758256569797452207 for nqc by nqe
name_quick tw1620339239838986703 for nqc by nqe
name_quick tw7950560144509940271 for nqc by nqe
name_quick tw11891824955294080559 for nqc by nqe
name_quick tw6722154040420286063 for nqc by nqe
name_quick tw5247225353297040015 for nqc by nqe
name_quick tw12488000419048109807 for nqc by nqe
name_quick tw11935356649212052271 for nqc by nqe
name_quick tw9165568632223901487 for nqc by nqe
name_quick tw11462045893675790159 for nqc by nqe
name_quick tw14870196432650325839 for nqc by nqe
name_quick tw13871001218405608335 for nqc by nqe
name_quick tw9759809726879904816 for nqc by nqe
name_quick tw10010936943081839664 for nqc by nqe
name_quick tw6268969693082757200 for nqc by nqe
name_quick tw1869930749605803152 for nqc by nqe
name_quick tw6834602518627153040 for nqc by nqe
name_quick tw16148938690769344688 for nqc by nqe
name_quick tw16417370028952169744 for nqc by nqe
name_quick tw3777755567575978352 for nqc by nqe
name_quick tw2478078296215019888 for nqc by nqe
name_quick tw15917270771655136656 for nqc by nqe
name_quick tw17803129079492736432 for nqc by nqe
name_quick tw347637069881736656 for nqc by nqe
name_quick tw4575980220486274672 for nqc by nqe
name_quick tw13987355940573415152 for nqc by nqe
name_quick tw2719445374943340272 for nqc by nqe
name_quick tw15041003319150489328 for nqc by nqe
name_quick tw10619036274816975696 for nqc by nqe
name_quick tw15207642765257501584 for nqc by nqe
name_quick tw10948738476641704880 for nqc by nqe
name_quick tw5423003317807263696 for nqc by nqe
name_quick tw1136578752053086225 for nqc by nqe
name_quick tw17827458813498177553 for nqc by nqe
name_quick tw10670733350059645105 for nqc by nqe
name_quick tw10460931487171540145 for nqc by nqe
name_quick tw14389334442490810641 for nqc by nqe
name_quick tw11790162104776037713 for nqc by nqe
name_quick tw2305325121136568689 for nqc by nqe
name_quick tw17172517015917474193 for nqc by nqe
name_quick tw8649964590619651473 for nqc by nqe
name_quick tw17233024954070867409 for nqc by nqe
name_quick tw11625766737575182897 for nqc by nqe
name_quick tw9821368406582625841 for nqc by nqe
name_quick tw14285029430470858289 for nqc by nqe
name_quick tw1423138165483278961 for nqc by nqe
name_quick tw3740020263889925745 for nqc by nqe
name_quick tw12456492676567594705 for nqc by nqe
name_quick tw9248541637817142097 for nqc by nqe
name_quick tw8017206721242287953 for nqc by nqe
name_quick tw12756110868346105713 for nqc by nqe
name_quick tw10939839348159177617 for nqc by nqe
name_quick tw12898947447245864913 for nqc by nqe
name_quick tw10487160056961263569 for nqc by nqe
name_quick tw2011108890870493169 for nqc by nqe
name_quick tw7140130562030077042 for nqc by nqe
name_quick tw10138199336372458610 for nqc by nqe
name_quick tw10819683100428557426 for nqc by nqe
name_quick tw6929956602132211858 for nqc by nqe
name_quick tw16339471991904476338 for nqc by nqe
name_quick tw2784737618629438770 for nqc by nqe
name_quick tw10029231156530900338 for nqc by nqe
name_quick tw5303519439607764402 for nqc by nqe
name_quick tw17139780236743587250 for nqc by nqe
name_quick tw16942194440817826258 for nqc by nqe
name_quick tw951843321253372498 for nqc by nqe
name_quick tw6937325167468391026 for nqc by nqe
name_quick tw15965015591981942514 for nqc by nqe
name_quick tw503676674663206642 for nqc by nqe
name_quick tw9931943479562821362 for nqc by nqe
name_quick tw10220936982206179058 for nqc by nqe
name_quick tw15315713394281565010 for nqc by nqe
name_quick tw2387720566874501970 for nqc by nqe
name_quick tw16873187988247708562 for nqc by nqe
name_quick tw4011157648589011858 for nqc by nqe
name_quick tw11433066937589102482 for nqc by nqe
name_quick tw1711367819467211730 for nqc by nqe
name_quick tw4407734736301137906 for nqc by nqe
name_quick tw6662432510661729299 for nqc by nqe
name_quick tw5518745428033880147 for nqc by nqe
name_quick tw1708024556718086227 for nqc by nqe
name_quick tw10919533547850550483 for nqc by nqe
name_quick tw10758392820592806131 for nqc by nqe
name_quick tw6090905460779295987 for nqc by nqe
name_quick tw15039117976438264115 for nqc by nqe
name_quick tw10352308551163946355 for nqc by nqe
name_quick tw15066959818950650227 for nqc by nqe
name_quick tw9977392586421186931 for nqc by nqe
name_quick tw16406328271908756883 for nqc by nqe
name_quick tw10227693086864044499 for nqc by nqe
name_quick tw17503288770812694035 for nqc by nqe
name_quick tw9787396351842916947 for nqc by nqe
name_quick tw8123005709971320403 for nqc by nqe
name_quick tw9376109419431680627 for nqc by nqe
name_quick tw4966893808263662355 for nqc by nqe
name_quick tw15562837088269578035 for nqc by nqe
name_quick tw15202239659555905331 for nqc by nqe
name_quick tw13251646731365433171 for nqc by nqe
name_quick tw14874922208557711187 for nqc by nqe
name_quick tw16127339712140622707 for nqc by nqe
name_quick tw15450981722951097364 for nqc by nqe
name_quick tw607167704815816724 for nqc by nqe
name_quick tw17244072584429378644 for nqc by nqe
name_quick tw18211773271919218964 for nqc by nqe
name_quick tw16942504070071679284 for nqc by nqe
name_quick tw6909570525239066004 for nqc by nqe
name_quick tw5815302876190815700 for nqc by nqe
name_quick tw7853834085085047284 for nqc by nqe
name_quick tw5512085447785999860 for nqc by nqe
name_quick tw13951202360752479828 for nqc by nqe
name_quick tw7094674258960923220 for nqc by nqe
name_quick tw13902060940116135572 for nqc by nqe
name_quick tw1041845030581493396 for nqc by nqe
name_quick tw4691851695120001716 for nqc by nqe
name_quick tw2674190319118857908 for nqc by nqe
name_quick tw2283851925072248500 for nqc by nqe
name_quick tw8430678208038309684 for nqc by nqe
name_quick tw7543195961347049332 for nqc by nqe
name_quick tw7652866986338317172 for nqc by nqe
name_quick tw15742981410569661332 for nqc by nqe
name_quick tw7619357645376055252 for nqc by nqe
name_quick tw13642483538084851733 for nqc by nqe
name_quick tw178441218286455893 for nqc by nqe
name_quick tw5950129339639070837 for nqc by nqe
name_quick tw8206430501311747189 for nqc by nqe
name_quick tw282004115355043989 for nqc by nqe
name_quick tw4527066259768149269 for nqc by nqe
name_quick tw8753696776887207221 for nqc by nqe
name_quick tw3229698128091672885 for nqc by nqe
name_quick tw4352594626159697269 for nqc by nqe
name_quick tw2351620601788327285 for nqc by nqe
name_quick tw10470071008263537045 for nqc by nqe
name_quick tw13451486832001684981 for nqc by nqe
name_quick tw18247082017555167765 for nqc by nqe
name_quick tw392140993173905013 for nqc by nqe
name_quick tw12599741558188205749 for nqc by nqe
name_quick tw17537794083376710389 for nqc by nqe
name_quick tw3558216917135427349 for nqc by nqe
name_quick tw17899373020297197333 for nqc by nqe
name_quick tw1218959903707654005 for nqc by nqe
name_quick tw15067931366933112725 for nqc by nqe
name_quick tw252367510798351285 for nqc by nqe
name_quick tw12635297910168745909 for nqc by nqe
name_quick tw1993567047419047990 for nqc by nqe
name_quick tw10030586065758793078 for nqc by nqe
name_quick tw14023627001141898710 for nqc by nqe
name_quick tw17015423121036801654 for nqc by nqe
name_quick tw272414042388314806 for nqc by nqe
name_quick tw3264259588550801142 for nqc by nqe
name_quick tw7431591544816029494 for nqc by nqe
name_quick tw2408619945344806742 for nqc by nqe
name_quick tw9082586571710850966 for nqc by nqe
name_quick tw10508251915553800215 for nqc by nqe
name_quick tw1157545019965518967 for nqc by nqe
name_quick tw2670528217467546775 for nqc by nqe
name_quick tw13294325848734340343 for nqc by nqe
name_quick tw6504275150365058295 for nqc by nqe
name_quick tw8902219603052485911 for nqc by nqe
name_quick tw1189118826323900759 for nqc by nqe
name_quick tw10308316962582663543 for nqc by nqe
name_quick tw13316322371389871543 for nqc by nqe
name_quick tw9219426015542480343 for nqc by nqe
name_quick tw7585139358526817783 for nqc by nqe
name_quick tw9676229304581654039 for nqc by nqe
name_quick tw8800560270773162519 for nqc by nqe
name_quick tw15880737140895825463 for nqc by nqe
name_quick tw7802139600951554647 for nqc by nqe
name_quick tw12945451867199242903 for nqc by nqe
name_quick tw7191607858210974391 for nqc by nqe
name_quick tw14433975572909055671 for nqc by nqe
name_quick tw12885971956603332375 for nqc by nqe
name_quick tw12989987162080215863 for nqc by nqe
name_quick tw13145125596335152023 for nqc by nqe
name_quick tw7692015426583400375 for nqc by nqe
name_quick tw878741703135273975 for nqc by nqe
name_quick tw3373567504368509048 for nqc by nqe
name_quick tw9411460985935078520 for nqc by nqe
name_quick tw17352973434858128600 for nqc by nqe
name_quick tw14168537005229113720 for nqc by nqe
name_quick tw10045867985992453528 for nqc by nqe
name_quick tw3395616883899927064 for nqc by nqe
name_quick tw8620020772036689432 for nqc by nqe
name_quick tw9236875199018929784 for nqc by nqe
name_quick tw18188234029961486008 for nqc by nqe
name_quick tw10598567329377039032 for nqc by nqe
name_quick tw13775618736486673144 for nqc by nqe
name_quick tw8400853705098224536 for nqc by nqe
name_quick tw1393629259489396696 for nqc by nqe
name_quick tw18273839248471157720 for nqc by nqe
name_quick tw16947794391021106201 for nqc by nqe
name_quick tw13776390136698705113 for nqc by nqe
name_quick tw16039550372008468697 for nqc by nqe
name_quick tw7957090006295546105 for nqc by nqe
name_quick tw6683783046931543321 for nqc by nqe
name_quick tw10650810973499830745 for nqc by nqe
name_quick tw17280976486791472633 for nqc by nqe
name_quick tw2783177156126141945 for nqc by nqe
name_quick tw2759451637364818457 for nqc by nqe
name_quick tw6580340599500149305 for nqc by nqe
name_quick tw15007238320947547705 for nqc by nqe
name_quick tw17727738676932873817 for nqc by nqe
name_quick tw2721586585765338809 for nqc by nqe
name_quick tw12022618010286034681 for nqc by nqe
name_quick tw4205239288364317433 for nqc by nqe
name_quick tw6245536207120538393 for nqc by nqe
name_quick tw16531745337717519161 for nqc by nqe
name_quick tw3889259530307233657 for nqc by nqe
name_quick tw6789855027759293466 for nqc by nqe
name_quick tw13551572312386263098 for nqc by nqe
name_quick tw7783732958741208154 for nqc by nqe
name_quick tw6123655918767846522 for nqc by nqe
name_quick tw470574548607681690 for nqc by nqe
name_quick tw18099695126128789690 for nqc by nqe
name_quick tw1375587502874563802 for nqc by nqe
name_quick tw5978237884098788730 for nqc by nqe
name_quick tw10730351240561388922 for nqc by nqe
name_quick tw5889167727604068794 for nqc by nqe
name_quick tw3355348695024010778 for nqc by nqe
name_quick tw3267979357774110234 for nqc by nqe
name_quick tw13070384816801012346 for nqc by nqe
name_quick tw11519604305632133818 for nqc by nqe
name_quick tw4966674849315620570 for nqc by nqe
name_quick tw13471461260053382970 for nqc by nqe
name_quick tw10709196673778178906 for nqc by nqe
name_quick tw14896874001708588922 for nqc by nqe
name_quick tw9492235034089005946 for nqc by nqe
name_quick tw13159241964716117882 for nqc by nqe
name_quick tw17954736447514056666 for nqc by nqe
name_quick tw10846213317406478298 for nqc by nqe
name_quick tw219737044198020058 for nqc by nqe
name_quick tw13329733208086693882 for nqc by nqe
name_quick tw7392212959928792091 for nqc by nqe
name_quick tw4904739604578439355 for nqc by nqe
name_quick tw3436264866546951355 for nqc by nqe
name_quick tw293829605474521371 for nqc by nqe
name_quick tw11254254501726123291 for nqc by nqe
name_quick tw14615009949319019899 for nqc by nqe
name_quick tw2088544591296533915 for nqc by nqe
name_quick tw11543483234476862875 for nqc by nqe
name_quick tw16458521907211103643 for nqc by nqe
name_quick tw17497748084772794779 for nqc by nqe
name_quick tw16548257151911338427 for nqc by nqe
name_quick tw950723637873067451 for nqc by nqe
name_quick tw396607853666888187 for nqc by nqe
name_quick tw9763268239775435451 for nqc by nqe
name_quick tw17394056326795013819 for nqc by nqe
name_quick tw10885399304501877467 for nqc by nqe
name_quick tw18283703058932287227 for nqc by nqe
name_quick tw2302674139485633275 for nqc by nqe
name_quick tw2664551874359636763 for nqc by nqe
name_quick tw16865151637890581275 for nqc by nqe
name_quick tw10379131730601215995 for nqc by nqe
name_quick tw5720267713326709755 for nqc by nqe
name_quick tw5357591511691535388 for nqc by nqe
name_quick tw14427280190107063356 for nqc by nqe
name_quick tw3504847659760329788 for nqc by nqe
name_quick tw3148276903521382524 for nqc by nqe
name_quick tw2370070277545300124 for nqc by nqe
name_quick tw16846860572762119324 for nqc by nqe
name_quick tw6654550962395885724 for nqc by nqe
name_quick tw17263276799224249500 for nqc by nqe
name_quick tw14323765505736481980 for nqc by nqe
name_quick tw5345256250457102556 for nqc by nqe
name_quick tw1706496860858754268 for nqc by nqe
name_quick tw6801968546669101340 for nqc by nqe
name_quick tw3560238982266916124 for nqc by nqe
name_quick tw2447775223705975068 for nqc by nqe
name_quick tw8389248881573145916 for nqc by nqe
name_quick tw17100903815162463580 for nqc by nqe
name_quick tw6426273055680023932 for nqc by nqe
name_quick tw2088498060469179804 for nqc by nqe
name_quick tw8328094057196393916 for nqc by nqe
name_quick tw10205541121877940668 for nqc by nqe
name_quick tw5853609219237828028 for nqc by nqe
name_quick tw17344496456200356348 for nqc by nqe
name_quick tw5994239182223829532 for nqc by nqe
name_quick tw7397068168572129948 for nqc by nqe
name_quick tw17919728810627054236 for nqc by nqe
name_quick tw13951257522405164796 for nqc by nqe
name_quick tw4800724452203346748 for nqc by nqe
name_quick tw8802822988693486460 for nqc by nqe
name_quick tw16241802466949684156 for nqc by nqe
name_quick tw2905824091091238844 for nqc by nqe
name_quick tw13912434898499826684 for nqc by nqe
name_quick tw9504726810853072989 for nqc by nqe
name_quick tw5032809538720368765 for nqc by nqe
name_quick tw18263319221461684349 for nqc by nqe
name_quick tw4172830789200971933 for nqc by nqe
name_quick tw16326889199254633757 for nqc by nqe
name_quick tw11236458984494512445 for nqc by nqe
name_quick tw9130231340562597213 for nqc by nqe
name_quick tw12329403913580668285 for nqc by nqe
name_quick tw8881496252177385917 for nqc by nqe
name_quick tw1667231139898017245 for nqc by nqe
name_quick tw12985358249318526461 for nqc by nqe
name_quick tw4173924237407464957 for nqc by nqe
name_quick tw11186114360453789277 for nqc by nqe
name_quick tw17804436615005485693 for nqc by nqe
name_quick tw17183712847048597117 for nqc by nqe
name_quick tw8164371507598914237 for nqc by nqe
name_quick tw1055568401681811165 for nqc by nqe
name_quick tw3972328310683599613 for nqc by nqe
name_quick tw7892128664451923741 for nqc by nqe
name_quick tw13759679279233594173 for nqc by nqe
name_quick tw16048576614497160029 for nqc by nqe
name_quick tw17552769576498331613 for nqc by nqe
name_quick tw9267298106668617725 for nqc by nqe
name_quick tw7582166717755450365 for nqc by nqe
name_quick tw12475847535787081790 for nqc by nqe
name_quick tw18466492976756830 for nqc by nqe
name_quick tw10010511219673018494 for nqc by nqe
name_quick tw4748654258956052638 for nqc by nqe
name_quick tw7842807204330285214 for nqc by nqe
name_quick tw10092856319447448734 for nqc by nqe
name_quick tw6711915476519705758 for nqc by nqe
name_quick tw11277716924127702174 for nqc by nqe
name_quick tw10422997342228622526 for nqc by nqe
name_quick tw973662469405803806 for nqc by nqe
name_quick tw8162909057868654942 for nqc by nqe
name_quick tw17964007177503468958 for nqc by nqe
name_quick tw15736541856241217950 for nqc by nqe
name_quick tw8540232549379673566 for nqc by nqe
name_quick tw6380782515089751550 for nqc by nqe
name_quick tw9305466669911107070 for nqc by nqe
name_quick tw460243522976405022 for nqc by nqe
name_quick tw830924265138556478 for nqc by nqe
name_quick tw3365010085382643294 for nqc by nqe
name_quick tw16869277618539721502 for nqc by nqe
name_quick tw8732485361984058174 for nqc by nqe
name_quick tw8509908385975216990 for nqc by nqe
name_quick tw17728961539438068574 for nqc by nqe
name_quick tw1962928258387122110 for nqc by nqe
name_quick tw11328821685186248670 for nqc by nqe
name_quick tw10964334890339321822 for nqc by nqe
name_quick tw6122645084068987007 for nqc by nqe
name_quick tw4549333791460862111 for nqc by nqe
name_quick tw13746126617404028095 for nqc by nqe
name_quick tw4405960384096086239 for nqc by nqe
name_quick tw12224578244612797663 for nqc by nqe
name_quick tw1188131947540300063 for nqc by nqe
name_quick tw10323968676351773119 for nqc by nqe
name_quick tw16495559152270511615 for nqc by nqe
name_quick tw12225727855978595839 for nqc by nqe
name_quick tw1139862187096482527 for nqc by nqe
name_quick tw8224813933742928703 for nqc by nqe
name_quick tw8987815912523675519 for nqc by nqe
name_quick tw11452132507678324671 for nqc by nqe
name_quick tw11994158751524154303 for nqc by nqe
name_quick tw17370054149142409183 for nqc by nqe
name_quick tw15250204685079549951 for nqc by nqe
open_top hd for PySem.Challenge.rw_ci0025_01
end Mine
end
section
set_option maxRecDepth 100000
open PySem PySem.Calls PyProof.Rows PySem.W PySem.Spec
namespace Mine

/-- a value without its token -/
def er : Value → Value
  | .int i _ => .int i 0
  | .str s _ => .str s 0
  | .float b _ => .float b 0
  | .bytes b _ => .bytes b 0
  | v => v
@[simp] theorem er_int (i : Int) (t : Tok) : er (.int i t) = .int i 0 := rfl
@[simp] theorem er_str (i : Str) (t : Tok) : er (.str i t) = .str i 0 := rfl
@[simp] theorem er_ref (a : Addr) : er (.ref a) = .ref a := rfl
@[simp] theorem er_bool (b : Bool) : er (.bool b) = .bool b := rfl
@[simp] theorem er_none : er .none = .none := rfl
@[simp] theorem er_type (n : String) : er (.type n) = .type n := rfl
@[simp] theorem er_builtin (n : String) : er (.builtin n) = .builtin n := rfl
@[simp] theorem er_er (v : Value) : er (er v) = er v := by cases v <;> rfl
theorem er_eq_int {v : Value} {i : Int} {t : Tok} (h : er v = .int i t) : ∃ u, v = .int i u := by
  cases v <;> simp [er] at h; exact ⟨_, by rw [h.1]⟩
theorem er_eq_str {v : Value} {i : Str} {t : Tok} (h : er v = .str i t) : ∃ u, v = .str i u := by
  cases v <;> simp [er] at h; exact ⟨_, by rw [h.1]⟩
theorem er_eq_ref {v : Value} {a : Addr} (h : er v = .ref a) : v = .ref a := by
  cases v <;> simp [er] at h; rw [h]
theorem er_eq_bool {v : Value} {a : Bool} (h : er v = .bool a) : v = .bool a := by
  cases v <;> simp [er] at h; rw [h]
theorem er_eq_none {v : Value} (h : er v = .none) : v = .none := by
  cases v <;> simp [er] at h; rfl
theorem er_eq_builtin {v : Value} {a : String} (h : er v = .builtin a) : v = .builtin a := by
  cases v <;> simp [er] at h; rw [h]
theorem er_eq_type {v : Value} {a : String} (h : er v = .type a) : v = .type a := by
  cases v <;> simp [er] at h; rw [h]

abbrev Pd := Obj → Prop
abbrev Own := List (Addr × Pd)
structure Bs where
  f : Addr → Option Pd
  os : OsState
def Bs.sat (B : Bs) (h : Heap) : Prop := ∀ a p, B.f a = some p → ∃ o, h.get? a = some o ∧ p o
def Bs.le (B B' : Bs) : Prop := (∀ a p, B.f a = some p → B'.f a = some p) ∧ B'.os = B.os
theorem Bs.le.refl (B : Bs) : B.le B := ⟨fun _ _ h => h, rfl⟩
theorem Bs.le.trans {B B' B'' : Bs} (x : B.le B') (y : B'.le B'') : B.le B'' := ⟨fun a p h => y.1 a p (x.1 a p h), y.2.trans x.2⟩

structure Rep (B : Bs) (own : Own) (gs : Array GenState) (s : Shared) : Prop where
  b : B.sat s.heap
  o : ∀ a p, (a, p) ∈ own → ∃ o, s.heap.get? a = some o ∧ p o
  dis : ∀ a p, (a, p) ∈ own → B.f a = none
  nd : (own.map (·.1)).Nodup
  gens : s.gens = gs
  os : s.os = B.os

def Has (B : Bs) (own : Own) (a : Addr) (p : Pd) : Prop := (a, p) ∈ own ∨ B.f a = some p
theorem Has.own {B : Bs} {own : Own} {a : Addr} {p : Pd} (h : (a, p) ∈ own) : Has B own a p := .inl h
theorem Has.base {B : Bs} {own : Own} {a : Addr} {p : Pd} (h : B.f a = some p) : Has B own a p := .inr h
theorem Rep.get {B : Bs} {own : Own} {gs : Array GenState} {s : Shared} (R : Rep B own gs s) {a : Addr} {p : Pd} (h : Has B own a p) : ∃ o, s.heap.get? a = some o ∧ p o :=
  h.elim (R.o a p) (R.b a p)

/-- the finite list of own objects, one of them changed -/
inductive Upd (a : Addr) (p p' : Pd) : Own → Own → Prop
  | head (r : Own) : Upd a p p' ((a, p) :: r) ((a, p') :: r)
  | tail (x : Addr × Pd) {r r' : Own} : Upd a p p' r r' → Upd a p p' (x :: r) (x :: r')
theorem Upd.keys {a : Addr} {p p' : Pd} {o o' : Own} (u : Upd a p p' o o') : o'.map (·.1) = o.map (·.1) := by
  induction u with
  | head r => rfl
  | tail x _ ih => simp [ih]
theorem Upd.mem {a : Addr} {p p' : Pd} {o o' : Own} (u : Upd a p p' o o') : (a, p) ∈ o := by
  induction u with
  | head r => exact .head _
  | tail x _ ih => exact .tail _ ih
theorem Upd.mem_key {a : Addr} {p p' : Pd} {o o' : Own} (u : Upd a p p' o o') : a ∈ o.map (·.1) := List.mem_map_of_mem (f := (·.1)) u.mem
theorem Upd.of_mem {a : Addr} {p p' : Pd} {o o' : Own} (u : Upd a p p' o o') (nd : (o.map (·.1)).Nodup) : ∀ b q, (b, q) ∈ o' → (b = a ∧ q = p') ∨ (b ≠ a ∧ (b, q) ∈ o) := by
  induction u with
  | head r =>
    intro b q h
    rw [List.map_cons, List.nodup_cons] at nd
    cases h with
    | head => exact .inl ⟨rfl, rfl⟩
    | tail _ h => exact .inr ⟨fun e => nd.1 (e ▸ List.mem_map_of_mem (f := (·.1)) h), .tail _ h⟩
  | tail x u ih =>
    intro b q h
    rw [List.map_cons, List.nodup_cons] at nd
    cases h with
    | head => exact .inr ⟨fun e => nd.1 (by have := u.mem_key; rw [e]; exact this), .head _⟩
    | tail _ h => rcases ih nd.2 b q h with h | h
                  · exact .inl h
                  · exact .inr ⟨h.1, .tail _ h.2⟩

/-- fewer own objects, in any order, with less said of each -/
structure Sub (o₂ o₁ : Own) : Prop where
  mem : ∀ a p, (a, p) ∈ o₂ → ∃ q, (a, q) ∈ o₁ ∧ ∀ o, q o → p o
  nd : (o₁.map (·.1)).Nodup → (o₂.map (·.1)).Nodup
theorem Sub.refl (o : Own) : Sub o o := ⟨fun _ p h => ⟨p, h, fun _ x => x⟩, id⟩
theorem Sub.trans {a b c : Own} (x : Sub a b) (y : Sub b c) : Sub a c := ⟨fun z p h => by
  obtain ⟨q, h1, h2⟩ := x.mem z p h
  obtain ⟨r, h3, h4⟩ := y.mem z q h1
  exact ⟨r, h3, fun o e => h2 o (h4 o e)⟩, fun h => x.nd (y.nd h)⟩
theorem Sub.of_sublist {a b : Own} (x : a.Sublist b) : Sub a b := ⟨fun _ p h => ⟨p, x.subset h, fun _ y => y⟩, fun h => (x.map _).nodup h⟩
theorem Sub.of_perm {a b : Own} (x : a.Perm b) : Sub a b := ⟨fun _ p h => ⟨p, x.subset h, fun _ y => y⟩, fun h => (x.map (·.1)).nodup_iff.mpr h⟩
theorem Sub.skip {x : Addr × Pd} {a b : Own} (s : Sub a b) : Sub a (x :: b) := ⟨fun z p h => let ⟨q, h1, h2⟩ := s.mem z p h; ⟨q, .tail _ h1, h2⟩, fun h => s.nd (List.nodup_cons.mp (by simpa using h)).2⟩
theorem Sub.weak {k : Addr} {p q : Pd} {a b : Own} (hq : ∀ o, q o → p o) (s : Sub a b) : Sub ((k, p) :: a) ((k, q) :: b) := ⟨fun z r h => by
    cases h with
    | head => exact ⟨q, .head _, hq⟩
    | tail _ h => obtain ⟨q', h1, h2⟩ := s.mem z r h; exact ⟨q', .tail _ h1, h2⟩, fun h => by
  rw [List.map_cons, List.nodup_cons] at h ⊢
  refine ⟨fun e => h.1 ?_, s.nd h.2⟩
  obtain ⟨⟨y, p'⟩, hy, e⟩ := List.mem_map.mp e
  obtain ⟨q', h1, _⟩ := s.mem y p' hy
  simp only at e
  rw [← e]; exact List.mem_map_of_mem (f := (·.1)) h1⟩
theorem Sub.keep {x : Addr × Pd} {a b : Own} (s : Sub a b) : Sub (x :: a) (x :: b) := s.weak fun _ e => e
theorem Sub.swap {x y : Addr × Pd} {a : Own} : Sub (x :: y :: a) (y :: x :: a) := Sub.of_perm (List.Perm.swap _ _ _)
theorem Sub.nil {a : Own} : Sub [] a := Sub.of_sublist (List.nil_sublist a)
/-- bring one to the front -/
theorem Sub.front {k : Addr} {p : Pd} {a b c : Own} (hb : b.Perm ((k, p) :: c)) (s : Sub a c) : Sub ((k, p) :: a) b := (Sub.keep s).trans (Sub.of_perm hb.symm)
theorem Rep.sub {B : Bs} {own o₂ : Own} {gs : Array GenState} {s : Shared} (R : Rep B own gs s) (h : Sub o₂ own) : Rep B o₂ gs s :=
  ⟨R.b, fun a p q => let ⟨r, h1, h2⟩ := h.mem a p q; let ⟨o, ho, hr⟩ := R.o a r h1; ⟨o, ho, h2 o hr⟩, fun a p q => let ⟨r, h1, _⟩ := h.mem a p q; R.dis a r h1, h.nd R.nd, R.gens, R.os⟩

theorem Rep.fresh {B : Bs} {own : Own} {gs : Array GenState} {s : Shared} (R : Rep B own gs s) : B.f s.heap.objs.size = none ∧ ∀ p, (s.heap.objs.size, p) ∉ own := by
  refine ⟨?_, fun p h => ?_⟩
  · cases h : B.f s.heap.objs.size with
    | none => rfl
    | some p => obtain ⟨o, ho, _⟩ := R.b _ p h; exact absurd (Heap.lt_size ho) (Nat.lt_irrefl _)
  · obtain ⟨o, ho, _⟩ := R.o _ p h; exact absurd (Heap.lt_size ho) (Nat.lt_irrefl _)

/-- everything kept but one own object, which is now p' -/
theorem Rep.upd {B : Bs} {own own' : Own} {gs : Array GenState} {s : Shared} (R : Rep B own gs s) {a : Addr} {p p' : Pd} {h' : Heap} {tk : Nat} (u : Upd a p p' own own')
    (hx : Heap.ExtBut a s.heap h') (ha : ∃ o, h'.get? a = some o ∧ p' o) : Rep B own' gs { s with heap := h', toks := tk } where
  b := fun b q e => by
    obtain ⟨o, ho, hq⟩ := R.b b q e
    exact ⟨o, hx b o (fun z => by have := R.dis a p u.mem; rw [z, this] at e; cases e) ho, hq⟩
  o := fun b q e => by
    rcases u.of_mem R.nd b q e with ⟨rfl, rfl⟩ | ⟨hn, hm⟩
    · exact ha
    · obtain ⟨o, ho, hq⟩ := R.o b q hm
      exact ⟨o, hx b o hn ho, hq⟩
  dis := fun b q e => by
    rcases u.of_mem R.nd b q e with ⟨rfl, rfl⟩ | ⟨_, hm⟩
    · exact R.dis _ p u.mem
    · exact R.dis b q hm
  nd := by rw [u.keys]; exact R.nd
  gens := R.gens
  os := R.os
/-- everything kept -/
theorem Rep.ext {B : Bs} {own : Own} {gs : Array GenState} {s : Shared} (R : Rep B own gs s) {h' : Heap} {tk : Nat}
    (hx : ∀ b o, s.heap.get? b = some o → h'.get? b = some o) : Rep B own gs { s with heap := h', toks := tk } where
  b := fun b q e => let ⟨o, ho, hq⟩ := R.b b q e; ⟨o, hx b o ho, hq⟩
  o := fun b q e => let ⟨o, ho, hq⟩ := R.o b q e; ⟨o, hx b o ho, hq⟩
  dis := R.dis
  nd := R.nd
  gens := R.gens
  os := R.os
theorem Rep.toks {B : Bs} {own : Own} {gs : Array GenState} {s : Shared} (R : Rep B own gs s) (tk : Nat) : Rep B own gs { s with toks := tk } :=
  R.ext (h' := s.heap) fun _ _ e => e
/-- a new object at an address that nothing spoke of -/
theorem Rep.new {B : Bs} {own : Own} {gs : Array GenState} {s : Shared} (R : Rep B own gs s) {h' : Heap} {tk : Nat} {a : Addr} {p : Pd} (hx : Heap.ExtBut a s.heap h') (hn : s.heap.get? a = none)
    (ha : ∃ o, h'.get? a = some o ∧ p o) : Rep B ((a, p) :: own) gs { s with heap := h', toks := tk } where
  b := fun b q e => let ⟨o, ho, hq⟩ := R.b b q e; ⟨o, hx b o (fun z => by rw [z, hn] at ho; cases ho) ho, hq⟩
  o := fun b q e => by
    cases e with
    | head => exact ha
    | tail _ e => obtain ⟨o, ho, hq⟩ := R.o b q e; exact ⟨o, hx b o (fun z => by rw [z, hn] at ho; cases ho) ho, hq⟩
  dis := fun b q e => by
    cases e with
    | head => cases z : B.f a with
      | none => rfl
      | some q => obtain ⟨o, ho, _⟩ := R.b a q z; rw [hn] at ho; cases ho
    | tail _ e => exact R.dis b q e
  nd := by
    rw [List.map_cons, List.nodup_cons]
    refine ⟨fun q => ?_, R.nd⟩
    obtain ⟨⟨b, p'⟩, hm, rfl⟩ := List.mem_map.mp q
    obtain ⟨o, ho, _⟩ := R.o b p' hm; rw [show s.heap.get? b = none from hn] at ho; cases ho
  gens := R.gens
  os := R.os
theorem get?_size (h : Heap) : h.get? h.objs.size = none := by
  cases q : h.get? h.objs.size with
  | none => rfl
  | some o => exact absurd (Heap.lt_size q) (Nat.lt_irrefl _)
theorem Rep.push {B : Bs} {own : Own} {gs : Array GenState} {s : Shared} (R : Rep B own gs s) {o : Obj} {p : Pd} (hf : o.isFreed = false) (hp : p o) (tk : Nat) :
    Rep B ((s.heap.objs.size, p) :: own) gs { s with heap := s.heap.push o, toks := tk } :=
  R.new (fun _ _ _ e => Heap.get?_push_of_some _ e) (get?_size _) ⟨o, Heap.get?_push_size _ hf, hp⟩

section
variable (prog : Program) (w : World) (B : Bs) (A : Around)
/-- the judgement: from every state that the assertion describes the tree comes to an end that Q describes; no raise -/
def J {α : Type} (t : Sem α) (own : Own) (gs : Array GenState) (Q : α → Own → Array GenState → Prop) : Prop :=
  ∀ s, Rep B own gs s → wpAny (model prog w) A t (fun a s' => ∃ own' gs', Rep B own' gs' s' ∧ Q a own' gs') (fun _ _ => False) s
def JV (t : Sem Value) (own : Own) (gs : Array GenState) (Q : Value → Own → Array GenState → Prop) : Prop := J prog w B A t own gs fun v => Q (er v)
def erF : Flow → Flow
  | .ret v => .ret (er v)
  | f => f
def JF (t : Sem Flow) (own : Own) (gs : Array GenState) (Q : Flow → Own → Array GenState → Prop) : Prop := J prog w B A t own gs fun v => Q (erF v)
def JL (t : Sem (List Value)) (own : Own) (gs : Array GenState) (Q : List Value → Own → Array GenState → Prop) : Prop := J prog w B A t own gs fun v => Q (v.map er)
end

section
variable {prog : Program} {w : World} {B : Bs} {A : Around} {own : Own} {gs : Array GenState} {α β : Type}
theorem J_pure {a : α} {Q : α → Own → Array GenState → Prop} (h : Q a own gs) : J prog w B A (pure a) own gs Q := fun _ R => wpAny_pure ⟨own, gs, R, h⟩
theorem J_bind {t : Sem α} {k : α → Sem β} {Q : β → Own → Array GenState → Prop} (h : J prog w B A t own gs fun a own' gs' => J prog w B A (k a) own' gs' Q) :
    J prog w B A (t >>= k) own gs Q := fun s R => wpAny_bind (wpAny_mono (h s R) (fun _ _ ⟨_, _, R', h'⟩ => h' _ R') fun _ _ e => e)
theorem J_mono {t : Sem α} {Q Q' : α → Own → Array GenState → Prop} (h : J prog w B A t own gs Q) (hq : ∀ a o g, Q a o g → Q' a o g) : J prog w B A t own gs Q' :=
  fun s R => wpAny_mono (h s R) (fun _ _ ⟨o, g, R', h'⟩ => ⟨o, g, R', hq _ _ _ h'⟩) fun _ _ e => e
theorem J_drop {t : Sem α} {Q : α → Own → Array GenState → Prop} (h : J prog w B A t own gs fun a o g => ∃ o₂, Sub o₂ o ∧ Q a o₂ g) : J prog w B A t own gs Q :=
  fun s R => wpAny_mono (h s R) (fun _ _ ⟨_, g, R', o₂, hs, h'⟩ => ⟨o₂, g, R'.sub hs, h'⟩) fun _ _ e => e
theorem J_sub {t : Sem α} {o₂ : Own} {Q : α → Own → Array GenState → Prop} (hs : Sub o₂ own) (h : J prog w B A t o₂ gs Q) : J prog w B A t own gs Q :=
  fun s R => h s (R.sub hs)
/-- to any E: no raise -/
theorem J.any {t : Sem α} {Q : α → Own → Array GenState → Prop} {s : Shared} {Q' : α → Shared → Prop} {E : Value → Shared → Prop} (h : J prog w B A t own gs Q) (R : Rep B own gs s)
    (hq : ∀ a s' o g, Rep B o g s' → Q a o g → Q' a s') : wpAny (model prog w) A t Q' E s :=
  wpAny_mono (h s R) (fun _ _ ⟨_, _, R', h'⟩ => hq _ _ _ _ R' h') fun _ _ e => e.elim

/-- the frame: what the callee does not touch stands in its base -/
def Bs.with (B : Bs) (fr : Own) : Bs := ⟨fun a => (fr.lookup a).or (B.f a), B.os⟩
theorem lookup_of_nodup : ∀ {fr : Own} {a : Addr} {p : Pd}, (fr.map (·.1)).Nodup → (a, p) ∈ fr → fr.lookup a = some p
  | (b, q) :: r, a, p, nd, h => by
    rw [List.map_cons, List.nodup_cons] at nd
    cases h with
    | head => simp
    | tail _ h =>
      have : (a == b) = false := by
        simp only [beq_eq_false_iff_ne, ne_eq]
        intro e
        exact nd.1 (by show b ∈ _; rw [← e]; exact List.mem_map_of_mem (f := (·.1)) h)
      rw [List.lookup_cons, this]
      exact lookup_of_nodup nd.2 h
theorem lookup_mem : ∀ {fr : Own} {a : Addr} {p : Pd}, fr.lookup a = some p → (a, p) ∈ fr
  | (b, q) :: r, a, p, h => by
    rw [List.lookup_cons] at h
    cases e : a == b with
    | true => rw [e] at h; cases h; rw [eq_of_beq e]; exact .head _
    | false => rw [e] at h; exact .tail _ (lookup_mem h)
theorem J_frame {t : Sem α} {fr give : Own} {Q : α → Own → Array GenState → Prop} (hp : Sub (give ++ fr) own)
    (h : ∀ B' : Bs, B.le B' → (∀ x ∈ fr, B'.f x.1 = some x.2) → J prog w B' A t give gs fun a o g => Q a (o ++ fr) g) : J prog w B A t own gs Q := by
  intro s R₀
  have R := R₀.sub hp
  have nd : (fr.map (·.1)).Nodup := by
    have := R.nd; rw [List.map_append, List.nodup_append] at this; exact this.2.1
  have hfr : ∀ x ∈ fr, (B.with fr).f x.1 = some x.2 := fun x hx => by
    show (fr.lookup x.1).or _ = _
    rw [lookup_of_nodup nd hx]; rfl
  have hle : B.le (B.with fr) := by
    refine ⟨fun a p e => ?_, rfl⟩
    show (fr.lookup a).or _ = _
    cases q : fr.lookup a with
    | none => exact e
    | some p' => have := R.dis a p' (List.mem_append_right _ (lookup_mem q)); rw [this] at e; cases e
  have hb : ∀ a p, (B.with fr).f a = some p → (a, p) ∈ fr ∨ B.f a = some p := fun a p e => by
    have e' : (fr.lookup a).or (B.f a) = some p := e
    cases q : fr.lookup a with
    | none => rw [q] at e'; exact .inr e'
    | some p' => rw [q] at e'; cases e'; exact .inl (lookup_mem q)
  have R' : Rep (B.with fr) give gs s := by
    refine ⟨fun a p e => (hb a p e).elim (fun q => R.o a p (List.mem_append_right _ q)) (R.b a p), fun a p q => R.o a p (List.mem_append_left _ q), fun a p q => ?_, ?_, R.gens, R.os⟩
    · show (fr.lookup a).or (B.f a) = none
      cases z : fr.lookup a with
      | none => exact R.dis a p (List.mem_append_left _ q)
      | some p' =>
        have nd' := R.nd
        rw [List.map_append, List.nodup_append] at nd'
        exact absurd rfl (nd'.2.2 a (List.mem_map_of_mem (f := (·.1)) q) a (List.mem_map_of_mem (f := (·.1)) (lookup_mem z)))
    · have nd' := R.nd
      rw [List.map_append, List.nodup_append] at nd'
      exact nd'.1
  refine wpAny_mono (h _ hle hfr s R') (fun a s' ⟨o, g, R'', hq⟩ => ⟨o ++ fr, g, ?_, hq⟩) fun _ _ e => e
  refine ⟨fun b p e => R''.b b p (hle.1 b p e), fun b p e => ?_, fun b p e => ?_, ?_, R''.gens, R''.os⟩
  · rcases List.mem_append.mp e with e | e
    · exact R''.o b p e
    · exact R''.b b p (hfr _ e)
  · rcases List.mem_append.mp e with e | e
    · have z := R''.dis b p e
      have z' : (fr.lookup b).or (B.f b) = none := z
      exact (Option.or_eq_none_iff.mp z').2
    · exact R.dis b p (List.mem_append_right _ e)
  · rw [List.map_append, List.nodup_append]
    refine ⟨R''.nd, nd, fun x hx y hy e => ?_⟩
    subst e
    obtain ⟨⟨x1, p1⟩, h1, rfl⟩ := List.mem_map.mp hx
    obtain ⟨⟨x2, p2⟩, h2, e2⟩ := List.mem_map.mp hy
    have z := R''.dis _ _ h1
    have z2 := hfr _ h2
    simp only at e2
    rw [e2, z] at z2; cases z2
end
end Mine
end
section
set_option maxRecDepth 100000
open PySem PySem.Calls PyProof.Rows PySem.W PySem.Spec
namespace Mine

/-- an int's value -/
abbrev iv (k : Int) : Value := .int k 0
/-- names and their values, as far as known -/
def setL (x : Str) (v : Value) : List (Str × Value) → List (Str × Value)
  | [] => [(x, v)]
  | (y, u) :: r => if y = x then (x, v) :: r else (y, u) :: setL x v r
inductive SetL (x : Str) (v : Value) : List (Str × Value) → List (Str × Value) → Prop
  | nil : SetL x v [] [(x, v)]
  | here (u : Value) (r) : SetL x v ((x, u) :: r) ((x, v) :: r)
  | next {y u r r'} (h : (x == y) = false) (t : SetL x v r r') : SetL x v ((y, u) :: r) ((y, u) :: r')
theorem SetL.lookup {x : Str} {v : Value} {al al' : List (Str × Value)} (h : SetL x v al al') (y : Str) : al'.lookup y = if y = x then some v else al.lookup y := by
  induction h with
  | nil =>
    by_cases e : y = x
    · simp [List.lookup_cons, e]
    · have : (y == x) = false := by simpa using e
      simp [List.lookup_cons, e, this]
  | here u r =>
    by_cases e : y = x
    · simp [List.lookup_cons, e]
    · have : (y == x) = false := by simpa using e
      simp [List.lookup_cons, e, this]
  | @next z u r r' h t ih =>
    rw [List.lookup_cons, List.lookup_cons]
    by_cases e : y = z
    · subst e
      have : ¬ y = x := fun q => by subst q; simp at h
      simp [this]
    · have : (y == z) = false := by simpa using e
      simp only [this]
      exact ih

def ANs (al : List (Str × Value)) : Pd := fun o => ∃ es ep, o.data = .dict es ep ∧ StrKeys es ∧ ∀ x v, al.lookup x = some v → (nsFind es x).map er = some v
def ACell (v : Option Value) : Pd := fun o => ∃ u, o.data = .cell u ∧ u.map er = v
def ARaw (o : Obj) : Pd := fun o' => o' = o
def AList (xs : List Value) : Pd := fun o => ∃ its n, o = listOf its n ∧ its.toList.map er = xs
def ATup (xs : List Value) : Pd := fun o => ∃ its, o = { cls := .type "tuple", data := .seq its } ∧ its.toList.map er = xs

/-- the top: what the text's run left, in every heap that the base describes -/
def TopB (K : Frag) (p : Program) (loose : List Str) (mg mb : Str → Option Value) (B : Bs) : Prop := ∀ h, B.sat h → K.In h ∧ TopRead p loose mg mb h ∧ sysObs h = true
theorem TopB.le {K : Frag} {p : Program} {loose : List Str} {mg mb : Str → Option Value} {B B' : Bs} (T : TopB K p loose mg mb B) (l : B.le B') : TopB K p loose mg mb B' :=
  fun h s => T h fun a q e => s a q (l.1 a q e)


section
variable {prog : Program} {w : World} {B : Bs} {A : Around} {own : Own} {gs : Array GenState} {env : Env}
theorem ANs.ns {al : List (Str × Value)} {h : Heap} {a : Addr} {o : Obj} (ho : h.get? a = some o) (x : ANs al o) : ∃ m, h.Ns a m ∧ ∀ x v, al.lookup x = some v → (m x).map er = some v := by
  obtain ⟨es, ep, hd, hk, hf⟩ := x
  exact ⟨nsFind es, ⟨o, es, ep, ho, hd, hk, fun _ => rfl⟩, hf⟩
theorem ANs.of_ns {al : List (Str × Value)} {h : Heap} {a : Addr} {m} (n : h.Ns a m) (q : ∀ x v, al.lookup x = some v → (m x).map er = some v) : ∃ o, h.get? a = some o ∧ ANs al o := by
  obtain ⟨o, es, ep, ho, hd, hk, hf⟩ := n
  exact ⟨o, ho, es, ep, hd, hk, fun x v e => by rw [hf]; exact q x v e⟩
theorem ANs.weak {al al' : List (Str × Value)} (h : ∀ x v, al'.lookup x = some v → al.lookup x = some v) : ∀ o, ANs al o → ANs al' o := fun _ ⟨es, ep, hd, hk, hf⟩ => ⟨es, ep, hd, hk, fun x v e => hf x v (h x v e)⟩

-- names
theorem JV_local {x : Str} {pos : Pos} {v : Value} {al : List (Str × Value)} {Q : Value → Own → Array GenState → Prop}
    (hn : Has B own env.locals (ANs al)) (hv : al.lookup x = some v) (h : Q v own gs)
    (hk : env.scope.kind = .function := by rfl) (hl : env.kindOf x = some .local := by rfl) (hd : (x == ("__debug__" : Str)) = false := by decide) :
    JV prog w B A (eval (.Name x pos) env) own gs Q := fun s R => by
  obtain ⟨o, ho, hp⟩ := R.get hn
  obtain ⟨m, hm, hf⟩ := ANs.ns ho hp
  obtain ⟨u, hu, rfl⟩ := Option.map_eq_some_iff.mp (hf x v hv)
  exact wpAny_Name (wpAny_loadName_local hk hl hm hu ⟨own, gs, R, h⟩) hd
theorem JV_cell {x : Str} {pos : Pos} {v : Value} {c : Addr} {Q : Value → Own → Array GenState → Prop}
    (hc : env.cells.lookup x = some c) (hn : Has B own c (ACell (some v))) (h : Q v own gs)
    (hk : env.scope.kind = .function := by rfl) (hl : env.kindOf x = some .cell := by rfl) (hd : (x == ("__debug__" : Str)) = false := by decide) :
    JV prog w B A (eval (.Name x pos) env) own gs Q := fun s R => by
  obtain ⟨o, ho, u, hu, he⟩ := R.get hn
  obtain ⟨v', rfl, rfl⟩ := Option.map_eq_some_iff.mp he
  exact wpAny_Name (wpAny_loadName_cell hk hl hc ⟨o, ho, hu⟩ ⟨own, gs, R, h⟩) hd
theorem JV_free {x : Str} {pos : Pos} {v : Value} {c : Addr} {Q : Value → Own → Array GenState → Prop}
    (hc : env.cells.lookup x = some c) (hn : Has B own c (ACell (some v))) (h : Q v own gs)
    (hk : env.scope.kind = .function := by rfl) (hl : env.kindOf x = some .free := by rfl) (hd : (x == ("__debug__" : Str)) = false := by decide) (hcd : (x == ("__classdict__" : Str)) = false := by decide) :
    JV prog w B A (eval (.Name x pos) env) own gs Q := fun s R => by
  obtain ⟨o, ho, u, hu, he⟩ := R.get hn
  obtain ⟨v', rfl, rfl⟩ := Option.map_eq_some_iff.mp he
  exact wpAny_Name (wpAny_loadName_free hk hl hc ⟨o, ho, hu⟩ ⟨own, gs, R, h⟩ hcd) hd
theorem JV_global {K : Frag} {p : Program} {loose : List Str} {mg mb : Str → Option Value} {x : Str} {pos : Pos} {v : Value} {Q : Value → Own → Array GenState → Prop}
    (T : TopB K p loose mg mb B) (e : nsIn K mainGlobals x = some (some v)) (h : Q (er v) own gs) (hg : env.globals = mainGlobals := by rfl)
    (hk : env.scope.kind = .function := by rfl) (hl : env.kindOf x = some .globalImplicit := by rfl) (hd : (x == ("__debug__" : Str)) = false := by decide) :
    JV prog w B A (eval (.Name x pos) env) own gs Q := fun s R => by
  obtain ⟨X, T, _⟩ := T _ R.b
  exact Name_function_global hk hl (loadGlobal_global (env := env) (hg ▸ T.g) (mg_of X T.g e) ⟨own, gs, R, h⟩) hd
theorem JV_builtin {K : Frag} {p : Program} {loose : List Str} {mg mb : Str → Option Value} {x : Str} {pos : Pos} {v : Value} {Q : Value → Own → Array GenState → Prop}
    (T : TopB K p loose mg mb B) (e : nsIn K mainGlobals x = some none) (hv : bootBuiltins x = some v) (h : Q (er v) own gs) (hn : x ≠ "__name__" := by decide) (hg : env.globals = mainGlobals := by rfl) (hb : env.builtins = builtinsNs := by rfl)
    (hk : env.scope.kind = .function := by rfl) (hl : env.kindOf x = some .globalImplicit := by rfl) (hd : (x == ("__debug__" : Str)) = false := by decide) :
    JV prog w B A (eval (.Name x pos) env) own gs Q := fun s R => by
  obtain ⟨X, T, _⟩ := T _ R.b
  exact Name_function_global hk hl (loadGlobal_builtin (env := env) (hg ▸ T.g) (mg_none_of X T.g e) (hb ▸ T.b) ((T.builtins x hn).trans hv) ⟨own, gs, R, h⟩) hd

-- stores
def StoreJ (prog : Program) (w : World) (B : Bs) (A : Around) (env : Env) (x : Str) (v : Value) (own : Own) (gs : Array GenState) (Q : Own → Array GenState → Prop) : Prop :=
  ∀ u, er u = v → J prog w B A (storeName env x u) own gs fun _ => Q
theorem Store_local {x : Str} {v : Value} {al al' : List (Str × Value)} {own' : Own} {Q : Own → Array GenState → Prop} (hu : Upd env.locals (ANs al) (ANs al') own own') (hs : SetL x v al al')
    (h : Q own' gs) (hk : env.scope.kind = .function := by rfl) (hl : env.kindOf x = some .local := by rfl) : StoreJ prog w B A env x v own gs Q := by
  rintro u rfl s R
  obtain ⟨o, ho, hp⟩ := R.o _ _ hu.mem
  obtain ⟨m, hm, hf⟩ := ANs.ns ho hp
  refine wpAny_storeName_local hl hm (fun h' hn' hs' => ⟨own', gs, R.upd hu hs'.extBut (ANs.of_ns hn' fun y z e => ?_), h⟩)
    (by rw [hk]; rfl)
  rw [hs.lookup] at e
  by_cases q : y = x
  · simp only [q, if_true] at e ⊢; simpa using e
  · simp only [if_neg q] at e ⊢; exact hf y z e
theorem Store_cell {x : Str} {v : Value} {c : Addr} {v₀ : Option Value} {own' : Own} {Q : Own → Array GenState → Prop} (hc : env.cells.lookup x = some c) (hu : Upd c (ACell v₀) (ACell (some v)) own own')
    (h : Q own' gs) (hk : env.scope.kind = .function := by rfl) (hl : env.kindOf x = some .cell := by rfl) : StoreJ prog w B A env x v own gs Q := by
  rintro u rfl s R
  obtain ⟨o, ho, z, hz, _⟩ := R.o _ _ hu.mem
  refine wpAny_storeName_cell hk hl hc ⟨o, ho, hz⟩ fun h' hv hs => ?_
  obtain ⟨o', ho', hd'⟩ := hv
  exact ⟨own', gs, R.upd hu hs.extBut ⟨o', ho', _, hd', rfl⟩, h⟩

-- constants
theorem JV_int {i : Int} {k : Nat} {pos : Pos} {Q : Value → Own → Array GenState → Prop} (h : Q (iv i) own gs) : JV prog w B A (eval (.Constant (.int i) k pos) env) own gs Q :=
  fun s R => wpAny_Constant_int ⟨own, gs, R.toks _, h⟩
theorem JV_str {i : Str} {k : Nat} {pos : Pos} {Q : Value → Own → Array GenState → Prop} (h : Q (.str i 0) own gs) : JV prog w B A (eval (.Constant (.str i) k pos) env) own gs Q :=
  fun s R => Constant_str ⟨own, gs, R.toks _, h⟩
theorem JV_none {k : Nat} {pos : Pos} {Q : Value → Own → Array GenState → Prop} (h : Q .none own gs) : JV prog w B A (eval (.Constant .none k pos) env) own gs Q :=
  fun s R => by
    show wpAny _ _ (pure Value.none) _ _ s
    exact wpAny_pure ⟨own, gs, R, h⟩
theorem JV_bool {b : Bool} {k : Nat} {pos : Pos} {Q : Value → Own → Array GenState → Prop} (h : Q (.bool b) own gs) : JV prog w B A (eval (.Constant (.bool b) k pos) env) own gs Q :=
  fun s R => by
    show wpAny _ _ (pure (Value.bool b)) _ _ s
    exact wpAny_pure ⟨own, gs, R, h⟩

-- operations
def BinJ (prog : Program) (w : World) (B : Bs) (A : Around) (op : Operator) (a b : Value) (own : Own) (gs : Array GenState) (Q : Value → Own → Array GenState → Prop) : Prop :=
  ∀ u v, er u = a → er v = b → JV prog w B A (binaryOp op u v) own gs Q
theorem JV_BinOp {l r : Expr} {op : Operator} {pos : Pos} {Q : Value → Own → Array GenState → Prop}
    (h : JV prog w B A (eval l env) own gs fun a o g => JV prog w B A (eval r env) o g fun b o' g' => BinJ prog w B A op a b o' g' Q) :
    JV prog w B A (eval (.BinOp l op r pos) env) own gs Q := fun s R =>
  wpAny_BinOp (wpAny_mono (h s R) (fun _ _ ⟨_, _, R', h'⟩ => wpAny_mono (h' _ R') (fun _ _ ⟨_, _, R'', h''⟩ => h'' _ _ rfl rfl _ R'') fun _ _ e => e) fun _ _ e => e)
theorem Bin_add {a b : Int} {Q : Value → Own → Array GenState → Prop} (h : Q (iv (a + b)) own gs) : BinJ prog w B A .Add (iv a) (iv b) own gs Q := by
  intro u v hu hv s R
  obtain ⟨t, rfl⟩ := er_eq_int hu
  obtain ⟨t', rfl⟩ := er_eq_int hv
  exact add_int ⟨own, gs, R.toks _, h⟩
theorem Bin_sub {a b : Int} {Q : Value → Own → Array GenState → Prop} (h : Q (iv (a - b)) own gs) : BinJ prog w B A .Sub (iv a) (iv b) own gs Q := by
  intro u v hu hv s R
  obtain ⟨t, rfl⟩ := er_eq_int hu
  obtain ⟨t', rfl⟩ := er_eq_int hv
  exact sub_int ⟨own, gs, R.toks _, h⟩
theorem Bin_mul {a b : Int} {Q : Value → Own → Array GenState → Prop} (h : Q (iv (a * b)) own gs) (hm : IntMulOk a b) : BinJ prog w B A .Mult (iv a) (iv b) own gs Q := by
  intro u v hu hv s R
  obtain ⟨t, rfl⟩ := er_eq_int hu
  obtain ⟨t', rfl⟩ := er_eq_int hv
  exact mul_int ⟨own, gs, R.toks _, h⟩ hm
theorem Bin_mod {a b : Int} {Q : Value → Own → Array GenState → Prop} (hb : b ≠ 0) (h : Q (iv (a.fmod b)) own gs) : BinJ prog w B A .Mod (iv a) (iv b) own gs Q := by
  intro u v hu hv s R
  obtain ⟨t, rfl⟩ := er_eq_int hu
  obtain ⟨t', rfl⟩ := er_eq_int hv
  exact mod_int' hb ⟨own, gs, R.toks _, h⟩
theorem Bin_div {a b : Int} {Q : Value → Own → Array GenState → Prop} (hb : b ≠ 0) (hs : b.natAbs < 1000000) (h : Q (iv (a.fdiv b)) own gs) : BinJ prog w B A .FloorDiv (iv a) (iv b) own gs Q := by
  intro u v hu hv s R
  obtain ⟨t, rfl⟩ := er_eq_int hu
  obtain ⟨t', rfl⟩ := er_eq_int hv
  exact floordiv_int hb ⟨own, gs, R.toks _, h⟩ (Or.inl (PyProof.noPylong_small (by omega)))

def CmpJ (prog : Program) (w : World) (B : Bs) (A : Around) (op : CmpOp) (a b : Value) (own : Own) (gs : Array GenState) (Q : Value → Own → Array GenState → Prop) : Prop :=
  ∀ u v, er u = a → er v = b → JV prog w B A (compareOp op u v) own gs Q
theorem JV_Compare {l r : Expr} {op : CmpOp} {pos : Pos} {Q : Value → Own → Array GenState → Prop}
    (h : JV prog w B A (eval l env) own gs fun a o g => JV prog w B A (eval r env) o g fun b o' g' => CmpJ prog w B A op a b o' g' Q)
    (hm : behindInMarks op r = false := by with_unfolding_all rfl) :
    JV prog w B A (eval (.Compare l [op] [r] pos) env) own gs Q := fun s R =>
  wpAny_Compare1 (wpAny_mono (h s R) (fun _ _ ⟨_, _, R', h'⟩ => wpAny_mono (h' _ R') (fun _ _ ⟨_, _, R'', h''⟩ => h'' _ _ rfl rfl _ R'') fun _ _ e => e) fun _ _ e => e) hm
theorem Cmp_eq {a b : Int} {Q : Value → Own → Array GenState → Prop} (h : Q (.bool (a == b)) own gs) : CmpJ prog w B A .Eq (iv a) (iv b) own gs Q := by
  intro u v hu hv s R
  obtain ⟨t, rfl⟩ := er_eq_int hu
  obtain ⟨t', rfl⟩ := er_eq_int hv
  exact eq_int ⟨own, gs, R, h⟩
theorem Cmp_ne {a b : Int} {Q : Value → Own → Array GenState → Prop} (h : Q (.bool (a != b)) own gs) : CmpJ prog w B A .NotEq (iv a) (iv b) own gs Q := by
  intro u v hu hv s R
  obtain ⟨t, rfl⟩ := er_eq_int hu
  obtain ⟨t', rfl⟩ := er_eq_int hv
  exact ne_int ⟨own, gs, R, h⟩
theorem Cmp_lt {a b : Int} {Q : Value → Own → Array GenState → Prop} (h : Q (.bool (decide (a < b))) own gs) : CmpJ prog w B A .Lt (iv a) (iv b) own gs Q := by
  intro u v hu hv s R
  obtain ⟨t, rfl⟩ := er_eq_int hu
  obtain ⟨t', rfl⟩ := er_eq_int hv
  exact lt_int ⟨own, gs, R, h⟩
theorem Cmp_le {a b : Int} {Q : Value → Own → Array GenState → Prop} (h : Q (.bool (decide (a ≤ b))) own gs) : CmpJ prog w B A .LtE (iv a) (iv b) own gs Q := by
  intro u v hu hv s R
  obtain ⟨t, rfl⟩ := er_eq_int hu
  obtain ⟨t', rfl⟩ := er_eq_int hv
  exact le_int ⟨own, gs, R, h⟩
theorem Cmp_gt {a b : Int} {Q : Value → Own → Array GenState → Prop} (h : Q (.bool (decide (b < a))) own gs) : CmpJ prog w B A .Gt (iv a) (iv b) own gs Q := by
  intro u v hu hv s R
  obtain ⟨t, rfl⟩ := er_eq_int hu
  obtain ⟨t', rfl⟩ := er_eq_int hv
  exact gt_int ⟨own, gs, R, h⟩
theorem Cmp_ge {a b : Int} {Q : Value → Own → Array GenState → Prop} (h : Q (.bool (decide (b ≤ a))) own gs) : CmpJ prog w B A .GtE (iv a) (iv b) own gs Q := by
  intro u v hu hv s R
  obtain ⟨t, rfl⟩ := er_eq_int hu
  obtain ⟨t', rfl⟩ := er_eq_int hv
  exact ge_int ⟨own, gs, R, h⟩
end
end Mine
end
section
set_option maxRecDepth 100000
open PySem PySem.Calls PyProof.Rows PySem.W PySem.Spec
namespace Mine

/-- an exception object whose context is None -/
def AExc0 : Pd := fun o => ∃ vs, o.data = .fields vs ∧ vs[2]? = some .none
def HOk (A : Around) (h : Heap) : Prop := A.handled = none ∨ ∃ e o, A.handled = some (.ref e) ∧ h.get? e = some o ∧ AExc0 o

section
variable {prog : Program} {w : World} {A : Around} {s : Shared} {α : Type} {Q : α → Shared → Prop} {E : Value → Shared → Prop}
theorem entry_unchain : entryFor table "proto.unchain" = some Builtin.«proto.unchain» := entryFor_of_fast (by kernel_rfl)
theorem Obj.isFreed_fields {o : Obj} {vs} (h : o.data = .fields vs) : o.isFreed = false := by
  obtain ⟨c, d, dt, sl⟩ := o; subst h; rfl
theorem raise_stop (hh : HOk A s.heap)
    (h : ∀ h' e, (∀ b o, s.heap.get? b = some o → h'.get? b = some o) → (⟨h', s.gens, s.drawn, s.toks, s.os⟩ : Shared).TypeIs (.ref e) "StopIteration" → E (.ref e) ⟨h', s.gens, s.drawn, s.toks, s.os⟩) :
    wpAny (model prog w) A (newExc (.type "StopIteration") [] >>= (raiseNew : Value → Sem α)) Q E s := by
  refine wpAny_bind ?_
  simp only [newExc, newTuple]
  refine wpAny_bind (wpAny_newObj_type ?_ (by size_fits))
  refine wpAny_bind (m := firstArgMember _ _) (wpAny_of_eq (a := Value.none) (by first | rfl | (simp only [firstArgMember]; rfl)) ?_)
  refine wpAny_newObj_type ?_ (by size_fits)
  simp only [raiseNew]
  refine wpAny_bind (wpAny_handled ?_)
  rcases hh with hh | ⟨e, o, hh, he, vs, hd, h2⟩
  · rw [hh]
    refine wpAny_bind (wpAny_pure (wpAny_throw ?_))
    exact h _ _ (fun b o q => Heap.get?_push_of_some _ (Heap.get?_push_of_some _ q)) ⟨_, Heap.get?_push_size _ rfl, rfl⟩
  · rw [hh]
    dsimp only
    have hlt := Heap.lt_size he
    have he1 := Heap.get?_push_of_some (o := { cls := .type "tuple", data := .seq (List.toArray ([] : List Value)) }) he
    have he2 := fun x => Heap.get?_push_of_some (o := x) he1
    rw [if_pos (by
      rw [bne_iff_ne]; intro q
      have q' := Value.ref.inj q
      rw [Heap.size_push] at q'
      exact absurd q' (Nat.ne_of_lt (Nat.lt_succ_of_lt hlt)))]
    refine wpAny_bind (wpAny_holding (wpAny_runValue (codeAny_builtin entry_unchain ?_)))
    show wpAny _ _ (field (.ref e) 2 >>= _) _ _ _
    refine wpAny_bind (wpAny_field (he2 _) hd h2 ?_)
    rw [if_pos (by rfl)]
    refine wpAny_pure ?_
    dsimp only
    simp only [updateField]
    refine wpAny_bind (wpAny_bind (wpAny_load (Heap.get?_push_size _ rfl) ?_))
    dsimp only
    rw [if_pos (by simp; omega)]
    refine wpAny_updatePart (part := none) (Heap.get?_push_size _ rfl) (wpAny_throw ?_)
    refine h _ _ (fun b o q => ?_) ?_
    · refine (Heap.get?_update_other _ _ ?_).trans (Heap.get?_push_of_some _ (Heap.get?_push_of_some _ q))
      intro z
      have h1 : b < s.heap.objs.size := Heap.lt_size q
      have h2 : b = s.heap.objs.size + 1 := z.symm.trans (Heap.size_push _ _)
      exact absurd h1 (by rw [h2]; exact Nat.not_lt.mpr (Nat.le_succ _))
    · refine ⟨_, Heap.get?_update_self _ (Heap.get?_push_size _ rfl) rfl, rfl⟩

theorem next_list_end {it l : Addr} {i : Nat} {items} {Q : Option Value → Shared → Prop} (hh : HOk A s.heap) (hne : ∀ e, A.handled = some (.ref e) → e ≠ it)
    (hit : s.heap.IsListIter it l i) (hl : s.heap.IsList l items) (hx : items[i]? = none)
    (hQ : ∀ h', Heap.ExtBut it s.heap h' → Q none { s with heap := h' }) : wpAny (model prog w) A (pyNext (.ref it)) Q E s := by
  obtain ⟨o, ho, hc, hd⟩ := id hit
  obtain ⟨ol, hol, _, nl, hdl⟩ := hl
  unfold pyNext
  refine wpAny_bind (wpAny_attempt (wpAny_callSpecial?_slot (name := Str.ofString "__next__") hit.typeIs slot_listiter_next
    (wpAny_call_entry slot_listiter_next hit.typeIs entry_listiter_next ?_ (args_listiter_next _))))
  show wpAny _ _ (field (.ref it) 0 >>= _) _ _ s
  refine wpAny_bind (wpAny_field ho hd (x := .ref l) rfl ?_)
  show wpAny _ _ (if (Value.ref l == Value.none) = true then _ else _) _ _ s
  rw [if_neg (show ¬ ((Value.ref l == Value.none) = true) from Bool.false_ne_true)]
  show wpAny _ _ (field (.ref it) 1 >>= _) _ _ s
  refine wpAny_bind (wpAny_field ho hd (x := .int i 0) rfl ?_)
  show wpAny _ _ (seqItems? (.ref l) >>= _) _ _ s
  refine wpAny_bind (wpAny_seqItems hol hdl ?_)
  simp only [Int.toNat_natCast, hx]
  refine wpAny_bind (wpAny_rule (wpAny_bind (wpAny_setField ho hd (by simp) ?_)))
  refine raise_stop ?_ fun h' e hk hT => ?_
  · rcases hh with hh | ⟨e, o, hh, he, hp⟩
    · exact .inl hh
    · exact .inr ⟨e, o, hh, (Heap.get?_update_other _ _ (Ne.symm (hne e hh))).trans he, hp⟩
  · refine wpAny_bind (wpAny_isInstance (T := "StopIteration") (b := true) hT isSubtype_stop ?_)
    exact wpAny_pure (hQ _ fun b o hb e => hk b o ((Heap.get?_update_other _ _ (Ne.symm hb)).trans e))

theorem next_tuple_end {it t : Addr} {i : Nat} {items} {Q : Option Value → Shared → Prop} (hh : HOk A s.heap) (hne : ∀ e, A.handled = some (.ref e) → e ≠ it)
    (hit : s.heap.IsTupleIter it t i) (ht : s.heap.IsTuple t items) (hx : items[i]? = none)
    (hQ : ∀ h', Heap.ExtBut it s.heap h' → Q none { s with heap := h' }) : wpAny (model prog w) A (pyNext (.ref it)) Q E s := by
  obtain ⟨o, ho, hc, hd⟩ := id hit
  obtain ⟨ol, hol, _, nl, hdl⟩ := ht
  unfold pyNext
  refine wpAny_bind (wpAny_attempt (wpAny_callSpecial?_slot (name := Str.ofString "__next__") hit.typeIs F.slot_tuple_iterator_next
    (wpAny_call_entry F.slot_tuple_iterator_next hit.typeIs F.entry_tuple_iterator_next ?_ (F.args_tuple_iterator_next_1 _))))
  show wpAny _ _ (field (.ref it) 0 >>= _) _ _ s
  refine wpAny_bind (wpAny_field ho hd (x := .ref t) rfl ?_)
  show wpAny _ _ (if (Value.ref t == Value.none) = true then _ else _) _ _ s
  rw [if_neg (show ¬ ((Value.ref t == Value.none) = true) from Bool.false_ne_true)]
  show wpAny _ _ (field (.ref it) 1 >>= _) _ _ s
  refine wpAny_bind (wpAny_field ho hd (x := .int i 0) rfl ?_)
  show wpAny _ _ (seqItems? (.ref t) >>= _) _ _ s
  refine wpAny_bind (wpAny_seqItems hol hdl ?_)
  simp only [Int.toNat_natCast, hx]
  refine wpAny_bind (wpAny_rule (wpAny_bind (wpAny_setField ho hd (by simp) ?_)))
  refine raise_stop ?_ fun h' e hk hT => ?_
  · rcases hh with hh | ⟨e, o, hh, he, hp⟩
    · exact .inl hh
    · exact .inr ⟨e, o, hh, (Heap.get?_update_other _ _ (Ne.symm (hne e hh))).trans he, hp⟩
  · refine wpAny_bind (wpAny_isInstance (T := "StopIteration") (b := true) hT isSubtype_stop ?_)
    exact wpAny_pure (hQ _ fun b o hb e => hk b o ((Heap.get?_update_other _ _ (Ne.symm hb)).trans e))

theorem next_dict_end {K : Type} [DecidableEq K] {knd : KeyKind prog w K} {it d : Addr} {i ep : Nat} {kvs : List (K × Value)} {Q : Option Value → Shared → Prop} (hh : HOk A s.heap) (hne : ∀ e, A.handled = some (.ref e) → e ≠ it)
    (hit : s.heap.IsKeyIter it d i kvs.length ep) (hm : s.heap.DictAt knd d kvs ep) (hx : kvs[i]? = none)
    (hQ : ∀ h', Heap.ExtBut it s.heap h' → Q none { s with heap := h' }) : wpAny (model prog w) A (pyNext (.ref it)) Q E s := by
  obtain ⟨o, ho, hc, hd⟩ := id hit
  obtain ⟨od, es, hod, hcd, hdd, hk, hp, hn⟩ := id hm
  unfold pyNext
  refine wpAny_bind (wpAny_attempt (wpAny_callSpecial?_slot (name := Str.ofString "__next__") hit.typeIs F.slot_dict_keyiterator_next
    (wpAny_call_entry F.slot_dict_keyiterator_next hit.typeIs F.entry_dict_keyiterator_next ?_ (F.args_dict_keyiterator_next_1 _))))
  refine wpAny_bind (wpAny_pure ?_)
  refine wpAny_bind ?_
  refine wpAny_bind ?_
  first | refine wpAny_bind (wpAny_typeNameOfWhole_keyiter hit.typeIs (wpAny_pure ?_)) | refine wpAny_bind (wpAny_typeNameOf_keyiter hit.typeIs (wpAny_pure ?_))
  refine wpAny_bind (wpAny_fieldsOf ho hd ?_)
  have hown : Builtin.Dict_items.ownsTuple "dict_keyiterator" = false := by decide
  simp only [hown, Bool.false_eq_true, if_false]
  show wpAny _ _ (if (Value.ref d == Value.none) = true then _ else _) _ _ s
  rw [if_neg (show ¬ ((Value.ref d == Value.none) = true) from Bool.false_ne_true)]
  refine wpAny_bind (wpAny_pure ?_)
  refine wpAny_bind (wpAny_dictEntries hod hdd ?_)
  have hsz : es.size = kvs.length := by rw [← hp.length]; simp
  rw [if_neg (by rw [hsz]; simp)]
  refine wpAny_bind (wpAny_pure ?_)
  refine wpAny_bind (wpAny_dictEpoch hod hdd ?_)
  rw [if_neg (by simp)]
  refine wpAny_pure ?_
  have hge : es.size ≤ i := by rw [hsz]; simpa using hx
  simp only [show ¬ ((i : Int) < 0) from by omega, if_false, Int.toNat_natCast, Array.getElem?_eq_none hge]
  refine wpAny_bind ?_
  first | refine wpAny_bind (wpAny_typeNameOfWhole_keyiter hit.typeIs (wpAny_pure ?_)) | refine wpAny_bind (wpAny_typeNameOf_keyiter hit.typeIs (wpAny_pure ?_))
  show wpAny _ _ (setField (.ref it) 0 .none >>= _) _ _ s
  refine wpAny_bind (wpAny_setField ho hd (by simp) ?_)
  refine raise_stop ?_ fun h' e hk hT => ?_
  · rcases hh with hh | ⟨e, o, hh, he, hp⟩
    · exact .inl hh
    · exact .inr ⟨e, o, hh, (Heap.get?_update_other _ _ (Ne.symm (hne e hh))).trans he, hp⟩
  · refine wpAny_bind (wpAny_isInstance (T := "StopIteration") (b := true) hT isSubtype_stop ?_)
    exact wpAny_pure (hQ _ fun b o hb e => hk b o ((Heap.get?_update_other _ _ (Ne.symm hb)).trans e))

theorem unpackItems_tup {t : Addr} {items : Array Value} {Q : List Value → Shared → Prop} (hh : HOk A s.heap) (ht : s.heap.IsTuple t items)
    (hQ : ∀ h', Heap.ExtBut s.heap.objs.size s.heap h' → Q items.toList { s with heap := h' }) : wpAny (model prog w) A (unpackItems (.ref t) items.size none) Q E s := by
  have hlt : t ≠ s.heap.objs.size := by obtain ⟨o, ho, _⟩ := ht; exact Nat.ne_of_lt (Heap.lt_size ho)
  unfold unpackItems
  refine wpAny_bind ?_
  · unfold notIterableAtAll
    refine wpAny_bind (wpAny_specialOf ht.typeIs F.slot_tuple_iter.lookup ?_)
    refine wpAny_pure ?_
    simp only [Bool.false_eq_true, if_false]
    refine wpAny_bind (wpAny_holding (wpAny_pyIter_tuple ht ?_))
    refine wpAny_bind (wpAny_holding (wpAny_draw_tuple hlt items.size 0 _ _ ⟨_, Heap.get?_push_size _ rfl, rfl, rfl⟩ (ht.push _) (by omega) fun h₁ hit₁ hs₁ => ?_))
    have hall : List.take items.size (List.drop 0 items.toList) = items.toList := by
      rw [List.drop_zero]; exact List.take_of_length_le (by simp)
    rw [hall]
    rw [if_neg (by simp)]
    have ht₁ : h₁.IsTuple t items := (ht.push _).extBut hs₁.extBut hlt
    have hne : ∀ e, A.handled = some (.ref e) → e ≠ s.heap.objs.size := fun e q => by
      rcases hh with hh | ⟨e', o, hh, he, hp⟩
      · rw [hh] at q; cases q
      · rw [hh] at q; cases q; exact Nat.ne_of_lt (Heap.lt_size he)
    refine wpAny_bind (wpAny_holding (next_tuple_end ?_ hne hit₁ ht₁ (by simp) fun h₂ he₂ => ?_))
    · rcases hh with hh | ⟨e', o, hh, he, hp⟩
      · exact .inl hh
      · exact .inr ⟨e', o, hh, hs₁.extBut _ _ (hne e' hh) (Heap.get?_push_of_some _ he), hp⟩
    simp only [Option.isSome_none, Bool.false_eq_true, if_false]
    refine wpAny_pure (hQ h₂ fun b o hb e => he₂ b o hb (hs₁.extBut b o hb (Heap.get?_push_of_some _ e)))

theorem assign_tup {env : Env} {elts : List Expr} {x1} {pos : Pos} {t : Addr} {items : Array Value} {Q : Unit → Shared → Prop} (hh : HOk A s.heap) (ht : s.heap.IsTuple t items)
    (hn : (assignEach elts env).length = items.size) (hstar : (assignEach elts env).findIdx? (·.1) = none)
    (h : ∀ h', Heap.ExtBut s.heap.objs.size s.heap h' → wpAny (model prog w) A (assignInOrder ((assignEach elts env).map (·.2)) items.toList) Q E { s with heap := h' }) :
    wpAny (model prog w) A (assign (.Tuple elts x1 pos) env (.ref t)) Q E s := by
  rw [arm_assign_Tuple]
  refine wpAny_bind (wpAny_standAt ?_)
  unfold unpack
  rw [hn, hstar]
  exact wpAny_bind (wpAny_holding (unpackItems_tup hh ht h))
end
end Mine
end
section
set_option maxRecDepth 100000
open PySem PySem.Calls PyProof.Rows PySem.W PySem.Spec
namespace Mine

/-- room, and what is being handled -/
structure AOk (B : Bs) (A : Around) (n : Nat) : Prop where
  d : A.depth + n < 900
  u : A.units + 4 * n < 9000
  hh : A.handled = none ∨ ∃ e, A.handled = some (.ref e) ∧ B.f e = some AExc0
theorem AOk.le {B B' : Bs} {A : Around} {n : Nat} (x : AOk B A n) (l : B.le B') : AOk B' A n := ⟨x.d, x.u, x.hh.imp id fun ⟨e, h1, h2⟩ => ⟨e, h1, l.1 _ _ h2⟩⟩
theorem AOk.deeper {B : Bs} {A : Around} {n : Nat} (x : AOk B A (n + 1)) (env : Env) : AOk B (A.deeper env) n :=
  ⟨by have := x.d; show A.depth + 1 + n < 900; omega, by have := x.u; show A.units + 3 + 4 * n < 9000; omega, x.hh⟩
theorem AOk.in1 {B : Bs} {A : Around} {n : Nat} (x : AOk B A (n + 1)) : AOk B A.in1 n :=
  ⟨by have := x.d; show A.depth + n < 900; omega, by have := x.u; show A.units + 1 + 4 * n < 9000; omega, x.hh⟩
theorem AOk.less {B : Bs} {A : Around} {n m : Nat} (x : AOk B A n) (h : m ≤ n := by omega) : AOk B A m := ⟨by have := x.d; omega, by have := x.u; omega, x.hh⟩
theorem AOk.hok {B : Bs} {A : Around} {n : Nat} (x : AOk B A n) {own : Own} {gs : Array GenState} {s : Shared} (R : Rep B own gs s) : HOk A s.heap :=
  x.hh.imp id fun ⟨e, h1, h2⟩ => let ⟨o, ho, hp⟩ := R.b _ _ h2; ⟨e, o, h1, ho, hp⟩
theorem AOk.hne {B : Bs} {A : Around} {n : Nat} (x : AOk B A n) {own : Own} {gs : Array GenState} {s : Shared} (R : Rep B own gs s) {it : Addr} {p : Pd} (hm : (it, p) ∈ own) :
    ∀ e, A.handled = some (.ref e) → e ≠ it := fun e h q => by
  rcases x.hh with hh | ⟨e', h1, h2⟩
  · rw [hh] at h; cases h
  · rw [h1] at h; cases h
    have := R.dis it p hm
    rw [← q, h2] at this; cases this
theorem AOk.depth {B : Bs} {A : Around} {n : Nat} (x : AOk B A n) : A.depth < recursionLimit := by
  have := x.d; show A.depth < 1000; omega
theorem AOk.units {B : Bs} {A : Around} {n : Nat} (x : AOk B A n) : A.units < cLine := by
  have := x.u; show A.units < 9900; omega

section
variable {prog : Program} {w : World} {B : Bs} {A : Around} {own : Own} {gs : Array GenState} {env : Env}
abbrev QV := Value → Own → Array GenState → Prop
abbrev QF := Flow → Own → Array GenState → Prop
abbrev QB := Bool → Own → Array GenState → Prop
abbrev QU := Own → Array GenState → Prop

-- truth
def TruJ (prog : Program) (w : World) (B : Bs) (A : Around) (v : Value) (own : Own) (gs : Array GenState) (Q : QB) : Prop :=
  ∀ u, er u = v → J prog w B A (truthy u) own gs Q
theorem Tru_bool {b : Bool} {Q : QB} (h : Q b own gs) : TruJ prog w B A (.bool b) own gs Q := fun u hu s R => by
  rw [er_eq_bool hu]; exact wpAny_truthy_bool ⟨own, gs, R, h⟩
theorem Tru_list {l : Addr} {xs : List Value} {Q : QB} (hl : Has B own l (AList xs)) (hs : xs.length < 2 ^ 62) (h : Q (!xs.isEmpty) own gs) : TruJ prog w B A (.ref l) own gs Q := fun u hu s R => by
  rw [er_eq_ref hu]
  obtain ⟨o, ho, its, n, rfl, rfl⟩ := R.get hl
  refine wpAny_truthy_list ⟨_, ho, rfl, n, rfl⟩ (by simp at hs; omega) ⟨own, gs, R.toks _, ?_⟩
  have : its.isEmpty = (its.toList.map er).isEmpty := by simp
  rw [this]; exact h
abbrev TestJ (prog : Program) (w : World) (B : Bs) (A : Around) (env : Env) (e : Expr) (own : Own) (gs : Array GenState) (Q : QB) : Prop := J prog w B A (isTrue e env (eval e env)) own gs Q
theorem Test_cmp {l r : Expr} {op : CmpOp} {pos : Pos} {Q : QB}
    (h : JV prog w B A (eval l env) own gs fun a o g => JV prog w B A (eval r env) o g fun b o' g' => CmpJ prog w B A op a b o' g' fun c o g => TruJ prog w B A c o g Q)
    (hm : behindInMarks op r = false := by with_unfolding_all rfl) : TestJ prog w B A env (.Compare l [op] [r] pos) own gs Q := fun s R =>
  wpAny_isTrue_Compare1 (wpAny_mono (h s R) (fun _ _ ⟨_, _, R', h'⟩ => wpAny_mono (h' _ R') (fun _ _ ⟨_, _, R'', h''⟩ =>
    wpAny_mono (h'' _ _ rfl rfl _ R'') (fun _ _ ⟨_, _, R3, h3⟩ => h3 _ rfl _ R3) fun _ _ e => e) fun _ _ e => e) fun _ _ e => e) hm
theorem Test_plain {e : Expr} {Q : QB} (h : JV prog w B A (eval e env) own gs fun v o g => TruJ prog w B A v o g Q)
    (he : isTrue e env (eval e env) = (do let v ← eval e env; standAt e.pos; holding [v] (truthy v)) := by rfl) : TestJ prog w B A env e own gs Q := fun s R =>
  isTrue_plain (wpAny_mono (h s R) (fun _ _ ⟨_, _, R', h'⟩ => h' _ rfl _ R') fun _ _ e => e) he
theorem Test_not {x : Expr} {pos : Pos} {Q : QB} (h : TestJ prog w B A env x own gs fun b => Q (!b)) : TestJ prog w B A env (.UnaryOp .Not x pos) own gs Q := fun s R =>
  isTrue_not (wpAny_mono (h s R) (fun _ _ h' => h') fun _ _ e => e)
theorem Test_and {x : Expr} {rest : List Expr} {pos : Pos} {Q : QB} (h : TestJ prog w B A env x own gs fun b o g => if b = true then TestJ prog w B A env (.BoolOp .And rest pos) o g Q else Q false o g) :
    TestJ prog w B A env (.BoolOp .And (x :: rest) pos) own gs Q := fun s R =>
  isTrue_and (wpAny_mono (h s R) (fun b _ ⟨o, g, R', h'⟩ => by
    cases b with
    | true => exact h' _ R'
    | false => exact ⟨o, g, R', h'⟩) fun _ _ e => e)
theorem Test_and_nil {pos : Pos} {Q : QB} (h : Q true own gs) : TestJ prog w B A env (.BoolOp .And [] pos) own gs Q := fun _ R => isTrue_and_nil ⟨own, gs, R, h⟩
theorem Test_or {x : Expr} {rest : List Expr} {pos : Pos} {Q : QB} (h : TestJ prog w B A env x own gs fun b o g => if b = true then Q true o g else TestJ prog w B A env (.BoolOp .Or rest pos) o g Q) :
    TestJ prog w B A env (.BoolOp .Or (x :: rest) pos) own gs Q := fun s R =>
  isTrue_or (wpAny_mono (h s R) (fun b _ ⟨o, g, R', h'⟩ => by
    cases b with
    | false => exact h' _ R'
    | true => exact ⟨o, g, R', h'⟩) fun _ _ e => e)
theorem Test_or_nil {pos : Pos} {Q : QB} (h : Q false own gs) : TestJ prog w B A env (.BoolOp .Or [] pos) own gs Q := fun _ R => isTrue_or_nil ⟨own, gs, R, h⟩
theorem JV_IfExp {t b o : Expr} {pos : Pos} {Q : QV} (h : TestJ prog w B A env t own gs fun c o' g => if c = true then JV prog w B A (eval b env) o' g Q else JV prog w B A (eval o env) o' g Q) :
    JV prog w B A (eval (.IfExp t b o pos) env) own gs Q := fun s R =>
  wpAny_IfExp (wpAny_mono (h s R) (fun c _ ⟨_, _, R', h'⟩ => by
    cases c with
    | true => exact h' _ R'
    | false => exact h' _ R') fun _ _ e => e)

-- statements
theorem JF_nil {Q : QF} (h : Q .next own gs) : JF prog w B A (execs [] env) own gs Q := fun _ R => wpAny_execs_nil ⟨own, gs, R, h⟩
theorem JF_cons {st : Stmt} {rest : List Stmt} {Q : QF} (h : JF prog w B A (exec st env) own gs fun f o g => match f with | .next => JF prog w B A (execs rest env) o g Q | f => Q f o g) :
    JF prog w B A (execs (st :: rest) env) own gs Q := fun s R =>
  wpAny_execs_cons (wpAny_mono (h s R) (fun f _ ⟨o, g, R', h'⟩ => by
    cases f with
    | next => exact h' _ R'
    | brk => exact ⟨o, g, R', h'⟩
    | cont => exact ⟨o, g, R', h'⟩
    | ret v => exact ⟨o, g, R', h'⟩) fun _ _ e => e)
theorem JF_Assign {x : Str} {pos' pos : Pos} {value : Expr} {Q : QF} (h : JV prog w B A (eval value env) own gs fun v o g => StoreJ prog w B A env x v o g (Q .next))
    (hs : swapsWith value (some (.Name x pos')) pos.line env = pure false := by rfl) : JF prog w B A (exec (.Assign [.Name x pos'] value pos) env) own gs Q := fun s R =>
  wpAny_Assign_Name (wpAny_mono (h s R) (fun _ _ ⟨_, _, R', h'⟩ => wpAny_mono (h' _ rfl _ R') (fun _ _ h => h) fun _ _ e => e) fun _ _ e => e) hs
theorem JF_If {t : Expr} {b o : List Stmt} {pos : Pos} {Q : QF} (h : TestJ prog w B A env t own gs fun c o' g => if c = true then JF prog w B A (execs b env) o' g Q else JF prog w B A (execs o env) o' g Q) :
    JF prog w B A (exec (.If t b o pos) env) own gs Q := fun s R =>
  wpAny_If (wpAny_mono (h s R) (fun c _ ⟨_, _, R', h'⟩ => by
    cases c with
    | true => exact h' _ R'
    | false => exact h' _ R') fun _ _ e => e)
theorem JF_Return {e : Expr} {pos : Pos} {Q : QF} (h : JV prog w B A (eval e env) own gs fun v => Q (.ret v)) : JF prog w B A (exec (.Return (some e) pos) env) own gs Q := fun s R =>
  wpAny_Return_some (wpAny_mono (h s R) (fun _ _ h => h) fun _ _ e => e)
theorem JF_Return0 {pos : Pos} {Q : QF} (h : Q (.ret .none) own gs) : JF prog w B A (exec (.Return none pos) env) own gs Q := fun _ R => wpAny_Return_none ⟨own, gs, R, h⟩
theorem JF_Pass {pos : Pos} {Q : QF} (h : Q .next own gs) : JF prog w B A (exec (.Pass pos) env) own gs Q := fun _ R => wpAny_Pass ⟨own, gs, R, h⟩
theorem JF_Break {pos : Pos} {Q : QF} (h : Q .brk own gs) : JF prog w B A (exec (.Break pos) env) own gs Q := fun _ R => wpAny_Break ⟨own, gs, R, h⟩
theorem JF_Continue {pos : Pos} {Q : QF} (h : Q .cont own gs) : JF prog w B A (exec (.Continue pos) env) own gs Q := fun _ R => wpAny_Continue ⟨own, gs, R, h⟩
theorem JF_Expr {e : Expr} {pos : Pos} {Q : QF} (h : JV prog w B A (eval e env) own gs fun _ => Q .next) (hi : interactive env = false := by rfl) (hs : swapsWith e none pos.line env = pure false := by rfl) :
    JF prog w B A (exec (.Expr e pos) env) own gs Q := fun s R => wpAny_Expr_any (wpAny_mono (h s R) (fun _ _ h => h) fun _ _ e => e) hi hs

-- assignment to a target
def AssignJ (prog : Program) (w : World) (B : Bs) (A : Around) (env : Env) (t : Expr) (v : Value) (own : Own) (gs : Array GenState) (Q : QU) : Prop :=
  ∀ u, er u = v → J prog w B A (assign t env u) own gs fun _ => Q
theorem Assign_name {x : Str} {pos : Pos} {v : Value} {Q : QU} (h : StoreJ prog w B A env x v own gs Q) : AssignJ prog w B A env (.Name x pos) v own gs Q := fun u hu s R =>
  wpAny_assign_Name (h u hu s R)

-- loops
theorem JF_While {t : Expr} {body orelse : List Stmt} {pos : Pos} {Q : QF} (I : Nat → Own → Array GenState → Prop)
    (turn : ∀ n o g, I n o g → TestJ prog w B A env t o g fun b o g => if b = true then JF prog w B A (execs body env) o g (fun f o g => match f with
        | .next | .cont => ∃ m, m < n ∧ I m o g
        | .brk => Q .next o g
        | .ret v => Q (.ret v) o g) else JF prog w B A (execs orelse env) o g Q)
    (n : Nat) (h : I n own gs) : JF prog w B A (exec (.While t body orelse pos) env) own gs Q := fun s R => by
  refine wpAny_While (codeAny_whileLoop (fun n s => ∃ o g, Rep B o g s ∧ I n o g) (fun n s ⟨o, g, R, hI⟩ => ?_) n ⟨own, gs, R, h⟩)
  refine (turn n o g hI).any R fun b s' o g R' hb => ?_
  cases b with
  | true =>
    rw [if_pos rfl] at hb
    refine J.any hb R' fun f s₂ o g R₂ hf => ?_
    cases f with
    | next => obtain ⟨m, hm, hi⟩ := hf; exact ⟨m, hm, o, g, R₂, hi⟩
    | cont => obtain ⟨m, hm, hi⟩ := hf; exact ⟨m, hm, o, g, R₂, hi⟩
    | brk => exact ⟨o, g, R₂, hf⟩
    | ret v => exact ⟨o, g, R₂, hf⟩
  | false =>
    rw [if_neg Bool.false_ne_true] at hb
    exact J.any hb R' fun f s₂ o g R₂ hf => ⟨o, g, R₂, hf⟩

def NextJ (prog : Program) (w : World) (B : Bs) (A : Around) (it : Value) (own : Own) (gs : Array GenState) (Q : Option Value → Own → Array GenState → Prop) : Prop :=
  J prog w B A (pyNext it) own gs fun v => Q (v.map er)
def IterJ (prog : Program) (w : World) (B : Bs) (A : Around) (v : Value) (own : Own) (gs : Array GenState) (Q : Value → Own → Array GenState → Prop) : Prop :=
  ∀ u, er u = v → J prog w B A (pyIter u) own gs Q
theorem JF_For {t iter : Expr} {body orelse : List Stmt} {pos : Pos} {Q : QF} (I : Value → Nat → Own → Array GenState → Prop)
    (h : JV prog w B A (eval iter env) own gs fun v o g => IterJ prog w B A v o g fun it o g => ∃ n, I it n o g)
    (turn : ∀ it n o g, I it n o g → NextJ prog w B A it o g fun r o g => match r with
      | none => JF prog w B A (execs orelse env) o g Q
      | some v => AssignJ prog w B A env t v o g fun o g => JF prog w B A (execs body env) o g fun f o g => match f with
        | .next | .cont => ∃ m, m < n ∧ I it m o g
        | .brk => Q .next o g
        | .ret v => Q (.ret v) o g)
    (hs : ∀ x, foldedSetIterable iter env x = pure x := by intro _; rfl) (ht : ∀ it v, letOwnedTupleGo t it v = pure () := by intro _ _; rfl) :
    JF prog w B A (exec (.For t iter body orelse pos) env) own gs Q := fun s R => by
  refine wpAny_For (h.any R fun v s₁ o g R₁ hi => (hi v rfl).any R₁ fun it s₂ o g R₂ ⟨n, hI⟩ => ?_) hs
  refine codeAny_forLoop (fun n s => ∃ o g, Rep B o g s ∧ I it n o g) (fun n s ⟨o, g, R, hI⟩ => ?_) n ⟨o, g, R₂, hI⟩ (ht it)
  refine (turn it n o g hI).any R fun r s' o g R' hr => ?_
  cases r with
  | none => exact J.any hr R' fun f s₂ o g R₂ hf => ⟨o, g, R₂, hf⟩
  | some v =>
    refine J.any (hr v rfl) R' fun _ s₂ o g R₂ hb => ?_
    refine J.any hb R₂ fun f s₂ o g R₂ hf => ?_
    cases f with
    | next => obtain ⟨m, hm, hi⟩ := hf; exact ⟨m, hm, o, g, R₂, hi⟩
    | cont => obtain ⟨m, hm, hi⟩ := hf; exact ⟨m, hm, o, g, R₂, hi⟩
    | brk => exact ⟨o, g, R₂, hf⟩
    | ret v => exact ⟨o, g, R₂, hf⟩
end
end Mine
end
section
set_option maxRecDepth 100000
open PySem PySem.Calls PyProof.Rows PySem.W PySem.Spec
namespace Mine

section
variable {prog : Program} {w : World} {B : Bs} {A : Around} {own : Own} {gs : Array GenState} {env : Env}

-- displays
def ArgsJ (prog : Program) (w : World) (B : Bs) (A : Around) (env : Env) (pos : Pos) (es : List Expr) (own : Own) (gs : Array GenState) (Q : List Value → Own → Array GenState → Prop) : Prop :=
  J prog w B A (spliced (backTo pos (starEach es env))) own gs fun vs => Q (vs.map er)
theorem Args_nil {pos : Pos} {Q : List Value → Own → Array GenState → Prop} (h : Q [] own gs) : ArgsJ prog w B A env pos [] own gs Q := fun _ R => spliced_nil ⟨own, gs, R, h⟩
theorem Args_cons {pos : Pos} {e : Expr} {rest : List Expr} {Q : List Value → Own → Array GenState → Prop}
    (h : JV prog w B A (eval e env) own gs fun v o g => ArgsJ prog w B A env pos rest o g fun vs => Q (v :: vs))
    (he : starEach (e :: rest) env = (false, eval e env) :: starEach rest env := by rfl) : ArgsJ prog w B A env pos (e :: rest) own gs Q := fun s R => by
  unfold backTo
  rw [he, List.map_cons]
  exact spliced_cons (wpAny_mono (h s R) (fun _ _ ⟨_, _, R', h'⟩ => wpAny_mono (h' _ R') (fun _ _ h => h) fun _ _ e => e) fun _ _ e => e)
theorem J_newList {vs : List Value} {Q : QV} (hs : vs.length ≤ 1000000) (h : ∀ l, Q (.ref l) ((l, AList (vs.map er)) :: own) gs) : JV prog w B A (newList vs) own gs Q := fun s R =>
  wpAny_newObj_type ⟨_, gs, R.push (p := AList (vs.map er)) rfl ⟨vs.toArray, 0, rfl, by simp⟩ _, h _⟩ (by show vs.toArray.size ≤ sizeLine; simp; exact Nat.le_trans hs (by decide))
theorem J_newTuple {vs : List Value} {Q : QV} (hs : vs.length ≤ 1000000) (h : ∀ l, Q (.ref l) ((l, ATup (vs.map er)) :: own) gs) : JV prog w B A (newTuple vs) own gs Q := fun s R =>
  wpAny_newObj_type ⟨_, gs, R.push (p := ATup (vs.map er)) rfl ⟨vs.toArray, rfl, by simp⟩ _, h _⟩ (by show vs.toArray.size ≤ sizeLine; simp; exact Nat.le_trans hs (by decide))
theorem JV_List {es : List Expr} {pos : Pos} {Q : QV} (h : ArgsJ prog w B A env pos es own gs fun vs o g => vs.length ≤ 1000000 ∧ ∀ l, Q (.ref l) ((l, AList vs) :: o) g) : JV prog w B A (eval (.List es pos) env) own gs Q := fun s R =>
  List_ (wpAny_mono (h s R) (fun _ _ ⟨_, _, R', h1, h2⟩ => J_newList (by simpa using h1) h2 _ R') fun _ _ e => e)
theorem JV_Tuple {es : List Expr} {k : Nat} {pos : Pos} {Q : QV} (h : ArgsJ prog w B A env pos es own gs fun vs o g => vs.length ≤ 1000000 ∧ ∀ l, Q (.ref l) ((l, ATup vs) :: o) g) : JV prog w B A (eval (.Tuple es k pos) env) own gs Q := fun s R =>
  Tuple_ (wpAny_mono (h s R) (fun _ _ ⟨_, _, R', h1, h2⟩ => J_newTuple (by simpa using h1) h2 _ R') fun _ _ e => e)

-- lists
def AListIter (l : Addr) (i : Nat) : Pd := fun o => o.cls = .type "list_iterator" ∧ o.data = .fields #[.ref l, .int i 0]
theorem AList.isList {xs : List Value} {h : Heap} {l : Addr} {o : Obj} (ho : h.get? l = some o) (x : AList xs o) : ∃ its, h.IsList l its ∧ its.toList.map er = xs := by
  obtain ⟨its, n, rfl, e⟩ := x; exact ⟨its, ⟨_, ho, rfl, n, rfl⟩, e⟩
theorem erase_int_mem {its : Array Value} {ns : List Int} (h : its.toList.map er = ns.map iv) : ∀ y, y ∈ its → ∃ n t, y = .int n t ∧ n ∈ ns := fun y hy => by
  have : er y ∈ ns.map iv := h ▸ List.mem_map_of_mem (Array.mem_toList_iff.mpr hy)
  obtain ⟨n, hn, e⟩ := List.mem_map.mp this
  obtain ⟨t, rfl⟩ := er_eq_int e.symm
  exact ⟨n, t, rfl, hn⟩
def eqInt (k : Int) (y : Value) : Bool := match y with | .int n _ => n == k | _ => false
theorem any_eqInt {its : Array Value} {ns : List Int} (h : its.toList.map er = ns.map iv) (k : Int) : its.any (eqInt k) = decide (k ∈ ns) := by
  rw [← Array.any_toList]
  have : ∀ (l : List Value) (ns : List Int), l.map er = ns.map iv → l.any (eqInt k) = decide (k ∈ ns) := by
    intro l
    induction l with
    | nil => intro ns h; cases ns with
      | nil => rfl
      | cons _ _ => simp at h
    | cons v l ih => intro ns h; cases ns with
      | nil => simp at h
      | cons n ns =>
        simp only [List.map_cons, List.cons.injEq] at h
        obtain ⟨t, rfl⟩ := er_eq_int h.1
        rw [List.any_cons, ih ns h.2]
        show ((n == k) || _) = _
        by_cases e : n = k
        · subst e; simp
        · have e' : ¬ k = n := fun q => e q.symm
          simp [e, e']
  exact this _ _ h
theorem Cmp_inList {l : Addr} {ns : List Int} {k : Int} {Q : QV} (hl : Has B own l (AList (ns.map iv))) (h : Q (.bool (decide (k ∈ ns))) own gs) : CmpJ prog w B A .In (iv k) (.ref l) own gs Q := by
  intro u v hu hv s R
  obtain ⟨t, rfl⟩ := er_eq_int hu
  rw [er_eq_ref hv]
  obtain ⟨o, ho, hp⟩ := R.get hl
  obtain ⟨its, hL, e⟩ := AList.isList ho hp
  refine SeqAt.in_listAt (eqInt k) hL (fun y hy => ?_) ⟨own, gs, R, ?_⟩
  · obtain ⟨n, t', rfl, _⟩ := erase_int_mem e y hy
    exact (MeetsSeq.EqGives.int n k t' t).at A.in1 s
  · rw [any_eqInt e]; exact h
theorem Cmp_notInList {l : Addr} {ns : List Int} {k : Int} {Q : QV} (hl : Has B own l (AList (ns.map iv))) (h : Q (.bool (!decide (k ∈ ns))) own gs) : CmpJ prog w B A .NotIn (iv k) (.ref l) own gs Q := by
  intro u v hu hv s R
  obtain ⟨t, rfl⟩ := er_eq_int hu
  rw [er_eq_ref hv]
  obtain ⟨o, ho, hp⟩ := R.get hl
  obtain ⟨its, hL, e⟩ := AList.isList ho hp
  refine SeqAt.notIn_listAt (eqInt k) hL (fun y hy => ?_) ⟨own, gs, R, ?_⟩
  · obtain ⟨n, t', rfl, _⟩ := erase_int_mem e y hy
    exact (MeetsSeq.EqGives.int n k t' t).at A.in1 s
  · rw [any_eqInt e]; exact h
theorem Iter_list {l : Addr} {xs : List Value} {Q : QV} (hl : Has B own l (AList xs)) (h : ∀ it, Q (.ref it) ((it, AListIter l 0) :: own) gs) : IterJ prog w B A (.ref l) own gs Q := fun u hu s R => by
  rw [er_eq_ref hu]
  obtain ⟨o, ho, hp⟩ := R.get hl
  obtain ⟨its, hL, _⟩ := AList.isList ho hp
  exact wpAny_pyIter_list hL ⟨_, gs, R.push (p := AListIter l 0) rfl ⟨rfl, rfl⟩ _, h _⟩
theorem Next_list {n : Nat} {it l : Addr} {i : Nat} {xs : List Value} {rest own' : Own} {Q : Option Value → Own → Array GenState → Prop} (hA : AOk B A n) (hi : Upd it (AListIter l i) (AListIter l (i + 1)) own own') (hr : Sub rest own) (hni : ∀ p, (it, p) ∉ rest)
    (hl : Has B own l (AList xs)) (h : match xs[i]? with | some x => Q (some x) own' gs | none => Q none rest gs) : NextJ prog w B A (.ref it) own gs Q := fun s R => by
  obtain ⟨o, ho, hp⟩ := R.get hl
  obtain ⟨its, hL, rfl⟩ := AList.isList ho hp
  obtain ⟨oi, hoi, hc, hd⟩ := R.o _ _ hi.mem
  have hit : s.heap.IsListIter it l i := ⟨oi, hoi, hc, hd⟩
  cases hx : its[i]? with
  | some x =>
    have hx' : (its.toList.map er)[i]? = some (er x) := by simp [hx]
    rw [hx'] at h
    exact wpAny_pyNext_list_item hit hL hx fun h' hit' hs => by
      obtain ⟨o', ho', hc', hd'⟩ := hit'
      exact ⟨own', gs, R.upd (tk := s.toks) hi hs.extBut ⟨o', ho', hc', hd'⟩, h⟩
  | none =>
    have hx' : (its.toList.map er)[i]? = none := by simp at hx; simp [hx]
    rw [hx'] at h
    refine next_list_end (hA.hok R) (hA.hne R hi.mem) hit hL hx fun h' hx' => ?_
    have R' := R.sub hr
    refine ⟨rest, gs, ⟨fun b q e => ?_, fun b q e => ?_, R'.dis, R'.nd, R'.gens, R'.os⟩, h⟩
    · obtain ⟨o, ho, hq⟩ := R.b b q e
      exact ⟨o, hx' b o (fun z => by have := R.dis it _ hi.mem; rw [← z, e] at this; cases this) ho, hq⟩
    · obtain ⟨o, ho, hq⟩ := R'.o b q e
      exact ⟨o, hx' b o (fun z => hni q (z ▸ e)) ho, hq⟩

-- calls of the built-in methods
def CallJ (prog : Program) (w : World) (B : Bs) (A : Around) (f : Value) (args : List Value) (own : Own) (gs : Array GenState) (Q : QV) : Prop :=
  ∀ us, us.map er = args → JV prog w B A (call f us []) own gs Q
theorem evalArgs_any {f : Value} {trees : List (Bool × Sem Value)} {Q : Args → Shared → Prop} {E : Value → Shared → Prop} {s : Shared} {M : Model} (hp : trees.any (·.1) = false) (h : wpAny M A (spliced trees) (fun vs s₁ => Q ⟨vs, []⟩ s₁) E s) :
    wpAny M A (evalArgs f true trees []) Q E s := by
  cases trees with
  | nil =>
    unfold evalArgs
    show wpAny M A (spliced [] >>= _) Q E s
    refine wpAny_bind (wpAny_mono h (fun vs s' h' => ?_) fun _ _ x => x)
    refine wpAny_bind (wpAny_pure ?_)
    refine wpAny_holding ?_
    exact wpAny_bind (wpAny_pure (wpAny_bind (wpAny_pure (wpAny_pure h'))))
  | cons t r =>
    obtain ⟨b, t⟩ := t
    cases b with
    | true => simp at hp
    | false => exact evalArgs_plain h
def isCallee : Value → Bool
  | .ref _ | .builtin _ | .type _ => true
  | _ => false
theorem callee_er {v c : Value} (h : er v = c) (hc : isCallee c = true) : v = c := by
  cases v <;> simp [er] at h <;> subst h <;> first | rfl | cases hc
/-- what keeps the callee while it runs: any of the three that the machine knows -/
def KeepOk (prog : Program) (w : World) (B : Bs) (own : Own) (f : Value) : Prop :=
  isCallee f = true ∧ ∀ s gs, Rep B own gs s → ∃ k, (k = Keeper.frame ∨ k = Keeper.machine ∨ k = Keeper.boundFrame) ∧ Looks (model prog w) s.heap (keeperOf f) k
theorem Keep_builtin {id : String} : KeepOk prog w B own (.builtin id) := ⟨rfl, fun _ _ _ => ⟨.machine, .inr (.inl rfl), Looks.of_pure rfl⟩⟩
theorem Keep_type {id : String} : KeepOk prog w B own (.type id) := ⟨rfl, fun _ _ _ => ⟨.machine, .inr (.inl rfl), Looks.of_pure rfl⟩⟩
theorem Keep_K {K : Frag} {p : Program} {loose : List Str} {mg mb : Str → Option Value} {f : Addr} (T : TopB K p loose mg mb B) (hk : keepIn K (.ref f) = true) : KeepOk prog w B own (.ref f) := ⟨rfl, fun _ _ R =>
  keeps_K hk _ (T _ R.b).1⟩
def AFunc (fd : FuncData) : Pd := fun o => o.cls = .type "function" ∧ o.data = .func fd
theorem Keep_func {f : Addr} {fd : FuncData} (h : Has B own f (AFunc fd)) : KeepOk prog w B own (.ref f) := ⟨rfl, fun s _ R => by
  obtain ⟨⟨c, d, dt, sl⟩, ho, hc, hd⟩ := R.get h
  simp only at hc hd
  subst hc hd
  exact ⟨.frame, .inl rfl, (Looks.ld (part := none) ho).andThen .now⟩⟩
theorem J_callWith {pos : Pos} {f : Value} {first : List Value} {args : List Expr} {Q : QV} (hp : (backTo pos (starEach args env)).any (·.1) = false)
    (h : ArgsJ prog w B A env pos args own gs fun vs o g => KeepOk prog w B o f ∧ CallJ prog w B A f (first.map er ++ vs) o g Q) :
    JV prog w B A (callWith pos f first (backTo pos (starEach args env)) []) own gs Q := fun s R => by
  refine callWith_of (P := fun h => ∃ k, (k = Keeper.frame ∨ k = Keeper.machine ∨ k = Keeper.boundFrame) ∧ Looks (model prog w) h (keeperOf f) k) (by rw [hp]; rfl) (fun _ h => h) ?_
  refine evalArgs_any hp (J.any h R fun vs s' o g R' ⟨hk, hc⟩ => ⟨hk.2 _ _ R', ?_⟩)
  exact hc (first ++ vs) (by simp) _ R'
/-- a call of what an expression gives (no attribute) -/
theorem JV_Call {f : Expr} {args : List Expr} {pos : Pos} {Q : QV}
    (h : JV prog w B A (eval f env) own gs fun fv o g => isCallee fv = true ∧ ArgsJ prog w B A env pos args o g fun vs o g => KeepOk prog w B o fv ∧ CallJ prog w B A fv vs o g Q)
    (hp : (backTo pos (starEach args env)).any (·.1) = false := by rfl)
    (he : eval (.Call f args [] pos) env = (do callWith pos (← eval f env) [] (backTo pos (starEach args env)) (backToKw pos (keywordEach [] env))) := by rfl) :
    JV prog w B A (eval (.Call f args [] pos) env) own gs Q := fun s R => by
  rw [he]
  refine wpAny_bind (J.any h R fun fv s' o g R' ⟨hc, h'⟩ => ?_)
  have := callee_er rfl hc
  rw [← this] at h'
  exact J_callWith (first := []) hp h' _ R'

theorem JV_method {o : Expr} {name : Str} {apos pos : Pos} {args : List Expr} {T id : String} {Q : QV}
    (pa : PlainAttrs T) (slot : Slot T name id) (hty : typeOf (.builtin id) = pure (.type "method_descriptor"))
    (h : JV prog w B A (eval o env) own gs fun ov o' g => (∃ a p, ov = .ref a ∧ Has B o' a p ∧ (∀ ob, p ob → ob.cls = .type T ∧ ob.dict = none)) ∧
      ArgsJ prog w B A env pos args o' g fun vs o g => CallJ prog w B A (.builtin id) (ov :: vs) o g Q)
    (hbase : attributeBase o name env (eval o env) = eval o env := by rfl)
    (hfew : ((backTo pos (starEach args env)).all (fun x => !x.1) && (backToKw pos (keywordEach [] env)).all (fun x => x.1.isSome)
      && decide (args.length + ([] : List Keyword).length + (if ([] : List Keyword).isEmpty then 0 else 1) < 30)) = true := by rfl)
    (hline : (apos.endLine == pos.line) = true := by rfl)
    (hp : (backTo pos (starEach args env)).any (·.1) = false := by rfl) :
    JV prog w B A (eval (.Call (.Attribute o name apos) args [] pos) env) own gs Q := fun s R => by
  refine wpAny_Call_method hbase hfew hline pa slot hty (J.any h R fun ov s' o' g R' ⟨⟨a, p, e, hh, hq⟩, hc⟩ => ?_)
  have e' := er_eq_ref e
  subst e'
  obtain ⟨ob, hob, hpb⟩ := R'.get hh
  refine ⟨⟨ob, hob, (hq ob hpb).1⟩, fun b q => by cases q; exact ⟨ob, hob, (hq ob hpb).2⟩, ?_⟩
  exact J_callWith (first := [.ref a]) hp (J_mono hc fun vs o g hc' => ⟨Keep_builtin, hc'⟩) _ R'
end
end Mine
end
section
set_option maxRecDepth 100000
open PySem PySem.Calls PyProof.Rows PySem.W PySem.Spec
namespace Mine

section
variable {prog : Program} {w : World} {B : Bs} {A : Around} {own : Own} {gs : Array GenState}
def retOf : Flow → Value
  | .ret v => v
  | _ => .none
theorem retOf_erF (f : Flow) : er (retOf f) = retOf (erF f) := by cases f <;> rfl

/-- the cells that a new frame lays -/
def CellsJ : List (Str × NameKind) → List (Str × Addr) → Own → (List (Str × Addr) → Own → Prop) → Prop
  | [], cells, own, Q => Q cells own
  | (n, k) :: r, cells, own, Q => if k = .cell then ∀ c, CellsJ r ((n, c) :: cells) ((c, ACell none) :: own) Q else CellsJ r cells own Q
/-- the arguments laid into the frame -/
def StoresJ (prog : Program) (w : World) (B : Bs) (A : Around) (env : Env) : List (Str × Value) → Own → Array GenState → QU → Prop
  | [], own, gs, Q => Q own gs
  | (n, v) :: r, own, gs, Q => StoreJ prog w B A env n (er v) own gs fun o g => StoresJ prog w B A env r o g Q
theorem J_alloc {o : Obj} {p : Pd} {Q : Addr → Own → Array GenState → Prop} (hf : o.isFreed = false) (hp : p o) (h : ∀ a, Q a ((a, p) :: own) gs) : J prog w B A (alloc o) own gs Q := fun s R =>
  wpAny_alloc ⟨_, gs, R.push hf hp _, h _⟩
theorem J_layCells {f : Str × NameKind → List (Str × Addr) → Sem (ForInStep (List (Str × Addr)))}
    (hf : ∀ n k cells, f (n, k) cells = if k = .cell then (do let a ← alloc { cls := .type "cell", data := .cell none }; pure (.yield ((n, a) :: cells))) else pure (.yield cells)) :
    ∀ (names : List (Str × NameKind)) (cells : List (Str × Addr)) (own : Own) (Q : List (Str × Addr) → Own → Array GenState → Prop), CellsJ names cells own (fun c o => Q c o gs) → J prog w B A (forIn names cells f) own gs Q
  | [], cells, own, Q, h => by rw [List.forIn_nil]; exact J_pure h
  | (n, k) :: r, cells, own, Q, h => by
    rw [List.forIn_cons, hf]
    rw [CellsJ] at h
    by_cases e : k = .cell
    · rw [if_pos e] at h
      simp only [if_pos e]
      refine J_bind (J_bind (J_alloc (p := ACell none) rfl ⟨none, rfl, rfl⟩ fun c => J_pure ?_))
      exact J_layCells hf r _ _ Q (h c)
    · rw [if_neg e] at h
      simp only [if_neg e]
      refine J_bind (J_pure ?_)
      exact J_layCells hf r _ _ Q h
theorem CellsJ_mono {P P' : List (Str × Addr) → Own → Prop} (hp : ∀ c o, P c o → P' c o) : ∀ (names : List (Str × NameKind)) (cells : List (Str × Addr)) (own : Own), CellsJ names cells own P → CellsJ names cells own P'
  | [], _, _, h => hp _ _ h
  | (n, k) :: r, cells, own, h => by
    rw [CellsJ] at h ⊢
    by_cases e : k = .cell
    · rw [if_pos e] at h ⊢; exact fun c => CellsJ_mono hp r _ _ (h c)
    · rw [if_neg e] at h ⊢; exact CellsJ_mono hp r _ _ h
theorem J_stores {env : Env} {f : Str × Value → PUnit → Sem (ForInStep PUnit)} (hf : ∀ n v u, f (n, v) u = (do storeName env n v; pure (.yield ⟨⟩))) :
    ∀ (binds : List (Str × Value)) (own : Own) (gs : Array GenState) (Q : QU), StoresJ prog w B A env binds own gs Q → J prog w B A (forIn binds ⟨⟩ f) own gs fun _ => Q
  | [], own, gs, Q, h => by rw [List.forIn_nil]; exact J_pure h
  | (n, v) :: r, own, gs, Q, h => by
    rw [List.forIn_cons, hf]
    refine J_bind (J_bind (J_mono (h v rfl) fun _ o g h' => J_pure ?_))
    exact J_stores hf r o g Q h'
theorem ANs_nil {c : Value} : ANs [] { cls := c, data := .dict #[] } := ⟨#[], 0, rfl, fun _ he => by simp at he, fun _ _ h => by cases h⟩
theorem J_newEnv {scope : Scope} {globals : Addr} {closure : List (Str × Addr)} {binds : List (Str × Value)} {qual : Str} {func : Option Addr} {code : Value} {around : Option Env} {builtins : Addr}
    {Q : Env → Own → Array GenState → Prop}
    (h : ∀ L, CellsJ scope.names closure ((L, ANs []) :: own) fun cells o => StoresJ prog w B A (newEnv scope L globals cells qual func code around builtins) binds o gs fun o g => Q (newEnv scope L globals cells qual func code around builtins) o g) :
    J prog w B A (newFunctionEnv scope globals closure binds qual func code around builtins) own gs Q := by
  unfold newFunctionEnv
  refine J_bind (J_alloc (p := ANs []) rfl ANs_nil fun L => ?_)
  refine J_bind (J_layCells (fun n k cells => by
    by_cases e : k = .cell
    · subst e; rfl
    · have : (k == .cell) = false := by simpa using e
      simp [this, e]) scope.names closure _ _ (CellsJ_mono (fun cells o hs => ?_) _ _ _ (h L)))
  cases around with
  | none => exact J_bind (J_mono (J_stores (fun _ _ _ => rfl) _ _ _ _ hs) fun _ o g hq => J_pure hq)
  | some outer => exact J_bind (J_mono (J_stores (fun _ _ _ => rfl) _ _ _ _ hs) fun _ o g hq => J_pure hq)

/-- the objects that a heap describes, together with one more fact on the heap -/
theorem J.keep {α : Type} {t : Sem α} {Q : α → Own → Array GenState → Prop} (h : J prog w B A t own gs Q) : J prog w B A t own gs Q := h

/-- a call of a def of the text -/
theorem Call_fn {n : Nat} {f : Addr} {fo : Obj} {fd : FuncData} {body : List Stmt} {args : List Value} {Q : QV} (hA : AOk B A (n + 1))
    (hf : Has B own f (ARaw fo) ∨ Has B own f (AFunc fd)) (hfd : fo.data = .func fd) (hbody : fd.body = .stmts body)
    (hcd : ∀ s gs, Rep B own gs s → s.heap.CodeRec fd.code fd.qualname) (hlim : ∀ h, B.sat h → h.NoLimit)
    (h : ∀ us, us.map er = args → J prog w B A.in1 (bindArgs fd ⟨us, []⟩) own gs fun binds o g => ∀ L, CellsJ fd.scope.names fd.closure ((L, ANs []) :: o) fun cells o =>
      StoresJ prog w B A.in1 (newEnv fd.scope L fd.globals cells (fd.qualname ++ ".<locals>.") (some f) fd.code none fd.builtins) binds o g fun o g =>
        JF prog w B (A.deeper (newEnv fd.scope L fd.globals cells (fd.qualname ++ ".<locals>.") (some f) fd.code none fd.builtins)) (execs body (newEnv fd.scope L fd.globals cells (fd.qualname ++ ".<locals>.") (some f) fd.code none fd.builtins)) o g
          fun fl o g => ∃ o₂, Sub o₂ o ∧ Q (retOf fl) o₂ g)
    (hco : fd.scope.isCoroutine = false := by rfl) (hgen : fd.scope.isGenerator = false := by rfl) : CallJ prog w B A (.ref f) args own gs Q := by
  intro us hus s R
  obtain ⟨o, ho, hd⟩ : ∃ o, s.heap.get? f = some o ∧ o.data = .func fd := by
    rcases hf with hf | hf
    · obtain ⟨o, ho, rfl⟩ := R.get hf; exact ⟨_, ho, hfd⟩
    · obtain ⟨o, ho, _, hd⟩ := R.get hf; exact ⟨_, ho, hd⟩
  refine wpAny_call (codeAny_call_function hA.depth ho hd hco hgen hbody (hcd s gs R) ?_)
  refine J.any (h us hus) R fun binds s₁ o g R₁ hJ => ?_
  refine J.any (J_newEnv (Q := fun env o g => JF prog w B (A.deeper env) (execs body env) o g fun fl o g => ∃ o₂, Sub o₂ o ∧ Q (retOf fl) o₂ g) fun L => hJ L) R₁ fun env s₂ o g R₂ hb => ?_
  refine ⟨hlim _ R₂.b, codeAny_func (J.any hb R₂ fun fl s₃ o g R₃ ⟨o₂, hs, hq⟩ => ?_)⟩
  cases fl <;> exact ⟨o₂, g, R₃.sub hs, hq⟩
theorem limit_of {K : Frag} {p : Program} {loose : List Str} {mg mb : Str → Option Value} (T : TopB K p loose mg mb B) : ∀ h, B.sat h → h.NoLimit := fun h s => (T h s).2.1.nolimit
theorem code_of {K : Frag} {p : Program} {loose : List Str} {mg mb : Str → Option Value} {cd : Value} {q : Str} (T : TopB K p loose mg mb B) (e : codeIn K cd q = true) : ∀ s gs, Rep B own gs s → s.heap.CodeRec cd q := fun _ _ R =>
  codeRec_of (T _ R.b).1 e
/-- the bound names are the parameters' in their order -/
theorem Bind_plain {fd : FuncData} {us : List Value} {ps : List Str} {Q : List (Str × Value) → Own → Array GenState → Prop} (hb : bindArgs fd ⟨us, []⟩ = pure (ps.zip us)) (h : Q (ps.zip us) own gs) : J prog w B A (bindArgs fd ⟨us, []⟩) own gs Q := by
  rw [hb]; exact J_pure h
end
end Mine
end
section
set_option maxRecDepth 100000
open PySem PySem.Calls PyProof.Rows PySem.W PySem.Spec
namespace Mine

theorem er1 {us : List Value} {a : Value} (h : us.map er = [a]) : ∃ u, us = [u] ∧ er u = a := by
  obtain ⟨u, l, rfl, h1, h2⟩ := List.map_eq_cons_iff.mp h
  rw [List.map_eq_nil_iff.mp h2]; exact ⟨u, rfl, h1⟩
theorem er0 {us : List Value} (h : us.map er = []) : us = [] := List.map_eq_nil_iff.mp h
theorem er2 {us : List Value} {a b : Value} (h : us.map er = [a, b]) : ∃ u v, us = [u, v] ∧ er u = a ∧ er v = b := by
  obtain ⟨u, l, rfl, h1, h2⟩ := List.map_eq_cons_iff.mp h
  obtain ⟨v, rfl, h3⟩ := er1 h2
  exact ⟨u, v, rfl, h1, h3⟩
theorem er3 {us : List Value} {a b c : Value} (h : us.map er = [a, b, c]) : ∃ u v x, us = [u, v, x] ∧ er u = a ∧ er v = b ∧ er x = c := by
  obtain ⟨u, l, rfl, h1, h2⟩ := List.map_eq_cons_iff.mp h
  obtain ⟨v, x, rfl, h3⟩ := er2 h2
  exact ⟨u, v, x, rfl, h1, h3⟩
section
variable {prog : Program} {w : World} {B : Bs} {A : Around} {own own' : Own} {gs : Array GenState} {env : Env}

-- lists
theorem Call_append {l : Addr} {xs : List Value} {v : Value} {Q : QV} (hu : Upd l (AList xs) (AList (xs ++ [v])) own own') (hs : xs.length ≤ 1000000) (h : Q .none own' gs) :
    CallJ prog w B A (.builtin "list.append") [.ref l, v] own gs Q := by
  intro us hus s R
  obtain ⟨a, b, rfl, h1, h2⟩ := er2 hus
  rw [er_eq_ref h1]
  obtain ⟨o, ho, its, n, rfl, e⟩ := R.o _ _ hu.mem
  refine append_at ho (fun h' hs' ho' => ⟨own', gs, R.upd (tk := s.toks) hu hs'.extBut ⟨_, ho', its.push b, n + 1, rfl, ?_⟩, h⟩) ?_
  · simp [e, h2]
  · have : its.size = xs.length := by rw [← e]; simp
    rw [this]; exact Nat.le_trans hs (by decide)
theorem Call_pop {l : Addr} {xs : List Value} {v : Value} {Q : QV} (hu : Upd l (AList (xs ++ [v])) (AList xs) own own') (hs : xs.length ≤ 1000000) (h : Q v own' gs) :
    CallJ prog w B A (.builtin "list.pop") [.ref l] own gs Q := by
  intro us hus s R
  obtain ⟨a, rfl, h1⟩ := er1 hus
  rw [er_eq_ref h1]
  obtain ⟨o, ho, its, n, rfl, e⟩ := R.o _ _ hu.mem
  have hlen : its.size = xs.length + 1 := by
    have := congrArg List.length e
    simpa using this
  obtain ⟨y, hy⟩ : ∃ y, its[its.size - 1]? = some y := by
    rw [hlen]; exact ⟨its[xs.length], by simp [hlen]⟩
  have hey : er y = v := by
    have h1 : (its.toList.map er)[xs.length]? = some v := by rw [e]; simp
    have h2 : its.toList[xs.length]? = some y := by rw [hlen] at hy; simpa using hy
    rw [List.getElem?_map, h2] at h1; simpa using h1
  refine call_meets F.slot_list_pop ⟨_, ho, rfl⟩ F.entry_list_pop (F.args_list_pop_1 _) (MeetsSeq.list_pop_last l its n y hy (by rw [hlen]; exact Nat.le_trans (Nat.succ_le_succ hs) (by decide))) ⟨ho, ?_⟩
  refine ⟨own', gs, ?_, (by show Q (er y) own' gs; rw [hey]; exact h)⟩
  refine R.upd (tk := s.toks) hu (Heap.SameBut.update ..).extBut ⟨_, Heap.get?_update_self _ ho rfl, its.eraseIdxIfInBounds (its.size - 1), _, rfl, ?_⟩
  have hl : (its.eraseIdxIfInBounds (its.size - 1)).toList = its.toList.dropLast := by
    rw [← Array.toList_pop]
    congr 1
    apply Array.ext'
    rw [Array.eraseIdxIfInBounds]
    split
    · rename_i hh
      rw [Array.toList_eraseIdx]
      simp [List.dropLast_eq_take, List.eraseIdx_eq_take_drop_succ]
      omega
    · rename_i hh; omega
  rw [hl, List.map_dropLast, e]; simp

-- items
theorem JV_Subscript {value slice : Expr} {pos : Pos} {Q : QV}
    (h : JV prog w B A (eval value env) own gs fun a o g => JV prog w B A (eval slice env) o g fun b o g => ∀ u v, er u = a → er v = b → JV prog w B A (subscriptTail value slice u v) o g Q) :
    JV prog w B A (eval (.Subscript value slice pos) env) own gs Q := fun s R =>
  Subscript_ (wpAny_mono (h s R) (fun _ _ ⟨_, _, R', h'⟩ => wpAny_mono (h' _ R') (fun _ _ ⟨_, _, R'', h''⟩ => h'' _ _ rfl rfl _ R'') fun _ _ e => e) fun _ _ e => e)
/-- the item o[i] where the index is no slice -/
def ItemJ (prog : Program) (w : World) (B : Bs) (A : Around) (value slice : Expr) (a b : Value) (own : Own) (gs : Array GenState) (Q : QV) : Prop :=
  ∀ u v, er u = a → er v = b → JV prog w B A (subscriptTail value slice u v) own gs Q
theorem Item_list {value slice : Expr} {l : Addr} {xs : List Value} {k : Int} {x : Value} {Q : QV} (hl : Has B own l (AList xs)) (h0 : 0 ≤ k) (hk : k < 2 ^ 62) (hx : xs[k.toNat]? = some x) (h : Q x own gs)
    (hs : ∀ o i, subscripted slice false o i = operate [o, i] (getItem o i) := by intro _ _; with_unfolding_all rfl) : ItemJ prog w B A value slice (.ref l) (iv k) own gs Q := by
  intro u v hu hv s R
  rw [er_eq_ref hu]
  obtain ⟨t, rfl⟩ := er_eq_int hv
  obtain ⟨o, ho, hp⟩ := R.get hl
  obtain ⟨its, hL, rfl⟩ := AList.isList ho hp
  rw [List.getElem?_map, Option.map_eq_some_iff] at hx
  obtain ⟨y, hy, rfl⟩ := hx
  exact tail_any hL.typeIs F.slot_list_getitem.lookup (wpAny_getItem_list hL h0 (by omega) (by simpa using hy) ⟨own, gs, R, h⟩) (hs _ _)
theorem Item_listNeg {value slice : Expr} {l : Addr} {xs : List Value} {k : Int} {x : Value} {Q : QV} (hl : Has B own l (AList xs)) (h0 : k < 0) (hk : -1000000 < k) (h1 : -(xs.length : Int) ≤ k) (hx : xs[(k + xs.length).toNat]? = some x) (h : Q x own gs)
    (hs : ∀ o i, subscripted slice false o i = operate [o, i] (getItem o i) := by intro _ _; with_unfolding_all rfl) : ItemJ prog w B A value slice (.ref l) (iv k) own gs Q := by
  intro u v hu hv s R
  rw [er_eq_ref hu]
  obtain ⟨t, rfl⟩ := er_eq_int hv
  obtain ⟨o, ho, hp⟩ := R.get hl
  obtain ⟨its, hL, rfl⟩ := AList.isList ho hp
  rw [List.getElem?_map, Option.map_eq_some_iff] at hx
  obtain ⟨y, hy, rfl⟩ := hx
  have hlen : (its.toList.map er).length = its.size := by simp
  rw [hlen] at hy h1
  exact tail_any hL.typeIs F.slot_list_getitem.lookup (wpAny_getItem_list_neg hL h0 h1 (by omega) (by simpa using hy) ⟨own, gs, R, h⟩) (hs _ _)

-- dicts keyed by ints
def ADict (prog : Program) (w : World) (kvs : List (Int × Value)) (ep : Nat) : Pd := fun o => ∃ kvs' es, o.ExactDict ∧ o.data = .dict es ep ∧ KeysOf (intKind prog w) es ∧ Pairs (intKind prog w) es.toList kvs' ∧ (kvs'.map (·.1)).Nodup ∧
  kvs'.map (fun p => (p.1, er p.2)) = kvs
theorem ADict.at {kvs : List (Int × Value)} {ep : Nat} {h : Heap} {d : Addr} {o : Obj} (ho : h.get? d = some o) (x : ADict prog w kvs ep o) :
    ∃ kvs', h.DictAt (intKind prog w) d kvs' ep ∧ kvs'.map (fun p => (p.1, er p.2)) = kvs := by
  obtain ⟨kvs', es, h1, h2, h3, h4, h5, h6⟩ := x
  exact ⟨kvs', ⟨o, es, ho, h1, h2, h3, h4, h5⟩, h6⟩
theorem ADict.of {kvs' : List (Int × Value)} {h : Heap} {d : Addr} (x : h.DictOf (intKind prog w) d kvs') : ∃ ep o, h.get? d = some o ∧ ADict prog w (kvs'.map fun p => (p.1, er p.2)) ep o := by
  obtain ⟨o, es, ep, ho, h1, h2, h3, h4, h5⟩ := x
  exact ⟨ep, o, ho, kvs', es, h1, h2, h3, h4, h5, rfl⟩
theorem valueAt_er (kvs' : List (Int × Value)) (k : Int) : valueAt (kvs'.map fun p => (p.1, er p.2)) k = (valueAt kvs' k).map er := by
  unfold valueAt
  rw [List.find?_map, Option.map_map, Option.map_map]
  rfl
theorem stored_er (kvs' : List (Int × Value)) (k : Int) (v : Value) : (stored kvs' k v).map (fun p => (p.1, er p.2)) = stored (kvs'.map fun p => (p.1, er p.2)) k (er v) := by
  unfold stored
  have : (kvs'.map fun p => (p.1, er p.2)).any (fun kv => decide (kv.1 = k)) = kvs'.any (fun kv => decide (kv.1 = k)) := by rw [List.any_map]; rfl
  rw [this]
  split
  · rw [List.map_map, List.map_map]
    apply List.map_congr_left
    intro p _
    show (fun p => (p.1, er p.2)) (if p.1 = k then (p.1, v) else p) = if p.1 = k then (p.1, er v) else (p.1, er p.2)
    split <;> rfl
  · simp
theorem without_er (kvs' : List (Int × Value)) (k : Int) : (without kvs' k).map (fun p => (p.1, er p.2)) = without (kvs'.map fun p => (p.1, er p.2)) k := by
  unfold without
  rw [List.filter_map]; rfl
/-- no dict of the call's own is sys.modules -/
theorem ADict.not_sys {kvs : List (Int × Value)} {ep : Nat} {h : Heap} {d : Addr} {o : Obj} (ho : h.get? d = some o) (x : ADict prog w kvs ep o) (hs : sysObs h = true) : (d == sysModules) = false := by
  cases q : d == sysModules with
  | false => rfl
  | true =>
    have := eq_of_beq q
    subst this
    have hs := sysObs_0 hs
    unfold sysObs0 at hs
    rw [show h.get? 1 = some o from ho] at hs
    obtain ⟨c, dd, dt, sl⟩ := o
    obtain ⟨kvs', es, h1, h2, h3, h4, h5, h6⟩ := x
    simp only at h2
    subst h2
    simp only [List.any_eq_true] at hs
    obtain ⟨e, he, hk⟩ := hs
    obtain ⟨k, hk', _⟩ := h3 e (Array.mem_toList_iff.mp he)
    obtain ⟨t, ht⟩ := Value.isInt_shape hk'
    unfold keyIsStr at hk
    rw [ht] at hk
    cases hk
section
variable {K : Frag} {p : Program} {loose : List Str} {mg mb : Str → Option Value}
theorem Item_dict {value slice : Expr} {d : Addr} {kvs : List (Int × Value)} {ep : Nat} {k : Int} {x : Value} {Q : QV} (hd : Has B own d (ADict prog w kvs ep)) (hx : valueAt kvs k = some x) (h : Q x own gs)
    (hs : ∀ o i, subscripted slice false o i = operate [o, i] (getItem o i) := by intro _ _; with_unfolding_all rfl) : ItemJ prog w B A value slice (.ref d) (iv k) own gs Q := by
  intro u v hu hv s R
  rw [er_eq_ref hu]
  obtain ⟨t, rfl⟩ := er_eq_int hv
  obtain ⟨o, ho, hp⟩ := R.get hd
  obtain ⟨kvs', hD, rfl⟩ := ADict.at ho hp
  rw [valueAt_er, Option.map_eq_some_iff] at hx
  obtain ⟨y, hy, rfl⟩ := hx
  exact tail_any hD.dictOf.typeIs F.slot_dict_getitem.lookup (wpAny_getItem_of (intKind_is prog w k t) hD.dictOf.mapOf hy ⟨own, gs, R.toks _, h⟩) (hs _ _)
theorem Cmp_inDict (T : TopB K p loose mg mb B) {d : Addr} {kvs : List (Int × Value)} {ep : Nat} {k : Int} {Q : QV} (hd : Has B own d (ADict prog w kvs ep)) (h : Q (.bool (valueAt kvs k).isSome) own gs) : CmpJ prog w B A .In (iv k) (.ref d) own gs Q := by
  intro u v hu hv s R
  obtain ⟨t, rfl⟩ := er_eq_int hu
  rw [er_eq_ref hv]
  obtain ⟨o, ho, hp⟩ := R.get hd
  have hsys := hp.not_sys ho (T _ R.b).2.2
  obtain ⟨kvs', hD, rfl⟩ := ADict.at ho hp
  refine wpAny_in_of (intKind_is prog w k t) hsys hD.dictOf.mapOf ⟨own, gs, R.toks _, ?_⟩
  rw [valueAt_er] at h
  simpa using h
theorem Cmp_notInDict (T : TopB K p loose mg mb B) {d : Addr} {kvs : List (Int × Value)} {ep : Nat} {k : Int} {Q : QV} (hd : Has B own d (ADict prog w kvs ep)) (h : Q (.bool (!(valueAt kvs k).isSome)) own gs) : CmpJ prog w B A .NotIn (iv k) (.ref d) own gs Q := by
  intro u v hu hv s R
  obtain ⟨t, rfl⟩ := er_eq_int hu
  rw [er_eq_ref hv]
  obtain ⟨o, ho, hp⟩ := R.get hd
  have hsys := hp.not_sys ho (T _ R.b).2.2
  obtain ⟨kvs', hD, rfl⟩ := ADict.at ho hp
  refine wpAny_notIn_of (intKind_is prog w k t) hsys hD.dictOf.mapOf ?_
  rw [valueAt_er] at h
  refine ⟨own, gs, R.toks _, ?_⟩
  simpa using h
end
end
end Mine
end
section
set_option maxRecDepth 100000
open PySem PySem.Calls PyProof.Rows PySem.W PySem.Spec
namespace Mine

theorem intsEq_all {its jts : Array Value} {ns ms : List Int} (h1 : its.toList.map er = ns.map iv) (h2 : jts.toList.map er = ms.map iv) (hsz : its.size = jts.size) :
    (List.range its.size).all (fun j => match its[j]?, jts[j]? with | some (.int a _), some (.int b _) => a == b | _, _ => false) = decide (ns = ms) := by
  have l1 : ns.length = its.size := by have := congrArg List.length h1; simpa using this.symm
  have l2 : ms.length = jts.size := by have := congrArg List.length h2; simpa using this.symm
  have get1 : ∀ j (hj : j < ns.length), ∃ t, its[j]? = some (.int ns[j] t) := fun j hj => by
    have : (its.toList.map er)[j]? = some (iv ns[j]) := by rw [h1]; simp [hj]
    rw [List.getElem?_map, Option.map_eq_some_iff] at this
    obtain ⟨v, hv, he⟩ := this
    obtain ⟨t, rfl⟩ := er_eq_int he
    exact ⟨t, by simpa using hv⟩
  have get2 : ∀ j (hj : j < ms.length), ∃ t, jts[j]? = some (.int ms[j] t) := fun j hj => by
    have : (jts.toList.map er)[j]? = some (iv ms[j]) := by rw [h2]; simp [hj]
    rw [List.getElem?_map, Option.map_eq_some_iff] at this
    obtain ⟨v, hv, he⟩ := this
    obtain ⟨t, rfl⟩ := er_eq_int he
    exact ⟨t, by simpa using hv⟩
  rw [Bool.eq_iff_iff, List.all_eq_true, decide_eq_true_iff]
  constructor
  · intro h
    apply List.ext_getElem (by omega)
    intro j hj1 hj2
    have := h j (List.mem_range.mpr (by omega))
    obtain ⟨t, e1⟩ := get1 j hj1
    obtain ⟨u, e2⟩ := get2 j hj2
    rw [e1, e2] at this
    exact eq_of_beq this
  · rintro rfl j hj
    have hj := List.mem_range.mp hj
    obtain ⟨t, e1⟩ := get1 j (by omega)
    obtain ⟨u, e2⟩ := get2 j (by omega)
    rw [e1, e2]
    simp

section
variable {prog : Program} {w : World} {B : Bs} {A : Around} {own own' : Own} {gs : Array GenState} {env : Env}

theorem ints_at {its jts : Array Value} {ns ms : List Int} (h1 : its.toList.map er = ns.map iv) (h2 : jts.toList.map er = ms.map iv) (A : Around) (s : Shared) :
    ∀ j (q1 : j < its.size) (q2 : j < jts.size), SeqAt.EqAt A s its[j] jts[j] (match its[j]?, jts[j]? with | some (.int a _), some (.int b _) => a == b | _, _ => false) := fun j q1 q2 => by
  obtain ⟨a, t, ea, _⟩ := erase_int_mem h1 its[j] (Array.getElem_mem q1)
  obtain ⟨b, u, eb, _⟩ := erase_int_mem h2 jts[j] (Array.getElem_mem q2)
  have e1 : its[j]? = some (.int a t) := by rw [Array.getElem?_eq_getElem q1, ea]
  have e2 : jts[j]? = some (.int b u) := by rw [Array.getElem?_eq_getElem q2, eb]
  rw [e1, e2, ea, eb]
  exact (MeetsSeq.EqGives.int a b t u).at A s
theorem Cmp_eqLists {n : Nat} {l b : Addr} {ns ms : List Int} {Q : QV} (hA : AOk B A n) (hl : Has B own l (AList (ns.map iv))) (hb : Has B own b (AList (ms.map iv))) (h : Q (.bool (decide (ns = ms))) own gs) :
    CmpJ prog w B A .Eq (.ref l) (.ref b) own gs Q := by
  intro u v hu hv s R
  rw [er_eq_ref hu, er_eq_ref hv]
  obtain ⟨o, ho, hp⟩ := R.get hl
  obtain ⟨its, hL, h1⟩ := AList.isList ho hp
  obtain ⟨o2, ho2, hp2⟩ := R.get hb
  obtain ⟨jts, hM, h2⟩ := AList.isList ho2 hp2
  by_cases hsz : its.size = jts.size
  · refine SeqAt.eq_listAt hL hM hsz hA.units (ints_at h1 h2 _ _) ⟨own, gs, R, ?_⟩
    rw [intsEq_all h1 h2 hsz]; exact h
  · refine SeqAt.eq_list_lengthsAt hL hM (by simpa using hsz) hA.units ⟨own, gs, R, ?_⟩
    have : ¬ ns = ms := by
      rintro rfl
      have := congrArg List.length (h1.trans h2.symm)
      simp at this; exact hsz this
    simpa [this] using h
theorem Cmp_neLists {n : Nat} {l b : Addr} {ns ms : List Int} {Q : QV} (hA : AOk B A n) (hl : Has B own l (AList (ns.map iv))) (hb : Has B own b (AList (ms.map iv))) (h : Q (.bool (!decide (ns = ms))) own gs) :
    CmpJ prog w B A .NotEq (.ref l) (.ref b) own gs Q := by
  intro u v hu hv s R
  rw [er_eq_ref hu, er_eq_ref hv]
  obtain ⟨o, ho, its, n1, rfl, h1⟩ := R.get hl
  obtain ⟨o2, ho2, jts, n2, rfl, h2⟩ := R.get hb
  show wpAny _ _ (richCompare .NotEq (.ref l) (.ref b)) _ _ s
  by_cases hsz : its.size = jts.size
  · refine richCompare_meets_room (op := .NotEq) ⟨_, ho, rfl⟩ ⟨_, ho2, rfl⟩ F.slot_list_ne F.entry_list_ne (F.args_list_ne_2 _ _) (SeqAt.list_neAt l b its jts n1 n2 none none #[] #[] hsz _)
      ⟨ho, ho2, ints_at h1 h2 _ _, (fun x => nomatch x), own, gs, R, ?_⟩ hA.units
    rw [intsEq_all h1 h2 hsz]; exact h
  · refine richCompare_meets_room (op := .NotEq) ⟨_, ho, rfl⟩ ⟨_, ho2, rfl⟩ F.slot_list_ne F.entry_list_ne (F.args_list_ne_2 _ _) (SeqAt.list_ne_lengthsAt l b its jts n1 n2 none none #[] #[] (by simpa using hsz))
      ⟨ho, ho2, (fun x => nomatch x), own, gs, R, ?_⟩ hA.units
    have : ¬ ns = ms := by
      rintro rfl
      have := congrArg List.length (h1.trans h2.symm)
      simp at this; exact hsz this
    simpa [this] using h

-- slices
theorem JV_sliceAll {value : Expr} {p pos : Pos} {Q : QV} (h : JV prog w B A (eval value env) own gs fun a o g => ∃ l xs, a = .ref l ∧ Has B o l (AList xs) ∧ xs.length ≤ 1000000 ∧ ∀ l', Q (.ref l') ((l', AList xs) :: o) g)
    (ht : ∀ o r, letTemporaryGo value o r = pure () := by intro _ _; rfl) : JV prog w B A (eval (.Subscript value (.Slice none none none p) pos) env) own gs Q := fun s R => by
  refine wpAny_Subscript_list_slice (J.any h R fun v s' o g R' ⟨l, xs, e, hl, hlen, hq⟩ => ?_) ht
  rw [evalPart_none]
  refine wpAny_pure (wpAny_pure ?_)
  obtain ⟨ob, ho, hp⟩ := R'.get hl
  obtain ⟨its, hL, rfl⟩ := AList.isList ho hp
  refine ⟨l, its, none, none, er_eq_ref e, hL, Nat.le_trans (by simpa using hlen) (by decide), .none, .none, ?_⟩
  rw [slicePick_all]
  have R₁ := R'.ext (h' := s'.heap.push { cls := .type "slice", data := .fields #[.none, .none, .none] }) (tk := s'.toks) fun _ _ e => Heap.get?_push_of_some _ e
  have R₂ := R₁.push (o := { cls := .type "list", data := .seq its }) (p := AList (its.toList.map er)) rfl ⟨its, 0, rfl, rfl⟩ s'.toks
  have hs : (s'.heap.push { cls := .type "slice", data := .fields #[.none, .none, .none] }).objs.size = s'.heap.objs.size + 1 := Heap.size_push _ _
  simp only [hs] at R₂
  exact ⟨_, g, R₂, hq _⟩
theorem JV_sliceFrom {value e : Expr} {p pos : Pos} {Q : QV} (h : JV prog w B A (eval value env) own gs fun a o g => JV prog w B A (eval e env) o g fun b o g => ∃ l xs k, a = .ref l ∧ b = iv (k : Nat) ∧ Has B o l (AList xs) ∧ xs.length ≤ 1000000 ∧ k ≤ xs.length ∧ ∀ l', Q (.ref l') ((l', AList (xs.drop k)) :: o) g)
    (ht : ∀ o r, letTemporaryGo value o r = pure () := by intro _ _; rfl) : JV prog w B A (eval (.Subscript value (.Slice (some e) none none p) pos) env) own gs Q := fun s R => by
  refine wpAny_Subscript_list_slice (J.any h R fun v s' o g R' h' => ?_) ht
  rw [evalPart_some]
  refine J.any h' R' fun b s' o g R' ⟨l, xs, k, e, e2, hl, hlen, hk, hq⟩ => ?_
  rw [evalPart_none]
  refine wpAny_pure ?_
  obtain ⟨ob, ho, hp⟩ := R'.get hl
  obtain ⟨its, hL, rfl⟩ := AList.isList ho hp
  obtain ⟨t, rfl⟩ := er_eq_int e2
  refine ⟨l, its, some (k : Int), none, er_eq_ref e, hL, Nat.le_trans (by simpa using hlen) (by decide), .int _ _, .none, ?_⟩
  rw [slicePick_from _ _ (by simpa using hk)]
  have R₁ := R'.ext (h' := s'.heap.push { cls := .type "slice", data := .fields #[.int k t, .none, .none] }) (tk := s'.toks) fun _ _ e => Heap.get?_push_of_some _ e
  have R₂ := R₁.push (o := { cls := .type "list", data := .seq (its.toList.drop k).toArray }) (p := AList ((its.toList.map er).drop k)) rfl ⟨_, 0, rfl, by simp⟩ s'.toks
  have hs : (s'.heap.push { cls := .type "slice", data := .fields #[.int k t, .none, .none] }).objs.size = s'.heap.objs.size + 1 := Heap.size_push _ _
  simp only [hs] at R₂
  exact ⟨_, g, R₂, hq _⟩

-- dicts: stores, walks
/-- o[k] = v -/
def SetJ (prog : Program) (w : World) (B : Bs) (A : Around) (d k v : Value) (own : Own) (gs : Array GenState) (Q : QU) : Prop :=
  ∀ a b c, er a = d → er b = k → er c = v → J prog w B A (setItem a b c) own gs fun _ => Q
theorem Set_dict {d : Addr} {kvs : List (Int × Value)} {ep : Nat} {k : Int} {v : Value} {Q : QU} (hm : (d, ADict prog w kvs ep) ∈ own) (hs : kvs.length ≤ 1000000)
    (h : ∀ ep', ∃ own', Upd d (ADict prog w kvs ep) (ADict prog w (stored kvs k v) ep') own own' ∧ Q own' gs) : SetJ prog w B A (.ref d) (iv k) v own gs Q := by
  intro a b c ha hb hc s R
  subst hc
  rw [er_eq_ref ha]
  obtain ⟨t, rfl⟩ := er_eq_int hb
  obtain ⟨o, ho, hp⟩ := R.o _ _ hm
  obtain ⟨kvs', hD, rfl⟩ := ADict.at ho hp
  refine wpAny_setItem_pairs (intKind_is prog w k t) hD.dictOf (fun h' hd' hsb => ?_) (Nat.le_trans (by simpa using hs) (by decide))
  obtain ⟨ep', o', ho', hp'⟩ := ADict.of hd'
  rw [stored_er] at hp'
  obtain ⟨own', hu, hq⟩ := h ep'
  exact ⟨own', gs, R.upd hu hsb.extBut ⟨o', ho', hp'⟩, hq⟩
theorem JF_AssignSub {o i value : Expr} {pos' pos : Pos} {Q : QF}
    (h : JV prog w B A (eval value env) own gs fun v o' g => JV prog w B A (eval o env) o' g fun a o' g => JV prog w B A (eval i env) o' g fun b o' g => SetJ prog w B A a b v o' g (Q .next))
    (hs : swapsWith value (some (.Subscript o i pos')) pos.line env = pure false := by rfl) : JF prog w B A (exec (.Assign [.Subscript o i pos'] value pos) env) own gs Q := fun s R =>
  wpAny_Assign_Subscript (J.any h R fun v _ o g R' h' => J.any h' R' fun a _ o g R' h' => J.any h' R' fun b _ o g R' h' => J.any (h' _ _ _ rfl rfl rfl) R' fun _ _ o g R' h' => ⟨o, g, R', h'⟩) hs
theorem Assign_sub {o i : Expr} {pos : Pos} {v : Value} {Q : QU} (h : JV prog w B A (eval o env) own gs fun a o' g => JV prog w B A (eval i env) o' g fun b o' g => SetJ prog w B A a b v o' g Q) :
    AssignJ prog w B A env (.Subscript o i pos) v own gs Q := fun u hu s R => by
  rw [assign_Subscript]
  refine wpAny_bind (wpAny_holding (J.any h R fun a _ o g R' h' => ?_))
  refine wpAny_bind (wpAny_holding (J.any h' R' fun b _ o g R' h' => ?_))
  refine wpAny_bind (wpAny_standAt (wpAny_bind (wpAny_holding (J.any (h' _ _ _ rfl rfl hu) R' fun _ s' o g R' h' => ?_))))
  exact fun Γ p _ => by rw [Sem.wp_release]; exact ⟨o, g, R', h'⟩
def AKeyIter (d : Addr) (i n ep : Nat) : Pd := fun o => o.cls = .type "dict_keyiterator" ∧ o.data = .fields #[.ref d, .int i 0, .int n 0, .int ep 0]
section
variable {K : Frag} {p : Program} {loose : List Str} {mg mb : Str → Option Value}
theorem Iter_dict (T : TopB K p loose mg mb B) {d : Addr} {kvs : List (Int × Value)} {ep : Nat} {Q : QV} (hd : Has B own d (ADict prog w kvs ep)) (h : ∀ it, Q (.ref it) ((it, AKeyIter d 0 kvs.length ep) :: own) gs) : IterJ prog w B A (.ref d) own gs Q := fun u hu s R => by
  rw [er_eq_ref hu]
  obtain ⟨o, ho, hp⟩ := R.get hd
  have hsys := hp.not_sys ho (T _ R.b).2.2
  obtain ⟨kvs', hD, rfl⟩ := ADict.at ho hp
  refine wpAny_pyIter_dict hsys hD ⟨_, gs, R.push (p := AKeyIter d 0 (kvs'.map fun p => (p.1, er p.2)).length ep) rfl ⟨rfl, by simp⟩ _, h _⟩
end
theorem Next_dict {n : Nat} {it d : Addr} {i ep : Nat} {kvs : List (Int × Value)} {rest own' : Own} {Q : Option Value → Own → Array GenState → Prop} (hA : AOk B A n) (hi : Upd it (AKeyIter d i kvs.length ep) (AKeyIter d (i + 1) kvs.length ep) own own') (hr : Sub rest own) (hni : ∀ p, (it, p) ∉ rest)
    (hd : Has B own d (ADict prog w kvs ep)) (h : match kvs[i]? with | some x => Q (some (iv x.1)) own' gs | none => Q none rest gs) : NextJ prog w B A (.ref it) own gs Q := fun s R => by
  obtain ⟨o, ho, hp⟩ := R.get hd
  obtain ⟨kvs', hD, rfl⟩ := ADict.at ho hp
  obtain ⟨oi, hoi, hc, hdat⟩ := R.o _ _ hi.mem
  have hlen : (kvs'.map fun p => (p.1, er p.2)).length = kvs'.length := by simp
  have hit : s.heap.IsKeyIter it d i kvs'.length ep := ⟨oi, hoi, hc, by rw [hdat, hlen]⟩
  cases hx : kvs'[i]? with
  | some x =>
    have hx' : (kvs'.map fun p => (p.1, er p.2))[i]? = some (x.1, er x.2) := by simp [hx]
    rw [hx'] at h
    obtain ⟨k, v⟩ := x
    refine wpAny_pyNext_dict_item hit hD hx fun key h' hkey hit' hs => ?_
    obtain ⟨o', ho', hc', hd'⟩ := hit'
    obtain ⟨t, rfl⟩ := Value.isInt_shape hkey
    exact ⟨own', gs, R.upd (tk := s.toks) hi hs.extBut ⟨o', ho', hc', by rw [hd', hlen]⟩, h⟩
  | none =>
    have hx' : (kvs'.map fun p => (p.1, er p.2))[i]? = none := by simp at hx; simp [hx]
    rw [hx'] at h
    refine next_dict_end (hA.hok R) (hA.hne R hi.mem) hit hD hx fun h' hx' => ?_
    have R' := R.sub hr
    refine ⟨rest, gs, ⟨fun b q e => ?_, fun b q e => ?_, R'.dis, R'.nd, R'.gens, R'.os⟩, h⟩
    · obtain ⟨o, ho, hq⟩ := R.b b q e
      exact ⟨o, hx' b o (fun z => by have := R.dis it _ hi.mem; rw [← z, e] at this; cases this) ho, hq⟩
    · obtain ⟨o, ho, hq⟩ := R'.o b q e
      exact ⟨o, hx' b o (fun z => hni q (z ▸ e)) ho, hq⟩
end
end Mine
end
section
set_option maxRecDepth 100000
open PySem PySem.Calls PyProof.Rows PySem.W PySem.Spec
namespace Mine
section
variable {prog : Program} {w : World} {B : Bs} {A : Around} {own : Own} {gs : Array GenState}
theorem StoresJ_mono {env : Env} {Q Q' : QU} (hq : ∀ o g, Q o g → Q' o g) : ∀ (l : List (Str × Value)) (own : Own) (gs : Array GenState), StoresJ prog w B A env l own gs Q → StoresJ prog w B A env l own gs Q'
  | [], _, _, h => hq _ _ h
  | (_, _) :: r, _, _, h => fun u hu => J_mono (h u hu) fun _ _ _ h' => StoresJ_mono hq r _ _ h'
theorem Call_K {K : Frag} {p : Program} {loose : List Str} {mg mb : Str → Option Value} {n : Nat} {f : Addr} {fo : Obj} {fd : FuncData} {body : List Stmt} {args : List Value} {Q : QV} (T : TopB K p loose mg mb B) (hA : AOk B A (n + 1))
    (k1 : K.lookup f = some fo) (k2 : fo.data = .func fd) (k3 : fd.body = .stmts body) (k4 : codeIn K fd.code fd.qualname = true)
    (h : ∀ us, us.map er = args → J prog w B A.in1 (bindArgs fd ⟨us, []⟩) own gs fun binds o g => ∀ L, CellsJ fd.scope.names fd.closure ((L, ANs []) :: o) fun cells o =>
      StoresJ prog w B A.in1 (newEnv fd.scope L fd.globals cells (fd.qualname ++ ".<locals>.") (some f) fd.code none fd.builtins) binds o g fun o g => ∀ A', AOk B A' n →
        JF prog w B A' (execs body (newEnv fd.scope L fd.globals cells (fd.qualname ++ ".<locals>.") (some f) fd.code none fd.builtins)) o g
          fun fl o g => ∃ o₂, Sub o₂ o ∧ Q (retOf fl) o₂ g)
    (hco : fd.scope.isCoroutine = false) (hgen : fd.scope.isGenerator = false) : CallJ prog w B A (.ref f) args own gs Q := by
  intro us hus s R
  have X := (T _ R.b).1
  refine wpAny_call (codeAny_call_function hA.depth (X _ _ k1) k2 hco hgen k3 (codeRec_of X k4) ?_)
  refine J.any (h us hus) R fun binds s₁ o g R₁ hJ => ?_
  refine J.any (J_newEnv (Q := fun env o g => JF prog w B (A.deeper env) (execs body env) o g fun fl o g => ∃ o₂, Sub o₂ o ∧ Q (retOf fl) o₂ g) fun L => CellsJ_mono (fun cells o hs => StoresJ_mono (fun o g hq => hq _ (hA.deeper _)) _ _ _ hs) _ _ _ (hJ L)) R₁ fun env s₂ o g R₂ hb => ?_
  refine ⟨limit_of T _ R₂.b, codeAny_func (J.any hb R₂ fun fl s₃ o g R₃ ⟨o₂, hs, hq⟩ => ?_)⟩
  cases fl <;> exact ⟨o₂, g, R₃.sub hs, hq⟩
theorem Bind_eq {fd : FuncData} {args : Args} {binds : List (Str × Value)} {Q : List (Str × Value) → Own → Array GenState → Prop} (hb : bindArgs fd args = pure binds) (h : Q binds own gs) : J prog w B A (bindArgs fd args) own gs Q := by
  rw [hb]; exact J_pure h
theorem Cells_nil {cells : List (Str × Addr)} {Q : List (Str × Addr) → Own → Prop} (h : Q cells own) : CellsJ [] cells own Q := h
theorem Cells_skip {n : Str} {k : NameKind} {r : List (Str × NameKind)} {cells : List (Str × Addr)} {Q : List (Str × Addr) → Own → Prop} (hk : k ≠ .cell) (h : CellsJ r cells own Q) : CellsJ ((n, k) :: r) cells own Q := by
  rw [CellsJ, if_neg hk]; exact h
theorem Cells_cell {n : Str} {r : List (Str × NameKind)} {cells : List (Str × Addr)} {Q : List (Str × Addr) → Own → Prop} (h : ∀ c, CellsJ r ((n, c) :: cells) ((c, ACell none) :: own) Q) : CellsJ ((n, .cell) :: r) cells own Q := by
  rw [CellsJ, if_pos rfl]; exact h
theorem Stores_nil {env : Env} {Q : QU} (h : Q own gs) : StoresJ prog w B A env [] own gs Q := h
theorem Stores_cons {env : Env} {n : Str} {v : Value} {r : List (Str × Value)} {Q : QU} {x : Value} (hx : er v = x) (h : StoreJ prog w B A env n x own gs fun o g => StoresJ prog w B A env r o g Q) : StoresJ prog w B A env ((n, v) :: r) own gs Q := by
  subst hx; exact h
end

inductive PickR (k : Addr) (q : Pd) : Own → Own → Prop
  | head (r : Own) : PickR k q ((k, q) :: r) r
  | tail (x : Addr × Pd) {b c : Own} (h : PickR k q b c) : PickR k q (x :: b) (x :: c)
theorem PickR.perm {k : Addr} {q : Pd} {b c : Own} (h : PickR k q b c) : b.Perm ((k, q) :: c) := by
  induction h with
  | head r => exact .refl _
  | tail x h ih => exact (List.Perm.cons x ih).trans (List.Perm.swap _ _ _)
theorem Sub.pick {k : Addr} {p q : Pd} {a b c : Own} (h : PickR k q b c) (hq : ∀ o, q o → p o) (s : Sub a c) : Sub ((k, p) :: a) b := (Sub.weak hq s).trans (Sub.of_perm h.perm.symm)
theorem lookup_mem' : ∀ {l : List (Str × Value)} {x : Str} {v : Value}, l.lookup x = some v → (x, v) ∈ l
  | (y, u) :: r, x, v, h => by
    rw [List.lookup_cons] at h
    cases e : x == y with
    | true => rw [e] at h; cases h; rw [eq_of_beq e]; exact .head _
    | false => rw [e] at h; exact .tail _ (lookup_mem' h)
theorem ANs.sub {al al' : List (Str × Value)} (h : ∀ p ∈ al', al.lookup p.1 = some p.2) : ∀ o, ANs al o → ANs al' o := ANs.weak fun x v e => h (x, v) (lookup_mem' e)

section
variable {prog : Program} {w : World} {B : Bs} {A : Around} {own : Own} {gs : Array GenState} {env : Env}
/-- a statement, then the rest from what is said to hold between -/
theorem JF_cut {st : Stmt} {rest : List Stmt} {Q : QF} (M : Own → Array GenState → Prop) (h1 : JF prog w B A (exec st env) own gs fun f o g => f = .next ∧ ∃ o₂, Sub o₂ o ∧ M o₂ g)
    (h2 : ∀ o g, M o g → JF prog w B A (execs rest env) o g Q) : JF prog w B A (execs (st :: rest) env) own gs Q :=
  JF_cons (J_mono h1 fun f o g ⟨e, o₂, hs, hm⟩ => by
    rw [e]; exact J_sub hs (h2 o₂ g hm))
theorem JF_While' {t : Expr} {body orelse : List Stmt} {pos : Pos} {Q : QF} (I : Nat → Own → Array GenState → Prop)
    (turn : ∀ n o g, I n o g → TestJ prog w B A env t o g fun b o g => if b = true then JF prog w B A (execs body env) o g (fun f o g => match f with
        | .next | .cont => ∃ m, m < n ∧ ∃ o₂, Sub o₂ o ∧ I m o₂ g
        | .brk => Q .next o g
        | .ret v => Q (.ret v) o g) else JF prog w B A (execs orelse env) o g Q)
    (n : Nat) (o₂ : Own) (hs : Sub o₂ own) (h : I n o₂ gs) : JF prog w B A (exec (.While t body orelse pos) env) own gs Q :=
  JF_While (fun n o g => ∃ o₂, Sub o₂ o ∧ I n o₂ g) (fun n o g ⟨o₂, hs, hI⟩ => J_sub hs (turn n o₂ g hI)) n ⟨o₂, hs, h⟩
theorem NextJ_sub {it : Value} {o₂ : Own} {Q : Option Value → Own → Array GenState → Prop} (hs : Sub o₂ own) (h : NextJ prog w B A it o₂ gs Q) : NextJ prog w B A it own gs Q := J_sub hs h
theorem Next_list' {n : Nat} {it l : Addr} {i : Nat} {xs : List Value} {rest : Own} {Q : Option Value → Own → Array GenState → Prop} (hA : AOk B A n) (hl : Has B rest l (AList xs))
    (h : match xs[i]? with | some x => Q (some x) ((it, AListIter l (i + 1)) :: rest) gs | none => Q none rest gs) : NextJ prog w B A (.ref it) ((it, AListIter l i) :: rest) gs Q := fun s R => by
  refine Next_list hA (Upd.head _) (Sub.of_sublist (List.sublist_cons_self _ _)) (fun p hm => ?_) (hl.elim (fun q => .inl (.tail _ q)) .inr) h s R
  have := R.nd
  rw [List.map_cons, List.nodup_cons] at this
  exact this.1 (List.mem_map_of_mem (f := (·.1)) hm)
/-- a for over a list that stands still: the turn's own state is o, the iterator stands beside it -/
theorem JF_ForList {n : Nat} {t iter : Expr} {body : List Stmt} {pos : Pos} {Q : QF} (hA : AOk B A n) (I : Addr → List Value → Nat → Own → Array GenState → Prop)
    (h : JV prog w B A (eval iter env) own gs fun v o g => ∃ l xs, v = .ref l ∧ Has B o l (AList xs) ∧ ∃ o₂, Sub o₂ o ∧ I l xs 0 o₂ g)
    (hl : ∀ l xs i o g, I l xs i o g → Has B o l (AList xs))
    (turn : ∀ l xs it i x o g, xs[i]? = some x → I l xs i o g → AssignJ prog w B A env t x ((it, AListIter l (i + 1)) :: o) g fun o g => JF prog w B A (execs body env) o g fun f o g => match f with
        | .next | .cont => ∃ o₂, Sub ((it, AListIter l (i + 1)) :: o₂) o ∧ I l xs (i + 1) o₂ g
        | .brk => Q .next o g
        | .ret v => Q (.ret v) o g)
    (done : ∀ l xs o g, I l xs xs.length o g → Q .next o g)
    (hs : ∀ x, foldedSetIterable iter env x = pure x := by intro _; rfl) (ht : ∀ it v, letOwnedTupleGo t it v = pure () := by intro _ _; rfl) :
    JF prog w B A (exec (.For t iter body [] pos) env) own gs Q := by
  refine JF_For (fun it n o g => ∃ l xs i a o₂, it = .ref a ∧ i ≤ xs.length ∧ n = xs.length - i ∧ Sub ((a, AListIter l i) :: o₂) o ∧ I l xs i o₂ g) ?_ ?_ hs ht
  · refine J_mono h fun v o g ⟨l, xs, e, hh, o₂, hsub, hI⟩ => ?_
    rw [e]
    exact Iter_list hh fun it => ⟨_, l, xs, 0, it, o₂, rfl, Nat.zero_le _, rfl, Sub.keep hsub, hI⟩
  · rintro it n o g ⟨l, xs, i, a, o₂, rfl, hi, rfl, hsub, hI⟩
    refine NextJ_sub hsub (Next_list' hA (hl l xs i o₂ g hI) ?_)
    cases hx : xs[i]? with
    | none =>
      have : i = xs.length := by have := List.getElem?_eq_none_iff.mp hx; omega
      subst this
      exact JF_nil (done l xs o₂ g hI)
    | some x =>
      have hlt : i < xs.length := (List.getElem?_eq_some_iff.mp hx).1
      intro u hu
      refine J_mono (turn l xs a i x o₂ g hx hI u hu) fun _ o g hb => J_mono hb fun f o g hf => ?_
      cases f with
      | next => obtain ⟨o₂, hs, hI⟩ := hf; exact ⟨_, by omega, l, xs, i + 1, a, o₂, rfl, hlt, rfl, hs, hI⟩
      | cont => obtain ⟨o₂, hs, hI⟩ := hf; exact ⟨_, by omega, l, xs, i + 1, a, o₂, rfl, hlt, rfl, hs, hI⟩
      | brk => exact hf
      | ret v => exact hf
end
end Mine
end
section
/- plain law: search in a graph -/
namespace Mine
inductive Reach (succ : Int → List Int) (ok : Int → Prop) (a : Int) : Int → Prop
  | refl (h : ok a) : Reach succ ok a a
  | step {b c : Int} (h : Reach succ ok a b) (hc : c ∈ succ b) (ho : ok c) : Reach succ ok a c
theorem Reach.ok {succ : Int → List Int} {ok : Int → Prop} {a b : Int} (h : Reach succ ok a b) : ok b := by
  cases h <;> assumption
theorem Reach.start {succ : Int → List Int} {ok : Int → Prop} {a b : Int} (h : Reach succ ok a b) : ok a := by
  induction h with
  | refl h => exact h
  | step _ _ _ ih => exact ih
/-- what holds between the turns of the search -/
structure WalkI (succ : Int → List Int) (allowed : List Int) (first : Int) (seen left : List Int) : Prop where
  nd : seen.Nodup
  rch : ∀ x ∈ seen, Reach succ (· ∈ allowed) first x
  sub : ∀ x ∈ left, x ∈ seen
  fst : first ∈ allowed → first ∈ seen
  cl : ∀ x ∈ seen, x ∈ left ∨ ∀ y ∈ succ x, y ∈ allowed → y ∈ seen
/-- and within a turn, at the i-th follower of x -/
structure WalkJ (succ : Int → List Int) (allowed : List Int) (first : Int) (x : Int) (i : Nat) (seen left : List Int) : Prop where
  nd : seen.Nodup
  rch : ∀ x ∈ seen, Reach succ (· ∈ allowed) first x
  sub : ∀ x ∈ left, x ∈ seen
  fst : first ∈ allowed → first ∈ seen
  cl : ∀ z ∈ seen, z ∈ left ∨ z = x ∨ ∀ y ∈ succ z, y ∈ allowed → y ∈ seen
  xs : x ∈ seen
  dn : ∀ y ∈ (succ x).take i, y ∈ allowed → y ∈ seen
variable {succ : Int → List Int} {allowed : List Int} {first : Int} {seen left : List Int}
theorem WalkI.len (h : WalkI succ allowed first seen left) : seen.length ≤ allowed.length := h.nd.length_le_of_subset fun _ hx => (h.rch _ hx).ok
theorem WalkJ.len {x : Int} {i : Nat} (h : WalkJ succ allowed first x i seen left) : seen.length ≤ allowed.length := h.nd.length_le_of_subset fun _ hx => (h.rch _ hx).ok
theorem WalkI.start_in (h : first ∈ allowed) : WalkI succ allowed first [first] [first] :=
  ⟨by simp, fun x hx => by rw [List.mem_singleton.mp hx]; exact .refl h, fun _ h => h, fun _ => by simp, fun x hx => .inl hx⟩
theorem WalkI.start_out (h : first ∉ allowed) : WalkI succ allowed first [] [] :=
  ⟨by simp, fun x hx => (nomatch hx), fun _ h => h, fun q => absurd q h, fun x hx => (nomatch hx)⟩
theorem WalkI.pop {x : Int} {l : List Int} (h : WalkI succ allowed first seen (l ++ [x])) : WalkJ succ allowed first x 0 seen l :=
  ⟨h.nd, h.rch, fun y hy => h.sub y (List.mem_append_left _ hy), h.fst, fun z hz => by
    rcases h.cl z hz with q | q
    · rcases List.mem_append.mp q with q | q
      · exact .inl q
      · exact .inr (.inl (List.mem_singleton.mp q))
    · exact .inr (.inr q), h.sub x (by simp), fun y hy => (nomatch hy)⟩
theorem WalkJ.skip {x y : Int} {i : Nat} (h : WalkJ succ allowed first x i seen left) (hy : (succ x)[i]? = some y) (hs : y ∈ allowed → y ∈ seen) : WalkJ succ allowed first x (i + 1) seen left :=
  ⟨h.nd, h.rch, h.sub, h.fst, h.cl, h.xs, fun z hz => by
    rw [List.take_add_one, hy] at hz
    rcases List.mem_append.mp hz with hz | hz
    · exact h.dn z hz
    · simp at hz; subst hz; exact hs⟩
theorem WalkJ.add {x y : Int} {i : Nat} (h : WalkJ succ allowed first x i seen left) (hy : (succ x)[i]? = some y) (ha : y ∈ allowed) (hs : y ∉ seen) : WalkJ succ allowed first x (i + 1) (seen ++ [y]) (left ++ [y]) where
  nd := by
    rw [List.nodup_append]
    refine ⟨h.nd, by simp, fun a ha b hb e => ?_⟩
    rw [List.mem_singleton.mp hb] at e
    exact hs (e ▸ ha)
  rch := fun z hz => by
    rcases List.mem_append.mp hz with hz | hz
    · exact h.rch z hz
    · rw [List.mem_singleton.mp hz]
      exact .step (h.rch x h.xs) (List.mem_of_getElem? hy) ha
  sub := fun z hz => by
    rcases List.mem_append.mp hz with hz | hz
    · exact List.mem_append_left _ (h.sub z hz)
    · exact List.mem_append_right _ hz
  fst := fun q => List.mem_append_left _ (h.fst q)
  cl := fun z hz => by
    rcases List.mem_append.mp hz with hz | hz
    · rcases h.cl z hz with q | q | q
      · exact .inl (List.mem_append_left _ q)
      · exact .inr (.inl q)
      · exact .inr (.inr fun y hy ha => List.mem_append_left _ (q y hy ha))
    · exact .inl (List.mem_append_right _ hz)
  xs := List.mem_append_left _ h.xs
  dn := fun z hz ha => by
    rw [List.take_add_one, hy] at hz
    rcases List.mem_append.mp hz with hz | hz
    · exact List.mem_append_left _ (h.dn z hz ha)
    · simp at hz; subst hz; simp
theorem WalkJ.done {x : Int} {i : Nat} (h : WalkJ succ allowed first x i seen left) (hi : (succ x)[i]? = none) : WalkI succ allowed first seen left :=
  ⟨h.nd, h.rch, h.sub, h.fst, fun z hz => by
    rcases h.cl z hz with q | q | q
    · exact .inl q
    · subst q
      refine .inr fun y hy => h.dn y ?_
      rw [List.take_of_length_le (by simpa using hi)]; exact hy
    · exact .inr q⟩
theorem WalkI.done (h : WalkI succ allowed first seen []) : ∀ x, x ∈ seen ↔ Reach succ (· ∈ allowed) first x := fun x =>
  ⟨h.rch x, fun r => by
    induction r with
    | refl ha => exact h.fst ha
    | @step b c r hc ho ih =>
      rcases h.cl b ih with q | q
      · cases q
      · exact q c hc ho⟩
end Mine
end
section
set_option maxRecDepth 100000
set_option maxHeartbeats 4000000
open PySem PySem.Calls PyProof.Rows PySem.W PySem.Spec
namespace Mine
example : PySem.Challenge.rw_ci0025_01.prog = PySem.Challenge.rw_ci0025_01.prog ∧ hd.heap_39 = hd.heap_39 := by k_fill; exact ⟨rfl, rfl⟩
local macro_rules | `(tactic| k_mem) => `(tactic| first | apply List.Mem.head | (apply List.Mem.tail; k_mem))
local macro_rules | `(tactic| walk_at "has") => `(tactic| first | (apply Has.own; k_mem) | (apply Has.base; assumption))
local macro_rules | `(tactic| walk_at "upd") => `(tactic| first | apply Upd.head | (apply Upd.tail; walk_at "upd"))
local macro_rules | `(tactic| walk_at "setl") => `(tactic| first | apply SetL.nil | apply SetL.here | (apply SetL.next (by rfl); walk_at "setl"))
local macro_rules | `(tactic| walk_at "cells") => `(tactic| repeat' (first | refine Cells_nil ?_ | refine Cells_skip (by decide) ?_ | (refine Cells_cell ?_; intro _)))
local macro_rules | `(tactic| walk_at "pick") => `(tactic| first | apply PickR.head | (apply PickR.tail; walk_at "pick"))
local macro_rules | `(tactic| walk_at "weak") => `(tactic| first | exact fun _ h => h | (refine ANs.sub ?_; repeat' (first | exact List.forall_mem_nil _ | refine List.forall_mem_cons.mpr ⟨rfl, ?_⟩)))
local macro_rules | `(tactic| walk_at "sub") => `(tactic| first | apply Sub.nil | (refine' Sub.pick ?hp ?hw ?_; (case hp => walk_at "pick"); (case hw => walk_at "weak"); walk_at "sub"))
local macro_rules | `(tactic| walk_at "store") => `(tactic| first | (refine' Store_local ?hu ?hs ?_; (case hu => walk_at "upd"); (case hs => walk_at "setl")))

local macro_rules | `(tactic| walk_at "name") => `(tactic| first
  | (refine' JV_local ?hn ?hv ?_; (case hn => walk_at "has"); (case hv => rfl))
  | (refine' JV_cell ?hc ?hn ?_; (case hc => rfl); (case hn => walk_at "has"))
  | (refine' JV_free ?hc ?hn ?_; (case hc => rfl); (case hn => walk_at "has")))
local macro_rules | `(tactic| walk_at "js") => `(tactic| first
  | with_reducible refine JF_cons ?_
  | with_reducible refine JF_nil ?_
  | refine JF_Assign ?_
  | with_reducible refine JF_If ?_
  | with_reducible refine JF_Return ?_
  | refine JF_Expr ?_
  | with_reducible refine JV_int ?_
  | with_reducible refine JV_bool ?_
  | with_reducible refine JV_none ?_
  | with_reducible refine JV_str ?_
  | with_reducible refine JV_BinOp ?_
  | refine JV_Compare ?_
  | with_reducible refine JV_IfExp ?_
  | refine Test_cmp ?_
  | with_reducible refine Test_not ?_
  | with_reducible refine Test_and ?_
  | with_reducible refine Test_and_nil ?_
  | with_reducible refine Test_or ?_
  | with_reducible refine Test_or_nil ?_
  | with_reducible refine Tru_bool ?_
  | refine JV_List ?_
  | refine JV_Tuple ?_
  | with_reducible refine Args_nil ?_
  | refine Args_cons ?_
  | with_reducible refine Bin_add ?_
  | with_reducible refine Cmp_eq ?_
  | with_reducible refine Cmp_ne ?_
  | with_reducible refine Cmp_lt ?_
  | with_reducible refine Cmp_le ?_
  | with_reducible refine Cmp_gt ?_
  | with_reducible refine Cmp_ge ?_
  | walk_at "name"
  | walk_at "store")
theorem walk_spec {prog : Program} {w : World} {B : Bs} {A : Around} {gs : Array GenState} {p : Program} {loose : List Str} {mg mb : Str → Option Value} (T : TopB (hd.heap_39 w.params) p loose mg mb B) (hA : AOk B A 3)
    {W Al : Addr} {kvs : List (Int × Value)} {ep : Nat} {first : Int} {allowed : List Int} {succ : Int → List Int}
    (hW : B.f W = some (ADict prog w kvs ep)) (hAl : B.f Al = some (AList (allowed.map iv))) (hlen : allowed.length ≤ 1000)
    (hw : ∀ k ∈ allowed, ∃ l, valueAt kvs k = some (.ref l) ∧ B.f l = some (AList ((succ k).map iv))) :
    CallJ prog w B A (.ref 894) [.ref W, iv first, .ref Al] [] gs fun v o g => ∃ (l : Addr) (res : List Int), v = .ref l ∧ o = [(l, AList (res.map iv))] ∧ g = gs ∧
      res.Nodup ∧ ∀ x, x ∈ res ↔ Reach succ (· ∈ allowed) first x := by
  refine' Call_K T hA ?k1 ?k2 ?k3 ?k4 ?_ ?k5 ?k6
  (case k1 => k_is)
  (case k2 => rfl)
  (case k3 => rfl)
  (case k4 => k_is)
  (case k5 => rfl)
  (case k6 => rfl)
  intro us hus
  obtain ⟨u1, u2, u3, rfl, h1, h2, h3⟩ := er3 hus
  refine Bind_eq (by rfl) ?_
  dsimp only
  intro L
  walk_at "cells"
  dsimp only [newEnv]
  refine Stores_cons h1 ?_
  walk_at "store"
  refine Stores_cons h2 ?_
  walk_at "store"
  refine Stores_cons h3 ?_
  walk_at "store"
  refine Stores_nil ?_
  intro A1 hA1
  dsimp only
  -- seen = [first] if first in allowed else []
  refine JF_cut (fun o g => ∃ (s : Addr) (seen : List Int), WalkI succ allowed first seen seen ∧ g = gs ∧ o = [(s, AList (seen.map iv)), (L, ANs [(Str.ofString "ways", .ref W), (Str.ofString "allowed", .ref Al), (Str.ofString "seen", .ref s)])]) ?_ ?_
  · refine JF_Assign ?_
    refine JV_IfExp (Test_cmp ?_)
    walk_at "name"
    walk_at "name"
    refine Cmp_inList (Has.base hAl) (Tru_bool ?_)
    by_cases hin : first ∈ allowed
    · rw [if_pos (by simpa using hin)]
      refine JV_List (Args_cons ?_)
      walk_at "name"
      refine Args_nil ⟨by simp, fun s => ?_⟩
      walk_at "store"
      exact ⟨rfl, _, by walk_at "sub", s, [first], .start_in hin, rfl, rfl⟩
    · rw [if_neg (by simpa using hin)]
      refine JV_List (Args_nil ⟨by simp, fun s => ?_⟩)
      walk_at "store"
      exact ⟨rfl, _, by walk_at "sub", s, [], .start_out hin, rfl, rfl⟩
  rintro o gs ⟨s, seen, hI, rfl, rfl⟩
  -- left = seen[:]
  refine JF_cons (JF_Assign (JV_sliceAll ?_))
  walk_at "name"
  refine ⟨s, _, rfl, by walk_at "has", by have := hI.len; simp; omega, fun l => ?_⟩
  walk_at "store"
  dsimp only
  -- while left != []
  refine JF_cons (JF_While' (fun n o g => ∃ seen left : List Int, WalkI succ allowed first seen left ∧ g = gs ∧ n = 2 * (allowed.length - seen.length) + left.length ∧ n ≤ 3000 ∧
    o = [(l, AList (left.map iv)), (s, AList (seen.map iv)), (L, ANs [(Str.ofString "ways", .ref W), (Str.ofString "allowed", .ref Al), (Str.ofString "seen", .ref s), (Str.ofString "left", .ref l)])]) ?_ _ _ ?_ ⟨seen, seen, hI, rfl, rfl, by have := hI.len; omega, rfl⟩)
  · rintro n o gs ⟨seen, left, hI, rfl, hn, hn3, rfl⟩
    refine Test_cmp ?_
    walk_at "name"
    refine JV_List (Args_nil ⟨by simp, fun e => ?_⟩)
    refine Cmp_neLists (ms := []) hA1 (by walk_at "has") (by walk_at "has") (Tru_bool ?_)
    by_cases hl : left = []
    · subst hl
      rw [if_neg (by simp)]
      refine JF_nil (JF_cons (JF_Return ?_))
      walk_at "name"
      exact ⟨_, by walk_at "sub", s, seen, rfl, rfl, rfl, hI.nd, hI.done⟩
    · rw [if_pos (by simpa using hl)]
      obtain ⟨left', x, rfl⟩ : ∃ l' x, left = l' ++ [x] := ⟨left.dropLast, left.getLast hl, (List.dropLast_concat_getLast hl).symm⟩
      have hx : x ∈ allowed := (hI.rch x (hI.sub x (by simp))).ok
      obtain ⟨lx, hv, hlx⟩ := hw x hx
      have hlen' := hI.len
      have J0 := hI.pop
      -- for other in ways[left.pop()]
      refine JF_cons (JF_ForList hA1 (fun l' xs i o g' => ∃ (seen left : List Int), WalkJ succ allowed first x i seen left ∧ g' = gs ∧ l' = lx ∧ xs = (succ x).map iv ∧ 2 * (allowed.length - seen.length) + left.length < n ∧
        o = [(l, AList (left.map iv)), (s, AList (seen.map iv)), (L, ANs [(Str.ofString "ways", .ref W), (Str.ofString "allowed", .ref Al), (Str.ofString "seen", .ref s), (Str.ofString "left", .ref l)])]) ?_ ?_ ?_ ?_)
      · refine JV_Subscript ?_
        walk_at "name"
        refine JV_method F.plainAttrs_list F.slot_list_pop F.type_list_pop ?_
        walk_at "name"
        refine ⟨⟨l, _, rfl, by walk_at "has", ?_⟩, Args_nil ?_⟩
        · rintro ob ⟨its, n, rfl, _⟩; exact ⟨rfl, rfl⟩
        rw [List.map_append]
        refine' Call_pop ?hu ?_ ?_
        (case hu => walk_at "upd")
        · simp at hn ⊢; omega
        refine Item_dict (Has.base hW) hv ?_
        exact ⟨lx, _, rfl, Has.base hlx, _, by walk_at "sub", seen, left', J0, rfl, rfl, rfl, by rw [hn]; simp, rfl⟩
      · rintro l' xs i o gs ⟨seen, left, hJ, rfl, rfl, rfl, _, rfl⟩
        exact Has.base hlx
      · rintro l' xs it i v o gs hx ⟨seen, left, hJ, rfl, rfl, rfl, hm, rfl⟩
        obtain ⟨y, hy, rfl⟩ : ∃ y, (succ x)[i]? = some y ∧ v = iv y := by
          rw [List.getElem?_map, Option.map_eq_some_iff] at hx
          obtain ⟨y, h1, h2⟩ := hx
          exact ⟨y, h1, h2.symm⟩
        refine Assign_name ?_
        walk_at "store"
        refine JF_cons (JF_If (Test_and (Test_cmp ?_)))
        walk_at "name"
        walk_at "name"
        refine Cmp_inList (Has.base hAl) (Tru_bool ?_)
        by_cases ha : y ∈ allowed
        · rw [if_pos (by simpa using ha)]
          refine Test_and (Test_cmp ?_)
          walk_at "name"
          walk_at "name"
          refine Cmp_notInList (ns := seen) (by walk_at "has") (Tru_bool ?_)
          by_cases hs : y ∈ seen
          · rw [if_neg (by simpa using hs), if_neg (by simpa using hs)]
            refine JF_nil (JF_nil ⟨_, by walk_at "sub", seen, left, hJ.skip hy fun _ => hs, rfl, rfl, rfl, hm, rfl⟩)
          · rw [if_pos (by simpa using hs)]
            refine Test_and_nil ?_
            rw [if_pos rfl]
            have hJ' := hJ.add hy ha hs
            have hl' := hJ'.len
            simp only [List.length_append, List.length_cons, List.length_nil] at hl'
            refine JF_cons (JF_Expr (JV_method F.plainAttrs_list F.slot_list_append F.type_list_append ?_))
            walk_at "name"
            refine ⟨⟨s, _, rfl, by walk_at "has", by rintro ob ⟨its, n, rfl, _⟩; exact ⟨rfl, rfl⟩⟩, Args_cons ?_⟩
            walk_at "name"
            refine Args_nil ?_
            refine' Call_append ?hu ?_ ?_
            (case hu => walk_at "upd")
            · simp; omega
            refine JF_cons (JF_Expr (JV_method F.plainAttrs_list F.slot_list_append F.type_list_append ?_))
            walk_at "name"
            refine ⟨⟨l, _, rfl, by walk_at "has", by rintro ob ⟨its, n, rfl, _⟩; exact ⟨rfl, rfl⟩⟩, Args_cons ?_⟩
            walk_at "name"
            refine Args_nil ?_
            refine' Call_append ?hu ?_ ?_
            (case hu => walk_at "upd")
            · simp; omega
            refine JF_nil (JF_nil ⟨_, by simp only [List.map_append, List.map_cons, List.map_nil]; walk_at "sub", seen ++ [y], left ++ [y], hJ', rfl, rfl, rfl, by simp; omega, rfl⟩)
        · rw [if_neg (by simpa using ha), if_neg (by simp)]
          refine JF_nil (JF_nil ⟨_, by walk_at "sub", seen, left, hJ.skip hy fun q => absurd q ha, rfl, rfl, rfl, hm, rfl⟩)
      · rintro l' xs o gs ⟨seen, left, hJ, rfl, rfl, rfl, hm, rfl⟩
        exact JF_nil ⟨_, hm, _, by walk_at "sub", seen, left, hJ.done (by simp), rfl, rfl, by omega, rfl⟩
  · walk_at "sub"
end Mine
end
section
set_option maxRecDepth 100000
open PySem PySem.Calls PyProof.Rows PySem.W PySem.Spec
namespace Mine
abbrev QO := Own → Array GenState → Prop
-- dicts keyed by texts: the fields of an object
def AVars (prog : Program) (w : World) (kvs : List (Str × Value)) : Pd := fun o => ∃ kvs' es ep, (o.cls = .type "dict" ∧ o.dict = none) ∧ o.data = .dict es ep ∧ KeysOf (strKind prog w) es ∧ Pairs (strKind prog w) es.toList kvs' ∧ (kvs'.map (·.1)).Nodup ∧
  kvs'.map (fun p => (p.1, er p.2)) = kvs
def AInst (C dx : Addr) : Pd := fun o => o = instObj C dx
theorem valueAt_erS (kvs' : List (Str × Value)) (k : Str) : valueAt (kvs'.map fun p => (p.1, er p.2)) k = (valueAt kvs' k).map er := by
  unfold valueAt
  rw [List.find?_map, Option.map_map, Option.map_map]
  rfl
theorem stored_erS (kvs' : List (Str × Value)) (k : Str) (v : Value) : (stored kvs' k v).map (fun p => (p.1, er p.2)) = stored (kvs'.map fun p => (p.1, er p.2)) k (er v) := by
  unfold stored
  have : (kvs'.map fun p => (p.1, er p.2)).any (fun kv => decide (kv.1 = k)) = kvs'.any (fun kv => decide (kv.1 = k)) := by rw [List.any_map]; rfl
  rw [this]
  split
  · rw [List.map_map, List.map_map]
    apply List.map_congr_left
    intro p _
    show (fun p => (p.1, er p.2)) (if p.1 = k then (p.1, v) else p) = if p.1 = k then (p.1, er v) else (p.1, er p.2)
    split <;> rfl
  · simp
section
variable {prog : Program} {w : World}
theorem AVars.of {kvs' : List (Str × Value)} {h : Heap} {d : Addr} (x : h.DictOf (strKind prog w) d kvs') : ∃ o, h.get? d = some o ∧ AVars prog w (kvs'.map fun p => (p.1, er p.2)) o := by
  obtain ⟨o, es, ep, ho, h1, h2, h3, h4, h5⟩ := x
  exact ⟨o, ho, kvs', es, ep, ⟨h1.1, h1.2.1⟩, h2, h3, h4, h5, rfl⟩
theorem strOf_isStr (x : Str) (v : Value) : (strKind prog w).is x v = v.isStr x := by
  show Value.isStrOf x v = _
  cases v <;> rfl
theorem AVars.noRef {es : Array DictEntry} (h : KeysOf (strKind prog w) es) : es.any (·.refKey) = false := by
  rw [Array.any_eq_false']
  intro e he
  obtain ⟨k, hk, _⟩ := h e he
  obtain ⟨t, ht⟩ := Value.isStrOf_shape hk
  simp [DictEntry.refKey, ht]
theorem AVars.look {kvs : List (Str × Value)} {o : Obj} (x : AVars prog w kvs o) (name : Str) : ∃ r, lookIn name o = some r ∧ r.map er = valueAt kvs name := by
  obtain ⟨kvs', es, ep, h1, h2, h3, h4, h5, rfl⟩ := x
  have hf := h4.find name
  have hr := AVars.noRef h3
  rw [← Array.any_toList] at hr
  have he : (fun e : DictEntry => (strKind prog w).is name e.key) = fun e => e.key.isStr name := funext fun e => strOf_isStr name e.key
  rw [he] at hf
  rw [valueAt_erS, ← hf]
  unfold lookIn
  rw [h2]
  dsimp only
  cases q : es.toList.find? (·.key.isStr name) with
  | some e => exact ⟨_, rfl, rfl⟩
  | none => dsimp only; rw [hr, if_neg (by decide)]; exact ⟨_, rfl, rfl⟩

theorem putName_vars {kvs' : List (Str × Value)} {h : Heap} {d : Addr} {o : Obj} {es : Array DictEntry} {ep : Nat} (name : Str) (t : Tok) (v : Value) (ho : h.get? d = some o) (hd : o.data = .dict es ep) (hx : o.cls = .type "dict" ∧ o.dict = none)
    (hk : KeysOf (strKind prog w) es) (hp : Pairs (strKind prog w) es.toList kvs') (hn : (kvs'.map (·.1)).Nodup) :
    ∃ o', (h.update d (Obj.putName name (hashStr w name) (.str name t) v)).get? d = some o' ∧ ∃ es' ep', (o'.cls = .type "dict" ∧ o'.dict = none) ∧ o'.data = .dict es' ep' ∧ KeysOf (strKind prog w) es' ∧ Pairs (strKind prog w) es'.toList (stored kvs' name v) ∧ ((stored kvs' name v).map (·.1)).Nodup := by
  obtain ⟨c, dd, dt, sl⟩ := o
  subst hd
  have hidx := hp.findIdx name
  have he : (fun e : DictEntry => (strKind prog w).is name e.key) = fun e => e.key.isStr name := funext fun e => strOf_isStr name e.key
  have hl : (es.toList.findIdx? fun e => (strKind prog w).is name e.key) = es.findIdx? (·.key.isStr name) := by rw [he]; cases es; simp
  rw [hl] at hidx
  cases hi : es.findIdx? (·.key.isStr name) with
  | some i =>
    rw [hi] at hl
    refine ⟨_, Heap.get?_update_self _ ho (by show Obj.isFreed _ = false; simp only [Obj.putName_eq, Obj.putNameByArray, hi]; rfl), es.modify i fun e => { e with val := v }, ep, ?_, ?_, hk.modify _ _, ?_, ?_⟩
    · simp only [Obj.putName_eq, Obj.putNameByArray, hi]; exact hx
    · simp only [Obj.putName_eq, Obj.putNameByArray, hi]
    · rw [stored, if_pos (any_of_findIdx_some (hidx.symm.trans hi))]
      have := hp.modify hn hl v
      obtain ⟨l⟩ := es
      simpa using this
    · rw [stored, if_pos (any_of_findIdx_some (hidx.symm.trans hi)), keys_map_store]; exact hn
  | none =>
    have hnot : name ∉ kvs'.map (·.1) := not_mem_of_findIdx_none (hidx.symm.trans hi)
    have hany : ¬ (kvs'.any fun kv => decide (kv.1 = name)) = true := by
      rw [List.any_eq_true]; rintro ⟨kv, hkv, he⟩
      exact hnot (List.mem_map.mpr ⟨kv, hkv, of_decide_eq_true he⟩)
    have hkey : (strKind prog w).is name (.str name t) = true := strKind_is prog w name t
    refine ⟨_, Heap.get?_update_self _ ho (by simp only [Obj.putName_eq, Obj.putNameByArray, hi]; rfl), es.push ⟨hashStr w name, .str name t, v⟩, ep + 1, ?_, ?_, hk.push hkey _, ?_, ?_⟩
    · simp only [Obj.putName_eq, Obj.putNameByArray, hi]; exact hx
    · simp only [Obj.putName_eq, Obj.putNameByArray, hi]
    · rw [stored, if_neg hany]
      have := hp.append hkey (hashStr w name) v
      obtain ⟨l⟩ := es
      simpa using this
    · rw [stored, if_neg hany, List.map_append, List.nodup_append]
      refine ⟨hn, by simp, ?_⟩
      intro a ha b hb
      simp only [List.map_cons, List.map_nil, List.mem_singleton] at hb
      subst hb
      exact fun e => hnot (e ▸ ha)
end

/-- an own field comes ahead of what the class says of the name -/
def ownFirst (K : Frag) (C : Addr) (name : Str) : Bool := match clsIn K C, findIn K (.ref C) name with
  | some cd, some attr => cd.hasDict && (match attr with
    | none => true
    | some a => match specialIn K a "__get__" with
      | some none => true
      | some (some _) => takesIn K a == some false
      | none => false)
  | _, _ => false
theorem findObj_own {K : Frag} {C : Addr} {name : Str} {o : Obj} {v : Value} (h : ownFirst K C name = true) (hl : lookIn name o = some (some v)) : findObj K C (some o) name = some (.value v) := by
  unfold ownFirst at h
  unfold findObj
  split at h
  · rename_i cd attr h1 h2
    rw [h1, h2]
    rw [Bool.and_eq_true] at h
    obtain ⟨hd, h⟩ := h
    have ho : W.ownOf cd (some o) name = some (some v) := by unfold W.ownOf; rw [hd]; exact hl
    simp only [Option.bind_some]
    cases attr with
    | none => simp only [Option.bind_some, ho]
    | some a =>
      dsimp only at h
      split at h
      · rename_i q; simp only [q, Option.bind_some, ho]
      · rename_i g q
        simp only [q, Option.bind_some, beq_iff_eq.mp h, ho]
      · cases h
  · cases h
/-- what a class binds (no data descriptor) where the object has no such field -/
def bindFirst (K : Frag) (C : Addr) (name : Str) (g a : Value) : Bool := match clsIn K C, findIn K (.ref C) name with
  | some cd, some (some a') => a' == a && cd.hasDict && specialIn K a "__get__" == some (some g) && takesIn K a == some false && !copiedNames.contains name
  | _, _ => false
theorem findObj_bind {K : Frag} {C : Addr} {name : Str} {o : Obj} {g a : Value} (h : bindFirst K C name g a = true) (hl : lookIn name o = some none) : findObj K C (some o) name = some (.bind g a) := by
  unfold bindFirst at h
  unfold findObj
  split at h
  · rename_i cd a' h1 h2
    simp only [Bool.and_eq_true, beq_iff_eq, Bool.not_eq_true'] at h
    obtain ⟨⟨⟨⟨rfl, hd⟩, h3⟩, h4⟩, h5⟩ := h
    have ho : W.ownOf cd (some o) name = some none := by unfold W.ownOf; rw [hd]; exact hl
    simp only [h1, h2, Option.bind_some, h3, h4, ho, h5, Bool.false_and, Bool.false_eq_true, if_false]
  · cases h

section
variable {prog : Program} {w : World} {B : Bs} {A : Around} {own : Own} {gs : Array GenState} {env : Env}
variable {K : Frag} {p : Program} {loose : List Str} {mg mb : Str → Option Value}
def GetJ (prog : Program) (w : World) (B : Bs) (A : Around) (ov : Value) (name : Str) (own : Own) (gs : Array GenState) (Q : QV) : Prop :=
  ∀ u, er u = ov → JV prog w B A (getAttr u name true) own gs Q
theorem JV_Attr {value : Expr} {attr : Str} {pos : Pos} {Q : QV} (h : JV prog w B A (eval value env) own gs fun v o g => GetJ prog w B A v attr o g Q)
    (he : eval (.Attribute value attr pos) env = (do
      let o ← eval value env
      standAt pos.atName
      let r ← holding [o] (getAttr o attr true)
      letTemporaryGo value o r
      pure r) := by with_unfolding_all rfl) : JV prog w B A (eval (.Attribute value attr pos) env) own gs Q := fun _ R =>
  Attribute_any_ (J.any h R fun _ _ _ _ R' h' => h' _ rfl _ R') he
/-- an object of a class of the text's, and its fields -/
structure Inst (prog : Program) (w : World) (B : Bs) (own : Own) (x C dx : Addr) (kvs : List (Str × Value)) : Prop where
  x : Has B own x (AInst C dx)
  d : Has B own dx (AVars prog w kvs)
theorem Inst.at {x C dx : Addr} {kvs : List (Str × Value)} {s : Shared} (I : Inst prog w B own x C dx kvs) (R : Rep B own gs s) : ∃ od, s.heap.get? dx = some od ∧ AVars prog w kvs od ∧ InstAt s.heap x (instObj C dx) C (some od) := by
  obtain ⟨o, ho, rfl⟩ := R.get I.x
  obtain ⟨od, hd, hv⟩ := R.get I.d
  exact ⟨od, hd, hv, ho, rfl, rfl, hd⟩
theorem handed_er {v : Value} : handedIn (er v) = handedIn v := by cases v <;> rfl
theorem Get_own {x C dx : Addr} {kvs : List (Str × Value)} {name : Str} {v : Value} {Q : QV} (T : TopB K p loose mg mb B) (I : Inst prog w B own x C dx kvs) (hv : valueAt kvs name = some v) (h : Q v own gs)
    (hga : findIn K (.ref C) "__getattribute__" = some (some (.builtin "object.__getattribute__"))) (hf : ownFirst K C name = true) (hh : handedIn v = true) : GetJ prog w B A (.ref x) name own gs Q := fun u hu s R => by
  rw [er_eq_ref hu]
  obtain ⟨od, hd, hva, IA⟩ := I.at R
  obtain ⟨r, hr, e⟩ := hva.look name
  rw [hv, Option.map_eq_some_iff] at e
  obtain ⟨v', rfl, rfl⟩ := e
  rw [handed_er] at hh
  exact get_value (T _ R.b).1 IA hga (findObj_own hf hr) hh ⟨own, gs, R.toks _, h⟩
theorem Get_bind {x C dx : Addr} {kvs : List (Str × Value)} {name : Str} {f : Addr} {a : Value} {Q : QV} (T : TopB K p loose mg mb B) (I : Inst prog w B own x C dx kvs) (hv : valueAt kvs name = none)
    (h : ∀ us, us.map er = [er a, .ref x, .ref C] → JV prog w B A.in1 (call (.ref f) us []) own gs fun v o g => handedIn v = true ∧ Q v o g)
    (hga : findIn K (.ref C) "__getattribute__" = some (some (.builtin "object.__getattribute__"))) (hf : bindFirst K C name (.ref f) a = true) (hk : findIn K (.ref C) "__getattr__" = some none) : GetJ prog w B A (.ref x) name own gs Q := fun u hu s R => by
  rw [er_eq_ref hu]
  obtain ⟨od, hd, hva, IA⟩ := I.at R
  obtain ⟨r, hr, e⟩ := hva.look name
  rw [hv, Option.map_eq_none_iff] at e
  subst e
  refine get_bind (T _ R.b).1 IA hga (findObj_bind hf hr) hk (J.any (h [a, .ref x, .ref C] rfl) (R.toks _) fun v s' o g R' ⟨hh, hq⟩ => ?_)
  rw [handed_er] at hh
  rw [handedOut_of hh]
  exact wpAny_pure ⟨o, g, R', hq⟩

/-- how a method is found -/
def MethJ (prog : Program) (w : World) (B : Bs) (A : Around) (ov : Value) (name : Str) (own : Own) (gs : Array GenState) (Q : Value → List Value → Own → Array GenState → Prop) : Prop :=
  ∀ u pl, er u = ov → J prog w B A (getMethod u name pl) own gs fun fx o g => isCallee fx.1 = true ∧ Q fx.1 (fx.2.map er) o g
theorem Meth_K {x C dx f : Addr} {kvs : List (Str × Value)} {name : Str} {Q : Value → List Value → Own → Array GenState → Prop} (T : TopB K p loose mg mb B) (I : Inst prog w B own x C dx kvs) (hv : valueAt kvs name = none) (h : Q (.ref f) [.ref x] own gs)
    (hga : findIn K (.ref C) "__getattribute__" = some (some (.builtin "object.__getattribute__"))) (hk : findIn K (.ref C) "__getattr__" = some none)
    (hf : findIn K (.ref C) name = some (some (.ref f))) (ht : typeIn K (.ref f) = some (.type "function")) : MethJ prog w B A (.ref x) name own gs Q := fun u pl hu s R => by
  rw [er_eq_ref hu]
  obtain ⟨od, hd, hva, IA⟩ := I.at R
  obtain ⟨r, hr, e⟩ := hva.look name
  rw [hv, Option.map_eq_none_iff] at e
  subst e
  exact method_fn (T _ R.b).1 IA hga hk hf ht (by show Option.map _ (lookIn name od) = _; rw [hr]; rfl) ⟨own, gs, R, rfl, h⟩
theorem Meth_builtin {ov : Value} {name : Str} {T id : String} {Q : Value → List Value → Own → Array GenState → Prop} (pa : PlainAttrs T) (slot : Slot T name id) (hty : typeOf (.builtin id) = pure (.type "method_descriptor"))
    (hp : ∃ a p, ov = .ref a ∧ Has B own a p ∧ (∀ ob, p ob → ob.cls = .type T ∧ ob.dict = none)) (h : Q (.builtin id) [ov] own gs) : MethJ prog w B A ov name own gs Q := fun u pl hu s R => by
  obtain ⟨a, p, rfl, hh, hq⟩ := hp
  rw [er_eq_ref hu]
  obtain ⟨ob, hob, hpb⟩ := R.get hh
  exact getMethod_builtin ⟨ob, hob, (hq ob hpb).1⟩ pa slot hty (fun b q => by cases q; exact ⟨ob, hob, (hq ob hpb).2⟩) ⟨own, gs, R, rfl, h⟩
theorem JV_MCall {o : Expr} {name : Str} {apos pos : Pos} {args : List Expr} {Q : QV} {pl : Sem Bool}
    (h : JV prog w B A (eval o env) own gs fun ov o g => MethJ prog w B A ov name o g fun f fst o g => ArgsJ prog w B A env pos args o g fun vs o g => KeepOk prog w B o f ∧ CallJ prog w B A f (fst ++ vs) o g Q)
    (hp : (backTo pos (starEach args env)).any (·.1) = false := by rfl)
    (he : eval (.Call (.Attribute o name apos) args [] pos) env = (do
      let ov ← eval o env
      standAt apos.atName
      let (f, first) ← holding [ov] (getMethod ov name pl)
      callWith pos f first (backTo pos (starEach args env)) (backToKw pos (keywordEach [] env))) := by rfl) :
    JV prog w B A (eval (.Call (.Attribute o name apos) args [] pos) env) own gs Q := fun s R => by
  rw [he]
  refine wpAny_bind (J.any h R fun ov s₁ o g R₁ h₁ => wpAny_bind (wpAny_standAt (wpAny_bind (wpAny_holding (J.any (h₁ ov pl rfl) R₁ fun fx s₂ o g R₂ ⟨hc, h₂⟩ => ?_)))))
  exact J_callWith (first := fx.2) hp h₂ _ R₂

/-- what storing a field asks of the text's classes -/
def setsIn (K : Frag) (C : Addr) (name : Str) : Bool := plainOver K C && takerIn K C name == some none && (clsIn K C).any (·.hasDict) && findIn K (.ref C) "__setattr__" == some (some (.builtin "object.__setattr__"))
def SetAttrJ (prog : Program) (w : World) (B : Bs) (A : Around) (ov : Value) (name : Str) (v : Value) (own : Own) (gs : Array GenState) (Q : QO) : Prop :=
  ∀ a b, er a = ov → er b = v → J prog w B A (setAttr a name b) own gs fun _ => Q
theorem SetAttr_inst {x C dx : Addr} {kvs kvs₂ : List (Str × Value)} {own' : Own} {name : Str} {v : Value} {Q : QO} (T : TopB K p loose mg mb B) (hx : Has B own x (AInst C dx)) (hd : Upd dx (AVars prog w kvs) (AVars prog w kvs₂) own own')
    (hk : setsIn K C name = true) (h : Q own' gs) (e₂ : stored kvs name v = kvs₂) (hl : kvs.length ≤ 1000) : SetAttrJ prog w B A (.ref x) name v own gs Q := fun a b ha hb s R => by
  subst hb e₂
  rw [er_eq_ref ha]
  simp only [setsIn, Bool.and_eq_true, beq_iff_eq] at hk
  obtain ⟨⟨⟨k1, k2⟩, k3⟩, k4⟩ := hk
  have I : Inst prog w B own x C dx kvs := ⟨hx, .own hd.mem⟩
  obtain ⟨od, hod, hva, IA⟩ := I.at R
  have X := (T _ R.b).1
  refine set_plain X IA k4 ?_
  have R₁ := R.toks (s.toks + 1)
  refine osa_open (s := { s with toks := s.toks + 1 }) X IA k1 k2 fun _ => ?_
  obtain ⟨cd, hc, hd'⟩ := any_some k3
  refine wpAny_bind (wpAny_pure (wpAny_bind (wpAny_bind (wpAny_loadPart IA.at_ (wpAny_bind (looks_clsIn X hc _ _ _ _ (fun _ _ e => e) ?_))))))
  rw [hd']
  refine wpAny_pure (a := some dx) (wpAny_bind (wpAny_pure (wpAny_bind ?_)))
  unfold nsSet
  refine wpAny_bind (wpAny_bind (wpAny_askSetting (wpAny_pure (wpAny_bind (wpAny_mkText (wpAny_bind (wpAny_loadPart hod ?_)))))))
  obtain ⟨kvs', es, ep, h1, h2, h3, h4, h5, rfl⟩ := hva
  rw [h2]
  dsimp only
  rw [aRefKeyMayBeTheName_at, AVars.noRef h3, Bool.and_false]
  refine wpAny_updatePart hod ?_
  have D := putName_vars (prog := prog) (w := w) name (s.toks + 1) b hod h2 h1 h3 h4 h5
  have hlen : es.size ≤ 1000 := by
    have := h4.length
    simp only [List.length_map, Array.length_toList] at this hl
    omega
  obtain ⟨o'', ho'', es', ep', hx'', hd'', hk'', hp'', hn''⟩ := D
  have hv' : AVars prog w ((stored kvs' name b).map fun p => (p.1, er p.2)) o'' := ⟨_, es', ep', hx'', hd'', hk'', hp'', hn'', rfl⟩
  refine wpAny_bind (wpAny_lookBehind ho'' (by rw [hd'']; exact pastItsLine_dict (by
    have := hp''.length
    rw [sizeLine_eq]
    have l2 : (stored kvs' name b).length ≤ kvs'.length + 1 := by unfold stored; split <;> simp
    have l3 := h4.length
    simp only [Array.length_toList] at this l3
    omega)) ?_)
  rw [stored_erS] at hv'
  exact wpAny_pure ⟨own', gs, R.upd hd (Heap.SameBut.update ..).extBut ⟨o'', ho'', hv'⟩, h⟩
end
end Mine
end
section
set_option maxRecDepth 100000
open PySem PySem.Calls PyProof.Rows PySem.W PySem.Spec
namespace Mine
/-- a dict without entries -/
def AEmpty : Pd := fun o => o.ExactDict ∧ ∃ ep, o.data = .dict #[] ep
section
variable {prog : Program} {w : World} {B : Bs} {A : Around} {own : Own} {gs : Array GenState} {env : Env}
variable {K : Frag} {p : Program} {loose : List Str} {mg mb : Str → Option Value}
theorem AEmpty.dictOf {κ : Type} [DecidableEq κ] (knd : KeyKind prog w κ) {h : Heap} {d : Addr} {o : Obj} (ho : h.get? d = some o) (x : AEmpty o) : h.DictOf knd d [] := by
  obtain ⟨x, ep, hd⟩ := x
  exact ⟨o, #[], ep, ho, x, hd, fun _ he => by simp at he, Pairs.nil, List.nodup_nil⟩
theorem AEmpty.not_sys {h : Heap} {d : Addr} {o : Obj} (ho : h.get? d = some o) (x : AEmpty o) (hs : sysObs h = true) : (d == sysModules) = false := by
  cases q : d == sysModules with
  | false => rfl
  | true =>
    have := eq_of_beq q
    subst this
    have hs := sysObs_0 hs
    unfold sysObs0 at hs
    rw [show h.get? 1 = some o from ho] at hs
    obtain ⟨c, dd, dt, sl⟩ := o
    obtain ⟨_, ep, h2⟩ := x
    simp only at h2
    subst h2
    simp at hs
theorem AEmpty.of {κ : Type} [DecidableEq κ] {knd : KeyKind prog w κ} {h : Heap} {d : Addr} (x : h.DictOf knd d []) : ∃ o, h.get? d = some o ∧ AEmpty o := by
  obtain ⟨o, es, ep, ho, h1, h2, h3, h4, h5⟩ := x
  have : es = #[] := by
    cases es; rename_i l
    cases h4; rfl
  subst this
  exact ⟨o, ho, h1, ep, h2⟩
theorem AEmpty.toInt : ∀ o, AEmpty o → ∃ ep, ADict prog w [] ep o := fun o ⟨hx, ep, hd⟩ => ⟨ep, [], #[], hx, hd, fun _ he => by simp at he, Pairs.nil, List.nodup_nil, rfl⟩
theorem AEmpty.toVars : ∀ o, AEmpty o → AVars prog w [] o := fun _ ⟨hx, ep, hd⟩ => ⟨[], #[], ep, ⟨hx.1, hx.2.1⟩, hd, fun _ he => by simp at he, Pairs.nil, List.nodup_nil, rfl⟩
theorem AEmpty.fresh : AEmpty emptyDict := ⟨⟨rfl, rfl, rfl⟩, 0, rfl⟩
theorem Upd.same {a : Addr} {p : Pd} : ∀ {o : Own}, (a, p) ∈ o → Upd a p p o o
  | _ :: _, .head _ => .head _
  | _ :: _, .tail _ h => .tail _ (Upd.same h)
theorem Rep.keep {s : Shared} (R : Rep B own gs s) {a : Addr} {p : Pd} {h' : Heap} {tk : Nat} (hm : (a, p) ∈ own) (hx : Heap.ExtBut a s.heap h') (ha : ∃ o, h'.get? a = some o ∧ p o) : Rep B own gs { s with heap := h', toks := tk } :=
  R.upd (Upd.same hm) hx ha

/-- at two places of the list -/
inductive Apart (a b : Addr) : Own → Prop
  | left {p q : Pd} {r : Own} (h : (b, q) ∈ r) : Apart a b ((a, p) :: r)
  | right {p q : Pd} {r : Own} (h : (a, q) ∈ r) : Apart a b ((b, p) :: r)
  | tail {x : Addr × Pd} {r : Own} (h : Apart a b r) : Apart a b (x :: r)
theorem Apart.ne {a b : Addr} {o : Own} (h : Apart a b o) (nd : (o.map (·.1)).Nodup) : a ≠ b := by
  induction h with
  | left h => rw [List.map_cons, List.nodup_cons] at nd; intro e; subst e; exact nd.1 (List.mem_map_of_mem (f := (·.1)) h)
  | right h => rw [List.map_cons, List.nodup_cons] at nd; intro e; subst e; exact nd.1 (List.mem_map_of_mem (f := (·.1)) h)
  | tail _ ih => rw [List.map_cons, List.nodup_cons] at nd; exact ih nd.2
-- parameters
theorem J_eq {α : Type} {t : Sem α} {a : α} {Q : α → Own → Array GenState → Prop} (e : t = pure a) (h : Q a own gs) : J prog w B A t own gs Q := by rw [e]; exact J_pure h
theorem Bind_dflt {fd : FuncData} {args : Args} {T : Addr} {o : Obj} {items : Array Value} {n : Nat} {k : Option (Array Value) → Sem (List (Str × Value))} {Q : List (Str × Value) → Own → Array GenState → Prop} (TB : TopB K p loose mg mb B)
    (ho : K.lookup T = some o) (hs : o.data = .seq items n) (h₁ : bindArgs fd args = seqItems? (.ref T) >>= k) (h : J prog w B A (k (some items)) own gs Q) : J prog w B A (bindArgs fd args) own gs Q := fun s R => by
  rw [h₁]
  exact wpAny_bind (wpAny_seqItems ((TB _ R.b).1 _ _ ho) hs (h _ R))
theorem Bind_kw {T : Addr} {x : Str} {v : Option Value} {α : Type} {k : Option Value → Sem α} {Q : α → Own → Array GenState → Prop} (TB : TopB K p loose mg mb B)
    (e : nsIn K T x = some v) (h : J prog w B A (k v) own gs Q) : J prog w B A (nsGet T x >>= k) own gs Q := fun s R =>
  wpAny_bind (looks_nsIn (TB _ R.b).1 e _ _ _ _ (fun _ _ e => e) (h _ R))
theorem Bind_dict {α : Type} {k : Addr → Sem α} {Q : α → Own → Array GenState → Prop}
    (h : ∀ d, J prog w B A (k d) ((d, AEmpty) :: own) gs Q) : J prog w B A (alloc { cls := .type "dict", data := .dict #[] } >>= k) own gs Q :=
  J_bind (J_alloc (p := AEmpty) rfl AEmpty.fresh h)

-- statements
theorem JF_AssignAttr {o value : Expr} {attr : Str} {pos' pos : Pos} {Q : QF}
    (h : JV prog w B A (eval value env) own gs fun v o' g => JV prog w B A (eval o env) o' g fun a o' g => SetAttrJ prog w B A a attr v o' g (Q .next))
    (hs : swapsWith value (some (.Attribute o attr pos')) pos.line env = pure false := by rfl) : JF prog w B A (exec (.Assign [.Attribute o attr pos'] value pos) env) own gs Q := fun s R => by
  rw [plainObj_exec_Assign_Attribute _ _ _ _ _ hs]
  refine wpAny_bind (wpAny_standAt (wpAny_bind (J.any h R fun v _ o g R' h' => ?_)))
  rw [assign_Attribute]
  refine wpAny_bind (wpAny_bind (wpAny_holding (J.any h' R' fun a _ o g R' h' => ?_)))
  refine wpAny_bind (wpAny_standAt (wpAny_bind (wpAny_holding (J.any (h' _ _ rfl rfl) R' fun _ s' o g R' h' => ?_))))
  exact fun Γ p _ => by rw [Sem.wp_release]; exact wpAny_pure ⟨o, g, R', h'⟩
theorem JF_Try {body orelse : List Stmt} {h₀ : ExceptHandler} {hs : List ExceptHandler} {pos : Pos} {Q : QF}
    (h : JF prog w B A (execs body env) own gs fun f o g => match f with | .next => JF prog w B A (execs orelse env) o g Q | f => Q f o g) :
    JF prog w B A (exec (.Try body (h₀ :: hs) orelse [] pos) env) own gs Q := fun s R =>
  wpAny_Try_except (wpAny_mono (h s R) (fun f s₁ ⟨o, g, R', h'⟩ => by
    cases f with
    | next => exact h' _ R'
    | _ => exact ⟨o, g, R', h'⟩) fun _ _ x => x.elim)

-- displays
theorem JV_Dict0 {pos : Pos} {Q : QV} (h : ∀ d, Q (.ref d) ((d, AEmpty) :: own) gs) : JV prog w B A (eval (.Dict [] [] pos) env) own gs Q := fun s R =>
  wpAny_Dict_empty (by first | exact ⟨_, gs, R.push (p := AEmpty) rfl AEmpty.fresh _, h _⟩ | (trace_state; exact fun _ => ⟨_, gs, R.push (p := AEmpty) rfl AEmpty.fresh _, h _⟩))

-- methods
theorem Call_update0 (T : TopB K p loose mg mb B) {d o : Addr} {Q : QV} (hd : (d, AEmpty) ∈ own) (ho : (o, AEmpty) ∈ own) (hap : Apart d o own) (h : Q .none own gs) : CallJ prog w B A (.builtin "dict.update") [.ref d, .ref o] own gs Q := by
  intro us hus s R
  obtain ⟨a, b, rfl, h1, h2⟩ := er2 hus
  rw [er_eq_ref h1, er_eq_ref h2]
  obtain ⟨od, hod, x⟩ := R.o _ _ hd
  obtain ⟨oo, hoo, y⟩ := R.o _ _ ho
  have hne := hap.ne R.nd
  refine call_meetsIn F.slot_dict_update ⟨_, hod, x.1.1⟩ F.entry_dict_update (F.args_dict_update_2 _ _) (meets_dict_update (intKind prog w) d o hne (y.not_sys hoo (T _ R.b).2.2)) ?_
  refine ⟨[], [], x.dictOf _ hod, y.dictOf _ hoo, by simp, fun h' hd' _ hs => ⟨own, gs, R.keep (tk := s.toks) hd hs.extBut ?_, h⟩⟩
  exact AEmpty.of hd'
theorem Call_popDflt (T : TopB K p loose mg mb B) {d : Addr} {x : Str} {v : Value} {Q : QV} (hd : (d, AEmpty) ∈ own) (h : Q v own gs) : CallJ prog w B A (.builtin "dict.pop") [.ref d, .str x 0, v] own gs Q := by
  intro us hus s R
  obtain ⟨a, b, c, rfl, h1, h2, h3⟩ := er3 hus
  rw [er_eq_ref h1]
  obtain ⟨t, rfl⟩ := er_eq_str h2
  obtain ⟨od, hod, y⟩ := R.o _ _ hd
  refine call_meetsIn F.slot_dict_pop ⟨_, hod, y.1.1⟩ F.entry_dict_pop (F.args_dict_pop_3 _ _ _) (meets_dict_pop_default (strKind prog w) d (strKind_is prog w x t) (y.not_sys hod (T _ R.b).2.2) rfl c) ?_
  exact ⟨[], y.dictOf _ hod, rfl, own, gs, R.toks _, by show Q (er c) own gs; rw [h3]; exact h⟩
theorem Call_getInt (T : TopB K p loose mg mb B) {d : Addr} {kvs : List (Int × Value)} {ep : Nat} {k : Int} {v : Value} {Q : QV} (hd : Has B own d (ADict prog w kvs ep)) (h : Q ((valueAt kvs k).getD v) own gs) : CallJ prog w B A (.builtin "dict.get") [.ref d, iv k, v] own gs Q := by
  intro us hus s R
  obtain ⟨a, b, c, rfl, h1, h2, h3⟩ := er3 hus
  rw [er_eq_ref h1]
  obtain ⟨t, rfl⟩ := er_eq_int h2
  obtain ⟨o, ho, hp⟩ := R.get hd
  have hsys := hp.not_sys ho (T _ R.b).2.2
  obtain ⟨kvs', hD, rfl⟩ := ADict.at ho hp
  refine call_meetsIn F.slot_dict_get hD.dictOf.typeIs F.entry_dict_get (F.args_dict_get_3 _ _ _) (meets_dict_get_default (intKind prog w) d (intKind_is prog w k t) hsys c) ?_
  refine ⟨_, hD.dictOf.mapOf, own, gs, R.toks _, ?_⟩
  show Q (er _) own gs
  rw [valueAt_er] at h
  subst h3
  cases q : valueAt kvs' k with
  | none => rw [q] at h; exact h
  | some y => rw [q] at h; exact h
theorem Call_getVars {d : Addr} {kvs : List (Str × Value)} {x : Str} {v : Value} {Q : QV} (hd : (d, AVars prog w kvs) ∈ own) (hs : (d == sysModules) = false) (h : Q ((valueAt kvs x).getD v) own gs) : CallJ prog w B A (.builtin "dict.get") [.ref d, .str x 0, v] own gs Q := by
  intro us hus s R
  obtain ⟨a, b, c, rfl, h1, h2, h3⟩ := er3 hus
  rw [er_eq_ref h1]
  obtain ⟨t, rfl⟩ := er_eq_str h2
  obtain ⟨o, ho, kvs', es, ep, hc, hdat, hk, hp, hn, rfl⟩ := R.o _ _ hd
  have hT : s.TypeIs (.ref d) "dict" := ⟨o, ho, hc.1⟩
  refine wpAny_call_entry F.slot_dict_get hT F.entry_dict_get ?_ (F.args_dict_get_3 _ _ _)
  show wpAny _ _ (dictGet d (.str x t) >>= _) _ _ s
  refine wpAny_bind ?_
  unfold dictGet
  try with_reducible refine wpAny_holding ?_
  refine wpAny_bind ((strKind prog w).pyHash (strKind_is prog w x t) (wpAny_bind (wpAny_dictFind_of (s := { s with toks := s.toks + 1 }) (strKind_is prog w x t) ho hdat hk ?_)))
  have hf := hp.find x
  have hidx : (es.findIdx? fun e => (strKind prog w).is x e.key) = es.toList.findIdx? fun e => (strKind prog w).is x e.key := by cases es; simp
  rw [valueAt_erS] at h
  cases hi : es.findIdx? fun e => (strKind prog w).is x e.key with
  | none =>
    have hv : valueAt kvs' x = none := by
      rw [← hf, Option.map_eq_none_iff, List.find?_eq_none]
      rw [hidx] at hi
      rw [List.findIdx?_eq_none_iff] at hi
      intro e he
      rw [hi e he]; decide
    rw [hv] at h
    refine wpAny_pure ?_
    show wpAny _ _ (Builtin.Dict.missed d (.str x t) >>= _) _ _ _
    exact wpAny_bind (wpAny_missed_other hs (wpAny_pure ⟨c, rfl, own, gs, R.toks _, by show Q (er c) own gs; rw [h3]; exact h⟩))
  | some i =>
    rw [hidx] at hi
    obtain ⟨e, he, _, hv⟩ := hp.at hi
    rw [hv] at h
    refine wpAny_bind (wpAny_dictEntries (s := { s with toks := s.toks + 1 }) ho hdat (wpAny_pure ?_))
    have he' : es[i]? = some e := by rw [← Array.getElem?_toList]; exact he
    rw [he']
    exact wpAny_pure ⟨e.val, rfl, own, gs, R.toks _, h⟩
theorem Set_vars {d : Addr} {kvs kvs₂ : List (Str × Value)} {x : Str} {v : Value} {own' : Own} {Q : QU} (hd : Upd d (AVars prog w kvs) (AVars prog w kvs₂) own own') (h : Q own' gs) (e₂ : stored kvs x v = kvs₂) (hl : kvs.length ≤ 1000) :
    SetJ prog w B A (.ref d) (.str x 0) v own gs Q := by
  intro a b c ha hb hc s R
  subst hc e₂
  rw [er_eq_ref ha]
  obtain ⟨t, rfl⟩ := er_eq_str hb
  obtain ⟨o, ho, kvs', es, ep, hcd, hdat, hk, hp, hn, rfl⟩ := R.o _ _ hd.mem
  have hT : s.TypeIs (.ref d) "dict" := ⟨o, ho, hcd.1⟩
  have hkey := strKind_is prog w x t
  have hes : es.size ≤ sizeLine := by
    have e1 := hp.length
    simp only [Array.length_toList, List.length_map] at e1 hl
    rw [sizeLine_eq]; omega
  unfold setItem
  try with_reducible refine wpAny_holding ?_
  refine wpAny_bind (wpAny_sequenceKey hT (by decide) ?_)
  refine wpAny_bind (wpAny_callSpecial?_slot (name := Str.ofString "__setitem__") hT F.slot_dict_setitem
    (wpAny_call_entry F.slot_dict_setitem hT F.entry_dict_setitem ?_ (F.args_dict_setitem_3 _ _ _)))
  show wpAny _ _ (Builtin.Dict.notOrdered "__setitem__" ⟨[.ref d, .str x t, c], []⟩ >>= _) _ _ s
  refine wpAny_bind (wpAny_notOrdered_dict hT ?_)
  show wpAny _ _ (dictSet d (.str x t) c >>= _) _ _ s
  refine wpAny_bind ?_
  unfold dictSet
  try with_reducible refine wpAny_holding ?_
  refine wpAny_bind ((strKind prog w).pyHash hkey ?_)
  unfold dictSetHashed
  try with_reducible refine wpAny_holding ?_
  refine wpAny_bind (wpAny_dictFind_of (s := { s with toks := s.toks + 1 }) hkey ho hdat hk ?_)
  have hidx : (es.findIdx? fun e => (strKind prog w).is x e.key) = kvs'.findIdx? fun kv => decide (kv.1 = x) := by
    rw [← hp.findIdx x]; cases es; simp
  have fin : ∀ h' tk, (∃ o' es' ep', h'.get? d = some o' ∧ (o'.cls = .type "dict" ∧ o'.dict = none) ∧ o'.data = .dict es' ep' ∧ KeysOf (strKind prog w) es' ∧ Pairs (strKind prog w) es'.toList (stored kvs' x c) ∧ ((stored kvs' x c).map (·.1)).Nodup) →
      Heap.SameBut d s.heap h' → wpAny (model prog w) A (pure ()) (fun _ s' => ∃ own' gs', Rep B own' gs' s' ∧ Q own' gs') (fun _ _ => False) { s with heap := h', toks := tk } := by
    rintro h' tk ⟨o', es', ep', g1, g2, g3, g4, g5, g6⟩ hsb
    refine wpAny_pure ⟨own', gs, R.upd hd hsb.extBut ⟨o', g1, ?_⟩, h⟩
    rw [← stored_erS]
    exact ⟨_, es', ep', g2, g3, g4, g5, g6, rfl⟩
  have hc1 : ∀ f, (o.mapDict f).cls = o.cls ∧ (o.mapDict f).dict = o.dict := fun f => by obtain ⟨c, dd, dt, sl⟩ := o; cases dt <;> exact ⟨rfl, rfl⟩
  have hc2 : ∀ f, (o.mapDictKeys f).cls = o.cls ∧ (o.mapDictKeys f).dict = o.dict := fun f => by obtain ⟨c, dd, dt, sl⟩ := o; cases dt <;> exact ⟨rfl, rfl⟩
  cases hi : es.findIdx? fun e => (strKind prog w).is x e.key with
  | some i =>
    refine wpAny_bind (wpAny_rule (wpAny_bind (wpAny_updateDict (s := { s with toks := s.toks + 1 }) ho hdat (wpAny_point (wpAny_pure ⟨.none, rfl, fin _ _ ⟨_, _, ep, Heap.get?_update_self _ ho (Obj.isFreed_of_dict (Obj.data_mapDict hdat _)),
      ⟨(hc1 _).1.trans hcd.1, (hc1 _).2.trans hcd.2⟩, Obj.data_mapDict hdat _, hk.modify _ _, ?_, ?_⟩ (Heap.SameBut.update ..)⟩)))))
    · rw [stored, if_pos (any_of_findIdx_some (hidx ▸ hi))]
      have hl : (es.toList.findIdx? fun e => (strKind prog w).is x e.key) = some i := by rw [← hi]; obtain ⟨l⟩ := es; simp
      have := hp.modify hn hl c
      obtain ⟨l⟩ := es
      simpa using this
    · rw [stored, if_pos (any_of_findIdx_some (hidx ▸ hi)), keys_map_store]; exact hn
  | none =>
    have hnot : x ∉ kvs'.map (·.1) := not_mem_of_findIdx_none (hidx ▸ hi)
    have hany : ¬ (kvs'.any fun kv => decide (kv.1 = x)) = true := by
      rw [List.any_eq_true]; rintro ⟨kv, hkv, he⟩
      exact hnot (List.mem_map.mpr ⟨kv, hkv, of_decide_eq_true he⟩)
    refine wpAny_bind (wpAny_rule (wpAny_updateDictKeys (hz := hes) (s := { s with toks := s.toks + 1 }) ho hdat (wpAny_pure ⟨.none, rfl, fin _ _ ⟨_, _, ep + 1, Heap.get?_update_self _ ho (Obj.isFreed_of_dict (Obj.data_mapDictKeys hdat _)),
      ⟨(hc2 _).1.trans hcd.1, (hc2 _).2.trans hcd.2⟩, Obj.data_mapDictKeys hdat _, hk.push hkey _, ?_, ?_⟩ (Heap.SameBut.update ..)⟩)))
    · rw [stored, if_neg hany]
      have := hp.append hkey ((strKind prog w).hash x) c
      obtain ⟨l⟩ := es
      simpa using this
    · rw [stored, if_neg hany, List.map_append, List.nodup_append]
      refine ⟨hn, by simp, ?_⟩
      intro a ha b hb
      simp only [List.map_cons, List.map_nil, List.mem_singleton] at hb
      subst hb
      exact fun e => hnot (e ▸ ha)
/-- a call, as the machine's own code -/
def CodeJ (prog : Program) (w : World) (B : Bs) (A : Around) (f : Value) (args : List Value) (own : Own) (gs : Array GenState) (Q : QV) : Prop :=
  ∀ us, us.map er = args → ∀ s, Rep B own gs s → codeAny (model prog w) A (.call f ⟨us, []⟩) (fun r s' => ∃ v, r = .ok (.ret v) ∧ ∃ own' gs', Rep B own' gs' s' ∧ Q (er v) own' gs') s
theorem CodeJ.call {f : Value} {args : List Value} {Q : QV} (h : CodeJ prog w B A f args own gs Q) : CallJ prog w B A f args own gs Q := fun us hus s R =>
  wpAny_call (codeAny_mono (h us hus s R) fun r s' ⟨v, e, z⟩ => by subst e; exact z)
theorem Code_K {n : Nat} {f : Addr} {fo : Obj} {fd : FuncData} {body : List Stmt} {args : List Value} {Q : QV} (T : TopB K p loose mg mb B) (hA : AOk B A (n + 1))
    (k1 : K.lookup f = some fo) (k2 : fo.data = .func fd) (k3 : fd.body = .stmts body) (k4 : codeIn K fd.code fd.qualname = true)
    (h : ∀ us, us.map er = args → J prog w B A.in1 (bindArgs fd ⟨us, []⟩) own gs fun binds o g => ∀ L, CellsJ fd.scope.names fd.closure ((L, ANs []) :: o) fun cells o =>
      StoresJ prog w B A.in1 (newEnv fd.scope L fd.globals cells (fd.qualname ++ ".<locals>.") (some f) fd.code none fd.builtins) binds o g fun o g => ∀ A', AOk B A' n →
        JF prog w B A' (execs body (newEnv fd.scope L fd.globals cells (fd.qualname ++ ".<locals>.") (some f) fd.code none fd.builtins)) o g
          fun fl o g => ∃ o₂, Sub o₂ o ∧ Q (retOf fl) o₂ g)
    (hco : fd.scope.isCoroutine = false) (hgen : fd.scope.isGenerator = false) : CodeJ prog w B A (.ref f) args own gs Q := by
  intro us hus s R
  have X := (T _ R.b).1
  refine codeAny_call_function hA.depth (X _ _ k1) k2 hco hgen k3 (codeRec_of X k4) ?_
  refine wpAny_mono (Q := fun binds s₁ => wpAny (model prog w) A.in1 (newFunctionEnv fd.scope fd.globals fd.closure binds (fd.qualname ++ ".<locals>.") (some f) fd.code none fd.builtins)
        (fun env s₂ => s₂.heap.NoLimit ∧ codeAny (model prog w) A (.func body env) (fun r s' => ∃ v, r = .ok (.ret v) ∧ ∃ own' gs', Rep B own' gs' s' ∧ Q (er v) own' gs') s₂) (fun _ _ => False) s₁) (E := fun _ _ => False)
    (J.any (h us hus) R fun binds s₁ o g R₁ hJ => ?_) (fun _ _ z => wpAny_mono z (fun _ _ z => z) fun _ _ z => z.elim) fun _ _ z => z.elim
  refine J.any (J_newEnv (Q := fun env o g => JF prog w B (A.deeper env) (execs body env) o g fun fl o g => ∃ o₂, Sub o₂ o ∧ Q (retOf fl) o₂ g) fun L => CellsJ_mono (fun cells o hs => StoresJ_mono (fun o g hq => hq _ (hA.deeper _)) _ _ _ hs) _ _ _ (hJ L)) R₁ fun env s₂ o g R₂ hb => ?_
  refine ⟨limit_of T _ R₂.b, codeAny_func (J.any hb R₂ fun fl s₃ o g R₃ ⟨o₂, hs, hq⟩ => ?_)⟩
  cases fl <;> exact ⟨_, rfl, o₂, g, R₃.sub hs, hq⟩
-- an object is made
theorem Code_make {n : Nat} {C fI : Addr} {Q : QV} (T : TopB K p loose mg mb B) (hA : AOk B A (n + 1)) (hm : makesIn K C = true) (hi : findIn K (.ref C) "__init__" = some (some (.ref fI))) (hf : typeIn K (.ref fI) = some (.type "function"))
    (h : ∀ x dx A', AOk B A' n → CodeJ prog w B A' (.ref fI) [.ref x] ((x, AInst C dx) :: (dx, AVars prog w []) :: own) gs fun v o g => v = .none ∧ Q (.ref x) o g) : CodeJ prog w B A (.ref C) [] own gs Q := by
  intro us hus s R
  rw [er0 hus]
  have X := (T _ R.b).1
  obtain ⟨hh, g, d, t, os⟩ := s
  have R1 := (R.push (o := emptyDict) (p := AVars prog w []) rfl (AEmpty.toVars _ AEmpty.fresh) t).push (o := instObj C hh.objs.size) (p := AInst C hh.objs.size) rfl rfl t
  have hs : (hh.push emptyDict).objs.size = hh.objs.size + 1 := Heap.size_push _ _
  simp only [hs] at R1
  refine make_core (makes_of X hm) (looks_findIn X hi) (fun self => bind_fn X self hf) (.inl rfl) ?_
  have hA' : AOk B (A.under (.builtin "type.__call__" ⟨[.ref C], []⟩)) n :=
    ⟨by have := hA.d; show A.depth + 1 + n < 900; omega, by have := hA.u; show A.units + 1 + 4 * n < 9000; omega, hA.hh⟩
  refine codeAny_mono (h (hh.objs.size + 1) hh.objs.size _ hA' [.ref (hh.objs.size + 1)] rfl _ R1) fun r s' ⟨v, e, o, g, R', e2, hq⟩ => ?_
  subst e
  exact ⟨er_eq_none e2, _, rfl, o, g, R', hq⟩
theorem Keep_cls {f : Addr} (T : TopB K p loose mg mb B) (hk : keepIn K (.ref f) = true) : KeepOk prog w B own (.ref f) := Keep_K T hk
end
end Mine
end
section
set_option maxRecDepth 100000
set_option maxHeartbeats 4000000
open PySem PySem.Calls PyProof.Rows PySem.W PySem.Spec
namespace Mine
example : PySem.Challenge.rw_ci0025_01.prog = PySem.Challenge.rw_ci0025_01.prog ∧ hd.heap_39 = hd.heap_39 := by k_fill; exact ⟨rfl, rfl⟩
local macro_rules | `(tactic| k_mem) => `(tactic| first | apply List.Mem.head | (apply List.Mem.tail; k_mem))
local macro_rules | `(tactic| walk_at "has") => `(tactic| first | (apply Has.own; k_mem) | (apply Has.base; assumption))
local macro_rules | `(tactic| walk_at "upd") => `(tactic| first | apply Upd.head | (apply Upd.tail; walk_at "upd"))
local macro_rules | `(tactic| walk_at "setl") => `(tactic| first | apply SetL.nil | apply SetL.here | (apply SetL.next (by rfl); walk_at "setl"))
local macro_rules | `(tactic| walk_at "cells") => `(tactic| repeat' (first | refine Cells_nil ?_ | refine Cells_skip (by decide) ?_ | (refine Cells_cell ?_; intro _)))
local macro_rules | `(tactic| walk_at "pick") => `(tactic| first | apply PickR.head | (apply PickR.tail; walk_at "pick"))
local macro_rules | `(tactic| walk_at "weak") => `(tactic| first | exact fun _ h => h | (refine ANs.sub ?_; repeat' (first | exact List.forall_mem_nil _ | refine List.forall_mem_cons.mpr ⟨rfl, ?_⟩)))
local macro_rules | `(tactic| walk_at "subt") => `(tactic| first | exact Sub.refl _ | (refine Sub.skip ?_; walk_at "subt"))
local macro_rules | `(tactic| walk_at "sub") => `(tactic| first | apply Sub.nil | (refine' Sub.pick ?hp ?hw ?_; (case hp => walk_at "pick"); (case hw => walk_at "weak"); walk_at "sub") | walk_at "subt")
local macro_rules | `(tactic| walk_at "store") => `(tactic| first | (refine' Store_local ?hu ?hs ?_; (case hu => walk_at "upd"); (case hs => walk_at "setl")))

local macro_rules | `(tactic| walk_at "name") => `(tactic| first
  | (refine' JV_local ?hn ?hv ?_; (case hn => walk_at "has"); (case hv => rfl))
  | (refine' JV_cell ?hc ?hn ?_; (case hc => rfl); (case hn => walk_at "has"))
  | (refine' JV_free ?hc ?hn ?_; (case hc => rfl); (case hn => walk_at "has")))
local macro_rules | `(tactic| walk_at "js") => `(tactic| first
  | with_reducible refine JF_cons ?_
  | with_reducible refine JF_nil ?_
  | refine JF_Assign ?_
  | with_reducible refine JF_If ?_
  | with_reducible refine JF_Return ?_
  | refine JF_Expr ?_
  | with_reducible refine JV_int ?_
  | with_reducible refine JV_bool ?_
  | with_reducible refine JV_none ?_
  | with_reducible refine JV_str ?_
  | with_reducible refine JV_BinOp ?_
  | refine JV_Compare ?_
  | with_reducible refine JV_IfExp ?_
  | refine Test_cmp ?_
  | with_reducible refine Test_not ?_
  | with_reducible refine Test_and ?_
  | with_reducible refine Test_and_nil ?_
  | with_reducible refine Test_or ?_
  | with_reducible refine Test_or_nil ?_
  | with_reducible refine Tru_bool ?_
  | refine JV_List ?_
  | refine JV_Tuple ?_
  | with_reducible refine Args_nil ?_
  | refine Args_cons ?_
  | with_reducible refine Bin_add ?_
  | with_reducible refine Cmp_eq ?_
  | with_reducible refine Cmp_ne ?_
  | with_reducible refine Cmp_lt ?_
  | with_reducible refine Cmp_le ?_
  | with_reducible refine Cmp_gt ?_
  | with_reducible refine Cmp_ge ?_
  | walk_at "name"
  | walk_at "store")
local macro_rules | `(tactic| walk_at "inst") => `(tactic| (refine' Inst.mk ?ix ?id; (case ix => walk_at "has"); (case id => walk_at "has")))
local macro_rules | `(tactic| walk_at "kfun") => `(tactic| (refine' Call_K (by assumption) (by assumption) ?k1 ?k2 ?k3 ?k4 ?_ ?k5 ?k6; (case k1 => k_is); (case k2 => rfl); (case k3 => rfl); (case k4 => k_is); (case k5 => rfl); (case k6 => rfl)))
local macro_rules | `(tactic| walk_at "kcode") => `(tactic| (refine' Code_K (by assumption) (by assumption) ?k1 ?k2 ?k3 ?k4 ?_ ?k5 ?k6; (case k1 => k_is); (case k2 => rfl); (case k3 => rfl); (case k4 => k_is); (case k5 => rfl); (case k6 => rfl)))
local macro_rules | `(tactic| walk_at "methk") => `(tactic| (refine' Meth_K (by assumption) ?mi ?mv ?_ ?g1 ?g2 ?g3 ?g4; (case mi => walk_at "inst"); (case mv => rfl); (case g1 => k_is); (case g2 => k_is); (case g3 => k_is); (case g4 => k_is)))
local macro_rules | `(tactic| walk_at "getown") => `(tactic| (refine' Get_own (by assumption) ?mi ?mv ?_ ?g1 ?g2 ?gh; (case mi => walk_at "inst"); (case mv => rfl); (case g1 => k_is); (case g2 => kernel_rfl); (case gh => rfl)))
local macro_rules | `(tactic| walk_at "setown") => `(tactic| (refine' SetAttr_inst (by assumption) ?sx ?sd ?sk ?_ ?se ?sl; (case sx => walk_at "has"); (case sd => walk_at "upd"); (case se => rfl); (case sl => exact Nat.le_of_ble_eq_true rfl); (case sk => kernel_rfl)))
local macro_rules | `(tactic| walk_at "keepk") => `(tactic| (exact Keep_K (by assumption) (by k_is)))
local macro_rules | `(tactic| walk_at "apart") => `(tactic| first | (apply Apart.left; k_mem; done) | (apply Apart.right; k_mem; done) | (apply Apart.tail; walk_at "apart"))

section
variable {prog : Program} {w : World} {B : Bs} {A : Around} {own : Own} {gs : Array GenState} {p : Program} {loose : List Str} {mg mb : Str → Option Value} {Q : QV}
theorem fac_379 (T : TopB (hd.heap_39 w.params) p loose mg mb B) (hA : AOk B A 1) {x : Addr} (h : ∀ d, Q (.ref d) ((d, AEmpty) :: own) gs) : CallJ prog w B A (.ref 379) [.ref x] own gs Q := by
  walk_at "kfun"
  intro us hus
  obtain ⟨u1, rfl, h1⟩ := er1 hus
  refine Bind_eq (by rfl) ?_
  dsimp only
  intro L
  walk_at "cells"
  dsimp only [newEnv]
  refine Stores_cons h1 ?_
  walk_at "store"
  refine Stores_nil ?_
  intro A1 hA1
  dsimp only
  refine JF_cons (JF_Return (JV_Dict0 fun d => ?_))
  exact ⟨_, Sub.keep (Sub.skip (Sub.refl _)), h d⟩
theorem fac_386 (T : TopB (hd.heap_39 w.params) p loose mg mb B) (hA : AOk B A 1) {x : Addr} (h : ∀ d, Q (.ref d) ((d, AEmpty) :: own) gs) : CallJ prog w B A (.ref 386) [.ref x] own gs Q := by
  walk_at "kfun"
  intro us hus
  obtain ⟨u1, rfl, h1⟩ := er1 hus
  refine Bind_eq (by rfl) ?_
  dsimp only
  intro L
  walk_at "cells"
  dsimp only [newEnv]
  refine Stores_cons h1 ?_
  walk_at "store"
  refine Stores_nil ?_
  intro A1 hA1
  dsimp only
  refine JF_cons (JF_Return (JV_Dict0 fun d => ?_))
  exact ⟨_, Sub.keep (Sub.skip (Sub.refl _)), h d⟩
theorem fac_393 (T : TopB (hd.heap_39 w.params) p loose mg mb B) (hA : AOk B A 1) {x : Addr} (h : ∀ d, Q (.ref d) ((d, AEmpty) :: own) gs) : CallJ prog w B A (.ref 393) [.ref x] own gs Q := by
  walk_at "kfun"
  intro us hus
  obtain ⟨u1, rfl, h1⟩ := er1 hus
  refine Bind_eq (by rfl) ?_
  dsimp only
  intro L
  walk_at "cells"
  dsimp only [newEnv]
  refine Stores_cons h1 ?_
  walk_at "store"
  refine Stores_nil ?_
  intro A1 hA1
  dsimp only
  refine JF_cons (JF_Return (JV_Dict0 fun d => ?_))
  exact ⟨_, Sub.keep (Sub.skip (Sub.refl _)), h d⟩
theorem fac_400 (T : TopB (hd.heap_39 w.params) p loose mg mb B) (hA : AOk B A 1) {x : Addr} (h : ∀ d, Q (.ref d) ((d, AEmpty) :: own) gs) : CallJ prog w B A (.ref 400) [.ref x] own gs Q := by
  walk_at "kfun"
  intro us hus
  obtain ⟨u1, rfl, h1⟩ := er1 hus
  refine Bind_eq (by rfl) ?_
  dsimp only
  intro L
  walk_at "cells"
  dsimp only [newEnv]
  refine Stores_cons h1 ?_
  walk_at "store"
  refine Stores_nil ?_
  intro A1 hA1
  dsimp only
  refine JF_cons (JF_Return (JV_Dict0 fun d => ?_))
  exact ⟨_, Sub.keep (Sub.skip (Sub.refl _)), h d⟩
theorem fac_407 (T : TopB (hd.heap_39 w.params) p loose mg mb B) (hA : AOk B A 1) {x : Addr} (h : ∀ d, Q (.ref d) ((d, AEmpty) :: own) gs) : CallJ prog w B A (.ref 407) [.ref x] own gs Q := by
  walk_at "kfun"
  intro us hus
  obtain ⟨u1, rfl, h1⟩ := er1 hus
  refine Bind_eq (by rfl) ?_
  dsimp only
  intro L
  walk_at "cells"
  dsimp only [newEnv]
  refine Stores_cons h1 ?_
  walk_at "store"
  refine Stores_nil ?_
  intro A1 hA1
  dsimp only
  refine JF_cons (JF_Return (JV_Dict0 fun d => ?_))
  exact ⟨_, Sub.keep (Sub.skip (Sub.refl _)), h d⟩
theorem fac_414 (T : TopB (hd.heap_39 w.params) p loose mg mb B) (hA : AOk B A 1) {x : Addr} (h : ∀ d, Q (.ref d) ((d, AEmpty) :: own) gs) : CallJ prog w B A (.ref 414) [.ref x] own gs Q := by
  walk_at "kfun"
  intro us hus
  obtain ⟨u1, rfl, h1⟩ := er1 hus
  refine Bind_eq (by rfl) ?_
  dsimp only
  intro L
  walk_at "cells"
  dsimp only [newEnv]
  refine Stores_cons h1 ?_
  walk_at "store"
  refine Stores_nil ?_
  intro A1 hA1
  dsimp only
  refine JF_cons (JF_Return (JV_Dict0 fun d => ?_))
  exact ⟨_, Sub.keep (Sub.skip (Sub.refl _)), h d⟩

theorem init_spec (T : TopB (hd.heap_39 w.params) p loose mg mb B) (hA : AOk B A 3) {x dx : Addr} 
  (h : ∀ gr nd su pr, Q .none ((x, AInst 873 dx) :: (dx, AVars prog w [("graph", .ref gr), ("_node", .ref nd), ("_adj", .ref su), ("_succ", .ref su), ("_pred", .ref pr)]) :: (gr, AEmpty) :: (nd, AEmpty) :: (su, AEmpty) :: (pr, AEmpty) :: own) gs) : CodeJ prog w B A (.ref 688) [.ref x] ((x, AInst 873 dx) :: (dx, AVars prog w []) :: own) gs Q := by
  walk_at "kcode"
  intro us hus
  obtain ⟨u1, rfl, h1⟩ := er1 hus
  refine Bind_dflt T (T := 681) (by k_is) (by rfl) (by rfl) ?_
  refine Bind_dict fun da => ?_
  refine J_eq (by rfl) ?_
  dsimp only
  intro L
  walk_at "cells"
  dsimp only [newEnv]
  refine Stores_cons h1 ?_
  walk_at "store"
  refine Stores_cons (x := .none) rfl ?_
  walk_at "store"
  refine Stores_cons (x := .ref da) rfl ?_
  walk_at "store"
  refine Stores_nil ?_
  intro A1 hA1
  dsimp only
  refine JF_cons (JF_AssignAttr (JV_MCall ?_))
  walk_at "name"
  walk_at "methk"
  refine Args_nil ⟨by walk_at "keepk", ?_⟩
  refine fac_414 T (hA1.less) fun gr => ?_
  walk_at "name"
  walk_at "setown"
  refine JF_cons (JF_AssignAttr (JV_MCall ?_))
  walk_at "name"
  walk_at "methk"
  refine Args_nil ⟨by walk_at "keepk", ?_⟩
  refine fac_379 T (hA1.less) fun nd => ?_
  walk_at "name"
  walk_at "setown"
  refine JF_cons (JF_AssignAttr (JV_MCall ?_))
  walk_at "name"
  walk_at "methk"
  refine Args_nil ⟨by walk_at "keepk", ?_⟩
  refine fac_393 T (hA1.less) fun su => ?_
  walk_at "name"
  walk_at "setown"
  refine JF_cons (JF_AssignAttr (JV_Attr ?_))
  walk_at "name"
  walk_at "getown"
  walk_at "name"
  walk_at "setown"
  refine JF_cons (JF_AssignAttr (JV_MCall ?_))
  walk_at "name"
  walk_at "methk"
  refine Args_nil ⟨by walk_at "keepk", ?_⟩
  refine fac_393 T (hA1.less) fun pr => ?_
  walk_at "name"
  walk_at "setown"
  -- attr.pop('backend', None)
  refine JF_cons (JF_Expr (JV_MCall ?_))
  walk_at "name"
  refine Meth_builtin F.plainAttrs_dict F.slot_dict_pop F.type_dict_pop ⟨da, AEmpty, rfl, by walk_at "has", fun ob h => ⟨h.1.1, h.1.2.1⟩⟩ ?_
  refine Args_cons (JV_str ?_)
  refine Args_cons (JV_none ?_)
  refine Args_nil ⟨Keep_builtin, ?_⟩
  refine Call_popDflt T (by k_mem) ?_
  -- self.graph.update(attr)
  refine JF_cons (JF_Expr (JV_MCall (JV_Attr ?_)))
  walk_at "name"
  walk_at "getown"
  refine Meth_builtin F.plainAttrs_dict F.slot_dict_update F.type_dict_update ⟨gr, AEmpty, rfl, by walk_at "has", fun ob h => ⟨h.1.1, h.1.2.1⟩⟩ ?_
  refine Args_cons ?_
  walk_at "name"
  refine Args_nil ⟨Keep_builtin, ?_⟩
  refine Call_update0 T (by k_mem) (by k_mem) (by walk_at "apart") ?_
  refine JF_nil ⟨_, ?_, h gr nd su pr⟩
  walk_at "sub"
end
end Mine
end
section
set_option maxRecDepth 100000
open PySem PySem.Calls PyProof.Rows PySem.W PySem.Spec
namespace Mine
section
variable {prog : Program} {w : World} {B : Bs} {A : Around} {own : Own} {gs : Array GenState} {env : Env}
variable {K : Frag} {p : Program} {loose : List Str} {mg mb : Str → Option Value}
/-- a dict keyed by ints, whatever its epoch -/
def AD (prog : Program) (w : World) (kvs : List (Int × Value)) : Pd := fun o => ∃ ep, ADict prog w kvs ep o
theorem AEmpty.toAD : ∀ o, AEmpty o → AD prog w [] o := fun o h => AEmpty.toInt o h
theorem AD.exact {kvs : List (Int × Value)} : ∀ o, AD prog w kvs o → o.cls = .type "dict" ∧ o.dict = none := fun o ⟨ep, kvs', es, h1, _⟩ => ⟨h1.1, h1.2.1⟩
theorem Upd.trans {a : Addr} {p q r : Pd} {o o' o'' : Own} (x : Upd a p q o o') (y : Upd a q r o' o'') (nd : (o.map (·.1)).Nodup) : Upd a p r o o'' := by
  induction x generalizing o'' with
  | head t =>
    cases y with
    | head => exact .head _
    | tail _ y => rw [List.map_cons, List.nodup_cons] at nd; exact absurd y.mem_key nd.1
  | tail z x ih =>
    rw [List.map_cons, List.nodup_cons] at nd
    cases y with
    | head => exact absurd x.mem_key nd.1
    | tail _ y => exact .tail _ (ih y nd.2)
/-- opens what is said of one own object -/
theorem J_open {α : Type} {t : Sem α} {Q : α → Own → Array GenState → Prop} {d : Addr} {ι : Type} {f : ι → Pd} {p₀ : Pd} (hp : ∀ o, p₀ o → ∃ i, f i o) (hd : (d, p₀) ∈ own) (h : ∀ i own', Upd d p₀ (f i) own own' → J prog w B A t own' gs Q) : J prog w B A t own gs Q := fun s R => by
  obtain ⟨o, ho, h0⟩ := R.o _ _ hd
  obtain ⟨i, hi⟩ := hp o h0
  have mk : ∀ {own : Own}, (d, p₀) ∈ own → ∃ own', Upd d p₀ (f i) own own' := by
    intro own hm
    induction hm with
    | head r => exact ⟨_, .head _⟩
    | tail x _ ih => obtain ⟨o', u⟩ := ih; exact ⟨_, .tail _ u⟩
  obtain ⟨own', u⟩ := mk hd
  have R' := R.upd (h' := s.heap) (tk := s.toks) u (fun _ _ _ e => e) ⟨o, ho, hi⟩
  exact h i own' u s R'
theorem Item_AD {value slice : Expr} {d : Addr} {kvs : List (Int × Value)} {k : Int} {x : Value} {Q : QV} (hd : Has B own d (AD prog w kvs)) (hx : valueAt kvs k = some x) (h : Q x own gs)
    (hs : ∀ o i, subscripted slice false o i = operate [o, i] (getItem o i) := by intro _ _; with_unfolding_all rfl) : ItemJ prog w B A value slice (.ref d) (iv k) own gs Q := by
  intro u v hu hv s R
  rw [er_eq_ref hu]
  obtain ⟨t, rfl⟩ := er_eq_int hv
  obtain ⟨o, ho, ep, hp⟩ := R.get hd
  obtain ⟨kvs', hD, rfl⟩ := ADict.at ho hp
  rw [valueAt_er, Option.map_eq_some_iff] at hx
  obtain ⟨y, hy, rfl⟩ := hx
  exact tail_any hD.dictOf.typeIs F.slot_dict_getitem.lookup (wpAny_getItem_of (intKind_is prog w k t) hD.dictOf.mapOf hy ⟨own, gs, R.toks _, h⟩) (hs _ _)
theorem Cmp_inAD (T : TopB K p loose mg mb B) {d : Addr} {kvs : List (Int × Value)} {k : Int} {Q : QV} (hd : Has B own d (AD prog w kvs)) (h : Q (.bool (valueAt kvs k).isSome) own gs) : CmpJ prog w B A .In (iv k) (.ref d) own gs Q := by
  intro u v hu hv s R
  obtain ⟨t, rfl⟩ := er_eq_int hu
  rw [er_eq_ref hv]
  obtain ⟨o, ho, ep, hp⟩ := R.get hd
  have hsys := hp.not_sys ho (T _ R.b).2.2
  obtain ⟨kvs', hD, rfl⟩ := ADict.at ho hp
  refine wpAny_in_of (intKind_is prog w k t) hsys hD.dictOf.mapOf ⟨own, gs, R.toks _, ?_⟩
  rw [valueAt_er] at h
  simpa using h
theorem Cmp_notInAD (T : TopB K p loose mg mb B) {d : Addr} {kvs : List (Int × Value)} {k : Int} {Q : QV} (hd : Has B own d (AD prog w kvs)) (h : Q (.bool (!(valueAt kvs k).isSome)) own gs) : CmpJ prog w B A .NotIn (iv k) (.ref d) own gs Q := by
  intro u v hu hv s R
  obtain ⟨t, rfl⟩ := er_eq_int hu
  rw [er_eq_ref hv]
  obtain ⟨o, ho, ep, hp⟩ := R.get hd
  have hsys := hp.not_sys ho (T _ R.b).2.2
  obtain ⟨kvs', hD, rfl⟩ := ADict.at ho hp
  refine wpAny_notIn_of (intKind_is prog w k t) hsys hD.dictOf.mapOf ?_
  rw [valueAt_er] at h
  refine ⟨own, gs, R.toks _, ?_⟩
  simpa using h
theorem Set_AD {d : Addr} {kvs : List (Int × Value)} {k : Int} {v : Value} {own' : Own} {Q : QU} (hu : Upd d (AD prog w kvs) (AD prog w (stored kvs k v)) own own') (hs : kvs.length ≤ 1000000) (h : Q own' gs) : SetJ prog w B A (.ref d) (iv k) v own gs Q := by
  intro a b c ha hb hc s R
  subst hc
  rw [er_eq_ref ha]
  obtain ⟨t, rfl⟩ := er_eq_int hb
  obtain ⟨o, ho, ep, hp⟩ := R.o _ _ hu.mem
  obtain ⟨kvs', hD, rfl⟩ := ADict.at ho hp
  refine wpAny_setItem_pairs (intKind_is prog w k t) hD.dictOf (fun h' hd' hsb => ?_) (Nat.le_trans (by simpa using hs) (by decide))
  obtain ⟨ep', o', ho', hp'⟩ := ADict.of hd'
  rw [stored_er] at hp'
  exact ⟨own', gs, R.upd hu hsb.extBut ⟨o', ho', ep', hp'⟩, h⟩
theorem Call_getAD (T : TopB K p loose mg mb B) {d : Addr} {kvs : List (Int × Value)} {k : Int} {v : Value} {Q : QV} (hd : Has B own d (AD prog w kvs)) (h : Q ((valueAt kvs k).getD v) own gs) : CallJ prog w B A (.builtin "dict.get") [.ref d, iv k, v] own gs Q := by
  intro us hus s R
  obtain ⟨a, b, c, rfl, h1, h2, h3⟩ := er3 hus
  rw [er_eq_ref h1]
  obtain ⟨t, rfl⟩ := er_eq_int h2
  obtain ⟨o, ho, ep, hp⟩ := R.get hd
  have hsys := hp.not_sys ho (T _ R.b).2.2
  obtain ⟨kvs', hD, rfl⟩ := ADict.at ho hp
  refine call_meetsIn F.slot_dict_get hD.dictOf.typeIs F.entry_dict_get (F.args_dict_get_3 _ _ _) (meets_dict_get_default (intKind prog w) d (intKind_is prog w k t) hsys c) ?_
  refine ⟨_, hD.dictOf.mapOf, own, gs, R.toks _, ?_⟩
  show Q (er _) own gs
  rw [valueAt_er] at h
  subst h3
  cases q : valueAt kvs' k with
  | none => rw [q] at h; exact h
  | some y => rw [q] at h; exact h

/-- the graph, as the heap holds it -/
structure Gr where
  x : Addr
  dx : Addr
  gr : Addr
  nd : Addr
  su : Addr
  pr : Addr
  more : List (Str × Value)
  names : List Int
  S : Int → Addr
  P : Int → Addr
  N : Int → Addr
  sk : Int → List (Int × Value)
  pk : Int → List (Int × Value)
  junk : List Addr
def Gr.fields (G : Gr) : List (Str × Value) := ("graph", .ref G.gr) :: ("_node", .ref G.nd) :: ("_adj", .ref G.su) :: ("_succ", .ref G.su) :: ("_pred", .ref G.pr) :: G.more
def Gr.outer (l : List Int) (f : Int → Addr) : List (Int × Value) := l.map fun n => (n, .ref (f n))
def innerOwn (prog : Program) (w : World) (l : List Int) (f : Int → Addr) (k : Int → List (Int × Value)) : Own := l.map fun n => (f n, AD prog w (k n))
def junkOwn (l : List Addr) : Own := l.map fun a => (a, AEmpty)
def Gr.tail (prog : Program) (w : World) (G : Gr) : Own := innerOwn prog w G.names G.S G.sk ++ (innerOwn prog w G.names G.P G.pk ++ junkOwn G.junk)
def Gr.res (C : Addr) (prog : Program) (w : World) (G : Gr) : Own :=
  (G.x, AInst C G.dx) :: (G.dx, AVars prog w G.fields) :: (G.gr, AEmpty) :: (G.nd, AD prog w (Gr.outer G.names G.N)) :: (G.su, AD prog w (Gr.outer G.names G.S)) :: (G.pr, AD prog w (Gr.outer G.names G.P)) :: G.tail prog w
structure Gr.Ok (G : Gr) : Prop where
  nd : G.names.Nodup
  N : ∀ n ∈ G.names, G.N n ∈ G.junk
  sk : ∀ n ∈ G.names, ∀ e ∈ G.sk n, e.1 ∈ G.names ∧ ∃ a, e.2 = .ref a ∧ a ∈ G.junk
  sn : ∀ n ∈ G.names, ((G.sk n).map (·.1)).Nodup
  pn : ∀ n ∈ G.names, ((G.pk n).map (·.1)).Nodup
  ps : ∀ n ∈ G.names, ∀ m, m ∈ (G.pk n).map (·.1) ↔ m ∈ G.names ∧ n ∈ (G.sk m).map (·.1)
  len : G.names.length ≤ 1000
  mo : G.more.all (fun e => e.1 == "pred" || e.1 == "adj") = true
theorem Gr.Ok.lenS {G : Gr} (h : G.Ok) {n : Int} (hn : n ∈ G.names) : (G.sk n).length ≤ 1000 := by
  have := (h.sn n hn).length_le_of_subset (l₂ := G.names) fun y hy => by
    obtain ⟨e, he, rfl⟩ := List.mem_map.mp hy
    exact (h.sk n hn e he).1
  rw [List.length_map] at this
  exact Nat.le_trans this h.len
theorem Gr.Ok.lenP {G : Gr} (h : G.Ok) {n : Int} (hn : n ∈ G.names) : (G.pk n).length ≤ 1000 := by
  have := (h.pn n hn).length_le_of_subset (l₂ := G.names) fun y hy => ((h.ps n hn y).mp hy).1
  rw [List.length_map] at this
  exact Nat.le_trans this h.len
theorem valueAt_outer {l : List Int} {f : Int → Addr} {n : Int} : valueAt (Gr.outer l f) n = if n ∈ l then some (.ref (f n)) else none := by
  unfold valueAt Gr.outer
  induction l with
  | nil => rfl
  | cons a r ih =>
    rw [List.map_cons, List.find?_cons]
    by_cases e : a = n
    · subst e; simp
    · have : decide (a = n) = false := by simpa using e
      rw [this]
      simp only [List.mem_cons, Ne.symm e, false_or]
      exact ih
theorem innerOwn.mem {l : List Int} {f : Int → Addr} {k : Int → List (Int × Value)} {n : Int} (h : n ∈ l) : (f n, AD prog w (k n)) ∈ innerOwn prog w l f k := List.mem_map_of_mem (f := fun n => (f n, AD prog w (k n))) h
theorem innerOwn.upd {f : Int → Addr} {k : Int → List (Int × Value)} {n : Int} {kv : List (Int × Value)} : ∀ {l : List Int}, n ∈ l → l.Nodup →
    Upd (f n) (AD prog w (k n)) (AD prog w kv) (innerOwn prog w l f k) (innerOwn prog w l f fun m => if m = n then kv else k m)
  | a :: r, h, nd => by
    rw [List.nodup_cons] at nd
    unfold innerOwn
    rw [List.map_cons, List.map_cons]
    dsimp only
    by_cases e : a = n
    · subst e
      rw [if_pos rfl]
      have : (r.map fun m => (f m, AD prog w (if m = a then kv else k m))) = r.map fun m => (f m, AD prog w (k m)) := List.map_congr_left fun m hm => by
        have : m ≠ a := fun e => nd.1 (e ▸ hm)
        simp [this]
      rw [this]
      exact .head _
    · rw [if_neg e]
      refine .tail _ (innerOwn.upd (l := r) ?_ nd.2)
      cases h with
      | head => exact absurd rfl e
      | tail _ h => exact h
theorem Upd.appL {a : Addr} {p q : Pd} {o o' r : Own} (h : Upd a p q o o') : Upd a p q (o ++ r) (o' ++ r) := by
  induction h with
  | head t => exact .head _
  | tail x _ ih => exact .tail _ ih
theorem Upd.appR {a : Addr} {p q : Pd} {o o' : Own} (h : Upd a p q o o') : ∀ l : Own, Upd a p q (l ++ o) (l ++ o')
  | [] => h
  | x :: r => .tail x (Upd.appR h r)
theorem Gr.memS {G : Gr} {n : Int} (h : n ∈ G.names) : (G.S n, AD prog w (G.sk n)) ∈ G.tail prog w := List.mem_append_left _ (innerOwn.mem h)
theorem Gr.memP {G : Gr} {n : Int} (h : n ∈ G.names) : (G.P n, AD prog w (G.pk n)) ∈ G.tail prog w := List.mem_append_right _ (List.mem_append_left _ (innerOwn.mem h))
theorem Gr.memJ {G : Gr} {a : Addr} (h : a ∈ G.junk) : (a, AEmpty) ∈ G.tail prog w := List.mem_append_right _ (List.mem_append_right _ (List.mem_map_of_mem (f := fun a => (a, AEmpty)) h))
theorem Gr.updS {G : Gr} {n : Int} {kv : List (Int × Value)} (h : n ∈ G.names) (nd : G.names.Nodup) : Upd (G.S n) (AD prog w (G.sk n)) (AD prog w kv) (G.tail prog w) (Gr.tail prog w { G with sk := fun m => if m = n then kv else G.sk m }) :=
  (innerOwn.upd h nd).appL
theorem Gr.updP {G : Gr} {n : Int} {kv : List (Int × Value)} (h : n ∈ G.names) (nd : G.names.Nodup) : Upd (G.P n) (AD prog w (G.pk n)) (AD prog w kv) (G.tail prog w) (Gr.tail prog w { G with pk := fun m => if m = n then kv else G.pk m }) :=
  (innerOwn.upd h nd).appL.appR _
def Gr.addNode (G : Gr) (n : Int) (a b c : Addr) : Gr := { G with
  names := G.names ++ [n]
  S := fun m => if m = n then a else G.S m
  P := fun m => if m = n then b else G.P m
  N := fun m => if m = n then c else G.N m
  sk := fun m => if m = n then [] else G.sk m
  pk := fun m => if m = n then [] else G.pk m
  junk := c :: G.junk }
theorem innerOwn.snoc {l : List Int} {f : Int → Addr} {k : Int → List (Int × Value)} {n : Int} {a : Addr} (hn : n ∉ l) :
    innerOwn prog w (l ++ [n]) (fun m => if m = n then a else f m) (fun m => if m = n then [] else k m) = innerOwn prog w l f k ++ [(a, AD prog w [])] := by
  unfold innerOwn
  rw [List.map_append]
  congr 1
  · exact List.map_congr_left fun m hm => by
      have : m ≠ n := fun e => hn (e ▸ hm)
      simp [this]
  · simp
theorem outer.snoc {l : List Int} {f : Int → Addr} {n : Int} {a : Addr} (hn : n ∉ l) : Gr.outer (l ++ [n]) (fun m => if m = n then a else f m) = stored (Gr.outer l f) n (.ref a) := by
  have h1 : (Gr.outer l f).any (fun kv => decide (kv.1 = n)) = false := by
    rw [List.any_eq_false]
    rintro ⟨k, v⟩ he
    unfold Gr.outer at he
    obtain ⟨m, hm, e⟩ := List.mem_map.mp he
    cases e
    simp only [decide_eq_true_eq]
    rintro rfl
    exact hn hm
  unfold stored
  rw [h1, if_neg (by decide)]
  unfold Gr.outer
  rw [List.map_append]
  congr 1
  · exact List.map_congr_left fun m hm => by
      have : m ≠ n := fun e => hn (e ▸ hm)
      simp [this]
  · simp
theorem Gr.tail_addNode {G : Gr} {n : Int} {a b c : Addr} (hn : n ∉ G.names) : ((G.addNode n a b c).tail prog w).Perm ((a, AD prog w []) :: (b, AD prog w []) :: (c, AEmpty) :: G.tail prog w) := by
  show (innerOwn prog w (G.names ++ [n]) (fun m => if m = n then a else G.S m) (fun m => if m = n then [] else G.sk m) ++ (innerOwn prog w (G.names ++ [n]) (fun m => if m = n then b else G.P m) (fun m => if m = n then [] else G.pk m) ++ ((c, AEmpty) :: junkOwn G.junk))).Perm _
  rw [innerOwn.snoc hn, innerOwn.snoc hn, List.append_assoc, List.append_assoc]
  unfold Gr.tail
  refine List.perm_middle.trans (List.Perm.cons _ ?_)
  refine (List.Perm.append_left _ List.perm_middle).trans (List.perm_middle.trans (List.Perm.cons _ ?_))
  exact (List.Perm.append_left _ List.perm_middle).trans List.perm_middle
theorem Gr.tail_junk {G : Gr} {a : Addr} : (Gr.tail prog w { G with junk := a :: G.junk }).Perm ((a, AEmpty) :: G.tail prog w) := by
  unfold Gr.tail
  show (innerOwn prog w G.names G.S G.sk ++ (innerOwn prog w G.names G.P G.pk ++ ((a, AEmpty) :: junkOwn G.junk))).Perm _
  exact ((List.perm_middle.append_left _).trans List.perm_middle)
theorem fields_none {G : Gr} (hG : G.more.all (fun e => e.1 == "pred" || e.1 == "adj") = true) {name : Str}
    (h : (name == "graph" || name == "_node" || name == "_adj" || name == "_succ" || name == "_pred" || name == "pred" || name == "adj") = false) : valueAt G.fields name = none := by
  simp only [Bool.or_eq_false_iff, beq_eq_false_iff_ne, ne_eq] at h
  obtain ⟨⟨⟨⟨⟨⟨h1, h2⟩, h3⟩, h4⟩, h5⟩, h6⟩, h7⟩ := h
  unfold valueAt Gr.fields
  rw [Option.map_eq_none_iff, List.find?_eq_none]
  intro e he
  rw [List.all_eq_true] at hG
  simp only [List.mem_cons] at he
  rcases he with rfl | rfl | rfl | rfl | rfl | he
  · simpa using Ne.symm h1
  · simpa using Ne.symm h2
  · simpa using Ne.symm h3
  · simpa using Ne.symm h4
  · simpa using Ne.symm h5
  · have := hG e he
    simp only [Bool.or_eq_true, beq_iff_eq] at this
    rcases this with q | q
    · simpa [q] using Ne.symm h6
    · simpa [q] using Ne.symm h7
end
end Mine
end
section
set_option maxRecDepth 100000
open PySem PySem.Calls PyProof.Rows PySem.W PySem.Spec
namespace Mine
section
variable {prog : Program} {w : World} {B : Bs} {A : Around} {own : Own} {gs : Array GenState} {env : Env}
variable {K : Frag} {p : Program} {loose : List Str} {mg mb : Str → Option Value}
theorem ATup.isTuple {xs : List Value} {h : Heap} {t : Addr} {o : Obj} (ho : h.get? t = some o) (x : ATup xs o) : ∃ its, h.IsTuple t its ∧ its.toList.map er = xs := by
  obtain ⟨its, rfl, e⟩ := x
  exact ⟨its, ⟨_, ho, rfl, 0, rfl⟩, e⟩
/-- targets, one after the other -/
def EachJ (prog : Program) (w : World) (B : Bs) (A : Around) (env : Env) : List Expr → List Value → Own → Array GenState → QU → Prop
  | t :: ts, v :: vs, own, gs, Q => AssignJ prog w B A env t v own gs fun o g => EachJ prog w B A env ts vs o g Q
  | [], [], own, gs, Q => Q own gs
  | _, _, _, _, _ => False
theorem J_inOrder : ∀ (ts : List Expr) (vs : List Value) (us : List Value) (own : Own) (gs : Array GenState) (Q : QU), us.map er = vs → EachJ prog w B A env ts vs own gs Q →
    J prog w B A (assignInOrder (ts.map fun t => assign t env) us) own gs fun _ => Q
  | [], [], us, own, gs, Q, hu, h => by rw [er0 hu]; exact J_pure h
  | [], _ :: _, _, _, _, _, _, h => h.elim
  | _ :: _, [], _, _, _, _, _, h => h.elim
  | t :: ts, v :: vs, us, own, gs, Q, hu, h => by
    obtain ⟨u, r, rfl, h1, h2⟩ := List.map_eq_cons_iff.mp hu
    exact fun s R => wpAny_bind (wpAny_holding (J.any (h u h1) R fun _ s' o g R' h' => J_inOrder ts vs r o g Q h2 h' _ R'))
theorem unpack_J {n : Nat} {t : Addr} {xs : List Value} (hA : AOk B A n) (ht : Has B own t (ATup xs)) :
    J prog w B A (unpackItems (.ref t) xs.length none) own gs fun us o g => us.map er = xs ∧ o = own ∧ g = gs := fun s R => by
  obtain ⟨o, ho, hp⟩ := R.get ht
  obtain ⟨its, hT, e⟩ := ATup.isTuple ho hp
  have hl : xs.length = its.size := by rw [← e]; simp
  rw [hl]
  refine unpackItems_tup (hA.hok R) hT fun h' hx => ?_
  have R' : Rep B own gs { s with heap := h' } := R.ext (tk := s.toks) fun b o e => hx b o (Nat.ne_of_lt (Heap.lt_size e)) e
  exact ⟨own, gs, R', e, rfl, rfl⟩
theorem Assign_tup {n : Nat} {elts : List Expr} {x1} {pos : Pos} {t : Addr} {xs : List Value} {Q : QU} (hA : AOk B A n) (ht : Has B own t (ATup xs)) (h : EachJ prog w B A env elts xs own gs Q)
    (hl : elts.length = xs.length := by rfl) (he : assignEach elts env = elts.map fun t => (false, assign t env) := by rfl) : AssignJ prog w B A env (.Tuple elts x1 pos) (.ref t) own gs Q := fun u hu s R => by
  rw [er_eq_ref hu, arm_assign_Tuple]
  refine wpAny_bind (wpAny_standAt ?_)
  unfold unpack
  have h1 : (assignEach elts env).length = xs.length := by rw [he]; simpa using hl
  have h2 : (assignEach elts env).findIdx? (·.1) = none := by rw [he]; simp
  have h3 : (assignEach elts env).map (·.2) = elts.map fun t => assign t env := by rw [he, List.map_map]; rfl
  rw [h1, h2, h3]
  refine wpAny_bind (wpAny_holding ?_)
  refine J.any (unpack_J hA ht) R fun us s' o g R' ⟨hu, e1, e2⟩ => ?_
  subst e1 e2
  exact J_inOrder elts xs us _ _ Q hu h _ R'
/-- t = value, for one target of any kind; no swapped stores -/
theorem JF_Assign1 {t value : Expr} {pos : Pos} {Q : QF} (h : JV prog w B A (eval value env) own gs fun v o g => AssignJ prog w B A env t v o g (Q .next))
    (hs : swapsWithSole [t] value pos.line env = pure false := by rfl) (h2 : swappedStores [t] value env = pure none := by rfl) (he : (assignEach [t] env).map (·.2) = [assign t env] := by rfl) :
    JF prog w B A (exec (.Assign [t] value pos) env) own gs Q := fun s R => by
  rw [arm_exec_Assign, hs, h2]
  refine wpAny_bind (wpAny_standAt (wpAny_bind (wpAny_pure ?_)))
  rw [if_neg (by decide)]
  refine wpAny_bind (J.any h R fun v s' o g R' h' => wpAny_bind (wpAny_pure ?_))
  rw [he]
  show wpAny _ _ (assign t env v >>= fun _ => pure Flow.next) _ _ _
  exact wpAny_bind (J.any (h' v rfl) R' fun _ s' o g R' h' => wpAny_pure ⟨o, g, R', h'⟩)
/-- x, y = a, b -/
theorem JF_Swap2 {n : Nat} {t value : Expr} {x y : Str} {pos : Pos} {Q : QF} (hA : AOk B A n)
    (h2 : swappedStores [t] value env = pure (some [x, y]))
    (h : JV prog w B A (eval value env) own gs fun v o g => ∃ t a b, v = .ref t ∧ Has B o t (ATup [a, b]) ∧ StoreJ prog w B A env y b o g fun o g => StoreJ prog w B A env x a o g (Q .next))
    (hs : swapsWithSole [t] value pos.line env = pure false := by rfl) :
    JF prog w B A (exec (.Assign [t] value pos) env) own gs Q := fun s R => by
  rw [arm_exec_Assign, hs, h2]
  refine wpAny_bind (wpAny_standAt (wpAny_bind (wpAny_pure ?_)))
  rw [if_neg (by decide)]
  refine wpAny_bind (J.any h R fun v s' o g R' ⟨t, a, b, e, ht, h'⟩ => wpAny_bind (wpAny_pure ?_))
  have e' := er_eq_ref e
  subst e'
  refine wpAny_bind (wpAny_rule ?_)
  refine wpAny_bind (J.any (unpack_J (xs := [a, b]) hA ht) R' fun us s₁ o g R₁ ⟨hu, e1, e2⟩ => ?_)
  subst e1 e2
  obtain ⟨u1, u2, rfl, h1, h2⟩ := er2 hu
  show wpAny _ _ (assignInOrder [bindName env y, bindName env x] [u2, u1] >>= fun _ => pure Flow.next) _ _ _
  refine wpAny_bind (wpAny_bind (wpAny_holding (wpAny_bind (wpAny_holding (wpAny_point (wpAny_bind (J.any (h' u2 h2) R₁ fun _ s₂ o g R₂ h'' => wpAny_point ?_)))))))
  refine wpAny_bind (wpAny_holding (wpAny_bind (wpAny_holding (wpAny_point (wpAny_bind (J.any (h'' u1 h1) R₂ fun _ s₃ o g R₃ h3 => wpAny_point ?_))))))
  exact wpAny_pure (wpAny_pure ⟨o, g, R₃, h3⟩)
theorem Cmp_isNoneInt {k : Int} {Q : QV} (h : Q (.bool false) own gs) : CmpJ prog w B A .Is (iv k) .none own gs Q := fun u v hu hv s R => by
  obtain ⟨t, rfl⟩ := er_eq_int hu
  rw [er_eq_none hv]
  exact wpAny_is_other rfl (by simp) ⟨own, gs, R, h⟩
theorem Cmp_isNoneNone {Q : QV} (h : Q (.bool true) own gs) : CmpJ prog w B A .Is .none .none own gs Q := fun u v hu hv s R => by
  rw [er_eq_none hu, er_eq_none hv]
  exact wpAny_is_self rfl ⟨own, gs, R, h⟩
theorem Bind_dictOf {fd : FuncData} {args : Args} {k : Addr → Sem (List (Str × Value))} {Q : List (Str × Value) → Own → Array GenState → Prop} (e : bindArgs fd args = alloc { cls := .type "dict", data := .dict #[] } >>= k)
    (h : ∀ d, J prog w B A (k d) ((d, AEmpty) :: own) gs Q) : J prog w B A (bindArgs fd args) own gs Q := by rw [e]; exact Bind_dict h
end
end Mine
end
section
set_option maxRecDepth 100000
set_option maxHeartbeats 4000000
open PySem PySem.Calls PyProof.Rows PySem.W PySem.Spec
namespace Mine
example : PySem.Challenge.rw_ci0025_01.prog = PySem.Challenge.rw_ci0025_01.prog ∧ hd.heap_39 = hd.heap_39 := by k_fill; exact ⟨rfl, rfl⟩
local macro_rules | `(tactic| k_mem) => `(tactic| first | apply List.Mem.head | exact Gr.memS (by assumption) | exact Gr.memP (by assumption) | exact Gr.memJ (by assumption) | (apply List.Mem.tail; k_mem))
local macro_rules | `(tactic| walk_at "has") => `(tactic| first | (apply Has.own; k_mem) | (apply Has.base; assumption))
local macro_rules | `(tactic| walk_at "upd") => `(tactic| first | apply Upd.head | exact Gr.updS (by assumption) (by assumption) | exact Gr.updP (by assumption) (by assumption) | (apply Upd.tail; walk_at "upd"))
local macro_rules | `(tactic| walk_at "setl") => `(tactic| first | apply SetL.nil | apply SetL.here | (apply SetL.next (by rfl); walk_at "setl"))
local macro_rules | `(tactic| walk_at "cells") => `(tactic| repeat' (first | refine Cells_nil ?_ | refine Cells_skip (by decide) ?_ | (refine Cells_cell ?_; intro _)))
local macro_rules | `(tactic| walk_at "pick") => `(tactic| first | apply PickR.head | (apply PickR.tail; walk_at "pick"))
local macro_rules | `(tactic| walk_at "weak") => `(tactic| first | exact fun _ h => h | (refine ANs.sub ?_; repeat' (first | exact List.forall_mem_nil _ | refine List.forall_mem_cons.mpr ⟨rfl, ?_⟩)))
local macro_rules | `(tactic| walk_at "subt") => `(tactic| first | exact Sub.refl _ | (refine Sub.skip ?_; walk_at "subt"))
local macro_rules | `(tactic| walk_at "sub") => `(tactic| first | apply Sub.nil | (refine' Sub.pick ?hp ?hw ?_; (case hp => walk_at "pick"); (case hw => walk_at "weak"); walk_at "sub") | walk_at "subt")
local macro_rules | `(tactic| walk_at "store") => `(tactic| first | (refine' Store_local ?hu ?hs ?_; (case hu => walk_at "upd"); (case hs => walk_at "setl")))

local macro_rules | `(tactic| walk_at "name") => `(tactic| first
  | (refine' JV_local ?hn ?hv ?_; (case hn => walk_at "has"); (case hv => rfl))
  | (refine' JV_cell ?hc ?hn ?_; (case hc => rfl); (case hn => walk_at "has"))
  | (refine' JV_free ?hc ?hn ?_; (case hc => rfl); (case hn => walk_at "has")))
local macro_rules | `(tactic| walk_at "js") => `(tactic| first
  | with_reducible refine JF_cons ?_
  | with_reducible refine JF_nil ?_
  | refine JF_Assign ?_
  | with_reducible refine JF_If ?_
  | with_reducible refine JF_Return ?_
  | refine JF_Expr ?_
  | with_reducible refine JV_int ?_
  | with_reducible refine JV_bool ?_
  | with_reducible refine JV_none ?_
  | with_reducible refine JV_str ?_
  | with_reducible refine JV_BinOp ?_
  | refine JV_Compare ?_
  | with_reducible refine JV_IfExp ?_
  | refine Test_cmp ?_
  | with_reducible refine Test_not ?_
  | with_reducible refine Test_and ?_
  | with_reducible refine Test_and_nil ?_
  | with_reducible refine Test_or ?_
  | with_reducible refine Test_or_nil ?_
  | with_reducible refine Tru_bool ?_
  | refine JV_List ?_
  | refine JV_Tuple ?_
  | with_reducible refine Args_nil ?_
  | refine Args_cons ?_
  | with_reducible refine Bin_add ?_
  | with_reducible refine Cmp_eq ?_
  | with_reducible refine Cmp_ne ?_
  | with_reducible refine Cmp_lt ?_
  | with_reducible refine Cmp_le ?_
  | with_reducible refine Cmp_gt ?_
  | with_reducible refine Cmp_ge ?_
  | walk_at "name"
  | walk_at "store")
local macro_rules | `(tactic| walk_at "inst") => `(tactic| (refine' Inst.mk ?ix ?id; (case ix => walk_at "has"); (case id => walk_at "has")))
local macro_rules | `(tactic| walk_at "kfun") => `(tactic| (refine' Call_K (by assumption) (by assumption) ?k1 ?k2 ?k3 ?k4 ?_ ?k5 ?k6; (case k1 => k_is); (case k2 => rfl); (case k3 => rfl); (case k4 => k_is); (case k5 => rfl); (case k6 => rfl)))
local macro_rules | `(tactic| walk_at "kcode") => `(tactic| (refine' Code_K (by assumption) (by assumption) ?k1 ?k2 ?k3 ?k4 ?_ ?k5 ?k6; (case k1 => k_is); (case k2 => rfl); (case k3 => rfl); (case k4 => k_is); (case k5 => rfl); (case k6 => rfl)))
local macro_rules | `(tactic| walk_at "methk") => `(tactic| (refine' Meth_K (by assumption) ?mi ?mv ?_ ?g1 ?g2 ?g3 ?g4; (case mi => walk_at "inst"); (case mv => first | exact fields_none (by assumption) (by decide) | rfl); (case g1 => k_is); (case g2 => k_is); (case g3 => k_is); (case g4 => k_is)))
local macro_rules | `(tactic| walk_at "getown") => `(tactic| (refine' Get_own (by assumption) ?mi ?mv ?_ ?g1 ?g2 ?gh; (case mi => walk_at "inst"); (case mv => rfl); (case g1 => k_is); (case g2 => kernel_rfl); (case gh => rfl)))
local macro_rules | `(tactic| walk_at "setown") => `(tactic| (refine' SetAttr_inst (by assumption) ?sx ?sd ?sk ?_ ?se ?sl; (case sx => walk_at "has"); (case sd => walk_at "upd"); (case se => rfl); (case sl => exact Nat.le_of_ble_eq_true rfl); (case sk => kernel_rfl)))
local macro_rules | `(tactic| walk_at "keepk") => `(tactic| (exact Keep_K (by assumption) (by k_is)))
local macro_rules | `(tactic| walk_at "apart") => `(tactic| first | (apply Apart.left; k_mem; done) | (apply Apart.right; k_mem; done) | (apply Apart.tail; walk_at "apart"))

section
variable {prog : Program} {w : World} {B : Bs} {A : Around} {own : Own} {gs : Array GenState} {p : Program} {loose : List Str} {mg mb : Str → Option Value} {Q : QV}
def Gr.addEdge (G : Gr) (u v : Int) (dd dn : Addr) : Gr := { G with
  sk := fun m => if m = u then stored (G.sk u) v (.ref dd) else G.sk m
  pk := fun m => if m = v then stored (G.pk v) u (.ref dd) else G.pk m
  junk := dn :: G.junk }
theorem add_edge_spec (T : TopB (hd.heap_39 w.params) p loose mg mb B) (hA : AOk B A 3) {G : Gr} (hG : G.Ok) {u v : Int} (hu : u ∈ G.names) (hv : v ∈ G.names)
  (h : ∀ dd dn, (dd = dn ∨ dd ∈ G.junk) → Q .none (Gr.res 873 prog w (G.addEdge u v dd dn)) gs) : CallJ prog w B A (.ref 753) [.ref G.x, iv u, iv v] (G.res 873 prog w) gs Q := by
  have hmo := hG.mo
  walk_at "kfun"
  intro us hus
  obtain ⟨u1, u2, u3, rfl, h1, h2, h3⟩ := er3 hus
  refine Bind_dictOf (by rfl) fun da => ?_
  refine J_eq (by rfl) ?_
  dsimp only
  intro L
  walk_at "cells"
  dsimp only [newEnv]
  refine Stores_cons h1 ?_
  walk_at "store"
  refine Stores_cons h2 ?_
  walk_at "store"
  refine Stores_cons h3 ?_
  walk_at "store"
  refine Stores_cons (x := .ref da) rfl ?_
  walk_at "store"
  refine Stores_nil ?_
  intro A1 hA1
  dsimp only [Gr.res]
  -- u, v = (u_of_edge, v_of_edge)
  refine JF_cons (JF_Swap2 hA1 (by rfl) (JV_Tuple (Args_cons ?_)))
  walk_at "name"
  refine Args_cons ?_
  walk_at "name"
  refine Args_nil ⟨by simp, fun t => ⟨t, _, _, rfl, by walk_at "has", ?_⟩⟩
  walk_at "store"
  walk_at "store"
  -- if u not in self._succ
  refine JF_cons (JF_If (Test_cmp ?_))
  walk_at "name"
  refine JV_Attr ?_
  walk_at "name"
  walk_at "getown"
  refine Cmp_notInAD T (by walk_at "has") (Tru_bool ?_)
  rw [valueAt_outer, if_pos hu, if_neg (by simp)]
  refine JF_nil ?_
  dsimp only
  refine JF_cons (JF_If (Test_cmp ?_))
  walk_at "name"
  refine JV_Attr ?_
  walk_at "name"
  walk_at "getown"
  refine Cmp_notInAD T (by walk_at "has") (Tru_bool ?_)
  rw [valueAt_outer, if_pos hv, if_neg (by simp)]
  refine JF_nil ?_
  dsimp only
  -- datadict = self._adj[u].get(v, self.edge_attr_dict_factory())
  refine JF_cons (JF_Assign (JV_MCall (JV_Subscript (JV_Attr ?_))))
  walk_at "name"
  walk_at "getown"
  walk_at "name"
  refine Item_AD (by walk_at "has") (by rw [valueAt_outer, if_pos hu]) ?_
  refine Meth_builtin F.plainAttrs_dict F.slot_dict_get F.type_dict_get ⟨_, _, rfl, by walk_at "has", AD.exact⟩ ?_
  refine Args_cons ?_
  walk_at "name"
  refine Args_cons (JV_MCall ?_)
  walk_at "name"
  walk_at "methk"
  refine Args_nil ⟨by walk_at "keepk", ?_⟩
  refine fac_407 T (hA1.less) fun dn => ?_
  refine Args_nil ⟨Keep_builtin, ?_⟩
  refine Call_getAD T (by walk_at "has") ?_
  obtain ⟨dd, hdd, hj⟩ : ∃ dd, (valueAt (G.sk u) v).getD (.ref dn) = .ref dd ∧ (dd = dn ∨ dd ∈ G.junk) := by
    cases q : valueAt (G.sk u) v with
    | none => exact ⟨dn, rfl, .inl rfl⟩
    | some y =>
      unfold valueAt at q
      obtain ⟨e, he, rfl⟩ := Option.map_eq_some_iff.mp q
      obtain ⟨_, a, h1, h2⟩ := hG.sk u hu e (List.mem_of_find?_eq_some he)
      exact ⟨a, h1, .inr h2⟩
  rw [hdd]
  have hnd := hG.nd
  walk_at "store"
  -- datadict.update(attr)
  refine JF_cons (JF_Expr (JV_MCall ?_))
  walk_at "name"
  have hup : (dd, AEmpty) ∈ (dn, AEmpty) :: (t, ATup [iv u, iv v]) :: (L, ANs [(Str.ofString "self", .ref G.x), (Str.ofString "u_of_edge", iv u), (Str.ofString "v_of_edge", iv v), (Str.ofString "attr", .ref da), (Str.ofString "v", iv v), (Str.ofString "u", iv u), (Str.ofString "datadict", .ref dd)]) :: (da, AEmpty) :: G.res 873 prog w ∧
      Apart dd da ((dn, AEmpty) :: (t, ATup [iv u, iv v]) :: (L, ANs [(Str.ofString "self", .ref G.x), (Str.ofString "u_of_edge", iv u), (Str.ofString "v_of_edge", iv v), (Str.ofString "attr", .ref da), (Str.ofString "v", iv v), (Str.ofString "u", iv u), (Str.ofString "datadict", .ref dd)]) :: (da, AEmpty) :: G.res 873 prog w) := by
    rcases hj with rfl | hj
    · exact ⟨by k_mem, by walk_at "apart"⟩
    · exact ⟨by dsimp only [Gr.res]; k_mem, by dsimp only [Gr.res]; exact .tail (.tail (.tail (.right (q := AEmpty) (by k_mem))))⟩
  refine Meth_builtin F.plainAttrs_dict F.slot_dict_update F.type_dict_update ⟨dd, AEmpty, rfl, .own hup.1, fun ob h => ⟨h.1.1, h.1.2.1⟩⟩ ?_
  refine Args_cons ?_
  walk_at "name"
  refine Args_nil ⟨Keep_builtin, ?_⟩
  refine Call_update0 T hup.1 (by k_mem) hup.2 ?_
  -- self._succ[u][v] = datadict
  have l1 := hG.lenS hu
  have l2 := hG.lenP hv
  refine JF_cons (JF_AssignSub ?_)
  walk_at "name"
  refine JV_Subscript (JV_Attr ?_)
  walk_at "name"
  walk_at "getown"
  walk_at "name"
  refine Item_AD (by walk_at "has") (by rw [valueAt_outer, if_pos hu]) ?_
  walk_at "name"
  refine' Set_AD (kvs := G.sk u) ?hu (by omega) ?_
  (case hu => walk_at "upd")
  -- self._pred[v][u] = datadict
  refine JF_cons (JF_AssignSub ?_)
  walk_at "name"
  refine JV_Subscript (JV_Attr ?_)
  walk_at "name"
  walk_at "getown"
  walk_at "name"
  refine Item_AD (by walk_at "has") (by rw [valueAt_outer, if_pos hv]) ?_
  walk_at "name"
  refine' Set_AD (kvs := G.pk v) ?hu (by omega) ?_
  (case hu => exact .tail _ (.tail _ (.tail _ (.tail _ (.tail _ (.tail _ (.tail _ (.tail _ (.tail _ (.tail _ (Gr.updP (G := { G with sk := fun m => if m = u then stored (G.sk u) v (.ref dd) else G.sk m }) hv hnd)))))))))))
  refine JF_nil ⟨_, ?_, h dd dn hj⟩
  have st : ∀ {r : Own}, Sub ((G.x, AInst 873 G.dx) :: (G.dx, AVars prog w G.fields) :: (G.gr, AEmpty) :: (G.nd, AD prog w (Gr.outer G.names G.N)) :: (G.su, AD prog w (Gr.outer G.names G.S)) :: (G.pr, AD prog w (Gr.outer G.names G.P)) :: (dn, AEmpty) :: r)
      ((dn, AEmpty) :: (t, ATup [iv u, iv v]) :: (L, ANs [(Str.ofString "self", .ref G.x), (Str.ofString "u_of_edge", iv u), (Str.ofString "v_of_edge", iv v), (Str.ofString "attr", .ref da), (Str.ofString "v", iv v), (Str.ofString "u", iv u), (Str.ofString "datadict", .ref dd)]) :: (da, AEmpty) ::
      (G.x, AInst 873 G.dx) :: (G.dx, AVars prog w G.fields) :: (G.gr, AEmpty) :: (G.nd, AD prog w (Gr.outer G.names G.N)) :: (G.su, AD prog w (Gr.outer G.names G.S)) :: (G.pr, AD prog w (Gr.outer G.names G.P)) :: r) := by
    intro r
    walk_at "sub"
  exact (Sub.keep (Sub.keep (Sub.keep (Sub.keep (Sub.keep (Sub.keep (Sub.of_perm (Gr.tail_junk (G := { G with sk := fun m => if m = u then stored (G.sk u) v (.ref dd) else G.sk m, pk := fun m => if m = v then stored (G.pk v) u (.ref dd) else G.pk m }))))))))).trans st
end
end Mine
end
section
set_option maxRecDepth 100000
set_option maxHeartbeats 4000000
open PySem PySem.Calls PyProof.Rows PySem.W PySem.Spec
namespace Mine
example : PySem.Challenge.rw_ci0025_01.prog = PySem.Challenge.rw_ci0025_01.prog ∧ hd.heap_39 = hd.heap_39 := by k_fill; exact ⟨rfl, rfl⟩
local macro_rules | `(tactic| k_mem) => `(tactic| first | apply List.Mem.head | exact Gr.memS (by assumption) | exact Gr.memP (by assumption) | exact Gr.memJ (by assumption) | (apply List.Mem.tail; k_mem))
local macro_rules | `(tactic| walk_at "has") => `(tactic| first | (apply Has.own; k_mem) | (apply Has.base; assumption))
local macro_rules | `(tactic| walk_at "upd") => `(tactic| first | apply Upd.head | exact Gr.updS (by assumption) (by assumption) | exact Gr.updP (by assumption) (by assumption) | (apply Upd.tail; walk_at "upd"))
local macro_rules | `(tactic| walk_at "setl") => `(tactic| first | apply SetL.nil | apply SetL.here | (apply SetL.next (by rfl); walk_at "setl"))
local macro_rules | `(tactic| walk_at "cells") => `(tactic| repeat' (first | refine Cells_nil ?_ | refine Cells_skip (by decide) ?_ | (refine Cells_cell ?_; intro _)))
local macro_rules | `(tactic| walk_at "pick") => `(tactic| first | apply PickR.head | (apply PickR.tail; walk_at "pick"))
local macro_rules | `(tactic| walk_at "weak") => `(tactic| first | exact fun _ h => h | exact AEmpty.toAD | (refine ANs.sub ?_; repeat' (first | exact List.forall_mem_nil _ | refine List.forall_mem_cons.mpr ⟨rfl, ?_⟩)))
local macro_rules | `(tactic| walk_at "subt") => `(tactic| first | exact Sub.refl _ | (refine Sub.skip ?_; walk_at "subt"))
local macro_rules | `(tactic| walk_at "sub") => `(tactic| first | apply Sub.nil | (refine' Sub.pick ?hp ?hw ?_; (case hp => walk_at "pick"); (case hw => walk_at "weak"); walk_at "sub") | walk_at "subt")
local macro_rules | `(tactic| walk_at "store") => `(tactic| first | (refine' Store_local ?hu ?hs ?_; (case hu => walk_at "upd"); (case hs => walk_at "setl")))

local macro_rules | `(tactic| walk_at "name") => `(tactic| first
  | (refine' JV_local ?hn ?hv ?_; (case hn => walk_at "has"); (case hv => rfl))
  | (refine' JV_cell ?hc ?hn ?_; (case hc => rfl); (case hn => walk_at "has"))
  | (refine' JV_free ?hc ?hn ?_; (case hc => rfl); (case hn => walk_at "has")))
local macro_rules | `(tactic| walk_at "js") => `(tactic| first
  | with_reducible refine JF_cons ?_
  | with_reducible refine JF_nil ?_
  | refine JF_Assign ?_
  | with_reducible refine JF_If ?_
  | with_reducible refine JF_Return ?_
  | refine JF_Expr ?_
  | with_reducible refine JV_int ?_
  | with_reducible refine JV_bool ?_
  | with_reducible refine JV_none ?_
  | with_reducible refine JV_str ?_
  | with_reducible refine JV_BinOp ?_
  | refine JV_Compare ?_
  | with_reducible refine JV_IfExp ?_
  | refine Test_cmp ?_
  | with_reducible refine Test_not ?_
  | with_reducible refine Test_and ?_
  | with_reducible refine Test_and_nil ?_
  | with_reducible refine Test_or ?_
  | with_reducible refine Test_or_nil ?_
  | with_reducible refine Tru_bool ?_
  | refine JV_List ?_
  | refine JV_Tuple ?_
  | with_reducible refine Args_nil ?_
  | refine Args_cons ?_
  | with_reducible refine Bin_add ?_
  | with_reducible refine Cmp_eq ?_
  | with_reducible refine Cmp_ne ?_
  | with_reducible refine Cmp_lt ?_
  | with_reducible refine Cmp_le ?_
  | with_reducible refine Cmp_gt ?_
  | with_reducible refine Cmp_ge ?_
  | walk_at "name"
  | walk_at "store")
local macro_rules | `(tactic| walk_at "inst") => `(tactic| (refine' Inst.mk ?ix ?id; (case ix => walk_at "has"); (case id => walk_at "has")))
local macro_rules | `(tactic| walk_at "kfun") => `(tactic| (refine' Call_K (by assumption) (by assumption) ?k1 ?k2 ?k3 ?k4 ?_ ?k5 ?k6; (case k1 => k_is); (case k2 => rfl); (case k3 => rfl); (case k4 => k_is); (case k5 => rfl); (case k6 => rfl)))
local macro_rules | `(tactic| walk_at "kcode") => `(tactic| (refine' Code_K (by assumption) (by assumption) ?k1 ?k2 ?k3 ?k4 ?_ ?k5 ?k6; (case k1 => k_is); (case k2 => rfl); (case k3 => rfl); (case k4 => k_is); (case k5 => rfl); (case k6 => rfl)))
local macro_rules | `(tactic| walk_at "methk") => `(tactic| (refine' Meth_K (by assumption) ?mi ?mv ?_ ?g1 ?g2 ?g3 ?g4; (case mi => walk_at "inst"); (case mv => first | exact fields_none (by assumption) (by decide) | rfl); (case g1 => k_is); (case g2 => k_is); (case g3 => k_is); (case g4 => k_is)))
local macro_rules | `(tactic| walk_at "getown") => `(tactic| (refine' Get_own (by assumption) ?mi ?mv ?_ ?g1 ?g2 ?gh; (case mi => walk_at "inst"); (case mv => rfl); (case g1 => k_is); (case g2 => kernel_rfl); (case gh => rfl)))
local macro_rules | `(tactic| walk_at "setown") => `(tactic| (refine' SetAttr_inst (by assumption) ?sx ?sd ?sk ?_ ?se ?sl; (case sx => walk_at "has"); (case sd => walk_at "upd"); (case se => rfl); (case sl => exact Nat.le_of_ble_eq_true rfl); (case sk => kernel_rfl)))
local macro_rules | `(tactic| walk_at "keepk") => `(tactic| (exact Keep_K (by assumption) (by k_is)))
local macro_rules | `(tactic| walk_at "apart") => `(tactic| first | (apply Apart.left; k_mem; done) | (apply Apart.right; k_mem; done) | (apply Apart.tail; walk_at "apart"))

section
variable {prog : Program} {w : World} {B : Bs} {A : Around} {own : Own} {gs : Array GenState} {p : Program} {loose : List Str} {mg mb : Str → Option Value} {Q : QV}
theorem Gr.Ok.addNode {G : Gr} (h : G.Ok) {n : Int} {a b c : Addr} (hn : n ∉ G.names) (hl : G.names.length < 1000) : (G.addNode n a b c).Ok where
  nd := by
    show (G.names ++ [n]).Nodup
    rw [List.nodup_append]
    refine ⟨h.nd, by simp, fun x hx y hy e => ?_⟩
    simp only [List.mem_singleton] at hy
    exact hn (by rw [← hy, ← e]; exact hx)
  N := fun m hm => by
    show (if m = n then c else G.N m) ∈ c :: G.junk
    by_cases e : m = n
    · simp [e]
    · rw [if_neg e]
      refine List.mem_cons_of_mem _ (h.N m ?_)
      have : m ∈ G.names ++ [n] := hm
      simpa [e] using this
  sk := fun m hm e he => by
    have he : e ∈ (if m = n then [] else G.sk m) := he
    by_cases q : m = n
    · rw [if_pos q] at he; cases he
    · rw [if_neg q] at he
      have hm' : m ∈ G.names := by
        have : m ∈ G.names ++ [n] := hm
        simpa [q] using this
      obtain ⟨h1, a', h2, h3⟩ := h.sk m hm' e he
      exact ⟨List.mem_append_left _ h1, a', h2, List.mem_cons_of_mem _ h3⟩
  sn := fun m hm => by
    show ((if m = n then [] else G.sk m).map (·.1)).Nodup
    by_cases q : m = n
    · simp [q]
    · rw [if_neg q]
      refine h.sn m ?_
      have : m ∈ G.names ++ [n] := hm
      simpa [q] using this
  pn := fun m hm => by
    show ((if m = n then [] else G.pk m).map (·.1)).Nodup
    by_cases q : m = n
    · simp [q]
    · rw [if_neg q]
      refine h.pn m ?_
      have : m ∈ G.names ++ [n] := hm
      simpa [q] using this
  ps := fun m hm k => by
    show k ∈ (if m = n then [] else G.pk m).map (·.1) ↔ k ∈ G.names ++ [n] ∧ m ∈ (if k = n then [] else G.sk k).map (·.1)
    have hm : m ∈ G.names ++ [n] := hm
    by_cases q : m = n
    · subst q
      rw [if_pos rfl]
      constructor
      · intro x; cases x
      · rintro ⟨h1, h2⟩
        by_cases q2 : k = m
        · rw [if_pos q2] at h2; cases h2
        · rw [if_neg q2] at h2
          obtain ⟨e, he, rfl⟩ := List.mem_map.mp h2
          exact absurd (h.sk k (by simpa [q2] using h1) e he).1 hn
    · rw [if_neg q]
      have hm' : m ∈ G.names := by simpa [q] using hm
      rw [h.ps m hm' k]
      by_cases q2 : k = n
      · subst q2
        simp [hn]
      · rw [if_neg q2]
        simp [q2]
  len := by
    show (G.names ++ [n]).length ≤ 1000
    simp; omega
  mo := h.mo
theorem add_nodes_spec (T : TopB (hd.heap_39 w.params) p loose mg mb B) (hA : AOk B A 3) {G : Gr} (hG : G.Ok) (h0 : G.names = []) {nl : Addr} {ns : List Int} (hns : ns.Nodup) (hlen : ns.length ≤ 900) (hnl : B.f nl = some (AList (ns.map iv)))
  (h : ∀ G' : Gr, G'.Ok → G'.names = ns → (∀ n, n ∈ ns → G'.sk n = [] ∧ G'.pk n = []) → G'.x = G.x → G'.dx = G.dx → G'.more = G.more → Q .none (G'.res 873 prog w) gs) : CallJ prog w B A (.ref 732) [.ref G.x, .ref nl] (G.res 873 prog w) gs Q := by
  walk_at "kfun"
  intro us hus
  obtain ⟨u1, u2, rfl, h1, h2⟩ := er2 hus
  refine Bind_dictOf (by rfl) fun da => ?_
  refine J_eq (by rfl) ?_
  dsimp only
  intro L
  walk_at "cells"
  dsimp only [newEnv]
  refine Stores_cons h1 ?_
  walk_at "store"
  refine Stores_cons h2 ?_
  walk_at "store"
  refine Stores_cons (x := .ref da) rfl ?_
  walk_at "store"
  refine Stores_nil ?_
  intro A1 hA1
  dsimp only
  refine JF_cons (JF_ForList hA1 (fun l' xs i o g' => ∃ G' : Gr, G'.Ok ∧ G'.names = ns.take i ∧ (∀ n, n ∈ ns.take i → G'.sk n = [] ∧ G'.pk n = []) ∧ G'.x = G.x ∧ G'.dx = G.dx ∧ G'.more = G.more ∧ g' = gs ∧ l' = nl ∧ xs = ns.map iv ∧
      o = (L, ANs [(Str.ofString "self", .ref G.x), (Str.ofString "attr", .ref da)]) :: (da, AEmpty) :: G'.res 873 prog w) ?_ ?_ ?_ ?_)
  · walk_at "name"
    refine ⟨nl, _, rfl, .base hnl, _, ?_, G, hG, by simp [h0], by simp, rfl, rfl, rfl, rfl, rfl, rfl, rfl⟩
    dsimp only [Gr.res]
    walk_at "sub"
  · rintro l' xs i o g' ⟨G', _, _, _, _, _, _, rfl, rfl, rfl, rfl⟩
    exact .base hnl
  · rintro l' xs it i v o g' hx ⟨G', hG', hnm, hsk, ex, edx, emo, rfl, rfl, rfl, rfl⟩
    obtain ⟨n, hn, rfl⟩ : ∃ y, ns[i]? = some y ∧ v = iv y := by
      rw [List.getElem?_map, Option.map_eq_some_iff] at hx
      obtain ⟨y, h1, h2⟩ := hx
      exact ⟨y, h1, h2.symm⟩
    have hlt : i < ns.length := (List.getElem?_eq_some_iff.mp hn).1
    have hin : n ∉ G'.names := by
      rw [hnm]
      intro hm
      obtain ⟨j, hj, e⟩ := List.mem_iff_getElem.mp hm
      rw [List.length_take] at hj
      have e2 := (List.getElem?_eq_some_iff.mp hn).2
      rw [List.getElem_take, ← e2] at e
      have := (List.getElem_inj hns).mp e
      omega
    have htk : ns.take (i + 1) = ns.take i ++ [n] := by rw [List.take_add_one, hn]; rfl
    have hmo := hG'.mo
    rw [← ex]
    dsimp only [Gr.res]
    refine Assign_name ?_
    walk_at "store"
    -- try
    refine JF_cons (JF_Try (JF_cons (JF_Assign (JV_Compare ?_))))
    walk_at "name"
    refine JV_Attr ?_
    walk_at "name"
    walk_at "getown"
    refine Cmp_notInAD T (by walk_at "has") ?_
    rw [valueAt_outer, if_neg hin]
    walk_at "store"
    refine JF_cons (JF_Assign ?_)
    walk_at "name"
    walk_at "store"
    refine JF_nil (JF_nil ?_)
    dsimp only
    refine JF_cons (JF_If (Test_plain ?_))
    walk_at "name"
    refine Tru_bool ?_
    rw [if_pos (by rfl)]
    refine JF_cons (JF_If (Test_cmp ?_))
    walk_at "name"
    refine JV_none ?_
    refine Cmp_isNoneInt (Tru_bool ?_)
    rw [if_neg (by decide)]
    refine JF_nil ?_
    dsimp only
    -- self._succ[n] = ..
    refine JF_cons (JF_AssignSub (JV_MCall ?_))
    walk_at "name"
    walk_at "methk"
    refine Args_nil ⟨by walk_at "keepk", ?_⟩
    refine fac_400 T (hA1.less) fun a => ?_
    refine JV_Attr ?_
    walk_at "name"
    walk_at "getown"
    walk_at "name"
    refine' Set_AD (kvs := Gr.outer G'.names G'.S) ?hu ?_ ?_
    (case hu => walk_at "upd")
    · simp only [Gr.outer, List.length_map, hnm, List.length_take]; omega
    refine JF_cons (JF_AssignSub (JV_MCall ?_))
    walk_at "name"
    walk_at "methk"
    refine Args_nil ⟨by walk_at "keepk", ?_⟩
    refine fac_400 T (hA1.less) fun b => ?_
    refine JV_Attr ?_
    walk_at "name"
    walk_at "getown"
    walk_at "name"
    refine' Set_AD (kvs := Gr.outer G'.names G'.P) ?hu ?_ ?_
    (case hu => walk_at "upd")
    · simp only [Gr.outer, List.length_map, hnm, List.length_take]; omega
    refine JF_cons (JF_AssignSub (JV_MCall ?_))
    walk_at "name"
    walk_at "methk"
    refine Args_nil ⟨by walk_at "keepk", ?_⟩
    refine fac_386 T (hA1.less) fun c => ?_
    refine JV_Attr ?_
    walk_at "name"
    walk_at "getown"
    walk_at "name"
    refine' Set_AD (kvs := Gr.outer G'.names G'.N) ?hu ?_ ?_
    (case hu => walk_at "upd")
    · simp only [Gr.outer, List.length_map, hnm, List.length_take]; omega
    refine JF_nil ?_
    dsimp only
    -- self._node[n].update(newdict)
    refine JF_cons (JF_Expr (JV_MCall (JV_Subscript (JV_Attr ?_))))
    walk_at "name"
    walk_at "getown"
    walk_at "name"
    rw [← outer.snoc hin, ← outer.snoc hin, ← outer.snoc hin]
    refine Item_AD (x := .ref c) (by walk_at "has") (by rw [valueAt_outer, if_pos (by simp), if_pos rfl]) ?_
    refine Meth_builtin F.plainAttrs_dict F.slot_dict_update F.type_dict_update ⟨c, AEmpty, rfl, by walk_at "has", fun ob h => ⟨h.1.1, h.1.2.1⟩⟩ ?_
    refine Args_cons ?_
    walk_at "name"
    refine Args_nil ⟨Keep_builtin, ?_⟩
    refine Call_update0 T (by k_mem) (by k_mem) (by walk_at "apart") ?_
    refine JF_nil ⟨_, ?_, G'.addNode n a b c, hG'.addNode hin (by rw [hnm, List.length_take]; omega), by rw [htk, ← hnm]; rfl, ?_, rfl, edx, emo, rfl, rfl, rfl, rfl⟩
    · have st : ∀ {r : Own}, Sub ((it, AListIter l' (i + 1)) :: (L, ANs [(Str.ofString "self", .ref G'.x), (Str.ofString "attr", .ref da)]) :: (da, AEmpty) ::
          (G'.x, AInst 873 G'.dx) :: (G'.dx, AVars prog w G'.fields) :: (G'.gr, AEmpty) :: (G'.nd, AD prog w (Gr.outer (G'.names ++ [n]) fun m => if m = n then c else G'.N m)) :: (G'.su, AD prog w (Gr.outer (G'.names ++ [n]) fun m => if m = n then a else G'.S m)) :: (G'.pr, AD prog w (Gr.outer (G'.names ++ [n]) fun m => if m = n then b else G'.P m)) ::
          (a, AD prog w []) :: (b, AD prog w []) :: (c, AEmpty) :: r)
          ((c, AEmpty) :: (b, AEmpty) :: (a, AEmpty) :: (it, AListIter l' (i + 1)) :: (L, ANs [(Str.ofString "self", .ref G'.x), (Str.ofString "attr", .ref da), (Str.ofString "n", iv n), (Str.ofString "newnode", .bool true), (Str.ofString "newdict", .ref da)]) :: (da, AEmpty) ::
          (G'.x, AInst 873 G'.dx) :: (G'.dx, AVars prog w G'.fields) :: (G'.gr, AEmpty) :: (G'.nd, AD prog w (Gr.outer (G'.names ++ [n]) fun m => if m = n then c else G'.N m)) :: (G'.su, AD prog w (Gr.outer (G'.names ++ [n]) fun m => if m = n then a else G'.S m)) :: (G'.pr, AD prog w (Gr.outer (G'.names ++ [n]) fun m => if m = n then b else G'.P m)) :: r) := by
        intro r
        walk_at "sub"
      exact (Sub.keep (Sub.keep (Sub.keep (Sub.keep (Sub.keep (Sub.keep (Sub.keep (Sub.keep (Sub.keep (Sub.of_perm (Gr.tail_addNode hin))))))))))).trans st
    · intro m hm
      show (if m = n then [] else G'.sk m) = [] ∧ (if m = n then [] else G'.pk m) = []
      by_cases e : m = n
      · simp [e]
      · rw [if_neg e, if_neg e]
        refine hsk m ?_
        rw [htk] at hm
        simpa [e] using hm
  · rintro l' xs o g' ⟨G', hG', hnm, hsk, ex, edx, emo, rfl, rfl, rfl, rfl⟩
    refine JF_nil ⟨_, ?_, h G' hG' (by rw [hnm]; simp) ?_ ex edx emo⟩
    · dsimp only [Gr.res]
      walk_at "sub"
    · simpa using hsk
end
end Mine
end
section
set_option maxRecDepth 100000
set_option maxHeartbeats 4000000
open PySem PySem.Calls PyProof.Rows PySem.W PySem.Spec
namespace Mine
example : PySem.Challenge.rw_ci0025_01.prog = PySem.Challenge.rw_ci0025_01.prog ∧ hd.heap_39 = hd.heap_39 := by k_fill; exact ⟨rfl, rfl⟩
local macro_rules | `(tactic| k_mem) => `(tactic| first | apply List.Mem.head | exact Gr.memS (by assumption) | exact Gr.memP (by assumption) | exact Gr.memJ (by assumption) | (apply List.Mem.tail; k_mem))
local macro_rules | `(tactic| walk_at "has") => `(tactic| first | (apply Has.own; k_mem) | (apply Has.base; assumption))
local macro_rules | `(tactic| walk_at "upd") => `(tactic| first | apply Upd.head | exact Gr.updS (by assumption) (by assumption) | exact Gr.updP (by assumption) (by assumption) | (apply Upd.tail; walk_at "upd"))
local macro_rules | `(tactic| walk_at "setl") => `(tactic| first | apply SetL.nil | apply SetL.here | (apply SetL.next (by rfl); walk_at "setl"))
local macro_rules | `(tactic| walk_at "cells") => `(tactic| repeat' (first | refine Cells_nil ?_ | refine Cells_skip (by decide) ?_ | (refine Cells_cell ?_; intro _)))
local macro_rules | `(tactic| walk_at "pick") => `(tactic| first | apply PickR.head | (apply PickR.tail; walk_at "pick"))
local macro_rules | `(tactic| walk_at "weak") => `(tactic| first | exact fun _ h => h | exact AEmpty.toAD | (refine ANs.sub ?_; repeat' (first | exact List.forall_mem_nil _ | refine List.forall_mem_cons.mpr ⟨rfl, ?_⟩)))
local macro_rules | `(tactic| walk_at "subt") => `(tactic| first | exact Sub.refl _ | (refine Sub.skip ?_; walk_at "subt"))
local macro_rules | `(tactic| walk_at "sub") => `(tactic| first | apply Sub.nil | (refine' Sub.pick ?hp ?hw ?_; (case hp => walk_at "pick"); (case hw => walk_at "weak"); walk_at "sub") | walk_at "subt")
local macro_rules | `(tactic| walk_at "store") => `(tactic| first | (refine' Store_local ?hu ?hs ?_; (case hu => walk_at "upd"); (case hs => walk_at "setl")) | (refine' Store_cell ?hc ?hu ?_; (case hc => rfl); (case hu => walk_at "upd")))

local macro_rules | `(tactic| walk_at "name") => `(tactic| first
  | (refine' JV_local ?hn ?hv ?_; (case hn => walk_at "has"); (case hv => rfl))
  | (refine' JV_cell ?hc ?hn ?_; (case hc => rfl); (case hn => walk_at "has"))
  | (refine' JV_free ?hc ?hn ?_; (case hc => rfl); (case hn => walk_at "has")))
local macro_rules | `(tactic| walk_at "js") => `(tactic| first
  | with_reducible refine JF_cons ?_
  | with_reducible refine JF_nil ?_
  | refine JF_Assign ?_
  | with_reducible refine JF_If ?_
  | with_reducible refine JF_Return ?_
  | refine JF_Expr ?_
  | with_reducible refine JV_int ?_
  | with_reducible refine JV_bool ?_
  | with_reducible refine JV_none ?_
  | with_reducible refine JV_str ?_
  | with_reducible refine JV_BinOp ?_
  | refine JV_Compare ?_
  | with_reducible refine JV_IfExp ?_
  | refine Test_cmp ?_
  | with_reducible refine Test_not ?_
  | with_reducible refine Test_and ?_
  | with_reducible refine Test_and_nil ?_
  | with_reducible refine Test_or ?_
  | with_reducible refine Test_or_nil ?_
  | with_reducible refine Tru_bool ?_
  | refine JV_List ?_
  | refine JV_Tuple ?_
  | with_reducible refine Args_nil ?_
  | refine Args_cons ?_
  | with_reducible refine Bin_add ?_
  | with_reducible refine Cmp_eq ?_
  | with_reducible refine Cmp_ne ?_
  | with_reducible refine Cmp_lt ?_
  | with_reducible refine Cmp_le ?_
  | with_reducible refine Cmp_gt ?_
  | with_reducible refine Cmp_ge ?_
  | walk_at "name"
  | walk_at "store")
local macro_rules | `(tactic| walk_at "inst") => `(tactic| (refine' Inst.mk ?ix ?id; (case ix => walk_at "has"); (case id => walk_at "has")))
local macro_rules | `(tactic| walk_at "kfun") => `(tactic| (refine' Call_K (by assumption) (by assumption) ?k1 ?k2 ?k3 ?k4 ?_ ?k5 ?k6; (case k1 => k_is); (case k2 => rfl); (case k3 => rfl); (case k4 => k_is); (case k5 => rfl); (case k6 => rfl)))
local macro_rules | `(tactic| walk_at "kcode") => `(tactic| (refine' Code_K (by assumption) (by assumption) ?k1 ?k2 ?k3 ?k4 ?_ ?k5 ?k6; (case k1 => k_is); (case k2 => rfl); (case k3 => rfl); (case k4 => k_is); (case k5 => rfl); (case k6 => rfl)))
local macro_rules | `(tactic| walk_at "methk") => `(tactic| (refine' Meth_K (by assumption) ?mi ?mv ?_ ?g1 ?g2 ?g3 ?g4; (case mi => walk_at "inst"); (case mv => first | exact fields_none (by assumption) (by decide) | rfl); (case g1 => k_is); (case g2 => k_is); (case g3 => k_is); (case g4 => k_is)))
local macro_rules | `(tactic| walk_at "getown") => `(tactic| (refine' Get_own (by assumption) ?mi ?mv ?_ ?g1 ?g2 ?gh; (case mi => walk_at "inst"); (case mv => rfl); (case g1 => k_is); (case g2 => kernel_rfl); (case gh => rfl)))
local macro_rules | `(tactic| walk_at "setown") => `(tactic| (refine' SetAttr_inst (by assumption) ?sx ?sd ?sk ?_ ?se ?sl; (case sx => walk_at "has"); (case sd => walk_at "upd"); (case se => rfl); (case sl => exact Nat.le_of_ble_eq_true rfl); (case sk => kernel_rfl)))
local macro_rules | `(tactic| walk_at "keepk") => `(tactic| (exact Keep_K (by assumption) (by k_is)))
local macro_rules | `(tactic| walk_at "apart") => `(tactic| first | (apply Apart.left; k_mem; done) | (apply Apart.right; k_mem; done) | (apply Apart.tail; walk_at "apart"))
local macro_rules | `(tactic| walk_at "kgen") => `(tactic| (refine' Call_gen (by assumption) (by assumption) ?k1 ?k2 ?k3 ?k4 ?_ ?k5 ?k6; (case k1 => k_is); (case k2 => rfl); (case k3 => rfl); (case k4 => k_is); (case k5 => rfl); (case k6 => rfl)))
local macro_rules | `(tactic| walk_at "kcodec") => `(tactic| (refine' CodeC_K (by assumption) (by assumption) ?k1 ?k2 ?k3 ?k4 ?_ ?k5 ?k6; (case k1 => k_is); (case k2 => rfl); (case k3 => rfl); (case k4 => k_is); (case k5 => rfl); (case k6 => rfl)))
local macro_rules | `(tactic| walk_at "getk") => `(tactic| (refine' Get_K (by assumption) ?k1 ?k2 ?k3 ?k4 ?k5 ?g1 ?g2 ?g3 ?gh ?_; (case k1 => k_is); (case k2 => rfl); (case k3 => rfl); (case k4 => rfl); (case k5 => k_is); (case g1 => k_is); (case g2 => kernel_rfl); (case g3 => rfl); (case gh => rfl)))
theorem stored_keys {kvs : List (Int × Value)} {k : Int} {v : Value} {x : Int} : x ∈ (stored kvs k v).map (·.1) ↔ x ∈ kvs.map (·.1) ∨ x = k := by
  unfold stored
  split
  · next h =>
    rw [List.map_map]
    have : ((fun p : Int × Value => p.1) ∘ fun kv => if kv.1 = k then (kv.1, v) else kv) = fun p => p.1 := by
      funext p; simp only [Function.comp]; split <;> rfl
    rw [this]
    constructor
    · exact .inl
    · rintro (h1 | rfl)
      · exact h1
      · obtain ⟨p, hp, e⟩ := List.any_eq_true.mp h
        exact List.mem_map.mpr ⟨p, hp, by simpa using e⟩
  · simp
theorem stored_nodup {kvs : List (Int × Value)} {k : Int} {v : Value} (h : (kvs.map (·.1)).Nodup) : ((stored kvs k v).map (·.1)).Nodup := by
  unfold stored
  split
  · rw [List.map_map]
    have : ((fun p : Int × Value => p.1) ∘ fun kv => if kv.1 = k then (kv.1, v) else kv) = fun p => p.1 := by
      funext p; simp only [Function.comp]; split <;> rfl
    rw [this]; exact h
  · next hn =>
    rw [List.map_append, List.nodup_append]
    refine ⟨h, by simp, fun x hx y hy e => ?_⟩
    simp only [List.map_cons, List.map_nil, List.mem_singleton] at hy
    subst hy
    obtain ⟨q, hq, rfl⟩ := List.mem_map.mp hx
    exact hn (List.any_eq_true.mpr ⟨q, hq, by simpa using e⟩)
theorem stored_mem {kvs : List (Int × Value)} {k : Int} {v : Value} {e : Int × Value} (h : e ∈ stored kvs k v) : e ∈ kvs ∨ e = (k, v) := by
  unfold stored at h
  split at h
  · obtain ⟨p, hp, rfl⟩ := List.mem_map.mp h
    split
    · next e => exact .inr (by rw [e])
    · exact .inl hp
  · simpa using h
theorem Gr.Ok.addEdge {G : Gr} (h : G.Ok) {u v : Int} {dd dn : Addr} (hu : u ∈ G.names) (hv : v ∈ G.names) (hd : dd = dn ∨ dd ∈ G.junk) : (G.addEdge u v dd dn).Ok where
  nd := h.nd
  N := fun n hn => .tail _ (h.N n hn)
  sk := fun n hn e he => by
    have he : e ∈ (if n = u then stored (G.sk u) v (.ref dd) else G.sk n) := he
    show e.1 ∈ G.names ∧ ∃ a, e.2 = .ref a ∧ a ∈ dn :: G.junk
    split at he
    · rcases stored_mem he with he | rfl
      · obtain ⟨h1, a, h2, h3⟩ := h.sk u hu e he
        exact ⟨h1, a, h2, .tail _ h3⟩
      · refine ⟨hv, dd, rfl, ?_⟩
        rcases hd with rfl | hd
        · exact .head _
        · exact .tail _ hd
    · obtain ⟨h1, a, h2, h3⟩ := h.sk n hn e he
      exact ⟨h1, a, h2, .tail _ h3⟩
  sn := fun n hn => by
    show ((if n = u then stored (G.sk u) v (.ref dd) else G.sk n).map (·.1)).Nodup
    split
    · exact stored_nodup (h.sn u hu)
    · exact h.sn n hn
  pn := fun n hn => by
    show ((if n = v then stored (G.pk v) u (.ref dd) else G.pk n).map (·.1)).Nodup
    split
    · exact stored_nodup (h.pn v hv)
    · exact h.pn n hn
  ps := fun n hn m => by
    show m ∈ (if n = v then stored (G.pk v) u (.ref dd) else G.pk n).map (·.1) ↔ m ∈ G.names ∧ n ∈ (if m = u then stored (G.sk u) v (.ref dd) else G.sk m).map (·.1)
    by_cases e1 : n = v
    · rw [if_pos e1, stored_keys, h.ps v hv m]
      by_cases e2 : m = u
      · rw [if_pos e2, stored_keys]
        subst e1 e2
        simp [hu]
      · rw [if_neg e2]
        subst e1
        simp [e2]
    · rw [if_neg e1, h.ps n hn m]
      by_cases e2 : m = u
      · rw [if_pos e2, stored_keys]
        subst e2
        simp [e1]
      · rw [if_neg e2]
  len := h.len
  mo := h.mo
theorem addEdge_keys {G : Gr} {u v x y : Int} {dd dn : Addr} : y ∈ ((G.addEdge u v dd dn).sk x).map (·.1) ↔ y ∈ (G.sk x).map (·.1) ∨ (x = u ∧ y = v) := by
  show y ∈ (if x = u then stored (G.sk u) v (.ref dd) else G.sk x).map (·.1) ↔ _
  by_cases e : x = u
  · rw [if_pos e, stored_keys]; subst e; simp
  · rw [if_neg e]; simp [e]
/-- the lists of followers that the law keeps -/
def waysOwn (l : List Int) (wl : Int → Addr) (succ : Int → List Int) : Own := l.map fun n => (wl n, AList ((succ n).map iv))
theorem waysOwn.mem {l : List Int} {wl : Int → Addr} {succ : Int → List Int} {n : Int} (h : n ∈ l) : (wl n, AList ((succ n).map iv)) ∈ waysOwn l wl succ := List.mem_map_of_mem (f := fun n => (wl n, AList ((succ n).map iv))) h
theorem waysOwn.upd {wl : Int → Addr} {succ : Int → List Int} {n : Int} {xs : List Int} : ∀ {l : List Int}, n ∈ l → l.Nodup →
    Upd (wl n) (AList ((succ n).map iv)) (AList (xs.map iv)) (waysOwn l wl succ) (waysOwn l wl fun m => if m = n then xs else succ m)
  | x :: l, h, nd => by
    rw [List.nodup_cons] at nd
    by_cases e : x = n
    · subst e
      have : waysOwn l wl (fun m => if m = x then xs else succ m) = waysOwn l wl succ := by
        unfold waysOwn
        refine List.map_congr_left fun m hm => ?_
        dsimp only
        rw [if_neg (fun q : m = x => nd.1 (by rw [← q]; exact hm))]
      show Upd (wl x) _ _ ((wl x, AList ((succ x).map iv)) :: waysOwn l wl succ) ((wl x, AList ((if x = x then xs else succ x).map iv)) :: waysOwn l wl fun m => if m = x then xs else succ m)
      rw [this, if_pos rfl]
      exact .head _
    · have hm := (List.mem_cons.mp h).resolve_left fun q => e q.symm
      show Upd (wl n) _ _ ((wl x, AList ((succ x).map iv)) :: waysOwn l wl succ) ((wl x, AList ((if x = n then xs else succ x).map iv)) :: waysOwn l wl fun m => if m = n then xs else succ m)
      rw [if_neg e]
      exact .tail _ (waysOwn.upd hm nd.2)
theorem waysOwn.snoc' {l : List Int} {wl : Int → Addr} {f : Int → List Int} {n : Int} {a : Addr} (hn : n ∉ l) : waysOwn (l ++ [n]) (fun m => if m = n then a else wl m) f = waysOwn l wl f ++ [(a, AList ((f n).map iv))] := by
  unfold waysOwn
  rw [List.map_append]
  congr 1
  · refine List.map_congr_left fun m hm => ?_
    dsimp only
    rw [if_neg (fun q : m = n => hn (by rw [← q]; exact hm))]
  · simp
theorem waysOwn.snoc {l : List Int} {wl : Int → Addr} {n : Int} {a : Addr} (hn : n ∉ l) : waysOwn (l ++ [n]) (fun m => if m = n then a else wl m) (fun _ => []) = waysOwn l wl (fun _ => []) ++ [(a, AList [])] := waysOwn.snoc' hn
end Mine
end
section
set_option maxRecDepth 100000
open PySem PySem.Calls PyProof.Rows PySem.W PySem.Spec
namespace Mine
/-- nothing is raised -/
abbrev NoE : Value → Shared → Prop := fun _ _ => False
abbrev okR {α : Type} (f : Flow → Option α) (Q : α → Shared → Prop) : Result → Shared → Prop := fun r s' => match r with | .ok fl => (match f fl with | some a => Q a s' | none => False) | .error _ => False
section
variable {α β : Type} {M : Model} {A : Around} {Q : α → Shared → Prop} {s : Shared}
theorem wpC_holding {vs : List Value} {m : Sem α} {E : Value → Shared → Prop} (h : wpC M A m Q E s) : wpC M A (holding vs m) Q E s :=
  fun Γ p hΓ hc => by rw [Sem.wp_holding]; exact h Γ p hΓ hc
theorem wpC_onRaise {m : Sem α} {k : Value → Sem Unit} (h : wpC M A m Q NoE s) : wpC M A (m.onRaise k) Q NoE s := fun Γ p hΓ hc => by
  rw [Sem.wp_onRaise]
  exact Sem.wp_mono M Γ m (fun _ _ _ h' => h') (fun _ _ _ h' => h'.elim) p s (h Γ p hΓ hc)
theorem wpC_attempt {m : Sem α} {Q : Except Value α → Shared → Prop} (h : wpC M A m (fun a => Q (.ok a)) NoE s) : wpC M A m.attempt Q NoE s := fun Γ p hΓ hc => by
  rw [Sem.wp_attempt]
  exact Sem.wp_mono M Γ m (fun _ _ _ h' => h') (fun _ _ _ h' => h'.elim) p s (h Γ p hΓ hc)
theorem wpC_tryCatch {m : Sem α} {k : Value → Sem α} (h : wpC M A m Q NoE s) : wpC M A (tryCatch m k) Q NoE s := fun Γ p hΓ hc => by
  rw [Sem.wp_tryCatch']
  exact Sem.wp_mono M Γ m (fun _ _ _ h' => h') (fun e p' s' h' => h'.elim) p s (h Γ p hΓ hc)
theorem wpC_of_eq {m : Sem Unit} {Q : Unit → Shared → Prop} {E : Value → Shared → Prop} (e : m = pure ()) (h : Q () s) : wpC M A m Q E s := by rw [e]; exact wpC_pure h
theorem wpC_of_pure {m : Sem α} {a : α} {E : Value → Shared → Prop} (e : m = pure a) (h : Q a s) : wpC M A m Q E s := by rw [e]; exact wpC_pure h
theorem wpC_standAt {pos : Pos} {Q : Unit → Shared → Prop} {E : Value → Shared → Prop} (h : Q () s) : wpC M A (standAt pos) Q E s := fun _ _ _ _ => h
theorem wpC_point {Q : Unit → Shared → Prop} {E : Value → Shared → Prop} (h : Q () s) : wpC M A point Q E s := fun _ _ _ _ => h
theorem enter_clean {Γ : PySem.Ctx} (hc : Clean Γ) {c : Code} (hq : isFin c = false) (hd : Option Value) (p : Pos) : Clean (Γ.enter c hd p) :=
  ⟨hq, fun x hx => by
    rcases List.mem_cons.mp hx with rfl | hx
    · exact hc.1
    · exact hc.2 x hx⟩
theorem wpC_run {c : Code} {h : Option Value} {Q : Flow → Shared → Prop} (hq : isFin c = false)
    (hc : codeC M (A.mark h) c (fun r s' => match r with | .ok f => Q f s' | .error _ => False) s) (hnb : h ≠ some byPass := by intro x; cases x) : wpC M A (run c h) Q NoE s :=
  fun Γ p hΓ hcl => by
    rw [Sem.wp_run]
    exact wpCode_mono (fun r s' z => by cases r <;> exact z) (hc _ p rfl (hΓ.enter c h p hnb) (enter_clean hcl hq h p))
theorem wpC_runValue {c : Code} {Q : Value → Shared → Prop} (hq : isFin c = false)
    (hc : codeC M A c (fun r s' => match r with | .ok (.ret v) => Q v s' | _ => False) s) : wpC M A (runValue c) Q NoE s := fun Γ p hΓ hcl => by
  rw [Sem.wp_runValue]
  exact wpCode_mono (fun r s' z => by
    rcases r with e | fl
    · exact z
    · cases fl <;> exact z) (hc _ p rfl (hΓ.enter c none p (by intro x; cases x)) (enter_clean hcl hq none p))
theorem wpC_call {f : Value} {pos : List Value} {kw : List (Str × Value)} {Q : Value → Shared → Prop}
    (hc : codeC M A (.call f ⟨pos, kw⟩) (fun r s' => match r with | .ok (.ret v) => Q v s' | _ => False) s) : wpC M A (call f pos kw) Q NoE s := wpC_runValue rfl hc
theorem codeC_of_tree {c : Code} {R : Result → Shared → Prop}
    (h : wpC M (A.under c) (M.den c) (fun fin s' => match fin with | .done f => R (.ok f) s' | .again c' => c'.quiet = true ∧ isFin c' = false ∧ codeC M A c' R s') NoE s) : codeC M A c R s := fun Γ p hc hΓ hcl => by
  rw [wpCode_iff_wp, hc]
  refine Sem.wp_mono M Γ _ (fun fin p' s' h' => ?_) (fun _ _ _ h' => h'.elim) p s (h Γ p (hc ▸ hΓ.in) hcl)
  cases fin with
  | done f => exact h'
  | again c' => exact ⟨h'.1, h'.2.2 (Γ.goto c') p' rfl (hΓ.goto c') ⟨h'.2.1, hcl.2⟩⟩
theorem codeC_mono {c : Code} {R R' : Result → Shared → Prop} (h : codeC M A c R s) (hR : ∀ r s, R r s → R' r s) : codeC M A c R' s := fun Γ p hc hΓ hcl => wpCode_mono hR (h Γ p hc hΓ hcl)
theorem codeC_loop {c : Code} {R : Result → Shared → Prop} (hq : c.quiet = true) (hf : isFin c = false) (I : Nat → Shared → Prop)
    (turn : ∀ n s, I n s → wpC M (A.under c) (M.den c)
      (fun fin s' => match fin with
        | .done f => R (.ok f) s'
        | .again c' => (c' = c ∧ ∃ m, m < n ∧ I m s') ∨ (c'.quiet = true ∧ isFin c' = false ∧ codeC M A c' R s')) NoE s)
    (n : Nat) (h : I n s) : codeC M A c R s := by
  induction n using Nat.strongRecOn generalizing s with
  | ind n ih =>
    refine codeC_of_tree (wpC_mono (turn n s h) (fun fin s' hr => ?_) fun _ _ h' => h')
    cases fin with
    | done f => exact hr
    | again c' =>
      rcases hr with ⟨rfl, m, hm, hI⟩ | hr
      · exact ⟨hq, hf, ih m hm hI⟩
      · exact hr
end
section
variable {prog : Program} {w : World} {A : Around} {env : Env} {s : Shared}
theorem wpC_runOwn {c : Code} {h : Option Value} {Q : Flow → Shared → Prop} (hq : isFin c = false)
    (hc : codeC (model prog w) (A.mark h) c (fun r s' => match r with | .ok f => Q f s' | .error _ => False) s) (hnb : h ≠ some byPass := by intro x; cases x) :
    wpC (model prog w) A (runOwn c env h) Q NoE s := by
  unfold runOwn
  exact wpC_onRaise (wpC_run hq hc hnb)
theorem codeC_block {stmts : List Stmt} {R : Result → Shared → Prop} (h : wpC (model prog w) A (execs stmts env) (fun f s' => R (.ok f) s') NoE s) : codeC (model prog w) A (.block stmts env) R s := by
  refine codeC_of_tree ?_
  show wpC _ _ (do return Fin.done (← (execs stmts env).onRaise (fun x => do noteFrame x env; theTreesLotGoes x))) _ _ s
  exact wpC_bind (wpC_onRaise (wpC_mono h (fun f s' h' => wpC_pure h') fun _ _ h' => h'))
theorem codeC_whileLoop {test : Expr} {body orelse : List Stmt} {R : Result → Shared → Prop} (I : Nat → Shared → Prop)
    (turn : ∀ n s, I n s → wpC (model prog w) A (isTrue test env (eval test env)) (fun b s₂ =>
        if b then wpC (model prog w) A (execs body env) (fun f s₃ => match f with
            | .next | .cont => ∃ m, m < n ∧ I m s₃
            | .brk => R (.ok .next) s₃
            | .ret v => R (.ok (.ret v)) s₃) NoE s₂
        else wpC (model prog w) A (execs orelse env) (fun f s₃ => R (.ok f) s₃) NoE s₂) NoE s)
    (n : Nat) (h : I n s) : codeC (model prog w) A (.whileLoop test body orelse env) R s := by
  refine codeC_loop rfl rfl I (fun n s hI => ?_) n h
  show wpC _ A ((whileTurn test body orelse env).onRaise (fun x => do noteFrame x env; theTreesLotGoes x)) _ _ s
  refine wpC_onRaise ?_
  simp only [whileTurn]
  refine wpC_bind (wpC_mono (turn n s hI) (fun b s₂ h₂ => ?_) fun _ _ h' => h')
  cases b with
  | false =>
    simp only [Bool.false_eq_true, if_false] at h₂ ⊢
    exact wpC_bind (wpC_mono h₂ (fun f s₃ h₃ => wpC_pure h₃) fun _ _ h' => h')
  | true =>
    simp only [if_true] at h₂ ⊢
    refine wpC_bind (wpC_mono h₂ (fun f s₃ h₃ => ?_) fun _ _ h' => h')
    cases f with
    | next => exact wpC_pure (.inl ⟨rfl, h₃⟩)
    | cont => exact wpC_pure (.inl ⟨rfl, h₃⟩)
    | brk => exact wpC_pure h₃
    | ret v => exact wpC_pure h₃
theorem codeC_forLoop {target : Expr} {it : Value} {body orelse : List Stmt} {R : Result → Shared → Prop} (I : Nat → Shared → Prop)
    (turn : ∀ n s, I n s → wpC (model prog w) A (pyNext it) (fun r s₁ => match r with
      | none => wpC (model prog w) A (execs orelse env) (fun f s₃ => R (.ok f) s₃) NoE s₁
      | some v => wpC (model prog w) A (assign target env v) (fun _ s₂ => wpC (model prog w) A (execs body env) (fun f s₃ => match f with
          | .next | .cont => ∃ m, m < n ∧ I m s₃
          | .brk => R (.ok .next) s₃
          | .ret v => R (.ok (.ret v)) s₃) NoE s₂) NoE s₁) NoE s)
    (n : Nat) (h : I n s) (ht : ∀ v, letOwnedTupleGo target it v = pure () := by intro _; rfl) : codeC (model prog w) A (.forLoop target it body orelse env) R s := by
  refine codeC_loop rfl rfl I (fun n s hI => ?_) n h
  show wpC _ _ ((forTurn target it body orelse env).onRaise (fun x => do noteFrame x env; theTreesLotGoes x)) _ _ s
  refine wpC_onRaise ?_
  simp only [forTurn]
  refine wpC_bind (wpC_standAt (wpC_bind (wpC_onRaise (wpC_mono (turn n s hI) (fun r s₁ h₁ => ?_) fun _ _ h' => h'))))
  cases r with
  | none => exact wpC_pure (.inr ⟨rfl, rfl, codeC_block h₁⟩)
  | some v =>
    refine wpC_bind (wpC_of_eq (ht v) ?_)
    refine wpC_bind (wpC_mono h₁ (fun _ s₂ h₂ => wpC_bind (wpC_mono h₂ (fun f s₃ h₃ => ?_) fun _ _ h' => h')) fun _ _ h' => h')
    cases f with
    | next => exact wpC_pure (.inl ⟨rfl, h₃⟩)
    | cont => exact wpC_pure (.inl ⟨rfl, h₃⟩)
    | brk => exact wpC_pure h₃
    | ret v => exact wpC_pure h₃
theorem codeC_func {body : List Stmt} {R : Result → Shared → Prop}
    (h : wpC (model prog w) (A.deeper env) (execs body env) (fun f s' => R (.ok (.ret (match f with | .ret v => v | _ => .none))) s') NoE s) : codeC (model prog w) A (.func body env) R s := by
  refine codeC_of_tree ?_
  show wpC _ (A.deeper env) (do point; match ← (execs body env).onRaise (leaving env) with | .ret v => ret v | _ => ret .none) _ _ s
  refine wpC_bind (wpC_point (wpC_bind (wpC_onRaise (wpC_mono h (fun f s' h' => ?_) fun _ _ h' => h'))))
  cases f <;> exact wpC_pure h'
theorem codeC_call_function {a : Addr} {args : Args} {o : Obj} {fd : FuncData} {body : List Stmt} {R : Result → Shared → Prop} (hroom : A.depth < recursionLimit)
    (ho : s.heap.get? a = some o)
    (hd' : o.data = .func fd) (hco : fd.scope.isCoroutine = false) (hgen : fd.scope.isGenerator = false) (hbody : fd.body = .stmts body) (hcd : s.heap.CodeRec fd.code fd.qualname)
    (h : wpAny (model prog w) A.in1 (bindArgs fd args) (fun binds s₁ =>
      wpAny (model prog w) A.in1 (newFunctionEnv fd.scope fd.globals fd.closure binds (fd.qualname ++ ".<locals>.") (some a) fd.code none fd.builtins)
        (fun env s₂ => s₂.heap.NoLimit ∧ codeC (model prog w) A (.func body env) R s₂) NoE s₁) NoE s) :
    codeC (model prog w) A (.call (.ref a) args) R s := by
  refine codeC_of_tree ?_
  show wpC _ A.in1 (callAny (.ref a) args) _ _ s
  refine wpC_of ?_
  simp only [callAny]
  refine wpAny_bind (wpAny_load ho ?_)
  obtain ⟨c, oc, vs, tq, hc, hoc, hdc, hq⟩ := hcd
  simp only [hd', callFunction, hco, hgen, hbody, hc]
  rw [hc] at h
  refine wpAny_bind (m := field (.ref c) 1) (wpAny_field hoc hdc hq (wpAny_bind (wpAny_pure ?_)))
  exact wpAny_bind (wpAny_mono h (fun binds s₁ h₁ => wpAny_bind (wpAny_mono h₁ (fun env s₂ h₂ => wpAny_bind (wpAny_enterFrame h₂.1 hroom
    (wpAny_pure (And.intro rfl (And.intro rfl h₂.2))))) fun _ _ h' => h')) fun _ _ h' => h')
end
end Mine
end
section
set_option maxRecDepth 100000
open PySem PySem.Calls PyProof.Rows PySem.W PySem.Spec
namespace Mine

section
variable {prog : Program} {w : World} {B : Bs} {A : Around} {own : Own} {gs : Array GenState}
/-- one stretch of a generator's run, up to its next yield or its end -/
def SJ (prog : Program) (w : World) (B : Bs) (A : Around) (Out : End → Own → Array GenState → Prop) (c : Code) (t : Sem Fin) (fs : List Frame) (own : Own) (gs : Array GenState) : Prop :=
  ∀ s Γ p, Γ.code = c → Γ.Woken A → Rep B own gs s → ∃ e s', Runs (model prog w) Γ p t fs s e s' ∧ e.quiet = true ∧ ∃ own' gs', Rep B own' gs' s' ∧ Out e own' gs'
variable {Out : End → Own → Array GenState → Prop} {c : Code} {fs : List Frame}
theorem SJ_wrap {α : Type} {m : Sem α} {K : α → Sem Fin} {H : Value → Sem Fin} {gd lv} (h : J prog w B (A.over c fs) m own gs fun a o g => SJ prog w B A Out c (K a) fs o g) :
    SJ prog w B A Out c (m.wrap K H gd lv) fs own gs := by
  rintro s Γ p rfl hΓ R
  obtain ⟨e, s'', hr, hq, hΦ⟩ := runs_wrap_of_wp (Φ := fun e s => e.quiet = true ∧ ∃ own' gs', Rep B own' gs' s ∧ Out e own' gs') K H gd lv m (h s R (Γ.over fs) p (hΓ.over fs))
    (fun a p' s' ⟨o, g, R', h'⟩ => h' s' Γ p' rfl hΓ R') (fun _ _ _ x => x.elim)
  exact ⟨e, s'', hr, hq, hΦ⟩
theorem SJ_sub {t : Sem Fin} {o₂ : Own} (hs : Sub o₂ own) (h : SJ prog w B A Out c t fs o₂ gs) : SJ prog w B A Out c t fs own gs := fun s Γ p hc hΓ R => h s Γ p hc hΓ (R.sub hs)
theorem SJ_mono {t : Sem Fin} {Out' : End → Own → Array GenState → Prop} (h : SJ prog w B A Out c t fs own gs) (ho : ∀ e o g, Out e o g → Out' e o g) : SJ prog w B A Out' c t fs own gs := fun s Γ p hc hΓ R => by
  obtain ⟨e, s', hr, hq, o, g, R', h'⟩ := h s Γ p hc hΓ R
  exact ⟨e, s', hr, hq, o, g, R', ho _ _ _ h'⟩
theorem SJ_bind {α : Type} {m : Sem α} {K : α → Sem Fin} (h : J prog w B (A.over c fs) m own gs fun a o g => SJ prog w B A Out c (K a) fs o g) : SJ prog w B A Out c (m >>= K) fs own gs := by
  rw [Sem.bind_eq_wrap']; exact SJ_wrap h
theorem SJ_at {p' : Pos} {k : Unit → Sem Fin} (h : SJ prog w B A Out c (k ()) fs own gs) : SJ prog w B A Out c (.at p' k) fs own gs :=
  SJ_wrap (m := standAt p') (K := k) (H := .raise) (gd := id) (lv := id) (fun _ R => wpAny_standAt ⟨own, gs, R, h⟩)
theorem SJ_point {l : List Value} {k : Unit → Sem Fin} (h : SJ prog w B A Out c (k ()) fs own gs) : SJ prog w B A Out c (.point l k) fs own gs :=
  SJ_wrap (m := point) (K := k) (H := .raise) (gd := id) (lv := fun _ => l) (fun _ R => wpAny_point ⟨own, gs, R, h⟩)
theorem SJ_call {c' : Code} {h g l} {k : Result → Sem Fin} (hc : ∀ p, SJ prog w B A Out c' ((model prog w).den c') (.ret k h g l c p [] :: fs) own gs) :
    SJ prog w B A Out c (.call c' h g l k) fs own gs := by
  rintro s Γ p rfl hΓ R
  obtain ⟨e, s', hr, he⟩ := hc p s (Γ.goto c') p rfl (hΓ.goto c') R
  exact ⟨e, s', runs_call_seg hr, he⟩
theorem SJ_leaf {k h g l c₁ p₁ kp} (r : Result) (hk : SJ prog w B A Out c₁ (k r) fs own gs) : SJ prog w B A Out c (leafOf r) (.ret k h g l c₁ p₁ kp :: fs) own gs := by
  rintro s Γ p rfl hΓ R
  obtain ⟨e, s', hr, he⟩ := hk s (Γ.goto c₁) p₁ rfl (hΓ.goto c₁) R
  exact ⟨e, s', Runs.pop r hr, he⟩
theorem SJ_again {c' : Code} (hq : c'.quiet = true) (hc : SJ prog w B A Out c' ((model prog w).den c') fs own gs) : SJ prog w B A Out c (.pure (.again c')) fs own gs := by
  rintro s Γ p rfl hΓ R
  obtain ⟨e, s', hr, he⟩ := hc s (Γ.goto c') p rfl (hΓ.goto c') R
  exact ⟨e, s', Runs.head (c₁ := c') (fun _ _ x => .again hq x) hr, he⟩
theorem SJ_end (r : Result) (h : Out (.ret r) own gs) : SJ prog w B A Out c (leafOf r) [] own gs := by
  rintro s Γ p rfl _ R
  exact ⟨.ret r, s, Runs.leaf r, rfl, own, gs, R, h⟩
theorem SJ_yield {v g l} {k : Resume → Sem Fin} (hfs : splitAtGen fs = none) (hg : g = false) (hfg : fs.any Frame.guarded = false)
    (h : ∀ p, Out (.susp v g l k c p fs) own gs) : SJ prog w B A Out c (.yield v g l k) fs own gs := by
  rintro s Γ p rfl _ R
  exact ⟨_, s, Runs.yield' fs hfs, by simp [End.quiet, hg, hfg], own, gs, R, h p⟩

/-- what a generator's state does when it is woken -/
def Wake (prog : Program) (w : World) (B : Bs) (A : Around) (Out : End → Own → Array GenState → Prop) (st : GenState) (own : Own) (gs : Array GenState) : Prop :=
  match st with
  | .fresh c => SJ prog w B A Out c ((model prog w).den c) [] own gs
  | .suspended k _ c _ fs _ => SJ prog w B A Out c (k (.send .none)) fs own gs
  | _ => False
theorem J_resume {g : Nat} {st : GenState} {l : List Value} {α : Type} {k : GenResult → Sem α} {Q : α → Own → Array GenState → Prop} (hg : gs[g]? = some st)
    (h : Wake prog w B A (fun e o g' => J prog w B A (k e.result) o (g'.setIfInBounds g e.genState) Q) st own (gs.setIfInBounds g .running)) :
    J prog w B A (.resume g (.send .none) l k) own gs Q := by
  intro s R Γ p hΓ
  rw [Sem.wp_resume]
  have hg' : s.gens[g]? = some st := by rw [R.gens]; exact hg
  have R' : Rep B own (gs.setIfInBounds g .running) (s.setGen g .running) := ⟨R.b, R.o, R.dis, R.nd, by show s.gens.setIfInBounds g .running = _; rw [R.gens], R.os⟩
  have hB : ∀ c, (Γ.wake c p).Woken A := fun c => hΓ.wake c p
  have fin : ∀ (e₁ : End) (s₁ : Shared) (o : Own) (g' : Array GenState), Rep B o g' s₁ → J prog w B A (k e₁.result) o (g'.setIfInBounds g e₁.genState) Q →
      Sem.wp (model prog w) Γ (k e₁.result) (fun a _ s' => ∃ own' gs', Rep B own' gs' s' ∧ Q a own' gs') (fun _ _ _ => False) p (s₁.setGen g e₁.genState) := fun e₁ s₁ o g' R₁ hJ => by
    have R₂ : Rep B o (g'.setIfInBounds g e₁.genState) (s₁.setGen g e₁.genState) := ⟨R₁.b, R₁.o, R₁.dis, R₁.nd, by show s₁.gens.setIfInBounds g _ = _; rw [R₁.gens], R₁.os⟩
    exact hJ _ R₂ Γ p hΓ
  cases st with
  | fresh c =>
    obtain ⟨e₁, s₁, hr, hq, o, g', R₁, hJ⟩ := h _ (Γ.wake c p) p rfl (hB c) R'
    exact ⟨_, _, by unfold Wakes; rw [hg']; exact ⟨e₁, s₁, hr, hq, rfl, rfl⟩, fin e₁ s₁ o g' R₁ hJ⟩
  | suspended k₀ l₀ c₀ p₀ fs₀ cl =>
    obtain ⟨e₁, s₁, hr, hq, o, g', R₁, hJ⟩ := h _ (Γ.wake c₀ p) p₀ rfl (hB c₀) R'
    exact ⟨_, _, by unfold Wakes; rw [hg']; exact ⟨e₁, s₁, hr, hq, rfl, rfl⟩, fin e₁ s₁ o g' R₁ hJ⟩
  | running => exact h.elim
  | finished => exact h.elim

-- statements within a generator
variable {env : Env} {K : Flow → Sem Fin} {H : Value → Sem Fin} {gd : Bool → Bool} {lv : List Value → List Value}
theorem SJ_nil (h : SJ prog w B A Out c (K .next) fs own gs) : SJ prog w B A Out c ((execs [] env).wrap K H gd lv) fs own gs := h
def contK (rest : List Stmt) (env : Env) (K : Flow → Sem Fin) (H : Value → Sem Fin) (gd : Bool → Bool) (lv : List Value → List Value) : Flow → Sem Fin := fun f => match f with
  | .next => (execs rest env).wrap K H gd lv
  | f => K f
theorem SJ_cons {st : Stmt} {rest : List Stmt} (h : SJ prog w B A Out c ((exec st env).wrap (contK rest env K H gd lv) H gd lv) fs own gs) :
    SJ prog w B A Out c ((execs (st :: rest) env).wrap K H gd lv) fs own gs := by
  rw [execs_cons_wrap]; exact h
/-- a statement that does not yield -/
theorem SJ_plain {st : Stmt} (h : JF prog w B (A.over c fs) (exec st env) own gs fun f o g => ∀ f', erF f' = f → SJ prog w B A Out c (K f') fs o g) : SJ prog w B A Out c ((exec st env).wrap K H gd lv) fs own gs :=
  SJ_wrap (J_mono h fun f o g h' => h' f rfl)
theorem SJ_Yield {e : Expr} {ypos pos : Pos} (hfs : splitAtGen fs = none) (hgd : gd false = false) (hfg : fs.any Frame.guarded = false)
    (h : J prog w B (A.over c fs) (eval e env) own gs fun v o g => ∀ (k : Resume → Sem Fin) l p, (∀ Out' o' g', SJ prog w B A Out' c (K .next) fs o' g' → SJ prog w B A Out' c (k (.send .none)) fs o' g') → Out (.susp v (gd false) l k c p fs) o g)
    (hco : env.scope.isCoroutine = false := by rfl) (hi : interactive env = false := by rfl) :
    SJ prog w B A Out c ((exec (.Expr (.Yield (some e) ypos) pos) env).wrap K H gd lv) fs own gs := by
  rw [exec_Expr env _ pos hi rfl]
  show SJ prog w B A Out c (.at pos fun _ => ((eval e env >>= fun v => (standAt ypos >>= fun _ => yieldOut env v)) >>= fun x =>
    dropValue (.Yield (some e) ypos) pos x).wrap K H gd lv) fs own gs
  have hy : ∀ v, yieldOut env v = yieldValue v := fun v => by simp only [yieldOut, hco, Bool.false_eq_true, if_false]
  simp only [hy]
  refine SJ_at ?_
  rw [Sem.bind_eq_wrap', Sem.bind_eq_wrap', Sem.wrap_wrap, Sem.wrap_wrap]
  refine SJ_wrap (J_mono h fun v o g h' => ?_)
  refine SJ_at (SJ_yield hfs hgd hfg fun p => ?_)
  exact h' _ _ p fun Out' o' g' hs => hs
end
end Mine
end
section
set_option maxRecDepth 100000
open PySem PySem.Calls PyProof.Rows PySem.W PySem.Spec
namespace Mine
section
variable {prog : Program} {w : World} {B : Bs} {A : Around} {Out : End → Own → Array GenState → Prop} {c : Code} {fs : List Frame} {own : Own} {gs : Array GenState} {env : Env} {K : Flow → Sem Fin}
/-- a statement list in tail position, whatever stands for the raises -/
def SF (prog : Program) (w : World) (B : Bs) (A : Around) (Out : End → Own → Array GenState → Prop) (c : Code) (t : Sem Flow) (K : Flow → Sem Fin) (fs : List Frame) (own : Own) (gs : Array GenState) : Prop :=
  ∀ H, SJ prog w B A Out c (t.wrap K H id id) fs own gs
theorem SF_sub {t : Sem Flow} {o₂ : Own} (hs : Sub o₂ own) (h : SF prog w B A Out c t K fs o₂ gs) : SF prog w B A Out c t K fs own gs := fun H => SJ_sub hs (h H)
theorem SJ_bindw {α β : Type} {m : Sem α} {f : α → Sem β} {K : β → Sem Fin} {H : Value → Sem Fin} (h : J prog w B (A.over c fs) m own gs fun a o g => SJ prog w B A Out c ((f a).wrap K H id id) fs o g) :
    SJ prog w B A Out c ((m >>= f).wrap K H id id) fs own gs := by
  rw [Sem.bind_eq_wrap', Sem.wrap_wrap]
  exact SJ_wrap h
theorem SF_nil (h : SJ prog w B A Out c (K .next) fs own gs) : SF prog w B A Out c (execs [] env) K fs own gs := fun _ => h
theorem SF_cons {st : Stmt} {rest : List Stmt} (h : ∀ H, SJ prog w B A Out c ((exec st env).wrap (contK rest env K H id id) H id id) fs own gs) : SF prog w B A Out c (execs (st :: rest) env) K fs own gs := fun H => by
  rw [execs_cons_wrap]; exact h H
/-- a statement that does not yield, then the rest -/
theorem SF_plain {st : Stmt} {rest : List Stmt} (h : JF prog w B (A.over c fs) (exec st env) own gs fun f o g => f = .next ∧ SF prog w B A Out c (execs rest env) K fs o g) : SF prog w B A Out c (execs (st :: rest) env) K fs own gs :=
  SF_cons fun H => SJ_wrap (J_mono h fun f o g ⟨e, h'⟩ => by
    cases f with
    | next => exact h' H
    | _ => cases e)
/-- the last words of a list: what does not yield and need not come to its end -/
theorem SF_last {st : Stmt} {rest : List Stmt} (h : JF prog w B (A.over c fs) (exec st env) own gs fun f o g => match f with
    | .next => SF prog w B A Out c (execs rest env) K fs o g
    | .brk => SJ prog w B A Out c (K .brk) fs o g
    | .cont => SJ prog w B A Out c (K .cont) fs o g
    | .ret v => ∀ u, er u = v → SJ prog w B A Out c (K (.ret u)) fs o g) : SF prog w B A Out c (execs (st :: rest) env) K fs own gs :=
  SF_cons fun H => SJ_wrap (J_mono h fun f o g h' => by
    cases f with
    | next => exact h' H
    | brk => exact h'
    | cont => exact h'
    | ret v => exact h' v rfl)
theorem SF_If {t : Expr} {b o : List Stmt} {pos : Pos} {rest : List Stmt}
    (h : TestJ prog w B (A.over c fs) env t own gs fun v o' g => ∀ K' : Flow → Sem Fin, (∀ A' Out' o'' g, SF prog w B A' Out' c (execs rest env) K fs o'' g → SJ prog w B A' Out' c (K' .next) fs o'' g) → (∀ f, f ≠ .next → K' f = K f) →
      if v = true then SF prog w B A Out c (execs b env) K' fs o' g else SF prog w B A Out c (execs o env) K' fs o' g) : SF prog w B A Out c (execs (.If t b o pos :: rest) env) K fs own gs :=
  SF_cons fun H => by
    rw [arm_exec_If]
    refine SJ_bindw (fun s R => wpAny_standAt ⟨own, gs, R, ?_⟩)
    refine SJ_bindw (J_mono h fun v o' g h' => ?_)
    have h'' := h' (contK rest env K H id id) (fun A' Out' o'' g x => x H) (fun f hf => by cases f <;> first | rfl | exact absurd rfl hf)
    cases v with
    | true => rw [if_pos rfl] at h''; exact h'' H
    | false => rw [if_neg Bool.false_ne_true] at h''; exact h'' H
theorem SF_Yield {e : Expr} {ypos pos : Pos} {rest : List Stmt} (hfs : splitAtGen fs = none) (hfg : fs.any Frame.guarded = false)
    (h : JV prog w B (A.over c fs) (eval e env) own gs fun v o g => ∀ (k : Resume → Sem Fin) l p u, er u = v → (∀ A' Out' o' g', SF prog w B A' Out' c (execs rest env) K fs o' g' → SJ prog w B A' Out' c (k (.send .none)) fs o' g') → Out (.susp u false l k c p fs) o g)
    (hco : env.scope.isCoroutine = false := by rfl) (hi : interactive env = false := by rfl) :
    SF prog w B A Out c (execs (.Expr (.Yield (some e) ypos) pos :: rest) env) K fs own gs := SF_cons fun H => by
  rw [exec_Expr env _ pos hi rfl]
  show SJ prog w B A Out c (.at pos fun _ => ((eval e env >>= fun v => (standAt ypos >>= fun _ => yieldOut env v)) >>= fun x =>
    dropValue (.Yield (some e) ypos) pos x).wrap (contK rest env K H id id) H id id) fs own gs
  have hy : ∀ v, yieldOut env v = yieldValue v := fun v => by simp only [yieldOut, hco, Bool.false_eq_true, if_false]
  simp only [hy]
  refine SJ_at ?_
  rw [Sem.bind_eq_wrap', Sem.bind_eq_wrap', Sem.wrap_wrap, Sem.wrap_wrap]
  refine SJ_wrap (J_mono h fun v o g h' => ?_)
  refine SJ_at (SJ_yield hfs rfl hfg fun p => ?_)
  exact h' _ _ p v rfl fun A' Out' o' g' hs => hs H
/-- the loop's own code, above the frames of what holds it -/
theorem SF_While {t : Expr} {b o : List Stmt} {pos : Pos} {rest : List Stmt}
    (h : ∀ k p, (∀ A' Out' c' o' g', SF prog w B A' Out' c (execs rest env) K fs o' g' → SJ prog w B A' Out' c' (.pure (.done .next)) (.ret k none false [] c p [] :: fs) o' g') →
      SJ prog w B A Out (.whileLoop t b o env) ((model prog w).den (.whileLoop t b o env)) (.ret k none false [] c p [] :: fs) own gs) : SF prog w B A Out c (execs (.While t b o pos :: rest) env) K fs own gs := SF_cons fun H => by
  rw [arm_exec_While]
  show SJ prog w B A Out c (.at pos fun _ => .call (.whileLoop t b o env) none false [] _) fs own gs
  refine SJ_at (SJ_call fun p => h _ p fun A' Out' c' o' g' hs => ?_)
  exact SJ_leaf (.ok .next) (hs H)
theorem SF_For {t iter : Expr} {b o : List Stmt} {pos : Pos} {rest : List Stmt}
    (h : JV prog w B (A.over c fs) (eval iter env) own gs fun v o' g => IterJ prog w B (A.over c fs) v o' g fun u o' g => ∀ k p, (∀ A' Out' c' o' g', SF prog w B A' Out' c (execs rest env) K fs o' g' → SJ prog w B A' Out' c' (.pure (.done .next)) (.ret k none false [] c p [] :: fs) o' g') →
      SJ prog w B A Out (.forLoop t u b o env) ((model prog w).den (.forLoop t u b o env)) (.ret k none false [] c p [] :: fs) o' g)
    (hs : ∀ x, foldedSetIterable iter env x = pure x := by intro _; rfl) : SF prog w B A Out c (execs (.For t iter b o pos :: rest) env) K fs own gs := SF_cons fun H => by
  rw [arm_exec_For]
  refine SJ_at (k := fun _ => Sem.wrap _ _ _ _ (eval iter env >>= fun v => foldedSetIterable iter env v >>= fun x => standAt iter.pos >>= fun _ => holding [x] (pyIter x) >>= fun it => runOwn (.forLoop t it b o env) env)) ?_
  refine SJ_bindw (J_mono h fun v o' g h' => ?_)
  rw [hs]
  refine SJ_bindw (J_pure ?_)
  refine SJ_at (k := fun _ => Sem.wrap _ _ _ _ (holding [v] (pyIter v) >>= fun it => runOwn (.forLoop t it b o env) env)) ?_
  refine SJ_bindw (fun s R => wpAny_holding (J.any (h' v rfl) R fun it s' o' g R' h' => ⟨o', g, R', ?_⟩))
  show SJ prog w B A Out c (.call (.forLoop t it b o env) none false [] _) fs o' g
  refine SJ_call fun p => h' _ p fun A' Out' c' o' g' hs => ?_
  exact SJ_leaf (.ok .next) (hs H)
end

section
variable {prog : Program} {w : World} {B : Bs} {A : Around} {Out : End → Own → Array GenState → Prop} {fs : List Frame} {own : Own} {gs : Array GenState} {env : Env}
def whileK (t : Expr) (b o : List Stmt) (env : Env) : Flow → Sem Fin := fun f => match f with
  | .next | .cont => .pure (.again (.whileLoop t b o env))
  | .brk => .pure (.done .next)
  | .ret v => .pure (.done (.ret v))
def forK (t : Expr) (it : Value) (b o : List Stmt) (env : Env) : Flow → Sem Fin := fun f => match f with
  | .next | .cont => .pure (.again (.forLoop t it b o env))
  | .brk => .pure (.done .next)
  | .ret v => .pure (.done (.ret v))
def doneK : Flow → Sem Fin := fun f => .pure (.done f)
theorem SJ_whileLoop {t : Expr} {b o : List Stmt}
    (h : TestJ prog w B (A.over (.whileLoop t b o env) fs) env t own gs fun v o' g => if v = true then SF prog w B A Out (.whileLoop t b o env) (execs b env) (whileK t b o env) fs o' g
      else SF prog w B A Out (.whileLoop t b o env) (execs o env) doneK fs o' g) :
    SJ prog w B A Out (.whileLoop t b o env) ((model prog w).den (.whileLoop t b o env)) fs own gs := by
  show SJ prog w B A Out _ ((whileTurn t b o env).onRaise (fun x => do noteFrame x env; theTreesLotGoes x)) fs own gs
  unfold whileTurn
  rw [Sem.onRaise_eq_wrap]
  refine SJ_bindw (J_mono h fun v o' g h' => ?_)
  cases v with
  | true =>
    rw [if_pos rfl] at h'
    rw [if_pos rfl, Sem.bind_eq_wrap', Sem.wrap_wrap]
    rw [Sem.wrap_congr (execs b env) _ _ (K' := whileK t b o env) (H' := fun e => (Sem.raise e).wrap .pure (fun e => (do noteFrame e env; theTreesLotGoes e : Sem Unit).bind fun _ => .raise e) id id) (fun f => by cases f <;> rfl) (fun _ => rfl)]
    exact h' _
  | false =>
    rw [if_neg Bool.false_ne_true] at h'
    rw [if_neg Bool.false_ne_true, Sem.bind_eq_wrap', Sem.wrap_wrap]
    exact h' _
theorem SJ_block {b : List Stmt} (h : SF prog w B A Out (.block b env) (execs b env) doneK fs own gs) : SJ prog w B A Out (.block b env) ((model prog w).den (.block b env)) fs own gs := by
  show SJ prog w B A Out _ ((execs b env).onRaise (fun x => do noteFrame x env; theTreesLotGoes x) >>= fun f => pure (Fin.done f)) fs own gs
  rw [Sem.onRaise_eq_wrap, Sem.bind_eq_wrap', Sem.wrap_wrap]
  exact h _
theorem SJ_forLoop {t : Expr} {it : Value} {b o : List Stmt}
    (h : NextJ prog w B (A.over (.forLoop t it b o env) fs) it own gs fun r o' g => match r with
      | none => SF prog w B A Out (.block o env) (execs o env) doneK fs o' g
      | some v => AssignJ prog w B (A.over (.forLoop t it b o env) fs) env t v o' g fun o' g => SF prog w B A Out (.forLoop t it b o env) (execs b env) (forK t it b o env) fs o' g)
    (ht : ∀ it v, letOwnedTupleGo t it v = pure () := by intro _ _; rfl) :
    SJ prog w B A Out (.forLoop t it b o env) ((model prog w).den (.forLoop t it b o env)) fs own gs := by
  show SJ prog w B A Out _ ((forTurn t it b o env).onRaise (fun x => do noteFrame x env; theTreesLotGoes x)) fs own gs
  unfold forTurn
  rw [Sem.onRaise_eq_wrap]
  refine SJ_bindw (fun s R => wpAny_standAt ⟨own, gs, R, ?_⟩)
  refine SJ_bindw (fun s R => wpAny_onRaise (J.any h R fun r s' o' g R' h' => ⟨o', g, R', ?_⟩))
  cases r with
  | none => exact SJ_again rfl (SJ_block h')
  | some v =>
    have h' : AssignJ prog w B (A.over (.forLoop t it b o env) fs) env t (er v) o' g fun o' g => SF prog w B A Out (.forLoop t it b o env) (execs b env) (forK t it b o env) fs o' g := h'
    dsimp only
    rw [ht]
    refine SJ_bindw (J_pure ?_)
    refine SJ_bindw (J_mono (h' v rfl) fun _ o' g h' => ?_)
    rw [Sem.bind_eq_wrap', Sem.wrap_wrap]
    rw [Sem.wrap_congr (execs b env) _ _ (K' := forK t it b o env) (H' := fun e => (Sem.raise e).wrap .pure (fun e => (do noteFrame e env; theTreesLotGoes e : Sem Unit).bind fun _ => .raise e) id id) (fun f => by cases f <;> rfl) (fun _ => rfl)]
    exact h' _
def funcK : Flow → Sem Fin := fun f => .pure (.done (.ret (retOf f)))
theorem SJ_func {b : List Stmt} (h : SF prog w B A Out (.func b env) (execs b env) funcK fs own gs) : SJ prog w B A Out (.func b env) ((model prog w).den (.func b env)) fs own gs := by
  show SJ prog w B A Out _ (.point [] fun _ => ((execs b env).onRaise (leaving env)) >>= _) fs own gs
  refine SJ_point ?_
  rw [Sem.onRaise_eq_wrap, Sem.bind_eq_wrap', Sem.wrap_wrap]
  rw [Sem.wrap_congr (execs b env) _ _ (K' := funcK) (H' := fun e => ((leaving env e).bind fun _ => (Sem.raise e : Sem Flow)).wrap _ .raise id id) (fun f => by cases f <;> rfl) (fun e => rfl)]
  exact h _
end
end Mine
end
section
set_option maxRecDepth 100000
open PySem PySem.Calls PyProof.Rows PySem.W PySem.Spec
namespace Mine
def AGen (g : Nat) : Pd := fun o => o.cls = .type "generator" ∧ (∃ nm qn, o.data = .fields #[.int g 0, nm, qn]) ∧ o.slots = #[]
/-- the state of the generator within, if there is one -/
def ghas (gl : Option (Nat × GenState)) (gs : Array GenState) : Prop := match gl with
  | none => True
  | some (i, st) => gs[i]? = some st
def gset (gl : Option (Nat × GenState)) (gs : Array GenState) : Array GenState := match gl with
  | none => gs
  | some (i, st) => gs.setIfInBounds i st
abbrev Ev := Value → Own → Prop
section
variable (prog : Program) (w : World) (B : Bs) (n : Nat)
/-- what a generator that lies still will give: its yields in their order, then the end -/
def GY : List Ev → GenState → Own → Option (Nat × GenState) → Prop
  | [], st, int, gl => ∀ A rest gs, AOk B A n → ghas gl gs → Wake prog w B A (fun e o g => e.result = .returned .none ∧ e.genState = .finished ∧ Sub rest o ∧ g = gset (gl.map fun x => (x.1, .finished)) gs) st (int ++ rest) gs
  | y :: ys, st, int, gl => ∀ A rest gs, AOk B A n → ghas gl gs → Wake prog w B A (fun e o g => ∃ v ex int' gl', e.result = .yielded v ∧ y (er v) ex ∧ Sub (ex ++ (int' ++ rest)) o ∧ gl'.map (·.1) = gl.map (·.1) ∧ g = gset gl' gs ∧ GY ys e.genState int' gl') st (int ++ rest) gs
end
section
variable {prog : Program} {w : World} {B : Bs} {A : Around} {own : Own} {gs : Array GenState}
theorem resume_wp {g : Nat} {st : GenState} {l : List Value} {α : Type} {k : GenResult → Sem α} {Q : α → Shared → Prop} {E : Value → Shared → Prop} {Out : End → Own → Array GenState → Prop} {s : Shared} (R : Rep B own gs s) (hg : gs[g]? = some st)
    (h : Wake prog w B A Out st own (gs.setIfInBounds g .running))
    (hk : ∀ (e : End) (s₁ : Shared) (o : Own) (g' : Array GenState), Rep B o (g'.setIfInBounds g e.genState) (s₁.setGen g e.genState) → Out e o g' → wpAny (model prog w) A (k e.result) Q E (s₁.setGen g e.genState)) :
    wpAny (model prog w) A (.resume g (.send .none) l k) Q E s := by
  intro Γ p hΓ
  rw [Sem.wp_resume]
  have hg' : s.gens[g]? = some st := by rw [R.gens]; exact hg
  have R' : Rep B own (gs.setIfInBounds g .running) (s.setGen g .running) := ⟨R.b, R.o, R.dis, R.nd, by show s.gens.setIfInBounds g .running = _; rw [R.gens], R.os⟩
  have hB : ∀ c, (Γ.wake c p).Woken A := fun c => hΓ.wake c p
  have fin : ∀ (e₁ : End) (s₁ : Shared) (o : Own) (g' : Array GenState), Rep B o g' s₁ → Out e₁ o g' →
      Sem.wp (model prog w) Γ (k e₁.result) (fun a _ s' => Q a s') (fun e _ s' => E e s') p (s₁.setGen g e₁.genState) := fun e₁ s₁ o g' R₁ hJ => by
    have R₂ : Rep B o (g'.setIfInBounds g e₁.genState) (s₁.setGen g e₁.genState) := ⟨R₁.b, R₁.o, R₁.dis, R₁.nd, by show s₁.gens.setIfInBounds g _ = _; rw [R₁.gens], R₁.os⟩
    exact hk e₁ s₁ o g' R₂ hJ Γ p hΓ
  cases st with
  | fresh c =>
    obtain ⟨e₁, s₁, hr, hq, o, g', R₁, hJ⟩ := h _ (Γ.wake c p) p rfl (hB c) R'
    exact ⟨_, _, by unfold Wakes; rw [hg']; exact ⟨e₁, s₁, hr, hq, rfl, rfl⟩, fin e₁ s₁ o g' R₁ hJ⟩
  | suspended k₀ l₀ c₀ p₀ fs₀ cl =>
    obtain ⟨e₁, s₁, hr, hq, o, g', R₁, hJ⟩ := h _ (Γ.wake c₀ p) p₀ rfl (hB c₀) R'
    exact ⟨_, _, by unfold Wakes; rw [hg']; exact ⟨e₁, s₁, hr, hq, rfl, rfl⟩, fin e₁ s₁ o g' R₁ hJ⟩
  | running => exact h.elim
  | finished => exact h.elim
theorem AGen.isGen {g : Nat} {h : Heap} {a : Addr} {o : Obj} (ho : h.get? a = some o) (x : AGen g o) : h.IsGen a g := by
  obtain ⟨h1, ⟨nm, qn, h2⟩, h3⟩ := x
  exact ⟨o, nm, qn, ho, h1, h2, h3⟩
theorem Iter_gen {a : Addr} {g : Nat} {Q : Value → Own → Array GenState → Prop} (hg : Has B own a (AGen g)) (h : Q (.ref a) own gs) : IterJ prog w B A (.ref a) own gs Q := fun u hu s R => by
  rw [er_eq_ref hu]
  obtain ⟨o, ho, hp⟩ := R.get hg
  exact wpAny_pyIter_gen (AGen.isGen ho hp) ⟨own, gs, R, h⟩
/-- one step of a generator, whatever Out says of it -/
theorem Next_wake {n : Nat} {a : Addr} {g : Nat} {st : GenState} {Q : Option Value → Own → Array GenState → Prop} {Out : End → Own → Array GenState → Prop} (hA : AOk B A (n + 1)) (hl : ∀ h, B.sat h → h.NoLimit) (hm : Has B own a (AGen g)) (hg : gs[g]? = some st)
    (h : Wake prog w B A.in1 Out st own (gs.setIfInBounds g .running))
    (hq : ∀ e o g', Out e o g' → (∃ v, e.result = .yielded v ∧ Q (some (er v)) o (g'.setIfInBounds g e.genState)) ∨ (e.result = .returned .none ∧ e.genState = .finished ∧ Q none o (g'.setIfInBounds g .finished))) :
    NextJ prog w B A (.ref a) own gs Q := fun s R => by
  obtain ⟨o, ho, hp⟩ := R.get hm
  have hgen := AGen.isGen ho hp
  have hgs : s.gens[g]? = some st := by rw [R.gens]; exact hg
  unfold pyNext
  refine wpAny_bind (wpAny_attempt (wpAny_callSpecial?_slot (name := Str.ofString "__next__") hgen.typeIs slot_gen_next
    (wpAny_call_entry slot_gen_next hgen.typeIs entry_gen_next ?_ (args_gen_next _))))
  show wpAny _ _ (Builtin.Generator.genWake (.ref a) (.send .none)) _ _ s
  unfold Builtin.Generator.genWake
  refine wpAny_bind (wpAny_holding (wpAny_genNumber hgen (wpAny_bind (wpAny_genState hgs ?_))))
  have hd : A.in1.depth < recursionLimit := hA.in1.depth
  have main : ∀ (t : GenResult → Sem Fin), (∀ v, t (.yielded v) = (pure (.done (.ret v)) : Sem Fin)) → (∃ jp : Unit → Sem Fin, t (.returned .none) = newExc (.type "StopIteration") [] >>= fun e => raiseNew e >>= jp) →
      wpAny (model prog w) A.in1 (.resume g (.send .none) [] t) (fun fin s' => ∃ v, fin = .done (.ret v) ∧ wpAny (model prog w) A (pure (some v)) (fun a s' => ∃ own' gs', Rep B own' gs' s' ∧ Q (a.map er) own' gs') (fun _ _ => False) s')
        (fun e s' => wpAny (model prog w) A (isInstance e (.type "StopIteration") >>= fun b => if b = true then pure none else throw e) (fun a s' => ∃ own' gs', Rep B own' gs' s' ∧ Q (a.map er) own' gs') (fun _ _ => False) s') s := by
    intro t h1 ⟨jp, h2⟩
    refine resume_wp R hg h fun e s₁ o g' R₁ ho => ?_
    rcases hq e o g' ho with ⟨v, e1, hQ⟩ | ⟨e1, e2, hQ⟩
    · rw [e1, h1]
      exact wpAny_pure ⟨v, rfl, wpAny_pure ⟨o, _, R₁, hQ⟩⟩
    · rw [e2] at R₁ ⊢
      rw [e1, h2, ← bind_assoc]
      refine wpAny_bind (raise_stop (hA.in1.hok R₁) fun h' ex hk hT => ?_)
      refine wpAny_bind (wpAny_isInstance (T := "StopIteration") (b := true) hT isSubtype_stop ?_)
      exact wpAny_pure ⟨o, _, R₁.ext (tk := s₁.toks) hk, hQ⟩
  cases st with
  | running => exact h.elim
  | finished => exact h.elim
  | fresh c =>
    refine wpAny_bind (wpAny_roomToWake (hl _ R.b) hd ?_)
    exact main _ (fun _ => rfl) ⟨_, rfl⟩
  | suspended k l c p fs cl =>
    refine wpAny_bind (wpAny_roomToWake (hl _ R.b) hd ?_)
    exact main _ (fun _ => rfl) ⟨_, rfl⟩
end
end Mine
end
section
set_option maxRecDepth 100000
open PySem PySem.Calls PyProof.Rows PySem.W PySem.Spec
namespace Mine
section
variable {prog : Program} {w : World} {B : Bs} {A : Around} {own : Own} {gs : Array GenState} {env : Env}
variable {K : Frag} {p : Program} {loose : List Str} {mg mb : Str → Option Value}
-- calls with keywords
def CallKJ (prog : Program) (w : World) (B : Bs) (A : Around) (f : Value) (args : List Value) (kws : List (Str × Value)) (own : Own) (gs : Array GenState) (Q : QV) : Prop :=
  ∀ us ks, us.map er = args → ks.map er = kws.map (·.2) → JV prog w B A (call f us ((kws.map (·.1)).zip ks)) own gs Q
/-- the keywords' values, in their order -/
def KwsJ (prog : Program) (w : World) (B : Bs) (A : Around) : List (Sem Value) → Own → Array GenState → (List Value → Own → Array GenState → Prop) → Prop
  | [], own, gs, Q => Q [] own gs
  | t :: ts, own, gs, Q => JV prog w B A t own gs fun v o g => KwsJ prog w B A ts o g fun vs => Q (v :: vs)
theorem J_kws : ∀ (ts : List (Sem Value)) (own : Own) (gs : Array GenState) (Q : List Value → Own → Array GenState → Prop), KwsJ prog w B A ts own gs Q → J prog w B A (evalAll ts) own gs fun vs => Q (vs.map er)
  | [], own, gs, Q, h => J_pure h
  | t :: ts, own, gs, Q, h => fun s R => by
    unfold evalAll
    refine wpAny_bind (J.any h R fun v s' o g R' h' => wpAny_bind (wpAny_holding (J.any (J_kws ts o g _ h') R' fun vs s'' o g R'' h'' => wpAny_pure ⟨o, g, R'', h''⟩)))
theorem JV_CallKw {f e : Expr} {rest : List Expr} {kws : List Keyword} {names : List Str} {pos : Pos} {Q : QV}
    (h : JV prog w B A (eval f env) own gs fun fv o g => isCallee fv = true ∧ ArgsJ prog w B A env pos (e :: rest) o g fun vs o g => KwsJ prog w B A ((backToKw pos (keywordEach kws env)).map (·.2)) o g fun ks o g =>
      KeepOk prog w B o fv ∧ names.length = ks.length ∧ CallKJ prog w B A fv vs (names.zip ks) o g Q)
    (hn : (backToKw pos (keywordEach kws env)).filterMap (·.1) = names := by rfl)
    (hall : (backToKw pos (keywordEach kws env)).all (·.1.isSome) = true := by rfl)
    (hp : ((backTo pos (starEach (e :: rest) env)).any (·.1) || (backToKw pos (keywordEach kws env)).any (·.1.isNone)) = false := by rfl)
    (hs : starEach (e :: rest) env = (false, eval e env) :: starEach rest env := by rfl)
    (he : eval (.Call f (e :: rest) kws pos) env = (do callWith pos (← eval f env) [] (backTo pos (starEach (e :: rest) env)) (backToKw pos (keywordEach kws env))) := by rfl) :
    JV prog w B A (eval (.Call f (e :: rest) kws pos) env) own gs Q := fun s R => by
  rw [he]
  refine wpAny_bind (J.any h R fun fv s' o g R' ⟨hc, h'⟩ => ?_)
  have := callee_er rfl hc
  rw [← this] at h'
  refine callWith_of (P := fun h => ∃ k, (k = Keeper.frame ∨ k = Keeper.machine ∨ k = Keeper.boundFrame) ∧ Looks (model prog w) h (keeperOf fv) k) hp (fun _ h => h) ?_
  refine evalArgs_kw2 hall ?_ hs
  refine J.any (h' : J prog w B A (spliced (backTo pos (starEach (e :: rest) env))) o g _) R' fun vs s' o g R' h' => ?_
  refine J.any (J_kws _ _ _ _ h') R' fun ks s' o g R' ⟨hk, hl, hc⟩ => ⟨hk.2 _ _ R', ?_⟩
  rw [List.length_map] at hl
  have := hc vs ks (by simp) (by rw [List.map_snd_zip]; simpa using Nat.le_of_eq hl.symm)
  rw [List.map_fst_zip (by simpa using Nat.le_of_eq hl), ← hn] at this
  rw [List.nil_append]
  exact this _ R'
theorem CallKJ.nil {f : Value} {args : List Value} {Q : QV} (h : CallKJ prog w B A f args [] own gs Q) : CallJ prog w B A f args own gs Q := fun us hus => by
  have := h us [] hus rfl
  exact this

-- iterators
theorem AKeyIter.at {h : Heap} {it d : Addr} {i n ep : Nat} {o : Obj} (ho : h.get? it = some o) (x : AKeyIter d i n ep o) : h.IsKeyIter it d i n ep := ⟨o, ho, x.1, x.2⟩
theorem J_iterCall {d : Addr} {Q : QV} (h : J prog w B A.in1 (pyIter (.ref d)) own gs fun v o g => Q (er v) o g) : CallJ prog w B A (.builtin "iter") [.ref d] own gs Q := fun us hus s R => by
  obtain ⟨u, rfl, hu⟩ := er1 hus
  rw [er_eq_ref hu]
  refine call_function_entry (by decide +kernel) (by decide +kernel) kdk_entry_iter (kdk_args_iter _) ?_
  unfold Builtin.«iter»
  refine wpAny_bind (m := someArgs "iter" 1 2 _) (wpAny_of_eq (a := [Value.ref d]) (by first | rfl | kernel_rfl!) ?_)
  show wpAny _ _ (pyIter (.ref d) >>= _) _ _ _
  exact wpAny_bind (J.any h R fun v s' o g R' h' => wpAny_pure ⟨_, rfl, o, g, R', h'⟩)
theorem Iter_key {it d : Addr} {i n ep : Nat} {Q : Value → Own → Array GenState → Prop} (hi : Has B own it (AKeyIter d i n ep)) (h : Q (.ref it) own gs) : J prog w B A (pyIter (.ref it)) own gs Q := fun s R => by
  obtain ⟨o, ho, hp⟩ := R.get hi
  exact wpAny_pyIter_keyiter (AKeyIter.at ho hp) ⟨own, gs, R, h⟩
theorem Iter_listIter {it l : Addr} {i : Nat} {Q : Value → Own → Array GenState → Prop} (hi : Has B own it (AListIter l i)) (h : Q (.ref it) own gs) : J prog w B A (pyIter (.ref it)) own gs Q := fun s R => by
  obtain ⟨o, ho, hc, hd⟩ := R.get hi
  exact wpAny_pyIter_listiter ⟨o, ho, hc, hd⟩ ⟨own, gs, R, h⟩
theorem Next_key' {n : Nat} {it d : Addr} {i ep : Nat} {kvs : List (Int × Value)} {rest : Own} {Q : Option Value → Own → Array GenState → Prop} (hA : AOk B A n) (hd : Has B rest d (ADict prog w kvs ep))
    (h : match kvs[i]? with | some x => Q (some (iv x.1)) ((it, AKeyIter d (i + 1) kvs.length ep) :: rest) gs | none => Q none rest gs) : NextJ prog w B A (.ref it) ((it, AKeyIter d i kvs.length ep) :: rest) gs Q := fun s R => by
  refine Next_dict hA (Upd.head _) (Sub.of_sublist (List.sublist_cons_self _ _)) (fun p hm => ?_) (hd.elim (fun q => .inl (.tail _ q)) .inr) h s R
  have := R.nd
  rw [List.map_cons, List.nodup_cons] at this
  exact this.1 (List.mem_map_of_mem (f := (·.1)) hm)

theorem PickR.not_mem {k : Addr} {q : Pd} {b c : Own} (h : PickR k q b c) (nd : (b.map (·.1)).Nodup) : ∀ p, (k, p) ∉ c := by
  intro p hm
  have := (h.perm.map (·.1)).nodup_iff.mp nd
  rw [List.map_cons, List.nodup_cons] at this
  exact this.1 (List.mem_map_of_mem (f := (·.1)) hm)
theorem PickR.mem {k : Addr} {q : Pd} {b c : Own} (h : PickR k q b c) : (k, q) ∈ b := h.perm.symm.mem_iff.mp (.head _)
theorem Next_keySome {n : Nat} {it d : Addr} {i m ep : Nat} {kvs : List (Int × Value)} {x : Int} {own' : Own} {Q : Option Value → Own → Array GenState → Prop} (hA : AOk B A n) (hm : m = kvs.length) (hd : Has B own d (ADict prog w kvs ep)) (hi : Upd it (AKeyIter d i m ep) (AKeyIter d (i + 1) m ep) own own')
    (hx : (kvs.map (·.1))[i]? = some x) (h : Q (some (iv x)) own' gs) : NextJ prog w B A (.ref it) own gs Q := by
  subst hm
  rw [List.getElem?_map, Option.map_eq_some_iff] at hx
  obtain ⟨y, hy, rfl⟩ := hx
  intro s R
  refine Next_dict (rest := []) hA hi Sub.nil (fun p hm => by cases hm) hd ?_ s R
  rw [hy]; exact h
theorem Next_keyNone {n : Nat} {it d : Addr} {i m ep : Nat} {kvs : List (Int × Value)} {rest : Own} {Q : Option Value → Own → Array GenState → Prop} (hA : AOk B A n) (hm : m = kvs.length) (hd : Has B own d (ADict prog w kvs ep)) (hi : PickR it (AKeyIter d i m ep) own rest)
    (hx : (kvs.map (·.1))[i]? = none) (h : Q none rest gs) : NextJ prog w B A (.ref it) own gs Q := by
  subst hm
  intro s R
  obtain ⟨own', u⟩ : ∃ own', Upd it (AKeyIter d i kvs.length ep) (AKeyIter d (i + 1) kvs.length ep) own own' := by
    have hm := hi.mem
    generalize own = o at hm
    induction hm with
    | head r => exact ⟨_, .head _⟩
    | tail x _ ih => obtain ⟨o', u⟩ := ih; exact ⟨_, .tail _ u⟩
  refine Next_dict hA u ((Sub.skip (Sub.refl _)).trans (Sub.of_perm hi.perm.symm)) (hi.not_mem R.nd) hd ?_ s R
  have hx' : kvs[i]? = none := by simpa using hx
  rw [hx']; exact h

-- len
theorem Call_lenDict (T : TopB K p loose mg mb B) {d : Addr} {kvs : List (Int × Value)} {Q : QV} (hd : Has B own d (AD prog w kvs)) (hl : kvs.length ≤ 1000000) (h : Q (iv kvs.length) own gs) : CallJ prog w B A (.builtin "len") [.ref d] own gs Q := fun us hus s R => by
  obtain ⟨u, rfl, hu⟩ := er1 hus
  rw [er_eq_ref hu]
  obtain ⟨o, ho, ep, hp⟩ := R.get hd
  have hsys := hp.not_sys ho (T _ R.b).2.2
  obtain ⟨kvs', hD, rfl⟩ := ADict.at ho hp
  have hl' : kvs'.length ≤ 1000000 := by simpa using hl
  refine call_len_dict hsys hD.dictOf (by omega) ⟨own, gs, R.toks _, ?_⟩
  simpa using h
theorem Call_lenInst {x C dx f : Addr} {kvs : List (Str × Value)} {k : Nat} {Q : QV} (T : TopB K p loose mg mb B) (I : Inst prog w B own x C dx kvs) (hs : findIn K (.ref C) "__len__" = some (some (.ref f))) (hf : typeIn K (.ref f) = some (.type "function"))
    (h : CallJ prog w B A.in1 (.ref f) [.ref x] own gs fun v o g => v = iv k ∧ k < 2 ^ 62 ∧ Q (iv k) o g) : CallJ prog w B A (.builtin "len") [.ref x] own gs Q := fun us hus s R => by
  obtain ⟨u, rfl, hu⟩ := er1 hus
  rw [er_eq_ref hu]
  obtain ⟨od, hod, hva, IA⟩ := I.at R
  refine Calls.call_function_entry kind_len plain_len entry_len (args_len1 _) ?_
  unfold Builtin.«len»
  refine wpAny_bind (m := oneArg "len" _) (wpAny_pure ?_)
  refine wpAny_bind (m := callSpecial? (.ref x) (Str.ofString "__len__")) (special_fn (T _ R.b).1 IA hs hf (J.any (h [.ref x] rfl) R fun v s' o g R' ⟨e, hk, hq⟩ => ?_))
  obtain ⟨t, rfl⟩ := er_eq_int e
  refine wpAny_bind (wpAny_holding (wpAny_pure ?_))
  refine wpAny_bind (wpAny_letGo ?_)
  show wpAny _ _ (if (k : Int) < 0 then _ else _) _ _ _
  rw [if_neg (by omega)]
  show wpAny _ _ (if (k : Int) ≥ 2 ^ 63 then _ else _) _ _ _
  rw [if_neg (by omega)]
  exact wpAny_bind (wpAny_mkInt (wpAny_pure ⟨_, rfl, o, g, R'.toks _, hq⟩))
theorem Cmp_inInst {x C dx f : Addr} {kvs : List (Str × Value)} {v : Value} {b : Bool} {Q : QV} (T : TopB K p loose mg mb B) (I : Inst prog w B own x C dx kvs) (hs : findIn K (.ref C) "__contains__" = some (some (.ref f))) (hf : typeIn K (.ref f) = some (.type "function"))
    (h : CallJ prog w B A (.ref f) [.ref x, v] own gs fun r o g => r = .bool b ∧ Q (.bool b) o g) : CmpJ prog w B A .In v (.ref x) own gs Q := fun u u2 hu hu2 s R => by
  subst hu
  rw [er_eq_ref hu2]
  obtain ⟨od, hod, hva, IA⟩ := I.at R
  have X := (T _ R.b).1
  refine wpAny_bind ?_
  unfold contains
  refine wpAny_holding (wpAny_bind (wpAny_bind (IA.type.here ((looks_findIn X hs).here ?_))))
  rw [if_neg (by simp)]
  refine wpAny_bind (unlessNone_K X IA hs (by unfold isFn; rw [hf]; rfl) (J.any (h [.ref x, u] rfl) R fun r s' o g R' ⟨e, hq⟩ => ?_))
  rw [er_eq_bool e]
  exact wpAny_truthy_bool (wpAny_pure ⟨o, g, R', hq⟩)
theorem Cmp_notInInst {x C dx f : Addr} {kvs : List (Str × Value)} {v : Value} {b : Bool} {Q : QV} (T : TopB K p loose mg mb B) (I : Inst prog w B own x C dx kvs) (hs : findIn K (.ref C) "__contains__" = some (some (.ref f))) (hf : typeIn K (.ref f) = some (.type "function"))
    (h : CallJ prog w B A (.ref f) [.ref x, v] own gs fun r o g => r = .bool b ∧ Q (.bool (!b)) o g) : CmpJ prog w B A .NotIn v (.ref x) own gs Q := fun u u2 hu hu2 s R => by
  subst hu
  rw [er_eq_ref hu2]
  obtain ⟨od, hod, hva, IA⟩ := I.at R
  have X := (T _ R.b).1
  refine wpAny_bind ?_
  unfold contains
  refine wpAny_holding (wpAny_bind (wpAny_bind (IA.type.here ((looks_findIn X hs).here ?_))))
  rw [if_neg (by simp)]
  refine wpAny_bind (unlessNone_K X IA hs (by unfold isFn; rw [hf]; rfl) (J.any (h [.ref x, u] rfl) R fun r s' o g R' ⟨e, hq⟩ => ?_))
  rw [er_eq_bool e]
  exact wpAny_truthy_bool (wpAny_pure ⟨o, g, R', hq⟩)

-- sets of ints
def ASet (prog : Program) (w : World) (S : List Int) : Pd := fun o => ∃ es ep t, o.ExactSet ∧ o.data = .set es ep t ∧ ElemsOf (intKind prog w) es.toList ∧ (∀ k, k ∈ S ↔ ∃ e ∈ es.toList, (intKind prog w).is k e.2 = true) ∧ es.size < scanBound ∧ t.fits es.size = true ∧ es.size ≤ S.length
theorem ASet.at {S : List Int} {h : Heap} {a : Addr} {o : Obj} (ho : h.get? a = some o) (x : ASet prog w S o) : ∃ n, n ≤ S.length ∧ h.SetOf (intKind prog w) a (fun k => decide (k ∈ S)) n := by
  obtain ⟨es, ep, t, h1, h2, h3, h4, h5, h6, h7⟩ := x
  exact ⟨es.size, h7, o, es, ep, t, ho, h1, h2, h3, fun k => by simpa using h4 k, h5, h6, rfl⟩
theorem Call_set0 {Q : QV} (h : ∀ a, Q (.ref a) ((a, ASet prog w []) :: own) gs) : CallJ prog w B A (.type "set") [] own gs Q := fun us hus s R => by
  rw [er0 hus]
  exact call_set_0 fun led => ⟨_, gs, R.push (p := ASet prog w []) rfl ⟨#[], 0, .fresh 0 0 led, ⟨rfl, rfl, rfl⟩, rfl, (fun _ hx => by simp at hx), by simp, by decide, by rfl, by simp⟩ _, h _⟩
theorem Cmp_inSet {a : Addr} {S : List Int} {k : Int} {Q : QV} (hs : Has B own a (ASet prog w S)) (h : Q (.bool (decide (k ∈ S))) own gs) : CmpJ prog w B A .In (iv k) (.ref a) own gs Q := fun u u2 hu hu2 s R => by
  obtain ⟨t, rfl⟩ := er_eq_int hu
  rw [er_eq_ref hu2]
  obtain ⟨o, ho, hp⟩ := R.get hs
  obtain ⟨n, hn, hS⟩ := ASet.at ho hp
  exact wpAny_inSet_of (intKind_is prog w k t) rfl hS ⟨own, gs, R.toks _, h⟩
theorem Call_setAdd {a : Addr} {S : List Int} {k : Int} {own' : Own} {Q : QV} (hu : Upd a (ASet prog w S) (ASet prog w (k :: S)) own own') (hl : S.length ≤ 3000) (h : Q .none own' gs) : CallJ prog w B A (.builtin "set.add") [.ref a, iv k] own gs Q := fun us hus s R => by
  obtain ⟨u1, u2, rfl, h1, h2⟩ := er2 hus
  rw [er_eq_ref h1]
  obtain ⟨t, rfl⟩ := er_eq_int h2
  obtain ⟨o, ho, hp⟩ := R.o _ _ hu.mem
  obtain ⟨n, hn, hS⟩ := ASet.at ho hp
  refine call_set_add (intKind_is prog w k t) rfl hS (by show n + 1 < 4096; omega) fun h' hsb hS' => ?_
  obtain ⟨o', es, ep, tb, ho', h1, h2, h3, h4, h5, h6, h7⟩ := hS'
  refine ⟨own', gs, R.upd hu hsb.extBut ⟨o', ho', es, ep, tb, h1, h2, h3, fun k' => ?_, h5, h6, ?_⟩, h⟩
  · rw [← h4 k']; simp [or_comm]
  · rw [h7]; split <;> simp <;> omega

-- bound methods
def AMeth (f x : Addr) : Pd := fun o => o = methodObj (.ref f) (.ref x)
theorem Get_meth {x C dx f : Addr} {kvs : List (Str × Value)} {name : Str} {Q : QV} (T : TopB K p loose mg mb B) (I : Inst prog w B own x C dx kvs) (hv : valueAt kvs name = none) (h : ∀ m, Q (.ref m) ((m, AMeth f x) :: own) gs)
    (hga : findIn K (.ref C) "__getattribute__" = some (some (.builtin "object.__getattribute__"))) (hf : bindFirst K C name (.builtin "function.__get__") (.ref f) = true) (hk : findIn K (.ref C) "__getattr__" = some none)
    (ht : typeIn K (.ref f) = some (.type "function")) : GetJ prog w B A (.ref x) name own gs Q := fun u hu s R => by
  rw [er_eq_ref hu]
  obtain ⟨od, hd, hva, IA⟩ := I.at R
  obtain ⟨r, hr, e⟩ := hva.look name
  rw [hv, Option.map_eq_none_iff] at e
  subst e
  refine get_bind (T _ R.b).1 IA hga (findObj_bind hf hr) hk (wpAny_call (fn_get (T _ R.b).1 ht ?_))
  show wpAny _ _ (handedOut (.ref s.heap.objs.size)) _ _ _
  rw [handedOut_of rfl]
  exact wpAny_pure ⟨_, gs, R.push (p := AMeth f x) rfl rfl _, h _⟩
theorem Keep_meth {m f x : Addr} {fo : Obj} {fd : FuncData} (T : TopB K p loose mg mb B) (h : Has B own m (AMeth f x)) (k1 : K.lookup f = some fo) (k2 : fo.data = .func fd) : KeepOk prog w B own (.ref m) := ⟨rfl, fun s gs R => by
  obtain ⟨o, ho, rfl⟩ := R.get h
  have hf := (T _ R.b).1 _ _ k1
  obtain ⟨c, d, dt, sl⟩ := fo
  simp only at k2
  subst k2
  exact ⟨.boundFrame, .inr (.inr rfl), (Looks.ld (part := none) ho).andThen ((Looks.ld (part := none) hf).andThen .now)⟩⟩
theorem Call_meth {m f x : Addr} {args : List Value} {Q : QV} (hm : Has B own m (AMeth f x)) (h : CodeJ prog w B A (.ref f) (.ref x :: args) own gs Q) : CallJ prog w B A (.ref m) args own gs Q := fun us hus s R => by
  obtain ⟨o, ho, rfl⟩ := R.get hm
  refine wpAny_call (method_call ho (codeAny_mono (h (.ref x :: us) (by simp [hus]) s R) fun r s' ⟨v, e, z⟩ => ?_))
  subst e
  exact z
/-- a call of a generator function of the text -/
theorem Call_gen {n : Nat} {f : Addr} {fo : Obj} {fd : FuncData} {body : List Stmt} {args : List Value} {kws : List (Str × Value)} {Q : QV} (T : TopB K p loose mg mb B) (hA : AOk B A (n + 1))
    (k1 : K.lookup f = some fo) (k2 : fo.data = .func fd) (k3 : fd.body = .stmts body) (k4 : codeIn K fd.code fd.qualname = true)
    (h : ∀ us ks, us.map er = args → ks.map er = kws.map (·.2) → J prog w B A.in1 (bindArgs fd ⟨us, (kws.map (·.1)).zip ks⟩) own gs fun binds o g => ∀ L, CellsJ fd.scope.names fd.closure ((L, ANs []) :: o) fun cells o =>
      StoresJ prog w B A.in1 (newEnv fd.scope L fd.globals cells (fd.qualname ++ ".<locals>.") (some f) fd.code none fd.builtins) binds o g fun o g =>
        ∀ a, Q (.ref a) ((a, AGen g.size) :: o) (g.push (.fresh (.func body (newEnv fd.scope L fd.globals cells (fd.qualname ++ ".<locals>.") (some f) fd.code none fd.builtins)))))
    (hco : fd.scope.isCoroutine = false) (hgen : fd.scope.isGenerator = true) : CallKJ prog w B A (.ref f) args kws own gs Q := by
  intro us ks hus hks s R
  have X := (T _ R.b).1
  refine wpAny_call (codeAny_call_generator hA.depth (X _ _ k1) k2 hco hgen k3 (codeRec_of X k4) ?_)
  refine J.any (h us ks hus hks) R fun binds s₁ o g R₁ hJ => ?_
  refine J.any (J_newEnv (Q := fun env o g => ∀ a, Q (.ref a) ((a, AGen g.size) :: o) (g.push (.fresh (.func body env)))) fun L => hJ L) R₁ fun env s₂ o g R₂ hb => ?_
  refine ⟨limit_of T _ R₂.b, ?_⟩
  have hg : s₂.gens = g := R₂.gens
  have R₃ := R₂.push (o := { cls := .type "generator", data := .fields #[.int s₂.gens.size 0, .str fd.name s₂.toks, .str fd.qualname (s₂.toks + 1)] }) (p := AGen g.size) rfl ⟨rfl, ⟨_, _, by rw [hg]⟩, rfl⟩ (s₂.toks + 1 + 1)
  refine ⟨_, g.push (.fresh (.func body env)), ⟨R₃.b, R₃.o, R₃.dis, R₃.nd, ?_, R₃.os⟩, hb s₂.heap.objs.size⟩
  show s₂.gens.push _ = _
  rw [hg]
end
-- room above a generator's own frames
section
variable {B : Bs} {A : Around} {c c₂ : Code} {fs : List Frame} {n : Nat}
theorem AOk.over_nil (h : AOk B A (n + 1)) (hw : c.weight ≤ 1) (hu : c.cUnits ≤ 4) : AOk B (A.over c []) n := by
  refine ⟨?_, ?_, h.hh⟩
  · have := h.d
    show A.depth + frameCount [] + c.weight + n < 900
    have : frameCount [] = 0 := rfl
    omega
  · have := h.u
    show A.units + unitsOf [] + c.cUnits + 4 * n < 9000
    have : unitsOf [] = 0 := rfl
    omega
theorem AOk.over_cons {k g l p kp} (h : AOk B (A.over c fs) n) (hw : c₂.weight = 0) (hu : c₂.cUnits = 0) : AOk B (A.over c₂ (.ret k none g l c p kp :: fs)) n := by
  refine ⟨?_, ?_, h.hh⟩
  · have := h.d
    show A.depth + frameCount ((c, p) :: fs.map Frame.where_) + c₂.weight + n < 900
    have e : (A.over c fs).depth = A.depth + frameCount (fs.map Frame.where_) + c.weight := rfl
    rw [frameCount_cons]; omega
  · have := h.u
    show A.units + unitsOf ((c, p) :: fs.map Frame.where_) + c₂.cUnits + 4 * n < 9000
    have e : (A.over c fs).units = A.units + unitsOf (fs.map Frame.where_) + c.cUnits := rfl
    rw [unitsOf_cons]; omega
theorem AOk.over_func {b : List Stmt} {e : Env} (h : AOk B A (n + 1)) : AOk B (A.over (.func b e) []) n := h.over_nil (Nat.le_of_ble_eq_true rfl) (Nat.le_of_ble_eq_true rfl)
theorem AOk.over_while {k g l p kp t b o e} (h : AOk B (A.over c fs) n) : AOk B (A.over (.whileLoop t b o e) (.ret k none g l c p kp :: fs)) n := h.over_cons rfl rfl
theorem AOk.over_for {k g l p kp t i b o e} (h : AOk B (A.over c fs) n) : AOk B (A.over (.forLoop t i b o e) (.ret k none g l c p kp :: fs)) n := h.over_cons rfl rfl
theorem AOk.over_block {k g l p kp b e} (h : AOk B (A.over c fs) n) : AOk B (A.over (.block b e) (.ret k none g l c p kp :: fs)) n := h.over_cons rfl rfl
end
end Mine
end
section
set_option maxRecDepth 100000
open PySem PySem.Calls PyProof.Rows PySem.W PySem.Spec
namespace Mine
inductive DK where
  | fwd | non | rev
deriving DecidableEq
abbrev DE := Int × Int × DK
/-- the labelled walk, from the nodes seen and the stack (its top first; each with the number of its followers that were looked at) -/
inductive DRun (succ : Int → List Int) : List Int → List (Int × Nat) → List DE → Prop
  | nil (V) : DRun succ V [] []
  | non {V u i c S E} : (succ u)[i]? = some c → c ∈ V → DRun succ V ((u, i + 1) :: S) E → DRun succ V ((u, i) :: S) ((u, c, .non) :: E)
  | fwd {V u i c S E} : (succ u)[i]? = some c → c ∉ V → DRun succ (c :: V) ((c, 0) :: (u, i + 1) :: S) E → DRun succ V ((u, i) :: S) ((u, c, .fwd) :: E)
  | pop {V u i u' i' S E} : (succ u)[i]? = none → DRun succ V ((u', i') :: S) E → DRun succ V ((u, i) :: (u', i') :: S) ((u', u, .rev) :: E)
  | last {V u i} : (succ u)[i]? = none → DRun succ V [(u, i)] []
def DK.str : DK → Str
  | .fwd => "forward"
  | .non => "nontree"
  | .rev => "reverse"
/-- a yielded tuple of the walk -/
def evD (e : DE) : Ev := fun v o => ∃ t, v = .ref t ∧ o = [(t, ATup [iv e.1, iv e.2.1, .str e.2.2.str 0])]
section
variable (prog : Program) (w : World) (B : Bs) (n : Nat)
def GOut (ys : List Ev) (rest : Own) (gl : Option (Nat × GenState)) (gs : Array GenState) : End → Own → Array GenState → Prop := match ys with
  | [] => fun e o g => e.result = .returned .none ∧ e.genState = .finished ∧ Sub rest o ∧ g = gset (gl.map fun x => (x.1, .finished)) gs
  | y :: ys => fun e o g => ∃ v ex int' gl', e.result = .yielded v ∧ y (er v) ex ∧ Sub (ex ++ (int' ++ rest)) o ∧ gl'.map (·.1) = gl.map (·.1) ∧ g = gset gl' gs ∧ GY prog w B n ys e.genState int' gl'
end
section
variable {prog : Program} {w : World} {B : Bs} {n : Nat}
theorem GY_iff {ys : List Ev} {st : GenState} {int : Own} {gl : Option (Nat × GenState)} : GY prog w B n ys st int gl ↔ ∀ A rest gs, AOk B A n → ghas gl gs → Wake prog w B A (GOut prog w B n ys rest gl gs) st (int ++ rest) gs := by
  cases ys <;> exact Iff.rfl
structure SE where
  u : Int
  i : Nat
  t : Addr
  it : Addr
def SE.key (e : SE) : Int × Nat := (e.u, e.i)
structure DInv (names : List Int) (V : List Int) (S : List SE) : Prop where
  nd : V.Nodup
  sub : ∀ v ∈ V, v ∈ names
  len : S.length ≤ V.length
  mem : ∀ e ∈ S, e.u ∈ names
theorem DInv.step {names V S} {u : Int} {i : Nat} {t it : Addr} (h : DInv names V (⟨u, i, t, it⟩ :: S)) : DInv names V (⟨u, i + 1, t, it⟩ :: S) :=
  ⟨h.nd, h.sub, h.len, fun e he => by
    rcases List.mem_cons.mp he with rfl | he
    · exact h.mem ⟨u, i, t, it⟩ (.head _)
    · exact h.mem e (.tail _ he)⟩
theorem DInv.push {names V S} {c : Int} {t it : Addr} (h : DInv names V S) (hc : c ∈ names) (hn : c ∉ V) : DInv names (c :: V) (⟨c, 0, t, it⟩ :: S) :=
  ⟨List.nodup_cons.mpr ⟨hn, h.nd⟩, fun v hv => by
    rcases List.mem_cons.mp hv with rfl | hv
    · exact hc
    · exact h.sub v hv, by simp; exact h.len, fun e he => by
    rcases List.mem_cons.mp he with rfl | he
    · exact hc
    · exact h.mem e he⟩
theorem DInv.pop {names V e S} (h : DInv names V (e :: S)) : DInv names V S := ⟨h.nd, h.sub, Nat.le_trans (Nat.le_succ _) h.len, fun x hx => h.mem x (.tail _ hx)⟩
theorem DInv.short {names V e S} {c : Int} (h : DInv names V (e :: S)) (hc : c ∈ names) (hn : c ∉ V) : (e :: S).length < names.length := by
  have h1 := h.len
  have h2 : (c :: V).Nodup := List.nodup_cons.mpr ⟨hn, h.nd⟩
  have h3 := h2.length_le_of_subset (l₂ := names) fun v hv => by
    rcases List.mem_cons.mp hv with rfl | hv
    · exact hc
    · exact h.sub v hv
  simp only [List.length_cons] at h3 h1 ⊢
  omega

/-- what a frame above the outer loop goes on with -/
def KpW (prog : Program) (w : World) (B : Bs) (cw : Code) (fs : List Frame) (k : Result → Sem Fin) (p : Pos) : Prop :=
  ∀ A' Out' c' o' g', SJ prog w B A' Out' cw (.pure (.again cw)) fs o' g' → SJ prog w B A' Out' c' (.pure (.done .next)) (.ret k none false [] cw p [] :: fs) o' g'
/-- the two loops of the walk, from what one turn of each does -/
theorem dfs_loops {succ : Int → List Int} {names : List Int} (hcl : ∀ u ∈ names, ∀ c ∈ succ u, c ∈ names) {cw : Code} {ct : Expr} {cb co : List Stmt} {env : Env} {fs : List Frame} {E2 : List Ev}
    (W : List Int → List SE → Own → Own) (C : List Int → List SE → Own → Own)
    (hW : ∀ A Out V e S rest gs, AOk B A n → DInv names V (e :: S) → (∀ k p, KpW prog w B cw fs k p → SJ prog w B A Out (.forLoop ct (.ref e.it) cb co env) ((model prog w).den (.forLoop ct (.ref e.it) cb co env)) (.ret k none false [] cw p [] :: fs) (C V (e :: S) rest) gs) → SJ prog w B A Out cw ((model prog w).den cw) fs (W V (e :: S) rest) gs)
    (hW0 : ∀ A V rest gs, AOk B A n → SJ prog w B A (GOut prog w B n E2 rest none gs) cw ((model prog w).den cw) fs (W V [] rest) gs)
    (hnon : ∀ A V e S c E rest gs k p, AOk B A n → DInv names V (e :: S) → (succ e.u)[e.i]? = some c → c ∈ V → KpW prog w B cw fs k p →
      (∀ A' rest' gs', AOk B A' n → SJ prog w B A' (GOut prog w B n E rest' none gs') (.forLoop ct (.ref e.it) cb co env) ((model prog w).den (.forLoop ct (.ref e.it) cb co env)) (.ret k none false [] cw p [] :: fs) (C V ({ e with i := e.i + 1 } :: S) rest') gs') →
      SJ prog w B A (GOut prog w B n (evD (e.u, c, .non) :: E) rest none gs) (.forLoop ct (.ref e.it) cb co env) ((model prog w).den (.forLoop ct (.ref e.it) cb co env)) (.ret k none false [] cw p [] :: fs) (C V (e :: S) rest) gs)
    (hfwd : ∀ A V e S c E rest gs k p, AOk B A n → DInv names V (e :: S) → (succ e.u)[e.i]? = some c → c ∉ V → c ∈ names → KpW prog w B cw fs k p →
      (∀ A' rest' gs' t it, AOk B A' n → SJ prog w B A' (GOut prog w B n E rest' none gs') cw ((model prog w).den cw) fs (W (c :: V) (⟨c, 0, t, it⟩ :: { e with i := e.i + 1 } :: S) rest') gs') →
      SJ prog w B A (GOut prog w B n (evD (e.u, c, .fwd) :: E) rest none gs) (.forLoop ct (.ref e.it) cb co env) ((model prog w).den (.forLoop ct (.ref e.it) cb co env)) (.ret k none false [] cw p [] :: fs) (C V (e :: S) rest) gs)
    (hpop : ∀ A V e e' S E rest gs k p, AOk B A n → DInv names V (e :: e' :: S) → (succ e.u)[e.i]? = none → KpW prog w B cw fs k p →
      (∀ A' rest' gs', AOk B A' n → SJ prog w B A' (GOut prog w B n E rest' none gs') cw ((model prog w).den cw) fs (W V (e' :: S) rest') gs') →
      SJ prog w B A (GOut prog w B n (evD (e'.u, e.u, .rev) :: E) rest none gs) (.forLoop ct (.ref e.it) cb co env) ((model prog w).den (.forLoop ct (.ref e.it) cb co env)) (.ret k none false [] cw p [] :: fs) (C V (e :: e' :: S) rest) gs)
    (hlast : ∀ A V e Out rest gs k p, AOk B A n → DInv names V [e] → (succ e.u)[e.i]? = none → KpW prog w B cw fs k p →
      SJ prog w B A Out cw ((model prog w).den cw) fs (W V [] rest) gs →
      SJ prog w B A Out (.forLoop ct (.ref e.it) cb co env) ((model prog w).den (.forLoop ct (.ref e.it) cb co env)) (.ret k none false [] cw p [] :: fs) (C V [e] rest) gs) :
    ∀ {V T E}, DRun succ V T E → ∀ S, S.map SE.key = T → DInv names V S → ∀ A rest gs, AOk B A n →
      SJ prog w B A (GOut prog w B n (E.map evD ++ E2) rest none gs) cw ((model prog w).den cw) fs (W V S rest) gs := by
  have child : ∀ {V T E}, DRun succ V T E → ∀ e S, (e :: S).map SE.key = T → DInv names V (e :: S) → ∀ A rest gs k p, AOk B A n → KpW prog w B cw fs k p →
      SJ prog w B A (GOut prog w B n (E.map evD ++ E2) rest none gs) (.forLoop ct (.ref e.it) cb co env) ((model prog w).den (.forLoop ct (.ref e.it) cb co env)) (.ret k none false [] cw p [] :: fs) (C V (e :: S) rest) gs := by
    intro V T E hr
    induction hr with
    | nil V => intro e S h; cases h
    | @non V u i c S' E h1 h2 _ ih =>
      intro e S h hI A rest gs k p hA hk
      rw [List.map_cons, List.cons.injEq] at h
      obtain ⟨h3, rfl⟩ := h
      obtain ⟨eu, ei, et, eit⟩ := e
      cases h3
      exact hnon A V _ S c (E.map evD ++ E2) rest gs k p hA hI h1 h2 hk fun A' rest' gs' hA' => ih ⟨_, _, et, eit⟩ S rfl hI.step A' rest' gs' k p hA' hk
    | @fwd V u i c S' E h1 h2 _ ih =>
      intro e S h hI A rest gs k p hA hk
      rw [List.map_cons, List.cons.injEq] at h
      obtain ⟨h3, rfl⟩ := h
      obtain ⟨eu, ei, et, eit⟩ := e
      cases h3
      have hc := hcl _ (hI.mem _ (.head _)) c (List.mem_of_getElem? h1)
      refine hfwd A V _ S c (E.map evD ++ E2) rest gs k p hA hI h1 h2 hc hk fun A' rest' gs' t it hA' => ?_
      have hI' : DInv names (c :: V) (⟨c, 0, t, it⟩ :: ⟨_, _, et, eit⟩ :: S) := hI.step.push hc h2
      exact hW A' _ _ _ _ rest' gs' hA' hI' fun k' p' hk' => ih ⟨c, 0, t, it⟩ _ rfl hI' A' rest' gs' k' p' hA' hk'
    | @pop V u i u' i' S' E h1 _ ih =>
      intro e S h hI A rest gs k p hA hk
      rw [List.map_cons, List.cons.injEq] at h
      obtain ⟨h3, h4⟩ := h
      cases S with
      | nil => cases h4
      | cons e' S =>
        rw [List.map_cons, List.cons.injEq] at h4
        obtain ⟨h5, rfl⟩ := h4
        obtain ⟨eu, ei, et, eit⟩ := e
        obtain ⟨eu', ei', et', eit'⟩ := e'
        cases h3
        cases h5
        exact hpop A V _ _ S (E.map evD ++ E2) rest gs k p hA hI h1 hk fun A' rest' gs' hA' => hW A' _ _ _ _ rest' gs' hA' hI.pop fun k' p' hk' => ih _ S rfl hI.pop A' rest' gs' k' p' hA' hk'
    | @last V u i h1 =>
      intro e S h hI A rest gs k p hA hk
      rw [List.map_cons, List.cons.injEq] at h
      obtain ⟨h3, h4⟩ := h
      rw [List.map_eq_nil_iff] at h4
      subst h4
      obtain ⟨eu, ei, et, eit⟩ := e
      cases h3
      exact hlast A V _ _ rest gs k p hA hI h1 hk (hW0 A V rest gs hA)
  intro V T E hr S hS hI A rest gs hA
  cases S with
  | nil =>
    cases hr with
    | nil => exact hW0 A V rest gs hA
    | _ => cases hS
  | cons e S => exact hW A _ V e S rest gs hA hI fun k p hk => child hr e S hS hI A rest gs k p hA hk
end
end Mine
end
section
set_option maxRecDepth 100000
open PySem PySem.Calls PyProof.Rows PySem.W PySem.Spec
namespace Mine
theorem AList.plain {xs : List Value} : ∀ ob, AList xs ob → ob.cls = .type "list" ∧ ob.dict = none := fun _ ⟨_, _, h, _⟩ => by rw [h]; exact ⟨rfl, rfl⟩
section
variable {prog : Program} {w : World} {B : Bs} {A : Around} {own : Own} {gs : Array GenState} {env : Env}
theorem JV_Neg {i : Int} {k : Nat} {pos pos' : Pos} {Q : QV} (h : Q (iv (-i)) own gs) : JV prog w B A (eval (.UnaryOp .USub (.Constant (.int i) k pos') pos) env) own gs Q := fun s R =>
  UnaryOp_ (J.any (JV_int (Q := fun v o g => v = iv i ∧ o = own ∧ g = gs) ⟨rfl, rfl, rfl⟩) R fun v s' o g R' ⟨e, e1, e2⟩ => by
    subst e1 e2
    obtain ⟨t, rfl⟩ := er_eq_int e
    exact neg_int ⟨_, _, R'.toks _, h⟩)
theorem JF_AugAdd {x : Str} {pos' pos : Pos} {value : Expr} {al : List (Str × Value)} {a : Int} {Q : QF} (hn : Has B own env.locals (ANs al)) (hv : al.lookup x = some (iv a))
    (h : JV prog w B A (eval value env) own gs fun v o g => ∃ b, v = iv b ∧ StoreJ prog w B A env x (iv (a + b)) o g (Q .next))
    (hk : env.scope.kind = .function := by rfl) (hl : env.kindOf x = some .local := by rfl) : JF prog w B A (exec (.AugAssign (.Name x pos') .Add value pos) env) own gs Q := fun s R => by
  obtain ⟨o, ho, hp⟩ := R.get hn
  obtain ⟨m, hm, hf⟩ := ANs.ns ho hp
  obtain ⟨u, hu, e⟩ := Option.map_eq_some_iff.mp (hf x _ hv)
  obtain ⟨t, rfl⟩ := er_eq_int e
  refine wpAny_AugAssign_Name (wpAny_loadName_local hk hl hm hu ?_)
  refine J.any h R fun v s' o g R' ⟨b, e, h'⟩ => ?_
  obtain ⟨t', rfl⟩ := er_eq_int e
  exact PySem.AutoIntOps.iadd_0 (J.any (h' _ rfl) (R'.toks _) fun _ s'' o g R'' hq => ⟨o, g, R'', hq⟩)
theorem JF_AugSub {x : Str} {pos' pos : Pos} {value : Expr} {al : List (Str × Value)} {a : Int} {Q : QF} (hn : Has B own env.locals (ANs al)) (hv : al.lookup x = some (iv a))
    (h : JV prog w B A (eval value env) own gs fun v o g => ∃ b, v = iv b ∧ StoreJ prog w B A env x (iv (a - b)) o g (Q .next))
    (hk : env.scope.kind = .function := by rfl) (hl : env.kindOf x = some .local := by rfl) : JF prog w B A (exec (.AugAssign (.Name x pos') .Sub value pos) env) own gs Q := fun s R => by
  obtain ⟨o, ho, hp⟩ := R.get hn
  obtain ⟨m, hm, hf⟩ := ANs.ns ho hp
  obtain ⟨u, hu, e⟩ := Option.map_eq_some_iff.mp (hf x _ hv)
  obtain ⟨t, rfl⟩ := er_eq_int e
  refine wpAny_AugAssign_Name (wpAny_loadName_local hk hl hm hu ?_)
  refine J.any h R fun v s' o g R' ⟨b, e, h'⟩ => ?_
  obtain ⟨t', rfl⟩ := er_eq_int e
  exact PySem.AutoIntOps.isub_0 (J.any (h' _ rfl) (R'.toks _) fun _ s'' o g R'' hq => ⟨o, g, R'', hq⟩)
/-- the last item of a list -/
theorem Item_last {value slice : Expr} {l : Addr} {xs : List Value} {x : Value} {Q : QV} (hl : Has B own l (AList (xs ++ [x]))) (h : Q x own gs)
    (hs : ∀ o i, subscripted slice false o i = operate [o, i] (getItem o i) := by intro _ _; with_unfolding_all rfl) : ItemJ prog w B A value slice (.ref l) (iv (-1)) own gs Q :=
  Item_listNeg hl (by decide) (by decide) (by simp; omega) (by
    have : (-1 + ((xs ++ [x]).length : Int)).toNat = xs.length := by simp; omega
    rw [this]; simp) h hs
theorem Item_tup {value slice : Expr} {l : Addr} {xs : List Value} {k : Int} {x : Value} {Q : QV} (hl : Has B own l (ATup xs)) (h0 : 0 ≤ k) (hk : k < 2 ^ 62) (hx : xs[k.toNat]? = some x) (h : Q x own gs)
    (hs : ∀ o i, subscripted slice false o i = operate [o, i] (getItem o i) := by intro _ _; with_unfolding_all rfl) : ItemJ prog w B A value slice (.ref l) (iv k) own gs Q := by
  intro u v hu hv s R
  rw [er_eq_ref hu]
  obtain ⟨t, rfl⟩ := er_eq_int hv
  obtain ⟨o, ho, hp⟩ := R.get hl
  obtain ⟨its, hT, rfl⟩ := ATup.isTuple ho hp
  rw [List.getElem?_map, Option.map_eq_some_iff] at hx
  obtain ⟨y, hy, rfl⟩ := hx
  have hlt : k.toNat < its.size := by
    have := (List.getElem?_eq_some_iff.mp hy).1
    simpa using this
  refine tail_any hT.typeIs F.slot_tuple_getitem.lookup (PyProof.Rows.getItem_tuple (j := k.toNat) (x := y) hT (by omega) (by omega) ?_ (by simpa using hy) ⟨own, gs, R, h⟩) (hs _ _)
  unfold seqIndex?
  simp only [show ¬ k < 0 by omega, if_false]
  simp
  omega
end
end Mine
end
section
set_option maxRecDepth 100000
open PySem PySem.Calls PyProof.Rows PySem.W PySem.Spec
namespace Mine
section
variable {prog : Program} {w : World} {B : Bs} {A : Around} {Out : End → Own → Array GenState → Prop} {fs : List Frame} {own : Own} {gs : Array GenState} {env : Env}
variable {K : Frag} {p : Program} {loose : List Str} {mg mb : Str → Option Value}
theorem SJ_compStart {elt target iter : Expr} {ifs : List Expr} {scope : Scope} {pos : Pos} {it : Addr} {acc : Value}
    (h1 : J prog w B (A.over (.compStart (.GeneratorExp elt [⟨target, iter, ifs, 0⟩] scope pos) 0 (.ref it) acc env) fs) (pyIter (.ref it)) own gs fun v o g => v = .ref it ∧ o = own ∧ g = gs)
    (h : SJ prog w B A Out (.compLoop (.GeneratorExp elt [⟨target, iter, ifs, 0⟩] scope pos) 0 (.ref it) acc env) ((model prog w).den (.compLoop (.GeneratorExp elt [⟨target, iter, ifs, 0⟩] scope pos) 0 (.ref it) acc env)) fs own gs) :
    SJ prog w B A Out (.compStart (.GeneratorExp elt [⟨target, iter, ifs, 0⟩] scope pos) 0 (.ref it) acc env) ((model prog w).den (.compStart (.GeneratorExp elt [⟨target, iter, ifs, 0⟩] scope pos) 0 (.ref it) acc env)) fs own gs := by
  show SJ prog w B A Out _ ((compStart (.GeneratorExp elt [⟨target, iter, ifs, 0⟩] scope pos) 0 (.ref it) acc env).onRaise (leaving env)) fs own gs
  rw [Sem.onRaise_eq_wrap]
  unfold compStart
  refine SJ_bindw (fun s R => wpAny_askSetting ⟨own, gs, R, ?_⟩)
  show SJ prog w B A Out _ (Sem.wrap _ _ _ _ (if w.params.followText "comprehension-iter-twice" = true then _ else _)) fs own gs
  cases w.params.followText "comprehension-iter-twice" with
  | true => rw [if_pos rfl]; exact SJ_again rfl h
  | false =>
    rw [if_neg Bool.false_ne_true]
    refine SJ_bindw (fun s R => wpAny_rule ⟨own, gs, R, ?_⟩)
    refine SJ_bindw (fun s R => wpAny_standAt ⟨own, gs, R, ?_⟩)
    refine SJ_bindw (J_mono h1 fun v o g ⟨e1, e2, e3⟩ => ?_)
    subst e1 e2 e3
    exact SJ_again rfl h
/-- what of an owned tuple goes once it is unpacked -/
theorem LetGo_gen {elts : List Expr} {x1 : Nat} {pos : Pos} {a : Addr} {g : Nat} {v : Value} {Q : QU} (ha : Has B own a (AGen g)) (h : Q own gs) : J prog w B A (letOwnedTupleGo (.Tuple elts x1 pos) (.ref a) v) own gs fun _ => Q := fun s R => by
  obtain ⟨o, ho, h1, ⟨nm, qn, h2⟩, h3⟩ := R.get ha
  unfold letOwnedTupleGo
  cases v with
  | ref b =>
    refine wpAny_bind (wpAny_load ho ?_)
    rw [h1, h2]
    exact wpAny_pure ⟨own, gs, R, h⟩
  | _ => exact wpAny_pure ⟨own, gs, R, h⟩
theorem SJ_compLoop1 {elt target iter c : Expr} {scope : Scope} {pos : Pos} {it : Value} {acc : Value}
    (h : NextJ prog w B (A.over (.compLoop (.GeneratorExp elt [⟨target, iter, [c], 0⟩] scope pos) 0 it acc env) fs) it own gs fun r o g => match r with
      | none => SJ prog w B A Out (.compLoop (.GeneratorExp elt [⟨target, iter, [c], 0⟩] scope pos) 0 it acc env) (.pure (.done .next)) fs o g
      | some v => ∀ u, er u = v → J prog w B (A.over (.compLoop (.GeneratorExp elt [⟨target, iter, [c], 0⟩] scope pos) 0 it acc env) fs) (letOwnedTupleGo target it u) o g fun _ o g =>
        AssignJ prog w B (A.over (.compLoop (.GeneratorExp elt [⟨target, iter, [c], 0⟩] scope pos) 0 it acc env) fs) env target v o g fun o g =>
        TestJ prog w B (A.over (.compLoop (.GeneratorExp elt [⟨target, iter, [c], 0⟩] scope pos) 0 it acc env) fs) env c o g fun b o g =>
          if b = true then JV prog w B (A.over (.compLoop (.GeneratorExp elt [⟨target, iter, [c], 0⟩] scope pos) 0 it acc env) fs) (eval elt env) o g fun v o g => ∀ (k : Resume → Sem Fin) l p u, er u = v →
            (∀ A' Out' o' g', SJ prog w B A' Out' (.compLoop (.GeneratorExp elt [⟨target, iter, [c], 0⟩] scope pos) 0 it acc env) ((model prog w).den (.compLoop (.GeneratorExp elt [⟨target, iter, [c], 0⟩] scope pos) 0 it acc env)) fs o' g' →
              SJ prog w B A' Out' (.compLoop (.GeneratorExp elt [⟨target, iter, [c], 0⟩] scope pos) 0 it acc env) (k (.send .none)) fs o' g') →
            Out (.susp u false l k (.compLoop (.GeneratorExp elt [⟨target, iter, [c], 0⟩] scope pos) 0 it acc env) p fs) o g
          else SJ prog w B A Out (.compLoop (.GeneratorExp elt [⟨target, iter, [c], 0⟩] scope pos) 0 it acc env) ((model prog w).den (.compLoop (.GeneratorExp elt [⟨target, iter, [c], 0⟩] scope pos) 0 it acc env)) fs o g)
    (hfs : splitAtGen fs = none) (hfg : fs.any Frame.guarded = false) (hco : env.scope.isCoroutine = false := by rfl) :
    SJ prog w B A Out (.compLoop (.GeneratorExp elt [⟨target, iter, [c], 0⟩] scope pos) 0 it acc env) ((model prog w).den (.compLoop (.GeneratorExp elt [⟨target, iter, [c], 0⟩] scope pos) 0 it acc env)) fs own gs := by
  show SJ prog w B A Out _ ((compTurn (.GeneratorExp elt [⟨target, iter, [c], 0⟩] scope pos) 0 it acc env).onRaise (leaving env)) fs own gs
  rw [Sem.onRaise_eq_wrap, compTurn_gen]
  refine SJ_bindw (fun s R => wpAny_standAt ⟨own, gs, R, ?_⟩)
  refine SJ_bindw (J_mono h fun r o g h' => ?_)
  cases r with
  | none => exact h'
  | some v =>
    have h' := h' v rfl
    dsimp only [Option.map]
    refine SJ_bindw (J_mono h' fun _ o g h' => ?_)
    refine SJ_bindw (J_mono (h' v rfl) fun _ o g h' => ?_)
    rw [List.forIn_cons]
    simp only [if_true]
    refine SJ_bindw (J_bind (J_bind (J_mono h' fun b o g h' => J_pure (J_pure ?_))))
    cases b with
    | false =>
      rw [if_neg Bool.false_ne_true] at h'
      simp only [Bool.false_eq_true, if_false]
      exact SJ_again rfl h'
    | true =>
      rw [if_pos rfl] at h'
      simp only [if_true]
      have hy : ∀ v, yieldOut env v = yieldValue v := fun v => by simp only [yieldOut, hco, Bool.false_eq_true, if_false]
      simp only [hy]
      rw [Sem.bind_eq_wrap', Sem.bind_eq_wrap', Sem.wrap_wrap, Sem.wrap_wrap]
      refine SJ_wrap (J_mono h' fun v o g h' => ?_)
      refine SJ_at (SJ_yield hfs rfl hfg fun p => ?_)
      exact h' _ _ p v rfl fun A' Out' o' g' hs => SJ_again rfl hs
end
end Mine
end
section
set_option maxRecDepth 100000
open PySem PySem.Calls PyProof.Rows PySem.W PySem.Spec
namespace Mine
/-- the table of the code objects that a code object's text has made -/
def tabArr (es : List (Pos × Addr)) : Array Value := (es.flatMap fun e => [rawInt e.1.line, rawInt e.1.col, Value.ref e.2]).toArray
def ATab (es : List (Pos × Addr)) : Pd := fun o => o = tabObj (tabArr es)
theorem tabArr_ok : ∀ es, TriplesOk (tabArr es).toList
  | [] => trivial
  | e :: r => by
    have := tabArr_ok r
    simp only [tabArr, List.flatMap_cons, List.cons_append, List.nil_append] at this ⊢
    exact this
theorem tabArr_snoc (es : List (Pos × Addr)) (pos : Pos) (c : Addr) : tabArr es ++ #[rawInt pos.line, rawInt pos.col, .ref c] = tabArr (es ++ [(pos, c)]) := by
  simp [tabArr, List.flatMap_append]
def ACode (q : Str) : Pd := fun o => ∃ vs t, o.data = .fields vs ∧ vs[1]? = some (.str q t)
def BMain (mg : Str → Option Value) (B : Bs) : Prop := ∃ bm ob, mg "__builtins__" = some (.ref bm) ∧ bm ≠ builtinsNs ∧ bm ≠ mainGlobals ∧ B.f bm = some (ARaw ob) ∧ ob.cls = .type "module" ∧ ob.dict = some builtinsNs ∧ ob.data = .plain
theorem BMain.le {mg : Str → Option Value} {B B' : Bs} (x : BMain mg B) (l : B.le B') : BMain mg B' := let ⟨bm, ob, h1, h2, h3, h4, r⟩ := x; ⟨bm, ob, h1, h2, h3, l.1 _ _ h4, r⟩
section
variable {prog : Program} {w : World} {B : Bs} {A : Around} {own : Own} {gs : Array GenState} {env : Env}
variable {K : Frag} {p : Program} {loose : List Str} {mg mb : Str → Option Value}
theorem Bind_kwOf {T : Addr} {x : Str} {v : Option Value} {α : Type} {t : Sem α} {k : Option Value → Sem α} {Q : α → Own → Array GenState → Prop} (TB : TopB K p loose mg mb B) (e₁ : t = nsGet T x >>= k)
    (e : nsIn K T x = some v) (h : J prog w B A (k v) own gs Q) : J prog w B A t own gs Q := by rw [e₁]; exact Bind_kw TB e h
theorem Bind_kwOf2 {T : Addr} {x : Str} {v : Option Value} {α β : Type} {t : Sem α} {k : Option Value → Sem β} {k2 : β → Sem α} {Q : α → Own → Array GenState → Prop} (TB : TopB K p loose mg mb B) (e₁ : t = (nsGet T x >>= k) >>= k2)
    (e : nsIn K T x = some v) (h : J prog w B A (k v >>= k2) own gs Q) : J prog w B A t own gs Q := by rw [e₁, bind_assoc]; exact Bind_kw TB e h
theorem Bind_kwOf3 {T : Addr} {x : Str} {v : Option Value} {α β γ : Type} {t : Sem α} {k : Option Value → Sem β} {k2 : β → Sem γ} {k3 : γ → Sem α} {Q : α → Own → Array GenState → Prop} (TB : TopB K p loose mg mb B) (e₁ : t = ((nsGet T x >>= k) >>= k2) >>= k3)
    (e : nsIn K T x = some v) (h : J prog w B A ((k v >>= k2) >>= k3) own gs Q) : J prog w B A t own gs Q := by rw [e₁, bind_assoc, bind_assoc]; rw [bind_assoc] at h; exact Bind_kw TB e h
theorem Kws_nil {Q : List Value → Own → Array GenState → Prop} (h : Q [] own gs) : KwsJ prog w B A [] own gs Q := h
theorem Kws_cons {t : Sem Value} {ts : List (Sem Value)} {pp : Pos} {Q : List Value → Own → Array GenState → Prop} (h : JV prog w B A t own gs fun v o g => KwsJ prog w B A ts o g fun vs => Q (v :: vs)) :
    KwsJ prog w B A ((t >>= fun v => standAt pp >>= fun _ => pure v) :: ts) own gs Q := fun s R =>
  wpAny_bind (J.any h R fun v s' o g R' h' => wpAny_bind (wpAny_standAt (wpAny_pure ⟨o, g, R', h'⟩)))
theorem Cmp_eqStr {a b : Str} {Q : QV} (h : Q (.bool (a == b)) own gs) : CmpJ prog w B A .Eq (.str a 0) (.str b 0) own gs Q := fun u v hu hv s R => by
  obtain ⟨t, rfl⟩ := er_eq_str hu
  obtain ⟨t', rfl⟩ := er_eq_str hv
  exact PyProof.Rows.eq_str ⟨own, gs, R, h⟩
theorem StoreJ_sub {x : Str} {v : Value} {o₂ : Own} {Q : QU} (hs : Sub o₂ own) (h : StoreJ prog w B A env x v o₂ gs Q) : StoreJ prog w B A env x v own gs Q := fun u hu => J_sub hs (h u hu)
theorem perm3 {α : Type} {x y z : α} {i o : List α} : (x :: y :: z :: (i ++ o)).Perm (y :: (i ++ x :: z :: o)) := by
  refine (List.Perm.swap _ _ _).trans (List.Perm.cons _ ?_)
  exact ((List.Perm.cons _ List.perm_middle.symm).trans List.perm_middle.symm)
theorem perm2 {α : Type} {x y : α} {i o : List α} : (i ++ x :: y :: o).Perm (x :: y :: i ++ o) := by
  refine List.perm_middle.trans (List.Perm.cons _ List.perm_middle)
theorem perm2' {α : Type} {x y : α} {i o : List α} : (x :: y :: (i ++ o)).Perm (i ++ x :: y :: o) := perm2.symm
theorem gset_set {g1 : Nat} {x y : GenState} {gs : Array GenState} : gset (some (g1, x)) (gs.setIfInBounds g1 y) = gset (some (g1, x)) gs := by
  unfold gset
  simp
theorem gset_eq {gl gl' : Option (Nat × GenState)} {g1 : Nat} {y st : GenState} {gs : Array GenState} (h : gl.map (·.1) = (some (g1, st)).map (·.1)) : gset gl (gs.setIfInBounds g1 y) = gset gl gs := by
  obtain ⟨z, rfl, e⟩ := Option.map_eq_some_iff.mp h
  obtain ⟨a, b⟩ := z
  cases e
  exact gset_set
theorem GOut_set {n : Nat} {ys : List Ev} {rest : Own} {g1 : Nat} {x y z : GenState} {e : End} {o : Own} {g : Array GenState} (h : GOut prog w B n ys rest (some (g1, x)) (gs.setIfInBounds g1 z) e o g) : GOut prog w B n ys rest (some (g1, y)) gs e o g := by
  cases ys with
  | nil =>
    obtain ⟨h1, h2, h3, h4⟩ := h
    exact ⟨h1, h2, h3, by rw [h4]; exact gset_set⟩
  | cons y' ys =>
    obtain ⟨v, ex, int', gl', h1, h2, h3, h4, h5, h6⟩ := h
    exact ⟨v, ex, int', gl', h1, h2, h3, h4, by rw [h5]; exact gset_eq (gl' := none) h4, h6⟩
theorem Gen_miss {pos : Pos} {qual : Str} {scope : Scope} {c P : Addr} {es : List (Pos × Addr)} {Q : Value → Own → Array GenState → Prop} (hc : env.code = .ref c) (hC : ∀ h, B.sat h → CodeHd h c P) (hm : (P, ATab es) ∈ own) (hn : codeAmong pos (tabArr es).toList = none)
    (h : ∀ c', ∃ own', Upd P (ATab es) (ATab (es ++ [(pos, c')])) own own' ∧ Q (.ref c') own' gs) : J prog w B A (genexprCode env pos qual scope) own gs Q := fun s R => by
  obtain ⟨o, ho, rfl⟩ := R.o _ _ hm
  have C := hC _ R.b
  refine wpAny_genexprCodeX hc (C.code ho (tabArr_ok es)) (C.tab ho) hn fun c' h' tk hx hge hlt _ hrec htb _ => ?_
  obtain ⟨own', u, hq⟩ := h c'
  refine ⟨own', gs, R.upd u hx ⟨_, htb.2, ?_⟩, hq⟩
  show _ = _
  rw [tabArr_snoc]
theorem Gen_hit {pos : Pos} {qual : Str} {scope : Scope} {c P : Addr} {es : List (Pos × Addr)} {c' : Addr} {Q : Value → Own → Array GenState → Prop} (hc : env.code = .ref c) (hC : ∀ h, B.sat h → CodeHd h c P) (hm : (P, ATab es) ∈ own) (hn : codeAmong pos (tabArr es).toList = some (.ref c'))
    (h : Q (.ref c') own gs) : J prog w B A (genexprCode env pos qual scope) own gs Q := fun s R => by
  obtain ⟨o, ho, rfl⟩ := R.o _ _ hm
  exact wpAny_genexprCode_hit hc ((hC _ R.b).code ho (tabArr_ok es)) hn ⟨own, gs, R, h⟩
theorem Upd.make {P : Addr} {p q : Pd} : ∀ {own : Own}, (P, p) ∈ own → ∃ own', Upd P p q own own' := by
  intro own hm
  induction hm with
  | head r => exact ⟨_, .head _⟩
  | tail x _ ih => obtain ⟨o', u⟩ := ih; exact ⟨_, .tail _ u⟩
theorem Upd.self {P : Addr} {p : Pd} {own own' : Own} (u : Upd P p p own own') : own' = own := by
  induction u with
  | head r => rfl
  | tail x _ ih => rw [ih]
/-- the code of a generator expression, made or found -/
theorem Gen_tab1 {pos : Pos} {qual : Str} {scope : Scope} {c P : Addr} {es : List (Pos × Addr)} {Q : Value → Own → Array GenState → Prop} (hc : env.code = .ref c) (hC : ∀ h, B.sat h → CodeHd h c P) (hm : (P, ATab es) ∈ own) (hes : es = [] ∨ ∃ c, es = [(pos, c)])
    (h : ∀ code es', (es' = [] ∨ ∃ c, es' = [(pos, c)]) → ∃ own', Upd P (ATab es) (ATab es') own own' ∧ Q code own' gs) : J prog w B A (genexprCode env pos qual scope) own gs Q := by
  rcases hes with rfl | ⟨c', rfl⟩
  · exact Gen_miss hc hC hm rfl fun c' => h _ [(pos, c')] (.inr ⟨c', rfl⟩)
  · obtain ⟨own', hu, hq⟩ := h (.ref c') [(pos, c')] (.inr ⟨c', rfl⟩)
    exact Gen_hit hc hC hm (codeAmong_snoc (pos := pos) (c := .ref c') [] trivial rfl) (hu.self ▸ hq)
theorem J_builtinsFor (T : TopB K p loose mg mb B) (BM : BMain mg B) {globals running : Addr} {Q : Addr → Own → Array GenState → Prop} (hg : globals = mainGlobals) (h : Q builtinsNs own gs) : J prog w B A (builtinsFor globals running) own gs Q := fun s R => by
  obtain ⟨bm, ob, h1, h2, h3, h4, h5, h6, h7⟩ := BM
  obtain ⟨o, ho, rfl⟩ := R.b _ _ h4
  subst hg
  exact wpAny_builtinsFor (T _ R.b).2.1.g h1 h2 ho h5 h6 h7 ⟨own, gs, R, h⟩
theorem JV_GenExp {elt target iter : Expr} {ifs : List Expr} {scope : Scope} {pos : Pos} {n : Nat} {cl : List (Str × Addr)} {Q : QV} (T : TopB K p loose mg mb B) (BM : BMain mg B) (hA : AOk B A n)
    (h : JV prog w B A (eval iter env) own gs fun v o g => IterJ prog w B A v o g fun it o g => J prog w B A (genexprCode env pos (env.qual ++ "<genexpr>") scope) o g fun code o g => ∀ L, CellsJ scope.names cl ((L, ANs []) :: o) fun cells o =>
      StoresJ prog w B A (newEnv scope L mainGlobals cells (env.qual ++ "<genexpr>.") none code none builtinsNs) [(".0", it)] o g fun o g =>
        ∀ a, Q (.ref a) ((a, AGen g.size) :: o) (g.push (.fresh (.compStart (.GeneratorExp elt [⟨target, iter, ifs, 0⟩] scope pos) 0 it .none (newEnv scope L mainGlobals cells (env.qual ++ "<genexpr>.") none code none builtinsNs)))))
    (hcl : closureFor scope env = pure cl := by rfl) (hg : env.globals = mainGlobals := by rfl) (hf : ∀ x, genFold iter env x = pure x := by intro _; rfl) (hco : scope.isCoroutine = false := by rfl) :
    JV prog w B A (eval (.GeneratorExp elt [⟨target, iter, ifs, 0⟩] scope pos) env) own gs Q := fun s R => by
  rw [eval_GeneratorExp1 elt target iter ifs scope pos env hco]
  refine wpAny_bind (J.any h R fun v s₁ o g R₁ h₁ => wpAny_bind (wpAny_standAt ?_))
  rw [hf]
  refine wpAny_bind (wpAny_pure (wpAny_bind (wpAny_holding (J.any (h₁ v rfl) R₁ fun it s₂ o g R₂ h₂ => ?_))))
  refine wpAny_bind (wpAny_enterFrame (limit_of T _ R₂.b) hA.depth ?_)
  rw [hcl]
  refine wpAny_bind (wpAny_pure (wpAny_bind (J.any h₂ R₂ fun code s₃ o g R₃ h₃ => ?_)))
  refine wpAny_bind (J.any (J_builtinsFor T BM hg (Q := fun b o' g' => b = builtinsNs ∧ o' = o ∧ g' = g) ⟨rfl, rfl, rfl⟩) R₃ fun b s₄ o' g' R₄ ⟨e1, e2, e3⟩ => ?_)
  subst e1 e2 e3
  rw [hg]
  refine wpAny_bind (J.any (J_newEnv (Q := fun cenv o g => ∀ a, Q (.ref a) ((a, AGen g.size) :: o) (g.push (.fresh (.compStart (.GeneratorExp elt [⟨target, iter, ifs, 0⟩] scope pos) 0 it .none cenv)))) fun L => h₃ L) R₄ fun cenv s₅ o g R₅ h₅ => ?_)
  simp only [newGenerator, newFields]
  refine wpAny_bind (wpAny_newGen (wpAny_bind (wpAny_mkText (wpAny_bind (wpAny_mkText (wpAny_newObj_type ?_ (by size_fits)))))))
  have hgs : s₅.gens = g := R₅.gens
  have R₆ := R₅.push (o := { cls := .type "generator", data := .fields #[.int s₅.gens.size 0, .str "<genexpr>" s₅.toks, .str (env.qual ++ "<genexpr>") (s₅.toks + 1)] }) (p := AGen g.size) rfl ⟨rfl, ⟨_, _, by rw [hgs]⟩, rfl⟩ (s₅.toks + 1 + 1)
  refine ⟨_, g.push (.fresh (.compStart (.GeneratorExp elt [⟨target, iter, ifs, 0⟩] scope pos) 0 it .none cenv)), ⟨R₆.b, R₆.o, R₆.dis, R₆.nd, ?_, R₆.os⟩, h₅ s₅.heap.objs.size⟩
  show s₅.gens.push _ = _
  rw [hgs]
end
end Mine
end
section
set_option maxRecDepth 100000
open PySem PySem.Calls PyProof.Rows PySem.W PySem.Spec
namespace Mine
section
variable (prog : Program) (w : World) (B : Bs) (A : Around)
/-- the judgement J where the machine is known not to be looking at what its collector found -/
def JC {α : Type} (t : Sem α) (own : Own) (gs : Array GenState) (Q : α → Own → Array GenState → Prop) : Prop :=
  ∀ s, Rep B own gs s → wpC (model prog w) A t (fun a s' => ∃ own' gs', Rep B own' gs' s' ∧ Q a own' gs') NoE s
def JCV (t : Sem Value) (own : Own) (gs : Array GenState) (Q : QV) : Prop := JC prog w B A t own gs fun v => Q (er v)
def JCF (t : Sem Flow) (own : Own) (gs : Array GenState) (Q : QF) : Prop := JC prog w B A t own gs fun v => Q (erF v)
end
section
variable {prog : Program} {w : World} {B : Bs} {A : Around} {own : Own} {gs : Array GenState} {env : Env} {α β : Type}
theorem J.clean {t : Sem α} {Q : α → Own → Array GenState → Prop} (h : J prog w B A t own gs Q) : JC prog w B A t own gs Q := fun s R => wpC_of (h s R)
theorem JC_pure {a : α} {Q : α → Own → Array GenState → Prop} (h : Q a own gs) : JC prog w B A (pure a) own gs Q := fun _ R => wpC_pure ⟨own, gs, R, h⟩
theorem JC_bind {t : Sem α} {k : α → Sem β} {Q : β → Own → Array GenState → Prop} (h : JC prog w B A t own gs fun a own' gs' => JC prog w B A (k a) own' gs' Q) :
    JC prog w B A (t >>= k) own gs Q := fun s R => wpC_bind (wpC_mono (h s R) (fun _ _ ⟨_, _, R', h'⟩ => h' _ R') fun _ _ e => e)
theorem JC_mono {t : Sem α} {Q Q' : α → Own → Array GenState → Prop} (h : JC prog w B A t own gs Q) (hq : ∀ a o g, Q a o g → Q' a o g) : JC prog w B A t own gs Q' :=
  fun s R => wpC_mono (h s R) (fun _ _ ⟨o, g, R', h'⟩ => ⟨o, g, R', hq _ _ _ h'⟩) fun _ _ e => e
theorem JC_drop {t : Sem α} {Q : α → Own → Array GenState → Prop} (h : JC prog w B A t own gs fun a o g => ∃ o₂, Sub o₂ o ∧ Q a o₂ g) : JC prog w B A t own gs Q :=
  fun s R => wpC_mono (h s R) (fun _ _ ⟨_, g, R', o₂, hs, h'⟩ => ⟨o₂, g, R'.sub hs, h'⟩) fun _ _ e => e
theorem JC_sub {t : Sem α} {o₂ : Own} {Q : α → Own → Array GenState → Prop} (hs : Sub o₂ own) (h : JC prog w B A t o₂ gs Q) : JC prog w B A t own gs Q :=
  fun s R => h s (R.sub hs)
theorem JC.any {t : Sem α} {Q : α → Own → Array GenState → Prop} {s : Shared} {Q' : α → Shared → Prop} (h : JC prog w B A t own gs Q) (R : Rep B own gs s)
    (hq : ∀ a s' o g, Rep B o g s' → Q a o g → Q' a s') : wpC (model prog w) A t Q' NoE s :=
  wpC_mono (h s R) (fun _ _ ⟨_, _, R', h'⟩ => hq _ _ _ _ R' h') fun _ _ e => e.elim
theorem JC_frame {t : Sem α} {fr give : Own} {Q : α → Own → Array GenState → Prop} (hp : Sub (give ++ fr) own)
    (h : ∀ B' : Bs, B.le B' → (∀ x ∈ fr, B'.f x.1 = some x.2) → JC prog w B' A t give gs fun a o g => Q a (o ++ fr) g) : JC prog w B A t own gs Q := by
  intro s R₀
  have R := R₀.sub hp
  have nd : (fr.map (·.1)).Nodup := by
    have := R.nd; rw [List.map_append, List.nodup_append] at this; exact this.2.1
  have hfr : ∀ x ∈ fr, (B.with fr).f x.1 = some x.2 := fun x hx => by
    show (fr.lookup x.1).or _ = _
    rw [lookup_of_nodup nd hx]; rfl
  have hle : B.le (B.with fr) := by
    refine ⟨fun a p e => ?_, rfl⟩
    show (fr.lookup a).or _ = _
    cases q : fr.lookup a with
    | none => exact e
    | some p' => have := R.dis a p' (List.mem_append_right _ (lookup_mem q)); rw [this] at e; cases e
  have hb : ∀ a p, (B.with fr).f a = some p → (a, p) ∈ fr ∨ B.f a = some p := fun a p e => by
    have e' : (fr.lookup a).or (B.f a) = some p := e
    cases q : fr.lookup a with
    | none => rw [q] at e'; exact .inr e'
    | some p' => rw [q] at e'; cases e'; exact .inl (lookup_mem q)
  have R' : Rep (B.with fr) give gs s := by
    refine ⟨fun a p e => (hb a p e).elim (fun q => R.o a p (List.mem_append_right _ q)) (R.b a p), fun a p q => R.o a p (List.mem_append_left _ q), fun a p q => ?_, ?_, R.gens, R.os⟩
    · show (fr.lookup a).or (B.f a) = none
      cases z : fr.lookup a with
      | none => exact R.dis a p (List.mem_append_left _ q)
      | some p' =>
        have nd' := R.nd
        rw [List.map_append, List.nodup_append] at nd'
        exact absurd rfl (nd'.2.2 a (List.mem_map_of_mem (f := (·.1)) q) a (List.mem_map_of_mem (f := (·.1)) (lookup_mem z)))
    · have nd' := R.nd
      rw [List.map_append, List.nodup_append] at nd'
      exact nd'.1
  refine wpC_mono (h _ hle hfr s R') (fun a s' ⟨o, g, R'', hq⟩ => ⟨o ++ fr, g, ?_, hq⟩) fun _ _ e => e
  refine ⟨fun b p e => R''.b b p (hle.1 b p e), fun b p e => ?_, fun b p e => ?_, ?_, R''.gens, R''.os⟩
  · rcases List.mem_append.mp e with e | e
    · exact R''.o b p e
    · exact R''.b b p (hfr _ e)
  · rcases List.mem_append.mp e with e | e
    · have z := R''.dis b p e
      have z' : (fr.lookup b).or (B.f b) = none := z
      exact (Option.or_eq_none_iff.mp z').2
    · exact R.dis b p (List.mem_append_right _ e)
  · rw [List.map_append, List.nodup_append]
    refine ⟨R''.nd, nd, fun x hx y hy e => ?_⟩
    subst e
    obtain ⟨⟨x1, p1⟩, h1, rfl⟩ := List.mem_map.mp hx
    obtain ⟨⟨x2, p2⟩, h2, e2⟩ := List.mem_map.mp hy
    have z := R''.dis _ _ h1
    have z2 := hfr _ h2
    simp only at e2
    rw [e2, z] at z2; cases z2
-- statements
theorem JCF_cons {st : Stmt} {rest : List Stmt} {Q : QF} (h : JCF prog w B A (exec st env) own gs fun f o g => match f with | .next => JCF prog w B A (execs rest env) o g Q | f => Q f o g) :
    JCF prog w B A (execs (st :: rest) env) own gs Q := fun s R Γ p hΓ hc => by
  rw [execs_cons, Sem.wp_bind']
  refine Sem.wp_mono _ Γ _ (fun f p' s' h' => ?_) (fun _ _ _ h' => h') _ _ (h s R Γ p hΓ hc)
  obtain ⟨o, g, R', h'⟩ := h'
  cases f with
  | next => exact h' _ R' Γ p' hΓ hc
  | brk => exact ⟨o, g, R', h'⟩
  | cont => exact ⟨o, g, R', h'⟩
  | ret v => exact ⟨o, g, R', h'⟩
theorem JCF_Assign {x : Str} {pos' pos : Pos} {value : Expr} {Q : QF} (h : JCV prog w B A (eval value env) own gs fun v o g => StoreJ prog w B A env x v o g (Q .next))
    (hs : swapsWith value (some (.Name x pos')) pos.line env = pure false := by rfl) : JCF prog w B A (exec (.Assign [.Name x pos'] value pos) env) own gs Q := fun s R Γ p hΓ hc => by
  simp only [exec_Assign_Name env x pos' value pos hs, Sem.wp_bind', Sem.wp_cmd_standAt, Sem.wp_bindName, Sem.wp_pure']
  exact Sem.wp_mono _ Γ _ (fun v _ s₁ ⟨_, _, R', h₁⟩ => Sem.wp_mono _ Γ _ (fun _ _ _ z => z) (fun _ _ _ z => z.elim) _ _ (h₁ v rfl _ R' Γ _ hΓ)) (fun _ _ _ h' => h') _ _ (h s R Γ _ hΓ hc)
theorem JCF_If {t : Expr} {b o : List Stmt} {pos : Pos} {Q : QF} (h : TestJ prog w B A env t own gs fun c o' g => if c = true then JCF prog w B A (execs b env) o' g Q else JCF prog w B A (execs o env) o' g Q) :
    JCF prog w B A (exec (.If t b o pos) env) own gs Q := fun s R Γ p hΓ hc => by
  simp only [exec_If, Sem.wp_bind', Sem.wp_cmd_standAt]
  refine Sem.wp_mono _ Γ _ (fun c p₂ s₂ h₂ => ?_) (fun _ _ _ h' => h'.elim) _ _ (h s R Γ _ hΓ)
  obtain ⟨o, g, R', h₂⟩ := h₂
  cases c with
  | true => exact h₂ _ R' Γ p₂ hΓ hc
  | false => exact h₂ _ R' Γ p₂ hΓ hc
theorem JCF_Return {e : Expr} {pos : Pos} {Q : QF} (h : JCV prog w B A (eval e env) own gs fun v => Q (.ret v)) : JCF prog w B A (exec (.Return (some e) pos) env) own gs Q := fun s R Γ p hΓ hc => by
  simp only [exec_Return_some, Sem.wp_bind', Sem.wp_cmd_standAt, Sem.wp_pure']
  exact h s R Γ _ hΓ hc
theorem JCF_Try {body orelse : List Stmt} {h₀ : ExceptHandler} {hs : List ExceptHandler} {pos : Pos} {Q : QF}
    (h : JCF prog w B A (execs body env) own gs fun f o g => match f with | .next => JCF prog w B A (execs orelse env) o g Q | f => Q f o g) :
    JCF prog w B A (exec (.Try body (h₀ :: hs) orelse [] pos) env) own gs Q := fun s R => by
  rw [arm_exec_Try]
  refine wpC_bind (wpC_standAt ?_)
  unfold tryStmt
  simp only [List.isEmpty_nil, if_true, List.isEmpty_cons, Bool.false_and, Bool.false_eq_true, if_false]
  refine wpC_bind (wpC_attempt (JC.any h R fun f s₁ o g R' h' => ?_))
  cases f with
  | next => exact h' _ R'
  | _ => exact wpC_pure ⟨o, g, R', h'⟩
theorem JCF_While {t : Expr} {body orelse : List Stmt} {pos : Pos} {Q : QF} (I : Nat → Own → Array GenState → Prop)
    (turn : ∀ n o g, I n o g → TestJ prog w B A env t o g fun b o g => if b = true then JCF prog w B A (execs body env) o g (fun f o g => match f with
        | .next | .cont => ∃ m, m < n ∧ I m o g
        | .brk => Q .next o g
        | .ret v => Q (.ret v) o g) else JCF prog w B A (execs orelse env) o g Q)
    (n : Nat) (h : I n own gs) : JCF prog w B A (exec (.While t body orelse pos) env) own gs Q := fun s R => by
  rw [exec_While]
  refine wpC_bind (wpC_standAt (wpC_runOwn rfl (codeC_whileLoop (fun n s => ∃ o g, Rep B o g s ∧ I n o g) (fun n s ⟨o, g, R, hI⟩ => ?_) n ⟨own, gs, R, h⟩)))
  refine wpC_of ((turn n o g hI).any R fun b s' o g R' hb => ?_)
  cases b with
  | true =>
    rw [if_pos rfl] at hb ⊢
    refine JC.any hb R' fun f s₂ o g R₂ hf => ?_
    cases f with
    | next => obtain ⟨m, hm, hi⟩ := hf; exact ⟨m, hm, o, g, R₂, hi⟩
    | cont => obtain ⟨m, hm, hi⟩ := hf; exact ⟨m, hm, o, g, R₂, hi⟩
    | brk => exact ⟨o, g, R₂, hf⟩
    | ret v => exact ⟨o, g, R₂, hf⟩
  | false =>
    rw [if_neg Bool.false_ne_true] at hb ⊢
    exact JC.any hb R' fun f s₂ o g R₂ hf => ⟨o, g, R₂, hf⟩
theorem JCF_For {t iter : Expr} {body orelse : List Stmt} {pos : Pos} {Q : QF} (I : Value → Nat → Own → Array GenState → Prop)
    (h : JV prog w B A (eval iter env) own gs fun v o g => IterJ prog w B A v o g fun it o g => ∃ n, I it n o g)
    (turn : ∀ it n o g, I it n o g → NextJ prog w B A it o g fun r o g => match r with
      | none => JCF prog w B A (execs orelse env) o g Q
      | some v => AssignJ prog w B A env t v o g fun o g => JCF prog w B A (execs body env) o g fun f o g => match f with
        | .next | .cont => ∃ m, m < n ∧ I it m o g
        | .brk => Q .next o g
        | .ret v => Q (.ret v) o g)
    (hs : ∀ x, foldedSetIterable iter env x = pure x := by intro _; rfl) (ht : ∀ it v, letOwnedTupleGo t it v = pure () := by intro _ _; rfl) :
    JCF prog w B A (exec (.For t iter body orelse pos) env) own gs Q := fun s R => by
  rw [exec_For]
  refine wpC_bind (wpC_standAt (wpC_bind (wpC_of (h.any R fun v s₁ o g R₁ hi => wpC_bind (wpC_of_pure (hs v) (wpC_bind (wpC_standAt (wpC_bind (wpC_holding (wpC_of ((hi v rfl).any R₁ fun it s₂ o g R₂ ⟨n, hI⟩ => wpC_runOwn rfl ?_)))))))))))
  refine codeC_forLoop (fun n s => ∃ o g, Rep B o g s ∧ I it n o g) (fun n s ⟨o, g, R, hI⟩ => ?_) n ⟨o, g, R₂, hI⟩ (ht it)
  refine wpC_of ((turn it n o g hI).any R fun r s' o g R' hr => ?_)
  cases r with
  | none => exact JC.any hr R' fun f s₂ o g R₂ hf => ⟨o, g, R₂, hf⟩
  | some v =>
    refine wpC_of (J.any (hr v rfl) R' fun _ s₂ o g R₂ hb => ?_)
    refine JC.any hb R₂ fun f s₂ o g R₂ hf => ?_
    cases f with
    | next => obtain ⟨m, hm, hi⟩ := hf; exact ⟨m, hm, o, g, R₂, hi⟩
    | cont => obtain ⟨m, hm, hi⟩ := hf; exact ⟨m, hm, o, g, R₂, hi⟩
    | brk => exact ⟨o, g, R₂, hf⟩
    | ret v => exact ⟨o, g, R₂, hf⟩
end
end Mine
end
section
set_option maxRecDepth 100000
open PySem PySem.Calls PyProof.Rows PySem.W PySem.Spec
namespace Mine
section
variable {prog : Program} {w : World} {B : Bs} {A : Around} {own : Own} {gs : Array GenState} {env : Env}
-- calls
def CallC (prog : Program) (w : World) (B : Bs) (A : Around) (f : Value) (args : List Value) (own : Own) (gs : Array GenState) (Q : QV) : Prop :=
  ∀ us, us.map er = args → JCV prog w B A (call f us []) own gs Q
def CodeC (prog : Program) (w : World) (B : Bs) (A : Around) (f : Value) (args : List Value) (own : Own) (gs : Array GenState) (Q : QV) : Prop :=
  ∀ us, us.map er = args → ∀ s, Rep B own gs s → codeC (model prog w) A (.call f ⟨us, []⟩) (fun r s' => ∃ v, r = .ok (.ret v) ∧ ∃ own' gs', Rep B own' gs' s' ∧ Q (er v) own' gs') s
theorem CallJ.clean {f : Value} {args : List Value} {Q : QV} (h : CallJ prog w B A f args own gs Q) : CallC prog w B A f args own gs Q := fun us hus => J.clean (h us hus)
theorem CodeC.call {f : Value} {args : List Value} {Q : QV} (h : CodeC prog w B A f args own gs Q) : CallC prog w B A f args own gs Q := fun us hus s R =>
  wpC_call (codeC_mono (h us hus s R) fun r s' ⟨v, e, z⟩ => by subst e; exact z)
theorem CodeC_K {K : Frag} {p : Program} {loose : List Str} {mg mb : Str → Option Value} {n : Nat} {f : Addr} {fo : Obj} {fd : FuncData} {body : List Stmt} {args : List Value} {Q : QV} (T : TopB K p loose mg mb B) (hA : AOk B A (n + 1))
    (k1 : K.lookup f = some fo) (k2 : fo.data = .func fd) (k3 : fd.body = .stmts body) (k4 : codeIn K fd.code fd.qualname = true)
    (h : ∀ us, us.map er = args → J prog w B A.in1 (bindArgs fd ⟨us, []⟩) own gs fun binds o g => ∀ L, CellsJ fd.scope.names fd.closure ((L, ANs []) :: o) fun cells o =>
      StoresJ prog w B A.in1 (newEnv fd.scope L fd.globals cells (fd.qualname ++ ".<locals>.") (some f) fd.code none fd.builtins) binds o g fun o g => ∀ A', AOk B A' n →
        JCF prog w B A' (execs body (newEnv fd.scope L fd.globals cells (fd.qualname ++ ".<locals>.") (some f) fd.code none fd.builtins)) o g
          fun fl o g => ∃ o₂, Sub o₂ o ∧ Q (retOf fl) o₂ g)
    (hco : fd.scope.isCoroutine = false) (hgen : fd.scope.isGenerator = false) : CodeC prog w B A (.ref f) args own gs Q := by
  intro us hus s R
  have X := (T _ R.b).1
  refine codeC_call_function hA.depth (X _ _ k1) k2 hco hgen k3 (codeRec_of X k4) ?_
  refine J.any (h us hus) R fun binds s₁ o g R₁ hJ => ?_
  refine J.any (J_newEnv (Q := fun env o g => JCF prog w B (A.deeper env) (execs body env) o g fun fl o g => ∃ o₂, Sub o₂ o ∧ Q (retOf fl) o₂ g) fun L => CellsJ_mono (fun cells o hs => StoresJ_mono (fun o g hq => hq _ (hA.deeper _)) _ _ _ hs) _ _ _ (hJ L)) R₁ fun env s₂ o g R₂ hb => ?_
  refine ⟨limit_of T _ R₂.b, codeC_func (JC.any hb R₂ fun fl s₃ o g R₃ ⟨o₂, hs, hq⟩ => ?_)⟩
  cases fl <;> exact ⟨_, rfl, o₂, g, R₃.sub hs, hq⟩
-- arguments
def ArgsC (prog : Program) (w : World) (B : Bs) (A : Around) (env : Env) (pos : Pos) (es : List Expr) (own : Own) (gs : Array GenState) (Q : List Value → Own → Array GenState → Prop) : Prop :=
  JC prog w B A (spliced (backTo pos (starEach es env))) own gs fun vs => Q (vs.map er)
theorem ArgsC_nil {pos : Pos} {Q : List Value → Own → Array GenState → Prop} (h : Q [] own gs) : ArgsC prog w B A env pos [] own gs Q := J.clean (Args_nil h)
theorem ArgsC_cons {pos : Pos} {e : Expr} {rest : List Expr} {Q : List Value → Own → Array GenState → Prop}
    (h : JCV prog w B A (eval e env) own gs fun v o g => ArgsC prog w B A env pos rest o g fun vs => Q (v :: vs))
    (he : starEach (e :: rest) env = (false, eval e env) :: starEach rest env := by rfl) : ArgsC prog w B A env pos (e :: rest) own gs Q := fun s R => by
  unfold backTo
  rw [he, List.map_cons, spliced]
  refine wpC_bind (JC.any (Q' := fun v s' => _) h R fun v s₁ o g R₁ h₁ => ?_)
  simp only [Bool.false_eq_true, if_false]
  exact wpC_bind (wpC_pure (wpC_bind (wpC_holding (JC.any (h₁ : JC prog w B A (spliced (backTo pos (starEach rest env))) o g _) R₁ fun vs s₂ o g R₂ h₂ => wpC_pure ⟨o, g, R₂, h₂⟩))))
theorem evalArgs_C {f : Value} {trees : List (Bool × Sem Value)} {Q : Args → Shared → Prop} {s : Shared} {M : Model} (hp : trees.any (·.1) = false) (h : wpC M A (spliced trees) (fun vs s₁ => Q ⟨vs, []⟩ s₁) NoE s) :
    wpC M A (evalArgs f true trees []) Q NoE s := by
  cases trees with
  | nil =>
    unfold evalArgs
    show wpC M A (spliced [] >>= _) Q NoE s
    refine wpC_bind (wpC_mono h (fun vs s' h' => ?_) fun _ _ x => x)
    refine wpC_bind (wpC_pure ?_)
    refine wpC_holding ?_
    exact wpC_bind (wpC_pure (wpC_bind (wpC_pure (wpC_pure h'))))
  | cons t r =>
    obtain ⟨b, t⟩ := t
    cases b with
    | true => simp at hp
    | false =>
      unfold evalArgs
      show wpC M A (spliced ((false, t) :: r) >>= _) Q NoE s
      refine wpC_bind (wpC_mono h (fun vs s' h' => ?_) fun _ _ x => x)
      refine wpC_holding ?_
      exact wpC_bind (wpC_pure (wpC_bind (wpC_pure (wpC_pure h'))))
theorem callWith_C {M : Model} {s : Shared} {pos : Pos} {f : Value} {first : List Value} {Q : Value → Shared → Prop} {P : Heap → Prop} {args : List (Bool × Sem Value)} {keywords : List (Option Str × Sem Value)} (hplain : (args.any (·.1) || keywords.any (·.1.isNone)) = false)
    (hk : ∀ h, P h → ∃ k, (k = Keeper.frame ∨ k = Keeper.machine ∨ k = Keeper.boundFrame) ∧ Looks M h (keeperOf f) k)
    (h : wpC M A (evalArgs f true args keywords) (fun a s₁ => P s₁.heap ∧ wpC M A (call f (first ++ a.pos) a.kw) Q NoE s₁) NoE s) : wpC M A (callWith pos f first args keywords) Q NoE s := by
  unfold callWith
  refine wpC_bind (wpC_holding (wpC_mono h (fun a s₁ h₁ => wpC_bind (wpC_standAt ?_)) fun _ _ x => x))
  obtain ⟨k, hk', L⟩ := hk _ h₁.1
  simp only [hplain]
  refine wpC_bind (wpC_of (L.here ?_))
  have tail : ∀ {t : Sem Value}, wpC M A t Q NoE s₁ → wpC M A (t >>= fun r => holding [r] point >>= fun _ => pure r) Q NoE s₁ :=
    fun ht => wpC_bind (wpC_mono ht (fun r s₂ hr => wpC_bind (wpC_holding (wpC_point (wpC_pure hr)))) fun _ _ x => x)
  have marked (mk : Value) : wpC M A (callMarked mk f (first ++ a.pos) a.kw) Q NoE s₁ := by
    unfold callMarked
    exact fun Γ p hΓ hc => by rw [Sem.wp_keep]; exact h₁.2 Γ p hΓ hc
  rcases hk' with rfl | rfl | rfl <;> dsimp only <;> first | exact tail h₁.2 | (split <;> first | exact tail h₁.2 | exact tail (marked _))
theorem JCV_Call {f : Expr} {args : List Expr} {pos : Pos} {Q : QV}
    (h : JV prog w B A (eval f env) own gs fun fv o g => isCallee fv = true ∧ ArgsC prog w B A env pos args o g fun vs o g => KeepOk prog w B o fv ∧ CallC prog w B A fv vs o g Q)
    (hp : (backTo pos (starEach args env)).any (·.1) = false := by rfl)
    (he : eval (.Call f args [] pos) env = (do callWith pos (← eval f env) [] (backTo pos (starEach args env)) (backToKw pos (keywordEach [] env))) := by rfl) :
    JCV prog w B A (eval (.Call f args [] pos) env) own gs Q := fun s R => by
  rw [he]
  refine wpC_bind (wpC_of (J.any h R fun fv s' o g R' ⟨hc, h'⟩ => ?_))
  have := callee_er rfl hc
  rw [← this] at h'
  refine callWith_C (P := fun h => ∃ k, (k = Keeper.frame ∨ k = Keeper.machine ∨ k = Keeper.boundFrame) ∧ Looks (model prog w) h (keeperOf fv) k) (by rw [hp]; rfl) (fun _ h => h) ?_
  refine evalArgs_C hp (JC.any (h' : JC prog w B A (spliced (backTo pos (starEach args env))) o g _) R' fun vs s' o g R' ⟨hk, hc⟩ => ⟨hk.2 _ _ R', ?_⟩)
  exact hc ([] ++ vs) (by simp) _ R'
end
end Mine
end
section
set_option maxRecDepth 100000
open PySem PySem.Calls PyProof.Rows PySem.W PySem.Spec Builtin Builtin.ObjectAttr Builtin.Getset_descriptor
namespace Mine
section
variable {prog : Program} {w : World} {A : Around} {s : Shared} {R : Result → Shared → Prop}
theorem codeC_builtin {id : String} {args : Args} {b : Builtin} (hb : entryFor table id = some b)
    (h : wpC (model prog w) (A.under (.builtin id args)) (b args)
      (fun fin s' => match fin with | .done f => R (.ok f) s' | .again c' => c'.quiet = true ∧ isFin c' = false ∧ codeC (model prog w) A c' R s') NoE s) :
    codeC (model prog w) A (.builtin id args) R s := by
  refine codeC_of_tree ?_
  show wpC _ _ (match entryFor table id with | some b => b args | none => unsupported ((withoutEnding? id "#data").getD id)) _ _ s
  rw [hb]; exact h
theorem codeC_call_builtin {id : String} {args : Args} {b : Builtin} (hp : plainId id = true) (hf : isFin (.builtin id args) = false) (hb : entryFor table id = some b)
    (h : wpAny (model prog w) A.in1 (checkBuiltinCall id args) (fun _ s₁ => wpC (model prog w) (A.under (.builtin id args)) (b args)
      (fun fin s' => match fin with | .done f => R (.ok f) s' | .again c' => c'.quiet = true ∧ isFin c' = false ∧ codeC (model prog w) A c' R s') NoE s₁) NoE s) : codeC (model prog w) A (.call (.builtin id) args) R s := by
  refine codeC_of_tree ?_
  show wpC _ A.in1 (do checkBuiltinCall id args; again (.builtin id args)) _ _ s
  exact wpC_bind (wpC_of (wpAny_mono h (fun _ s₁ h₁ => wpC_pure (And.intro (plainId_quiet hp args) (And.intro hf (codeC_builtin hb h₁)))) fun _ _ h' => h'))
theorem wpC_stack {M : Model} {Q : List (Code × Pos) → Shared → Prop} {E : Value → Shared → Prop} (h : ∀ st : List (Code × Pos), (∀ x ∈ st, isFin x.1 = false) → Q st s) : wpC M A stack Q E s := fun Γ p hΓ hc => by
  show Q ((Γ.code, p) :: Γ.below) s
  refine h _ fun x hx => ?_
  rcases List.mem_cons.mp hx with rfl | hx
  · exact hc.1
  · exact hc.2 x hx
end
section
variable {prog : Program} {w : World} {A : Around} {s : Shared} {K : Frag} {x C : Addr} {ox : Obj} {od : Option Obj} {name : Str} {expr : Bool} {Q : Value → Shared → Prop}
theorem get_openC (X : K.In s.heap) (I : InstAt s.heap x ox C od) (hga : findIn K (.ref C) "__getattribute__" = some (some (.builtin "object.__getattribute__")))
    (h : wpC (model prog w) A.in1 (Builtin.«proto.getattr_hooked» ⟨[.ref x, .str name s.toks], []⟩)
      (fun fin s' => match fin with | .done (.ret v) => wpC (model prog w) A (handedOut v) Q NoE s' | _ => False) NoE { s with toks := s.toks + 1 }) :
    wpC (model prog w) A (getAttr (.ref x) name expr) Q NoE s := by
  obtain ⟨hh, g, d, t, os⟩ := s
  have L0 := I.type (M := model prog w)
  have L1 := looks_findIn (M := model prog w) X hga
  unfold getAttr getAttrBy
  refine wpC_bind (wpC_of (wpAny_mkText (wpC_holding (wpC_bind (wpC_of (L0.at (wpC_bind (wpC_of (L1.at ?_)))))))))
  show wpC _ _ (getAttrEveryday _ _ _) _ _ _
  refine wpC_bind (wpC_onRaise (wpC_runValue rfl (codeC_builtin F.plainObj_entry_getattr_hooked (wpC_mono h (fun fin s' z => ?_) fun _ _ z => z))))
  rcases fin with (_ | _ | _ | _) | _ <;> first | exact z | exact z.elim
theorem get_bindC {g a : Value} (X : K.In s.heap) (I : InstAt s.heap x ox C od) (hga : findIn K (.ref C) "__getattribute__" = some (some (.builtin "object.__getattribute__")))
    (hf : findObj K C od name = some (.bind g a)) (hk : findIn K (.ref C) "__getattr__" = some none)
    (h : wpC (model prog w) A.in1 (call g [a, .ref x, .ref C]) (fun v s' => wpC (model prog w) A (handedOut v) Q NoE s') NoE { s with toks := s.toks + 1 }) :
    wpC (model prog w) A (getAttr (.ref x) name expr) Q NoE s := by
  refine get_openC X I hga ?_
  obtain ⟨hh', gg, d, t, os⟩ := s
  have L0 := I.type (M := model prog w)
  have L1 := looks_find (M := model prog w) X I hf
  have L2 := looks_findIn (M := model prog w) X hk
  refine wpC_bind (wpC_pure (wpC_bind (wpC_of (L0.at (wpC_bind (wpC_of (L1.at (wpC_bind (wpC_of (L2.at ?_)))))))))) 
  show wpC _ _ (holding [a] (call g [a, .ref x, .ref C]) >>= ret) _ _ _
  exact wpC_bind (wpC_holding (wpC_mono h (fun v s' z => wpC_pure z) fun _ _ z => z))
end
section
variable {prog : Program} {w : World} {B : Bs} {A : Around} {own : Own} {gs : Array GenState} {env : Env} {K : Frag} {p : Program} {loose : List Str} {mg mb : Str → Option Value}
def GetC (prog : Program) (w : World) (B : Bs) (A : Around) (ov : Value) (name : Str) (own : Own) (gs : Array GenState) (Q : QV) : Prop :=
  ∀ u, er u = ov → JCV prog w B A (getAttr u name true) own gs Q
theorem JCV_Attr {value : Expr} {attr : Str} {pos : Pos} {Q : QV} (h : JV prog w B A (eval value env) own gs fun v o g => GetC prog w B A v attr o g Q)
    (he : eval (.Attribute value attr pos) env = (do
      let o ← eval value env
      standAt pos.atName
      let r ← holding [o] (getAttr o attr true)
      letTemporaryGo value o r
      pure r) := by with_unfolding_all rfl) : JCV prog w B A (eval (.Attribute value attr pos) env) own gs Q := fun s R => by
  rw [he]
  refine wpC_bind (wpC_of (J.any h R fun ov s₁ o g R₁ h₁ => wpC_bind (wpC_standAt (wpC_bind (wpC_holding (JC.any (h₁ ov rfl) R₁ fun r s₂ o g R₂ h₂ => ?_))))))
  exact wpC_bind (wpC_of (wpAny_letTemporaryGo (wpC_pure ⟨o, g, R₂, h₂⟩)))
theorem Get_bindC {x C dx : Addr} {kvs : List (Str × Value)} {name : Str} {g : Value} {a : Value} {Q : QV} (T : TopB K p loose mg mb B) (I : Inst prog w B own x C dx kvs) (hv : valueAt kvs name = none)
    (h : ∀ us, us.map er = [er a, .ref x, .ref C] → JCV prog w B A.in1 (call g us []) own gs fun v o g => handedIn v = true ∧ Q v o g)
    (hga : findIn K (.ref C) "__getattribute__" = some (some (.builtin "object.__getattribute__"))) (hf : bindFirst K C name g a = true) (hk : findIn K (.ref C) "__getattr__" = some none) : GetC prog w B A (.ref x) name own gs Q := fun u hu s R => by
  rw [er_eq_ref hu]
  obtain ⟨od, hd, hva, IA⟩ := I.at R
  obtain ⟨r, hr, e⟩ := hva.look name
  rw [hv, Option.map_eq_none_iff] at e
  subst e
  refine get_bindC (T _ R.b).1 IA hga (findObj_bind hf hr) hk (JC.any (h [a, .ref x, .ref C] rfl) (R.toks _) fun v s' o g R' ⟨hh, hq⟩ => ?_)
  rw [handed_er] at hh
  rw [handedOut_of hh]
  exact wpC_pure ⟨o, g, R', hq⟩
theorem JCV_Subscript {value slice : Expr} {pos : Pos} {Q : QV}
    (h : JCV prog w B A (eval value env) own gs fun a o g => JV prog w B A (eval slice env) o g fun b o g => ∀ u v, er u = a → er v = b → JV prog w B A (subscriptTail value slice u v) o g Q) :
    JCV prog w B A (eval (.Subscript value slice pos) env) own gs Q := fun s R => by
  rw [eval_Subscript]
  exact wpC_bind (JC.any h R fun a s₁ o g R₁ h₁ => wpC_bind (wpC_holding (wpC_of (J.any h₁ R₁ fun b s₂ o g R₂ h₂ => wpC_bind (wpC_standAt (wpC_of (h₂ a b rfl rfl _ R₂)))))))
end
end Mine
end
section
set_option maxRecDepth 100000
open PySem PySem.Calls PyProof.Rows PySem.W PySem.Spec Builtin Builtin.ObjectAttr Builtin.Getset_descriptor
namespace Mine
theorem entry_dict : entryFor table "function.__dict__" = some Builtin.«function.__dict__» := entryFor_of_tree (by kernel_rfl)
section
variable {prog : Program} {w : World} {A : Around} {s : Shared} {K : Frag} {x C dx gd : Addr} {ox : Obj} {od : Obj} {Q : Value → Shared → Prop}
theorem handOut_dict (X : K.In s.heap) (hx : s.heap.get? x = some ox) (hc : ox.cls = .ref C) (hod : ox.dict = some dx) (hdx : s.heap.get? dx = some od) {es : Array DictEntry} {ep : Nat} (hed : od.data = .dict es ep) (hh : hasDictIn K C = true) (hl : s.heap.NoLimit) (hst : statObs s.heap = true)
    {Q : Option Addr → Shared → Prop} (h : Q (some dx) { s with heap := s.heap.update dx fun o => if o.slots.isEmpty then { o with slots := #[none] } else o }) :
    wpC (model prog w) A (instanceDictHandedOut x) Q NoE s := by
  unfold instanceDictHandedOut
  have hd : wpAny (model prog w) A (instanceDict x true) (fun r s' => r = some dx ∧ s' = s) NoE s := by
    unfold instanceDict
    refine wpAny_bind (wpAny_loadPart hx ?_)
    rw [hc, hod]
    obtain ⟨cd, hc1, hc2⟩ := any_some hh
    obtain ⟨hp, g, d, t, os⟩ := s
    have L : Looks (model prog w) hp (classData C) cd := looks_clsIn X hc1
    refine wpAny_bind (L.at ?_)
    rw [hc2]
    exact wpAny_pure ⟨rfl, rfl⟩
  refine wpC_bind (wpC_of (wpAny_mono hd (fun r s' ⟨e1, e2⟩ => ?_) fun _ _ e => e))
  subst e1 e2
  refine wpC_bind (wpC_of (wpAny_loadPart hx ?_))
  rw [hc]
  refine wpC_bind (m := load dx >>= _) ?_
  refine wpC_bind (wpC_of (wpAny_load hdx ?_))
  have fin : wpC (model prog w) A (do
      update dx fun o => if o.slots.isEmpty = true then { o with slots := #[none] } else o
      pure (some dx)) Q NoE s' := wpC_bind (wpC_of (wpAny_update hdx (wpC_pure h)))
  simp only [hed]
  split
  · exact wpC_pure fin
  · refine wpC_bind (wpC_stack fun st hst' => ?_)
    split
    · rename_i _ mode gone e
      obtain ⟨act, ha, e⟩ := List.exists_of_findSome?_eq_some e
      have hn := hst' act ha
      split at e
      · rename_i q
        rw [q] at hn
        simp [isFin] at hn
      · cases e
    · obtain ⟨mc, hns, _⟩ := hl
      refine wpC_bind (wpC_of (wpAny_nsGet hns ?_))
      rw [statObs_ns hst hns]
      exact wpC_pure fin
theorem dict_get {tp : Value} {O : Value} {R : Result → Shared → Prop} {n : Str} {tn : Tok} (X : K.In s.heap) (I : InstAt s.heap x ox C (some od)) (hox : ox = instObj C dx) {es : Array DictEntry} {ep : Nat} (hed : od.data = .dict es ep)
    (hp : recIn K gd "getset_descriptor" = some [.str n tn, O, .builtin "function.__dict__", .builtin "function.__dict__#set"]) (hm : mroIn K C O = some true) (hs : mroIn K C (.type "staticmethod") = some false) (hcm : mroIn K C (.type "classmethod") = some false)
    (hh : hasDictIn K C = true) (hl : s.heap.NoLimit) (hst : statObs s.heap = true)
    (h : R (.ok (.ret (.ref dx))) { s with heap := s.heap.update dx fun o => if o.slots.isEmpty then { o with slots := #[none] } else o }) : codeC (model prog w) A (.call (.builtin "getset_descriptor.__get__") ⟨[.ref gd, .ref x, tp], []⟩) R s := by
  obtain ⟨d, sl, ho⟩ := rec_of X hp
  obtain ⟨hp', g, dr, t, os⟩ := s
  have L0 := I.type (M := model prog w)
  have L1 := looks_mroIn (M := model prog w) X hm
  have L2 := looks_mroIn (M := model prog w) X hs
  have L3 := looks_mroIn (M := model prog w) X hcm
  dsimp only at ho L0 L1 L2 L3
  have f0 := looks_field (M := model prog w) ho 0 (v := .str n tn) rfl
  have f1 := looks_field (M := model prog w) ho 1 (v := O) rfl
  have f2 := looks_field (M := model prog w) ho 2 (v := .builtin "function.__dict__") rfl
  refine codeC_call_builtin KF.slot_gs.plain rfl KF.entry_gs (KF.slot_gs.check _ _ _ _ _ _ _ _ ⟨_, ho, rfl⟩ (KF.args_gs _ _ _) (wpC_of ?_))
  unfold Builtin.«getset_descriptor.__get__» descrGet
  rw [dga_obj]
  refine wpAny_bind (wpAny_pure ?_)
  unfold descrGetter descrCheckInstance descrNameAndClass isInstance
  repeat lk
  refine ⟨Code.quiet_builtin _ (by decide +kernel), rfl, codeC_builtin entry_dict ?_⟩
  unfold Builtin.«function.__dict__» isInstance
  refine wpC_bind (wpC_of (wpAny_mono (Q := fun b s' => b = false ∧ s' = ⟨hp', g, dr, t, os⟩) ?_ (fun b s' e => ?_) fun _ _ e => e))
  · refine wpAny_bind (m := (do isSubtype (← typeOf (.ref x)) (.type "staticmethod"))) (wpAny_bind (L0.at (L2.at ?_)))
    exact wpAny_bind (L0.at (L3.at ⟨rfl, rfl⟩))
  · obtain ⟨rfl, rfl⟩ := e
    simp only [Bool.false_eq_true, if_false]
    have hx := I.at_
    subst hox
    refine wpC_bind (handOut_dict X hx rfl rfl I.dict hed hh hl hst ?_)
    exact wpC_pure h
section
variable {B : Bs} {own : Own} {gs : Array GenState} {p : Program} {loose : List Str} {mg mb : Str → Option Value}
/-- the object's dict is handed out -/
theorem Get_dict {kvs : List (Str × Value)} {O : Value} {n : Str} {tn : Tok} {Q : QV} (T : TopB K p loose mg mb B) (hx : Has B own x (AInst C dx)) (hd : (dx, AVars prog w kvs) ∈ own)
    (h : Q (.ref dx) own gs) (hc : isClsIn K C = true)
    (ha : findIn K (.ref C) "__dict__" = some (some (.ref gd))) (hn : specialIn K (.ref gd) "__get__" = some (some (.builtin "getset_descriptor.__get__"))) (ht : takesIn K (.ref gd) = some true)
    (hp : recIn K gd "getset_descriptor" = some [.str n tn, O, .builtin "function.__dict__", .builtin "function.__dict__#set"]) (hm : mroIn K C O = some true) (hs : mroIn K C (.type "staticmethod") = some false) (hcm : mroIn K C (.type "classmethod") = some false)
    (hh : hasDictIn K C = true) (hga : findIn K (.ref C) "__getattribute__" = some (some (.builtin "object.__getattribute__"))) (hk : findIn K (.ref C) "__getattr__" = some none) :
    GetC prog w B A (.ref x) "__dict__" own gs Q := fun u hu s R => by
  rw [er_eq_ref hu]
  obtain ⟨od, hdo, hva, IA⟩ := (Inst.mk hx (.own hd)).at R
  obtain ⟨kvs', es, ep, h1, h2, h3, h4, h5, h6⟩ := id hva
  refine get_bindC (T _ R.b).1 IA hga (findObj_data hc ha hn ht) hk (wpC_call (codeC_mono (dict_get (s := { s with toks := s.toks + 1 }) (T _ R.b).1 IA rfl h2 hp hm hs hcm hh (limit_of T _ R.b) (sysObs_stat (T _ R.b).2.2)
    (R := fun r s' => r = .ok (.ret (.ref dx)) ∧ ∃ o g, Rep B o g s' ∧ Q (.ref dx) o g) ⟨rfl, own, gs, ?_, h⟩) fun r s' ⟨e, o, g, R', hq⟩ => ?_))
  · refine R.upd (Upd.same hd) (Heap.SameBut.extBut (Heap.SameBut.update ..)) ⟨_, Heap.get?_update_self _ hdo ?_, ?_⟩
    · show Obj.isFreed (if _ then _ else _) = false
      obtain ⟨c, dd, dt, sl'⟩ := od
      simp only at h2
      subst h2
      split <;> rfl
    · show AVars prog w kvs (if _ then _ else _)
      split
      · exact ⟨kvs', es, ep, h1, h2, h3, h4, h5, h6⟩
      · exact hva
  · subst e
    refine wpC_of ?_
    rw [handedOut_of rfl]
    exact wpAny_pure ⟨o, g, R', hq⟩
end
end
end Mine
end
section
set_option maxRecDepth 100000
open PySem PySem.Calls PyProof.Rows PySem.W PySem.Spec
namespace Mine
section
variable {prog : Program} {w : World} {B : Bs} {A : Around} {own : Own} {gs : Array GenState} {env : Env}
variable {K : Frag} {p : Program} {loose : List Str} {mg mb : Str → Option Value}
/-- a comprehension's own code, run to its end -/
def CJ (prog : Program) (w : World) (B : Bs) (A : Around) (c : Code) (own : Own) (gs : Array GenState) (Q : QU) : Prop :=
  ∀ s, Rep B own gs s → codeAny (model prog w) A c (fun r s' => r = .ok .next ∧ ∃ own' gs', Rep B own' gs' s' ∧ Q own' gs') s
/-- the conditions of a clause -/
def IfsJ (prog : Program) (w : World) (B : Bs) (A : Around) (env : Env) : List Expr → Own → Array GenState → QB → Prop
  | [], own, gs, Q => Q true own gs
  | c :: cs, own, gs, Q => TestJ prog w B A env c own gs fun b o g => if b = true then IfsJ prog w B A env cs o g Q else Q false o g
theorem J_ifs_false : ∀ (cs : List Expr) (own : Own) (gs : Array GenState) (Q : QB), Q false own gs →
    J prog w B A (forIn cs false fun c r => if r = true then do let ok ← isTrue c env (eval c env); pure (ForInStep.yield ok) else pure (ForInStep.yield r)) own gs Q
  | [], own, gs, Q, h => by rw [List.forIn_nil]; exact J_pure h
  | c :: cs, own, gs, Q, h => by
    rw [List.forIn_cons]
    simp only [Bool.false_eq_true, if_false]
    exact J_bind (J_pure (J_ifs_false cs own gs Q h))
theorem J_ifs : ∀ (cs : List Expr) (own : Own) (gs : Array GenState) (Q : QB), IfsJ prog w B A env cs own gs Q →
    J prog w B A (forIn cs true fun c r => if r = true then do let ok ← isTrue c env (eval c env); pure (ForInStep.yield ok) else pure (ForInStep.yield r)) own gs Q
  | [], own, gs, Q, h => by rw [List.forIn_nil]; exact J_pure h
  | c :: cs, own, gs, Q, h => by
    rw [List.forIn_cons]
    simp only [if_true]
    refine J_bind (J_bind (J_mono h fun b o g h' => J_pure ?_))
    cases b with
    | true => rw [if_pos rfl] at h'; exact J_ifs cs o g Q h'
    | false => rw [if_neg Bool.false_ne_true] at h'; exact J_ifs_false cs o g Q h'
theorem CJ_loop {e : Expr} {target iter : Expr} {ifs : List Expr} {it acc : Value} {emit : Sem Unit} {Q : QU} (I : Nat → Own → Array GenState → Prop)
    (he : compTurn e 0 it acc env = (do
      standAt iter.pos
      match ← pyNext it with
      | none => pure (.done .next)
      | some v =>
        letOwnedTupleGo target it v
        assign target env v
        let mut ok := true
        for c in ifs do
          if ok then ok ← isTrue c env (eval c env)
        if ok then emit
        again (.compLoop e 0 it acc env)))
    (hden : (model prog w).den (.compLoop e 0 it acc env) = (compTurn e 0 it acc env).onRaise (fun x => do noteFrame x env; theTreesLotGoes x))
    (hund : A.under (.compLoop e 0 it acc env) = A)
    (turn : ∀ n o g, I n o g → NextJ prog w B A it o g fun r o g => match r with
      | none => Q o g
      | some v => ∀ u, er u = v → J prog w B A (letOwnedTupleGo target it u) o g fun _ o g => AssignJ prog w B A env target v o g fun o g =>
        IfsJ prog w B A env ifs o g fun b o g => if b = true then J prog w B A emit o g fun _ o g => ∃ m, m < n ∧ I m o g else ∃ m, m < n ∧ I m o g)
    (n : Nat) (h : I n own gs) : CJ prog w B A (.compLoop e 0 it acc env) own gs Q := fun s R => by
  refine codeAny_loop rfl (fun n s => ∃ o g, Rep B o g s ∧ I n o g) (fun n s ⟨o, g, R, hI⟩ => ?_) n ⟨own, gs, R, h⟩
  rw [hund, hden]
  refine wpAny_onRaise ?_
  rw [he]
  refine wpAny_bind (wpAny_standAt (wpAny_bind (J.any (turn n o g hI) R fun r s₁ o g R₁ h₁ => ?_)))
  cases r with
  | none => exact wpAny_pure ⟨rfl, o, g, R₁, h₁⟩
  | some v =>
    refine wpAny_bind (J.any (h₁ v rfl) R₁ fun _ s₂ o g R₂ h₂ => wpAny_bind (J.any (h₂ v rfl) R₂ fun _ s₃ o g R₃ h₃ => ?_))
    refine wpAny_bind (J.any (J_ifs ifs o g _ h₃) R₃ fun b s₄ o g R₄ h₄ => ?_)
    cases b with
    | false =>
      rw [if_neg Bool.false_ne_true] at h₄
      obtain ⟨m, hm, hI⟩ := h₄
      simp only [Bool.false_eq_true, if_false]
      exact wpAny_pure ⟨rfl, m, hm, o, g, R₄, hI⟩
    | true =>
      rw [if_pos rfl] at h₄
      simp only [if_true]
      refine wpAny_bind (J.any h₄ R₄ fun _ s₅ o g R₅ ⟨m, hm, hI⟩ => ?_)
      exact wpAny_pure ⟨rfl, m, hm, o, g, R₅, hI⟩
theorem CJ_start {e target iter : Expr} {ifs : List Expr} {it : Value} {acc : Value} {Q : QU}
    (hcl : clausesOf e = [⟨target, iter, ifs, 0⟩])
    (hden : (model prog w).den (.compStart e 0 it acc env) = (compStart e 0 it acc env).onRaise (fun x => do noteFrame x env; standAt theWindowsPlace))
    (hund : A.under (.compStart e 0 it acc env) = A)
    (h1 : J prog w B A (pyIter it) own gs fun v o g => v = it ∧ o = own ∧ g = gs)
    (h : CJ prog w B A (.compLoop e 0 it acc env) own gs Q) : CJ prog w B A (.compStart e 0 it acc env) own gs Q := fun s R => by
  refine codeAny_of_tree ?_
  rw [hund, hden]
  refine wpAny_onRaise ?_
  unfold compStart
  rw [hcl]
  show wpAny _ _ (ask >>= _) _ _ s
  refine wpAny_bind (wpAny_askSetting ?_)
  show wpAny _ _ (if w.params.followText "comprehension-iter-twice" = true then _ else _) _ _ _
  cases w.params.followText "comprehension-iter-twice" with
  | true => rw [if_pos rfl]; exact wpAny_bind (wpAny_pure (wpAny_pure ⟨rfl, h s R⟩))
  | false =>
    rw [if_neg Bool.false_ne_true]
    refine wpAny_bind (wpAny_rule ?_)
    refine wpAny_bind (wpAny_standAt ?_)
    refine wpAny_bind (J.any h1 R fun v s' o g R' ⟨e1, e2, e3⟩ => ?_)
    subst e1 e2 e3
    exact wpAny_pure ⟨rfl, h _ R'⟩
/-- the names of a comprehension's frame: what the function around holds in a cell is a cell here too -/
def compNames (scope : Scope) (env : Env) : List (Str × NameKind) := scope.names.map fun (n, k) => if (k == .free && env.scope.kind == .function && env.kindOf n == some .cell) = true then (n, .cell) else (n, k)
theorem J_compr {e target iter : Expr} {ifs : List Expr} {scope : Scope} {pos : Pos} {newAcc first : Sem Value} {cl : List (Str × Addr)} {Q : QV}
    (h : JV prog w B A first own gs fun x o g => IterJ prog w B A x o g fun it o g => J prog w B A newAcc o g fun acc o g => ∀ C, CellsJ scope.names cl ((C, ANs []) :: o) fun cells o =>
      CJ prog w B A (.compStart e 0 it acc { newEnv scope C env.globals cells env.qual none .none (some env) builtinsNs with scope := { scope with names := compNames scope env } }) o g fun o g => ∃ al rest, PickR C (ANs al) o rest ∧ Q (er acc) rest g)
    (hcl : closureFor scope env = pure cl) (hc : clausesOf e = [⟨target, iter, ifs, 0⟩]) (hs : ∀ x, foldedSetIterable iter env x = pure x) (hkind : scope.kind = .function)
    (hnames : ∀ x ∈ scope.names, x.2 = .local → (compNames scope env).lookup x.1 = some .local) :
    JV prog w B A (comprehension e scope env pos newAcc false first) own gs Q := fun s R => by
  unfold comprehension
  refine wpAny_bind (J.any h R fun x s₁ o g R₁ h₁ => wpAny_bind (wpAny_standAt ?_))
  rw [hc]
  refine wpAny_bind (wpAny_of_eq (hs x) ?_)
  refine wpAny_bind (wpAny_holding (J.any (h₁ x rfl) R₁ fun it s₂ o g R₂ h₂ => wpAny_standIf ?_))
  refine wpAny_bind (J.any h₂ R₂ fun acc s₃ o g R₃ h₃ => ?_)
  rw [hcl]
  refine wpAny_bind (wpAny_pure (wpAny_bind ?_))
  refine J.any (J_newEnv (Q := fun cenv o g => cenv.scope = scope ∧ CJ prog w B A (.compStart e 0 it acc { cenv with scope := { scope with names := compNames scope env } }) o g fun o g => ∃ al rest, PickR cenv.locals (ANs al) o rest ∧ Q (er acc) rest g)
    fun C => CellsJ_mono (fun cells o hh => ⟨rfl, hh⟩) _ _ _ (h₃ C)) R₃ fun cenv s₄ o g R₄ ⟨hsc, h₄⟩ => ?_
  dsimp only
  refine wpAny_holding (wpAny_bind (wpAny_attempt (wpAny_holding (wpAny_run (codeAny_mono (h₄ s₄ R₄) fun r s' ⟨e, o, g, R', al, rest, hp, hq⟩ => ?_)))))
  subst e
  obtain ⟨ob, hob, hns⟩ := R'.o _ _ hp.mem
  obtain ⟨m, hm, _⟩ := ANs.ns hob hns
  refine wpAny_bind (wpAny_holding (wpAny_comp_letGo (cenv := { cenv with scope := { scope with names := compNames scope env } }) hkind _ s' m (fun x hx hl => ?_) hm fun h' m' _ hs' => wpAny_pure ?_))
  · exact hnames x (List.mem_filter.mp (List.mem_reverse.mp hx)).1 hl
  · have R'' := R'.sub (Sub.of_perm hp.perm.symm)
    have hnm := hp.not_mem R'.nd
    refine ⟨rest, g, ?_, hq⟩
    have R3 := R'.sub ((Sub.skip (Sub.refl rest)).trans (Sub.of_perm hp.perm.symm))
    refine ⟨fun b q e => ?_, fun b q e => ?_, R3.dis, R3.nd, R3.gens, R3.os⟩
    · obtain ⟨o, ho, hq⟩ := R'.b b q e
      exact ⟨o, hs'.extBut b o (fun z => by have := R'.dis _ _ hp.mem; rw [← z, e] at this; cases this) ho, hq⟩
    · obtain ⟨o, ho, hq⟩ := R3.o b q e
      exact ⟨o, hs'.extBut b o (fun z => hnm q (z ▸ e)) ho, hq⟩
theorem names_ok {scope : Scope} (h : (scope.names.all fun x => !(x.2 == .local) || (compNames scope env).lookup x.1 == some .local) = true) : ∀ x ∈ scope.names, x.2 = .local → (compNames scope env).lookup x.1 = some .local := fun x hx hl => by
  have := List.all_eq_true.mp h x hx
  rw [hl] at this
  simpa using this
theorem J_newList0 {Q : Value → Own → Array GenState → Prop} (h : ∀ l, Q (.ref l) ((l, AList []) :: own) gs) : J prog w B A (newList []) own gs Q := fun s R =>
  wpAny_newObj_type ⟨_, gs, R.push (p := AList []) rfl ⟨#[], 0, rfl, by simp⟩ _, h _⟩ (by show (#[] : Array Value).size ≤ sizeLine; simp)
theorem J_newDict0 {Q : Value → Own → Array GenState → Prop} (h : ∀ l, Q (.ref l) ((l, AEmpty) :: own) gs) : J prog w B A newDict own gs Q := fun s R => by
  simp only [newDict, newObj]
  exact wpAny_bind (wpAny_alloc (wpAny_pure ⟨_, gs, R.push (p := AEmpty) rfl AEmpty.fresh _, h _⟩))
theorem JV_ListComp {elt target iter : Expr} {ifs : List Expr} {scope : Scope} {pos : Pos} {cl : List (Str × Addr)} {Q : QV}
    (h : JV prog w B A (eval iter env) own gs fun x o g => IterJ prog w B A x o g fun it o g => ∀ acc C, CellsJ scope.names cl ((C, ANs []) :: (acc, AList []) :: o) fun cells o =>
      CJ prog w B A (.compStart (.ListComp elt [⟨target, iter, ifs, 0⟩] scope pos) 0 it (.ref acc) { newEnv scope C env.globals cells env.qual none .none (some env) builtinsNs with scope := { scope with names := compNames scope env } }) o g fun o g => ∃ al rest, PickR C (ANs al) o rest ∧ Q (.ref acc) rest g)
    (hcl : closureFor scope env = pure cl := by rfl) (hs : ∀ x, foldedSetIterable iter env x = pure x := by intro _; rfl) (hkind : scope.kind = .function := by rfl)
    (hnames : (scope.names.all fun x => !(x.2 == .local) || (compNames scope env).lookup x.1 == some .local) = true := by rfl) :
    JV prog w B A (eval (.ListComp elt [⟨target, iter, ifs, 0⟩] scope pos) env) own gs Q := by
  rw [arm_eval_ListComp]
  refine J_compr (J_mono h fun x o g h' => fun u hu => J_mono (h' u hu) fun it o g h'' => ?_) hcl rfl hs hkind (names_ok hnames)
  exact J_newList0 fun acc => h'' acc
theorem JV_DictComp {kx vx target iter : Expr} {ifs : List Expr} {scope : Scope} {pos : Pos} {cl : List (Str × Addr)} {Q : QV}
    (h : JV prog w B A (eval iter env) own gs fun x o g => IterJ prog w B A x o g fun it o g => ∀ acc C, CellsJ scope.names cl ((C, ANs []) :: (acc, AEmpty) :: o) fun cells o =>
      CJ prog w B A (.compStart (.DictComp kx vx [⟨target, iter, ifs, 0⟩] scope pos) 0 it (.ref acc) { newEnv scope C env.globals cells env.qual none .none (some env) builtinsNs with scope := { scope with names := compNames scope env } }) o g fun o g => ∃ al rest, PickR C (ANs al) o rest ∧ Q (.ref acc) rest g)
    (hcl : closureFor scope env = pure cl := by rfl) (hs : ∀ x, foldedSetIterable iter env x = pure x := by intro _; rfl) (hkind : scope.kind = .function := by rfl)
    (hnames : (scope.names.all fun x => !(x.2 == .local) || (compNames scope env).lookup x.1 == some .local) = true := by rfl) :
    JV prog w B A (eval (.DictComp kx vx [⟨target, iter, ifs, 0⟩] scope pos) env) own gs Q := by
  rw [arm_eval_DictComp]
  refine J_compr (J_mono h fun x o g h' => fun u hu => J_mono (h' u hu) fun it o g h'' => ?_) hcl rfl hs hkind (names_ok hnames)
  exact J_newDict0 fun acc => h'' acc
theorem CJ_list {elt target iter : Expr} {ifs : List Expr} {scope : Scope} {pos : Pos} {it : Value} {l : Addr} {Q : QU} (I : Nat → Own → Array GenState → Prop)
    (turn : ∀ n o g, I n o g → NextJ prog w B A it o g fun r o g => match r with
      | none => Q o g
      | some v => ∀ u, er u = v → J prog w B A (letOwnedTupleGo target it u) o g fun _ o g => AssignJ prog w B A env target v o g fun o g =>
        IfsJ prog w B A env ifs o g fun b o g => if b = true then JV prog w B A (eval elt env) o g fun x o g => CallJ prog w B A (.builtin "list.append") [.ref l, x] o g fun _ o g => ∃ m, m < n ∧ I m o g else ∃ m, m < n ∧ I m o g)
    (n : Nat) (h : I n own gs) (hund : A.under (.compLoop (.ListComp elt [⟨target, iter, ifs, 0⟩] scope pos) 0 it (.ref l) env) = A := by rfl) :
    CJ prog w B A (.compLoop (.ListComp elt [⟨target, iter, ifs, 0⟩] scope pos) 0 it (.ref l) env) own gs Q := by
  refine CJ_loop I (compTurn_list elt target iter ifs scope pos it (.ref l) env) rfl hund (fun n o g hI => J_mono (turn n o g hI) fun r o g h => ?_) n h
  cases r with
  | none => exact h
  | some v =>
    intro u hu
    refine J_mono (h u hu) fun _ o g h u' hu' => J_mono (h u' hu') fun _ o g h => ?_
    have gen : ∀ (cs : List Expr) (o : Own) (g : Array GenState) (P P' : QB), (∀ b o g, P b o g → P' b o g) → IfsJ prog w B A env cs o g P → IfsJ prog w B A env cs o g P' := by
      intro cs
      induction cs with
      | nil => intro o g P P' hp h; exact hp _ _ _ h
      | cons c cs ih =>
        intro o g P P' hp h
        refine J_mono h fun b o g h => ?_
        cases b with
        | true => rw [if_pos rfl] at h ⊢; exact ih _ _ _ _ hp h
        | false => rw [if_neg Bool.false_ne_true] at h ⊢; exact hp _ _ _ h
    refine gen _ _ _ _ _ (fun b o g h => ?_) h
    cases b with
    | false => rw [if_neg Bool.false_ne_true] at h ⊢; exact h
    | true =>
      rw [if_pos rfl] at h ⊢
      exact J_bind (J_mono h fun x o g h => J_bind (J_mono (h [.ref l, x] rfl) fun _ o g h => J_pure h))
theorem CJ_dict {kx vx target iter : Expr} {ifs : List Expr} {scope : Scope} {pos : Pos} {it : Value} {d : Addr} {Q : QU} (I : Nat → Own → Array GenState → Prop)
    (turn : ∀ n o g, I n o g → NextJ prog w B A it o g fun r o g => match r with
      | none => Q o g
      | some v => ∀ u, er u = v → J prog w B A (letOwnedTupleGo target it u) o g fun _ o g => AssignJ prog w B A env target v o g fun o g =>
        IfsJ prog w B A env ifs o g fun b o g => if b = true then JV prog w B A (eval kx env) o g fun k o g => JV prog w B A (eval vx env) o g fun v o g =>
          ∃ i kvs own', k = iv i ∧ Upd d (AD prog w kvs) (AD prog w (stored kvs i v)) o own' ∧ kvs.length ≤ 1000000 ∧ ∃ m, m < n ∧ I m own' g else ∃ m, m < n ∧ I m o g)
    (n : Nat) (h : I n own gs) (hund : A.under (.compLoop (.DictComp kx vx [⟨target, iter, ifs, 0⟩] scope pos) 0 it (.ref d) env) = A := by rfl) :
    CJ prog w B A (.compLoop (.DictComp kx vx [⟨target, iter, ifs, 0⟩] scope pos) 0 it (.ref d) env) own gs Q := by
  refine CJ_loop I (compTurn_dict kx vx target iter ifs scope pos it d env) rfl hund (fun n o g hI => J_mono (turn n o g hI) fun r o g h => ?_) n h
  cases r with
  | none => exact h
  | some v =>
    intro u hu
    refine J_mono (h u hu) fun _ o g h u' hu' => J_mono (h u' hu') fun _ o g h => ?_
    have gen : ∀ (cs : List Expr) (o : Own) (g : Array GenState) (P P' : QB), (∀ b o g, P b o g → P' b o g) → IfsJ prog w B A env cs o g P → IfsJ prog w B A env cs o g P' := by
      intro cs
      induction cs with
      | nil => intro o g P P' hp h; exact hp _ _ _ h
      | cons c cs ih =>
        intro o g P P' hp h
        refine J_mono h fun b o g h => ?_
        cases b with
        | true => rw [if_pos rfl] at h ⊢; exact ih _ _ _ _ hp h
        | false => rw [if_neg Bool.false_ne_true] at h ⊢; exact hp _ _ _ h
    refine gen _ _ _ _ _ (fun b o g h => ?_) h
    cases b with
    | false => rw [if_neg Bool.false_ne_true] at h ⊢; exact h
    | true =>
      rw [if_pos rfl] at h ⊢
      intro s R
      refine wpAny_bind (J.any h R fun kv s₁ o g R₁ h₁ => wpAny_bind (wpAny_holding (J.any h₁ R₁ fun vv s₂ o g R₂ ⟨i, kvs, own', hk, hu, hl, hm⟩ => ?_)))
      refine wpAny_bind (wpAny_standAt (wpAny_holding ?_))
      obtain ⟨t, rfl⟩ := er_eq_int hk
      obtain ⟨ob, hob, ep, hp⟩ := R₂.o _ _ hu.mem
      obtain ⟨kvs', hD, rfl⟩ := ADict.at hob hp
      refine wpAny_dictSet_pairs (intKind_is prog w i t) hD.dictOf (fun h' hd' hsb => ?_) (Nat.le_trans (by simpa using hl) (by decide))
      obtain ⟨ep', o', ho', hp'⟩ := ADict.of hd'
      rw [stored_er] at hp'
      exact ⟨own', g, R₂.upd hu hsb.extBut ⟨o', ho', ep', hp'⟩, hm⟩
end
end Mine
end
section
set_option maxRecDepth 100000
open PySem PySem.Calls PyProof.Rows PySem.W PySem.Spec
namespace Mine
def ARange (a n : Int) : Pd := fun o => ∃ t u v, o = { cls := .type "range", data := .fields #[.int a t, .int n u, .int 1 v] }
def ARangeIter (x left : Int) : Pd := fun o => o = { cls := .type "range_iterator", data := .fields #[rawInt x, rawInt left, rawInt 1] }
def AEnumI (it : Addr) (i : Int) : Pd := fun o => ∃ old, o = { cls := .type "enumerate", data := .fields #[.none, .bool false, .ref it, rawInt i, .none, old] }
def AEnumO (it : Addr) (i : Int) (a : Addr) : Pd := fun o => ∃ item, o = { cls := .type "enumerate", data := .fields #[rawInt a, .bool false, .ref it, rawInt i, .none, item] }
section
variable {prog : Program} {w : World} {B : Bs} {A : Around} {own : Own} {gs : Array GenState} {env : Env}
theorem Call_range1 {n : Int} {Q : QV} (h : ∀ r, Q (.ref r) ((r, ARange 0 n) :: own) gs) : CallJ prog w B A (.type "range") [iv n] own gs Q := fun us hus s R => by
  obtain ⟨u, rfl, hu⟩ := er1 hus
  obtain ⟨t, rfl⟩ := er_eq_int hu
  exact call_range_1 ⟨_, gs, R.push (p := ARange 0 n) rfl ⟨_, _, _, rfl⟩ _, h _⟩
theorem small_ok {n : Int} (h0 : 0 ≤ n) (h1 : n ≤ 1000000) : Builtin.Range.small 0 n 1 = true := by
  have e : Builtin.Range.rangeSize 0 n 1 = n := by rw [rangeSize_one]; split <;> omega
  unfold Builtin.Range.small
  rw [e]
  simp only [Bool.and_eq_true, Bool.or_eq_true]
  unfold Builtin.Range.rangeFitsLong
  refine ⟨⟨⟨⟨?_, ?_⟩, ?_⟩, ?_⟩, .inr ?_⟩ <;> simp <;> omega
theorem Iter_range {r : Addr} {n : Int} {Q : Value → Own → Array GenState → Prop} (hr : Has B own r (ARange 0 n)) (h0 : 0 ≤ n) (h1 : n ≤ 1000000) (h : ∀ it, Q (.ref it) ((it, ARangeIter 0 n) :: own) gs) : IterJ prog w B A (.ref r) own gs Q := fun u hu s R => by
  rw [er_eq_ref hu]
  obtain ⟨o, ho, t, u, v, rfl⟩ := R.get hr
  refine wpAny_pyIter_range ho (small_ok h0 h1) ⟨_, gs, R.push (p := ARangeIter 0 n) rfl ?_ _, h _⟩
  have e : Builtin.Range.rangeSize 0 n 1 = n := by rw [rangeSize_one]; split <;> omega
  show _ = _
  rw [e]
theorem Iter_rangeIter {it : Addr} {x left : Int} {Q : Value → Own → Array GenState → Prop} (hi : Has B own it (ARangeIter x left)) (h : Q (.ref it) own gs) : J prog w B A (pyIter (.ref it)) own gs Q := fun s R => by
  obtain ⟨o, ho, rfl⟩ := R.get hi
  exact wpAny_pyIter_rangeiter ho ⟨own, gs, R, h⟩
theorem range_end {s : Shared} {E : Value → Shared → Prop} {it : Addr} {x left step : Int} {Q : Option Value → Shared → Prop} (hh : HOk A s.heap) (hne : ∀ e, A.handled = some (.ref e) → e ≠ it) (hit : IsRangeIter s.heap it x left step) (hleft : left ≤ 0)
    (hQ : ∀ h', (∀ b o, s.heap.get? b = some o → h'.get? b = some o) → Q none { s with heap := h' }) : wpAny (model prog w) A (pyNext (.ref it)) Q E s := by
  have hT : s.TypeIs (.ref it) "range_iterator" := ⟨_, hit, rfl⟩
  unfold pyNext
  refine wpAny_bind (wpAny_attempt (wpAny_callSpecial?_slot (name := Str.ofString "__next__") hT F.slot_range_iterator_next
    (wpAny_call_entry F.slot_range_iterator_next hT F.entry_range_iterator_next ?_ (F.args_range_iterator_next_1 _))))
  show wpAny _ _ (field (.ref it) 0 >>= _) _ _ s
  refine wpAny_bind (wpAny_field hit rfl (x := rawInt x) rfl ?_)
  show wpAny _ _ (field (.ref it) 1 >>= _) _ _ s
  refine wpAny_bind (wpAny_field hit rfl (x := rawInt left) rfl ?_)
  show wpAny _ _ (field (.ref it) 2 >>= _) _ _ s
  refine wpAny_bind (wpAny_field hit rfl (x := rawInt step) rfl ?_)
  show wpAny _ _ (if left ≤ 0 then _ else _) _ _ s
  rw [if_pos hleft]
  refine wpAny_bind (wpAny_rule ?_)
  refine wpAny_bind (raise_stop (A := A.in1) hh fun h' e hk hT => ?_)
  refine wpAny_bind (wpAny_isInstance (T := "StopIteration") (b := true) hT isSubtype_stop ?_)
  exact wpAny_pure (hQ _ hk)
theorem Next_range {n : Nat} {it : Addr} {x left : Int} {rest : Own} {Q : Option Value → Own → Array GenState → Prop} (hA : AOk B A n)
    (h : if 0 < left then Q (some (iv x)) ((it, ARangeIter (x + 1) (left - 1)) :: rest) gs else Q none rest gs) : NextJ prog w B A (.ref it) ((it, ARangeIter x left) :: rest) gs Q := fun s R => by
  obtain ⟨o, ho, rfl⟩ := R.o _ _ (.head _)
  by_cases hl : 0 < left
  · rw [if_pos hl] at h
    exact wpAny_pyNext_range_item ho hl fun h' hit hs => ⟨_, gs, R.upd (p' := ARangeIter (x + 1) (left - 1)) (Upd.head _) hs.extBut ⟨_, hit, rfl⟩, h⟩
  · rw [if_neg hl] at h
    exact range_end (hA.hok R) (hA.hne R (.head _)) ho (by omega) fun h' hk => ⟨rest, gs, (R.ext (tk := s.toks) hk).sub (Sub.skip (Sub.refl _)), h⟩

theorem Call_lenList {l : Addr} {xs : List Value} {Q : QV} (hl : Has B own l (AList xs)) (hs : xs.length ≤ 1000000) (h : Q (iv xs.length) own gs) : CallJ prog w B A (.builtin "len") [.ref l] own gs Q := fun us hus s R => by
  obtain ⟨u, rfl, hu⟩ := er1 hus
  rw [er_eq_ref hu]
  obtain ⟨o, ho, hp⟩ := R.get hl
  obtain ⟨its, hL, rfl⟩ := AList.isList ho hp
  have hs' : its.size ≤ 1000000 := by simpa using hs
  exact Calls.call_function_entry kind_len plain_len entry_len (args_len1 _) (wpAny_len_body_list hL (by omega) ⟨own, gs, R.toks _, by simpa using h⟩)
theorem Ifs_nil {Q : QB} (h : Q true own gs) : IfsJ prog w B A env [] own gs Q := h
theorem Ifs_cons {c : Expr} {cs : List Expr} {Q : QB} (h : TestJ prog w B A env c own gs fun b o g => if b = true then IfsJ prog w B A env cs o g Q else Q false o g) : IfsJ prog w B A env (c :: cs) own gs Q := h
-- enumerate
theorem Rep.two {s : Shared} {a b : Addr} {p p' q q' : Pd} {rest : Own} {h' : Heap} {tk : Nat} (R : Rep B ((a, p) :: (b, q) :: rest) gs s)
    (hk : ∀ c o, c ≠ a → c ≠ b → s.heap.get? c = some o → h'.get? c = some o) (ha : ∃ o, h'.get? a = some o ∧ p' o) (hb : ∃ o, h'.get? b = some o ∧ q' o) : Rep B ((a, p') :: (b, q') :: rest) gs { s with heap := h', toks := tk } := by
  have nd := R.nd
  simp only [List.map_cons, List.nodup_cons, List.mem_cons, not_or] at nd
  refine ⟨fun c r e => ?_, fun c r hm => ?_, fun c r hm => ?_, by simpa using R.nd, R.gens, R.os⟩
  · obtain ⟨o, ho, hr⟩ := R.b c r e
    refine ⟨o, hk c o (fun z => ?_) (fun z => ?_) ho, hr⟩
    · have := R.dis a p (.head _); rw [← z, e] at this; cases this
    · have := R.dis b q (.tail _ (.head _)); rw [← z, e] at this; cases this
  · cases hm with
    | head => exact ha
    | tail _ hm =>
      cases hm with
      | head => exact hb
      | tail _ hm =>
        obtain ⟨o, ho, hr⟩ := R.o c r (.tail _ (.tail _ hm))
        refine ⟨o, hk c o (fun z => ?_) (fun z => ?_) ho, hr⟩
        · exact nd.1.2 (z ▸ List.mem_map_of_mem (f := (·.1)) hm)
        · exact nd.2.1 (z ▸ List.mem_map_of_mem (f := (·.1)) hm)
  · cases hm with
    | head => exact R.dis _ _ (.head _)
    | tail _ hm =>
      cases hm with
      | head => exact R.dis _ _ (.tail _ (.head _))
      | tail _ hm => exact R.dis _ _ (.tail _ (.tail _ hm))
theorem Call_enum {l : Addr} {xs : List Value} {Q : QV} (hl : Has B own l (AList xs)) (h : ∀ e it, Q (.ref e) ((e, AEnumI it 0) :: (it, AListIter l 0) :: own) gs) : CallJ prog w B A (.type "enumerate") [.ref l] own gs Q := fun us hus s R => by
  obtain ⟨u, rfl, hu⟩ := er1 hus
  rw [er_eq_ref hu]
  obtain ⟨o, ho, hp⟩ := R.get hl
  obtain ⟨its, hL, _⟩ := AList.isList ho hp
  refine call_enumerate_list hL fun h' he hit hsz hk => ?_
  have R1 := R.ext (tk := s.toks) hk
  obtain ⟨oi, hoi, hci, hdi⟩ := hit
  refine ⟨_, gs, ⟨R1.b, fun c r hm => ?_, fun c r hm => ?_, ?_, R1.gens, R1.os⟩, h (s.heap.objs.size + 1) s.heap.objs.size⟩
  · cases hm with
    | head => exact ⟨_, he, _, rfl⟩
    | tail _ hm =>
      cases hm with
      | head => exact ⟨oi, hoi, hci, hdi⟩
      | tail _ hm => exact R1.o c r hm
  · have fr : ∀ c, s.heap.objs.size ≤ c → B.f c = none := fun c hc => by
      cases q : B.f c with
      | none => rfl
      | some r => obtain ⟨o, ho, _⟩ := R.b c r q; exact absurd (Heap.lt_size ho) (Nat.not_lt.mpr hc)
    cases hm with
    | head => exact fr _ (Nat.le_succ _)
    | tail _ hm =>
      cases hm with
      | head => exact fr _ (Nat.le_refl _)
      | tail _ hm => exact R.dis c r hm
  · have fr : ∀ c, s.heap.objs.size ≤ c → c ∉ own.map (·.1) := fun c hc hm => by
      obtain ⟨⟨c', r⟩, hm2, rfl⟩ := List.mem_map.mp hm
      obtain ⟨o, ho, _⟩ := R.o _ _ hm2
      exact absurd (Heap.lt_size ho) (Nat.not_lt.mpr hc)
    simp only [List.map_cons, List.nodup_cons, List.mem_cons, not_or]
    exact ⟨⟨Nat.succ_ne_self _, fr _ (Nat.le_succ _)⟩, fr _ (Nat.le_refl _), R.nd⟩
theorem Iter_enum {e it : Addr} {i : Int} {Q : Value → Own → Array GenState → Prop} (hi : Has B own e (AEnumI it i)) (h : Q (.ref e) own gs) : J prog w B A (pyIter (.ref e)) own gs Q := fun s R => by
  obtain ⟨o, ho, old, rfl⟩ := R.get hi
  exact wpAny_pyIter_enum ho ⟨own, gs, R, h⟩
theorem LetGo_enum {elts : List Expr} {x1 : Nat} {pos : Pos} {e it a : Addr} {i : Int} {v : Value} {own' : Own} {Q : QU} (hu : Upd e (AEnumO it i a) (AEnumI it i) own own') (hv : er v = .ref a) (h : Q own' gs) : J prog w B A (letOwnedTupleGo (.Tuple elts x1 pos) (.ref e) v) own gs fun _ => Q := fun s R => by
  rw [er_eq_ref hv]
  obtain ⟨o, ho, item, rfl⟩ := R.o _ _ hu.mem
  exact wpAny_letOwnedTupleGo_enum ho fun h' he hs => ⟨own', gs, R.upd (tk := s.toks) hu hs.extBut ⟨_, he, _, rfl⟩, h⟩
theorem nextOf_end {s : Shared} {E : Value → Shared → Prop} {it l : Addr} {i : Nat} {items} {Q : Value → Shared → Prop} (hh : HOk A s.heap) (hne : ∀ e, A.handled = some (.ref e) → e ≠ it)
    (hit : s.heap.IsListIter it l i) (hl : s.heap.IsList l items) (hx : items[i]? = none)
    (hE : ∀ h' e, Heap.ExtBut it s.heap h' → (⟨h', s.gens, s.drawn, s.toks, s.os⟩ : Shared).TypeIs (.ref e) "StopIteration" → E (.ref e) { s with heap := h' }) :
    wpAny (model prog w) A (Builtin.SmallTypes.nextOf (.ref it)) Q E s := by
  obtain ⟨o, ho, hc, hd⟩ := id hit
  obtain ⟨ol, hol, _, nl, hdl⟩ := hl
  unfold Builtin.SmallTypes.nextOf
  refine wpAny_bind (wpAny_callSpecial?_slot (name := Str.ofString "__next__") hit.typeIs slot_listiter_next
    (wpAny_call_entry slot_listiter_next hit.typeIs entry_listiter_next ?_ (args_listiter_next _)))
  show wpAny _ _ (field (.ref it) 0 >>= _) _ _ s
  refine wpAny_bind (wpAny_field ho hd (x := .ref l) rfl ?_)
  show wpAny _ _ (if (Value.ref l == Value.none) = true then _ else _) _ _ s
  rw [if_neg (show ¬ ((Value.ref l == Value.none) = true) from Bool.false_ne_true)]
  show wpAny _ _ (field (.ref it) 1 >>= _) _ _ s
  refine wpAny_bind (wpAny_field ho hd (x := .int i 0) rfl ?_)
  show wpAny _ _ (seqItems? (.ref l) >>= _) _ _ s
  refine wpAny_bind (wpAny_seqItems hol hdl ?_)
  simp only [Int.toNat_natCast, hx]
  refine wpAny_bind (wpAny_rule (wpAny_bind (wpAny_setField ho hd (by simp) ?_)))
  refine raise_stop (A := A.in1) ?_ fun h' e hk hT => ?_
  · rcases hh with hh | ⟨e, o, hh, he, hp⟩
    · exact .inl hh
    · exact .inr ⟨e, o, hh, (Heap.get?_update_other _ _ (Ne.symm (hne e hh))).trans he, hp⟩
  · exact hE _ _ (fun b o hb e => hk b o ((Heap.get?_update_other _ _ (Ne.symm hb)).trans e)) hT
theorem Next_enum {n : Nat} {e it l : Addr} {i : Nat} {xs : List Value} {rest : Own} {Q : Option Value → Own → Array GenState → Prop} (hA : AOk B A n) (hl : Has B rest l (AList xs))
    (h : match xs[i]? with | some x => ∀ t, Q (some (.ref t)) ((t, ATup [iv i, x]) :: (e, AEnumO it ((i : Int) + 1) t) :: (it, AListIter l (i + 1)) :: rest) gs | none => Q none rest gs) :
    NextJ prog w B A (.ref e) ((e, AEnumI it i) :: (it, AListIter l i) :: rest) gs Q := fun s R => by
  obtain ⟨oe, hoe, old, rfl⟩ := R.o _ _ (.head _)
  obtain ⟨oi, hoi, hci, hdi⟩ := R.o _ _ (.tail _ (.head _))
  have hit : s.heap.IsListIter it l i := ⟨oi, hoi, hci, hdi⟩
  obtain ⟨o, ho, hp⟩ := R.get (hl.elim (fun q => .inl (.tail _ (.tail _ q))) .inr)
  obtain ⟨its, hL, rfl⟩ := AList.isList ho hp
  have hne : e ≠ it := by
    have := R.nd
    simp only [List.map_cons, List.nodup_cons, List.mem_cons, not_or] at this
    exact this.1.1
  cases hx : its[i]? with
  | some x =>
    have hx' : (its.toList.map er)[i]? = some (er x) := by simp [hx]
    rw [hx'] at h
    refine wpAny_pyNext_enum_item hoe hit hL hx hne fun h' he' hit' ht' hsz hk => ?_
    obtain ⟨oi', hoi', hci', hdi'⟩ := hit'
    have R1 := R.two (tk := s.toks + 1) (p' := AEnumO it ((i : Int) + 1) s.heap.objs.size) (q' := AListIter l (i + 1)) hk ⟨_, he', _, rfl⟩ ⟨oi', hoi', hci', hdi'⟩
    have fr := R.fresh
    refine ⟨_, gs, ⟨R1.b, fun c r hm => ?_, fun c r hm => ?_, ?_, R1.gens, R1.os⟩, h s.heap.objs.size⟩
    · cases hm with
      | head => exact ⟨_, ht', _, rfl, rfl⟩
      | tail _ hm => exact R1.o c r hm
    · cases hm with
      | head => exact fr.1
      | tail _ hm => exact R1.dis c r hm
    · rw [List.map_cons, List.nodup_cons]
      refine ⟨fun hm => ?_, R1.nd⟩
      have hm' : s.heap.objs.size ∈ ((e, AEnumI it i) :: (it, AListIter l i) :: rest).map (·.1) := by simpa using hm
      obtain ⟨⟨c, r⟩, hm, hc⟩ := List.mem_map.mp hm'
      exact fr.2 r (hc ▸ hm)
  | none =>
    have hx' : (its.toList.map er)[i]? = none := by simp at hx; simp [hx]
    rw [hx'] at h
    have hT : s.TypeIs (.ref e) "enumerate" := ⟨_, hoe, rfl⟩
    unfold pyNext
    refine wpAny_bind (wpAny_attempt (wpAny_callSpecial?_slot (name := Str.ofString "__next__") hT F.slot_enumerate_next
      (wpAny_call_entry F.slot_enumerate_next hT F.entry_enumerate_next ?_ (F.args_enumerate_next_1 _))))
    show wpAny _ _ (field (.ref e) 2 >>= _) _ _ _
    refine wpAny_bind (wpAny_field hoe rfl (x := .ref it) rfl ?_)
    refine wpAny_bind (nextOf_end (A := A.in1) (hA.hok R) (hA.hne R (.tail _ (.head _))) hit hL hx fun h' x hx' hT' => ?_)
    refine wpAny_bind (wpAny_isInstance (T := "StopIteration") (b := true) hT' isSubtype_stop ?_)
    have R3 := R.sub (Sub.skip (Sub.skip (Sub.refl rest)))
    refine wpAny_pure ⟨rest, gs, ⟨fun b q e => ?_, fun b q hm => ?_, R3.dis, R3.nd, R3.gens, R3.os⟩, h⟩
    · obtain ⟨o, ho, hq⟩ := R.b b q e
      exact ⟨o, hx' b o (fun z => by have := R.dis it _ (.tail _ (.head _)); rw [← z, e] at this; cases this) ho, hq⟩
    · obtain ⟨o, ho, hq⟩ := R3.o b q hm
      refine ⟨o, hx' b o (fun z => ?_) ho, hq⟩
      have := R.nd
      simp only [List.map_cons, List.nodup_cons, List.mem_cons, not_or] at this
      exact this.2.1 (z ▸ List.mem_map_of_mem (f := (·.1)) hm)
end
end Mine
end
section
set_option maxRecDepth 100000
open PySem PySem.Calls PyProof.Rows PySem.W PySem.Spec
namespace Mine
section
variable {prog : Program} {w : World} {B : Bs} {A : Around} {own : Own} {gs : Array GenState} {env : Env} {K : Frag} {p : Program} {loose : List Str} {mg mb : Str → Option Value}
theorem JCV_GenExp {elt target iter : Expr} {ifs : List Expr} {scope : Scope} {pos : Pos} {n : Nat} {cl : List (Str × Addr)} {Q : QV} (T : TopB K p loose mg mb B) (BM : BMain mg B) (hA : AOk B A n)
    (h : JCV prog w B A (eval iter env) own gs fun v o g => IterJ prog w B A v o g fun it o g => J prog w B A (genexprCode env pos (env.qual ++ "<genexpr>") scope) o g fun code o g => ∀ L, CellsJ scope.names cl ((L, ANs []) :: o) fun cells o =>
      StoresJ prog w B A (newEnv scope L mainGlobals cells (env.qual ++ "<genexpr>.") none code none builtinsNs) [(".0", it)] o g fun o g =>
        ∀ a, Q (.ref a) ((a, AGen g.size) :: o) (g.push (.fresh (.compStart (.GeneratorExp elt [⟨target, iter, ifs, 0⟩] scope pos) 0 it .none (newEnv scope L mainGlobals cells (env.qual ++ "<genexpr>.") none code none builtinsNs)))))
    (hcl : closureFor scope env = pure cl := by rfl) (hg : env.globals = mainGlobals := by rfl) (hf : ∀ x, genFold iter env x = pure x := by intro _; rfl) (hco : scope.isCoroutine = false := by rfl) :
    JCV prog w B A (eval (.GeneratorExp elt [⟨target, iter, ifs, 0⟩] scope pos) env) own gs Q := fun s R => by
  rw [eval_GeneratorExp1 elt target iter ifs scope pos env hco]
  refine wpC_bind (JC.any h R fun v s₁ o g R₁ h₁ => wpC_of (wpAny_bind (wpAny_standAt ?_)))
  rw [hf]
  refine wpAny_bind (wpAny_pure (wpAny_bind (wpAny_holding (J.any (h₁ v rfl) R₁ fun it s₂ o g R₂ h₂ => ?_))))
  refine wpAny_bind (wpAny_enterFrame (limit_of T _ R₂.b) hA.depth ?_)
  rw [hcl]
  refine wpAny_bind (wpAny_pure (wpAny_bind (J.any h₂ R₂ fun code s₃ o g R₃ h₃ => ?_)))
  refine wpAny_bind (J.any (J_builtinsFor T BM hg (Q := fun b o' g' => b = builtinsNs ∧ o' = o ∧ g' = g) ⟨rfl, rfl, rfl⟩) R₃ fun b s₄ o' g' R₄ ⟨e1, e2, e3⟩ => ?_)
  subst e1 e2 e3
  rw [hg]
  refine wpAny_bind (J.any (J_newEnv (Q := fun cenv o g => ∀ a, Q (.ref a) ((a, AGen g.size) :: o) (g.push (.fresh (.compStart (.GeneratorExp elt [⟨target, iter, ifs, 0⟩] scope pos) 0 it .none cenv)))) fun L => h₃ L) R₄ fun cenv s₅ o g R₅ h₅ => ?_)
  simp only [newGenerator, newFields]
  refine wpAny_bind (wpAny_newGen (wpAny_bind (wpAny_mkText (wpAny_bind (wpAny_mkText (wpAny_newObj_type ?_ (by size_fits)))))))
  have hgs : s₅.gens = g := R₅.gens
  have R₆ := R₅.push (o := { cls := .type "generator", data := .fields #[.int s₅.gens.size 0, .str "<genexpr>" s₅.toks, .str (env.qual ++ "<genexpr>") (s₅.toks + 1)] }) (p := AGen g.size) rfl ⟨rfl, ⟨_, _, by rw [hgs]⟩, rfl⟩ (s₅.toks + 1 + 1)
  refine ⟨_, g.push (.fresh (.compStart (.GeneratorExp elt [⟨target, iter, ifs, 0⟩] scope pos) 0 it .none cenv)), ⟨R₆.b, R₆.o, R₆.dis, R₆.nd, ?_, R₆.os⟩, h₅ s₅.heap.objs.size⟩
  show s₅.gens.push _ = _
  rw [hgs]
end
end Mine
end
section
set_option maxRecDepth 100000
open PySem PySem.Calls PyProof.Rows PySem.W PySem.Spec
namespace Mine
section
variable {prog : Program} {w : World} {B : Bs} {A : Around} {own : Own} {gs : Array GenState} {env : Env} {K : Frag} {p : Program} {loose : List Str} {mg mb : Str → Option Value}
theorem JF_clean {t : Sem Flow} {Q : QF} (h : JF prog w B A t own gs Q) : JCF prog w B A t own gs Q := J.clean h
theorem JV_clean {t : Sem Value} {Q : QV} (h : JV prog w B A t own gs Q) : JCV prog w B A t own gs Q := J.clean h
theorem AVars.plain {kvs : List (Str × Value)} : ∀ ob, AVars prog w kvs ob → ob.cls = .type "dict" ∧ ob.dict = none := fun _ ⟨_, _, _, h, _⟩ => h
/-- an object that the text's run left -/
theorem instK {K : Frag} {h : Heap} (X : K.In h) {x C dx : Addr} {ox od : Obj} (k1 : K.lookup x = some ox) (k2 : ox.cls = .ref C) (k3 : notCls ox = true) (k4 : ox.dict = some dx) (k5 : K.lookup dx = some od) : InstAt h x ox C (some od) :=
  ⟨X _ _ k1, k2, k3, by rw [k4]; exact X _ _ k5⟩
theorem Get_K {x C dx : Addr} {ox od : Obj} {name : Str} {v : Value} {Q : QV} (T : TopB K p loose mg mb B) (k1 : K.lookup x = some ox) (k2 : ox.cls = .ref C) (k3 : notCls ox = true) (k4 : ox.dict = some dx) (k5 : K.lookup dx = some od)
    (hga : findIn K (.ref C) "__getattribute__" = some (some (.builtin "object.__getattribute__"))) (hf : ownFirst K C name = true) (hr : lookIn name od = some (some v)) (hh : handedIn v = true) (h : Q (er v) own gs) : GetJ prog w B A (.ref x) name own gs Q := fun u hu s R => by
  rw [er_eq_ref hu]
  exact get_value (T _ R.b).1 (instK (T _ R.b).1 k1 k2 k3 k4 k5) hga (findObj_own hf hr) hh ⟨own, gs, R.toks _, h⟩
theorem Meth_Kown {x C dx : Addr} {ox od : Obj} {name : Str} {v : Value} {Q : Value → List Value → Own → Array GenState → Prop} (T : TopB K p loose mg mb B) (k1 : K.lookup x = some ox) (k2 : ox.cls = .ref C) (k3 : notCls ox = true) (k4 : ox.dict = some dx) (k5 : K.lookup dx = some od)
    (hga : findIn K (.ref C) "__getattribute__" = some (some (.builtin "object.__getattribute__"))) (hk : findIn K (.ref C) "__getattr__" = some none) (hn : findIn K (.ref C) name = some none)
    (hf : ownFirst K C name = true) (hr : lookIn name od = some (some v)) (hh : handedIn v = true) (hcl : isCallee v = true) (h : Q v [] own gs) : MethJ prog w B A (.ref x) name own gs Q := fun u pl hu s R => by
  rw [er_eq_ref hu]
  have I := instK (T _ R.b).1 k1 k2 k3 k4 k5
  exact method_usual (T _ R.b).1 I hga hk hn rfl (get_value (T _ R.b).1 I hga (findObj_own hf hr) hh ⟨own, gs, R.toks _, hcl, h⟩)
theorem Cmp_isSelf {a : Addr} {Q : QV} (h : Q (.bool true) own gs) : CmpJ prog w B A .Is (.ref a) (.ref a) own gs Q := fun u v hu hv s R => by
  rw [er_eq_ref hu, er_eq_ref hv]
  exact wpAny_is_ref_self ⟨own, gs, R, h⟩
/-- a dict is no object of another class that the text's run left -/
theorem Cmp_isDictK {a b : Addr} {pa : Pd} {ob : Obj} {Q : QV} (T : TopB K p loose mg mb B) (ha : Has B own a pa) (hp : ∀ o, pa o → o.cls = .type "dict") (kb : K.lookup b = some ob) (hb : ob.cls ≠ .type "dict") (h : Q (.bool false) own gs) :
    CmpJ prog w B A .Is (.ref a) (.ref b) own gs Q := fun u v hu hv s R => by
  rw [er_eq_ref hu, er_eq_ref hv]
  obtain ⟨oa, hoa, x⟩ := R.get ha
  have hob := (T _ R.b).1 _ _ kb
  have hne : a ≠ b := fun e => by
    subst e
    rw [hoa] at hob
    cases hob
    exact hb (hp _ x)
  exact wpAny_is_ref_other hne hoa hob (by rw [hp _ x]; decide) ⟨own, gs, R, h⟩
theorem Cmp_isNoneRef {a : Addr} {Q : QV} (h : Q (.bool false) own gs) : CmpJ prog w B A .Is (.ref a) .none own gs Q := fun u v hu hv s R => by
  rw [er_eq_ref hu, er_eq_none hv]
  exact wpAny_is_other rfl (by simp) ⟨own, gs, R, h⟩
theorem Cmp_isNoneStr {a : Str} {Q : QV} (h : Q (.bool false) own gs) : CmpJ prog w B A .Is (.str a 0) .none own gs Q := fun u v hu hv s R => by
  obtain ⟨t, rfl⟩ := er_eq_str hu
  rw [er_eq_none hv]
  exact wpAny_is_other rfl (by simp) ⟨own, gs, R, h⟩
end
end Mine
end
section
set_option maxRecDepth 100000
open PySem PySem.Calls PyProof.Rows PySem.W PySem.Spec
namespace Mine
theorem entry_reduce : entryFor table "_functools.reduce" = some Builtin.«_functools.reduce» := entryFor_of_tree (by kernel_rfl)
theorem entry_reduceLoop : entryFor table "_functools.reduce.loop" = some Builtin.«_functools.reduce.loop» := entryFor_of_tree (by kernel_rfl)
def APair : Pd := fun o => ∃ u v, o = { cls := .type "tuple", data := .seq #[u, v] }
section
variable {prog : Program} {w : World} {B : Bs} {A : Around} {own : Own} {gs : Array GenState} {Q : QV}
theorem reduce_loop {f a it : Value} {pair t : Addr} {k : Nat} (hA : AOk B A (k + 1)) (hcal : isCallee f = true) (I : Option Value → Nat → Own → Array GenState → Prop)
    (turn : ∀ A' acc n o g, AOk B A' k → I acc n o g → NextJ prog w B A' it ((pair, APair) :: (t, ATup [f, a]) :: o) g fun r o g => match r, acc with
      | some x, none => ∃ m o', m < n ∧ Sub ((pair, APair) :: (t, ATup [f, a]) :: o') o ∧ I (some x) m o' g
      | some x, some r => ∃ o', Sub ((pair, APair) :: (t, ATup [f, a]) :: o') o ∧ CallJ prog w B A' f [r, x] ((pair, APair) :: (t, ATup [f, a]) :: o') g fun v o g => ∃ m o', m < n ∧ Sub ((pair, APair) :: (t, ATup [f, a]) :: o') o ∧ I (some v) m o' g
      | none, some r => ∃ o', Sub o' o ∧ Q r o' g
      | none, none => False) :
    ∀ n acc vals o g s, vals.map er = acc.toList → I acc n o g → Rep B ((pair, APair) :: (t, ATup [f, a]) :: o) g s →
      codeAny (model prog w) A (.builtin "_functools.reduce.loop" ⟨[.ref pair, it, .ref t] ++ vals, []⟩) (fun r s' => ∃ v, r = .ok (.ret v) ∧ ∃ own' gs', Rep B own' gs' s' ∧ Q (er v) own' gs') s := by
  intro n
  induction n using Nat.strongRecOn with
  | ind n ih =>
    intro acc vals o g s hv hI R
    refine codeAny_builtin entry_reduceLoop ?_
    have hA' : AOk B (A.under (.builtin "_functools.reduce.loop" ⟨[.ref pair, it, .ref t] ++ vals, []⟩)) k := by
      exact ⟨by have := hA.d; show A.depth + 0 + k < 900; omega, by have := hA.u; show A.units + 1 + 4 * k < 9000; omega, hA.hh⟩
    obtain ⟨ot, hot, its, rfl, hits⟩ := R.o _ _ (.tail _ (.head _))
    unfold Builtin.«_functools.reduce.loop»
    dsimp only [List.cons_append, List.nil_append]
    refine wpAny_bind (wpAny_seqItems hot rfl ?_)
    refine wpAny_bind ((turn _ acc n o g hA' hI).any R fun r s₁ o₁ g₁ R₁ h₁ => ?_)
    cases acc with
    | none =>
      obtain rfl : vals = [] := List.map_eq_nil_iff.mp hv
      cases r with
      | none => exact h₁.elim
      | some x =>
        obtain ⟨m, o', hm, hs, hi⟩ := h₁
        refine wpAny_bind (wpAny_rule ?_)
        exact wpAny_pure ⟨Code.quiet_builtin _ (by decide +kernel), ih m hm (some (er x)) [x] o' g₁ s₁ rfl hi (R₁.sub hs)⟩
    | some av =>
      obtain ⟨r0, rfl, h0⟩ := er1 (show vals.map er = [av] from hv)
      cases r with
      | none =>
        obtain ⟨o', hs, hq⟩ := h₁
        exact wpAny_pure ⟨r0, rfl, o', g₁, R₁.sub hs, by rw [h0]; exact hq⟩
      | some x =>
        obtain ⟨o', hs, hc⟩ := h₁
        have R₂ := R₁.sub hs
        obtain ⟨op, hop, u, v, rfl⟩ := R₂.o _ _ (.head _)
        refine wpAny_bind (wpAny_seqItems hop rfl (wpAny_bind (wpAny_updateSeq_pair hop fun h₁ hp₁ hb₁ => wpAny_bind (wpAny_letGo (wpAny_bind (wpAny_updateSeq_pair hp₁ fun h₂ hp₂ hb₂ => wpAny_bind (wpAny_letGo ?_)))))))
        have R₃ := R₂.upd (p := APair) (p' := APair) (tk := s₁.toks) (Upd.head _) ((Heap.SameBut.extBut hb₁)) ⟨_, hp₁, ⟨r0, v, rfl⟩⟩
        have R₄ := R₃.upd (p := APair) (p' := APair) (tk := s₁.toks) (Upd.head _) ((Heap.SameBut.extBut hb₂)) ⟨_, hp₂, ⟨r0, x, rfl⟩⟩
        obtain ⟨l, rfl⟩ : ∃ l, its = l.toArray := ⟨its.toList, by simp⟩
        obtain ⟨f0, a0, hl, hf, _⟩ := er2 (show l.map er = [f, a] by simpa using hits)
        subst hl
        have hf0 : f0 = f := callee_er hf hcal
        subst hf0
        refine wpAny_bind (J.any (hc [r0, x] (by simp [h0])) R₄ fun v s₅ o₅ g₅ R₅ ⟨m, o'', hm, hs', hi⟩ => ?_)
        exact wpAny_pure ⟨Code.quiet_builtin _ (by decide +kernel), ih m hm (some (er v)) [v] o'' g₅ s₅ rfl hi (R₅.sub hs')⟩
theorem check_fn {id : String} {args : List Value} {Q : Unit → Shared → Prop} {E : Value → Shared → Prop} {s : Shared} (hk : builtinKind id = none) (ha : argsOk id ⟨args, []⟩) (h : Q () s) : wpAny (model prog w) A (checkBuiltinCall id ⟨args, []⟩) Q E s := by
  simp only [checkBuiltinCall, hk]
  cases hsig : Manifest.signature? id with
  | none => exact wpAny_pure h
  | some sig =>
    simp only [argsOk, hsig] at ha
    show wpAny _ A (Bind.checkArgs id sig ⟨args, []⟩) _ _ s
    rw [show Bind.checkArgs id sig ⟨args, []⟩ = pure () from ha]
    exact wpAny_pure h
theorem kind_reduce : builtinKind "_functools.reduce" = none := by decide +kernel
theorem plain_reduce : plainId "_functools.reduce" = true := by decide +kernel
theorem args_reduce2 (a b : Value) : argsOk "_functools.reduce" ⟨[a, b], []⟩ := by unfold argsOk; kernel_rfl
theorem someArgs_reduce (u v : Value) : someArgs "reduce" 2 3 ⟨[u, v], []⟩ = pure [u, v] := by kernel_rfl
theorem check_reduce (u v : Value) : checkBuiltinCall "_functools.reduce" ⟨[u, v], []⟩ = pure () := by kernel_rfl
/-- reduce over what an iterator gives -/
theorem Call_reduce {f a : Value} {k : Nat} (hA : AOk B A (k + 2)) (hcal : isCallee f = true)
    (hit : ∀ A', AOk B A' (k + 1) → IterJ prog w B A' a own gs fun it o g => ∀ pair t, ∃ (n : Nat) (I : Option Value → Nat → Own → Array GenState → Prop), I none n o g ∧
      ∀ A' acc n o g, AOk B A' k → I acc n o g → NextJ prog w B A' it ((pair, APair) :: (t, ATup [f, a]) :: o) g fun r o g => match r, acc with
      | some x, none => ∃ m o', m < n ∧ Sub ((pair, APair) :: (t, ATup [f, a]) :: o') o ∧ I (some x) m o' g
      | some x, some r => ∃ o', Sub ((pair, APair) :: (t, ATup [f, a]) :: o') o ∧ CallJ prog w B A' f [r, x] ((pair, APair) :: (t, ATup [f, a]) :: o') g fun v o g => ∃ m o', m < n ∧ Sub ((pair, APair) :: (t, ATup [f, a]) :: o') o ∧ I (some v) m o' g
      | none, some r => ∃ o', Sub o' o ∧ Q r o' g
      | none, none => False) : CallJ prog w B A (.builtin "_functools.reduce") [f, a] own gs Q := fun us hus s R => by
  obtain ⟨u, v, rfl, hu, hv⟩ := er2 hus
  refine wpAny_call ?_
  refine codeAny_call_builtin (id := "_functools.reduce") (args := ⟨[u, v], []⟩) plain_reduce entry_reduce ?_
  rw [check_reduce]
  refine wpAny_pure ?_
  unfold Builtin.«_functools.reduce»
  have hA1 : AOk B A.in1 (k + 1) := hA.in1
  rw [someArgs_reduce]
  refine wpAny_bind (wpAny_pure ?_)
  refine wpAny_bind (wpAny_tryCatch (J.any (hit _ hA1 v hv) R fun it s₁ o₁ g₁ R₁ h₁ => ?_))
  refine wpAny_bind (wpAny_holding (J.any (J_newTuple (Q := fun pv o g => ∃ pair, pv = .ref pair ∧ o = (pair, ATup [iv 0, iv 0]) :: o₁ ∧ g = g₁) (by decide) (fun l => ⟨l, rfl, rfl, rfl⟩)) R₁ fun pv s₂ o₂ g₂ R₂ ⟨pair, e1, e2, e3⟩ => ?_))
  have e1 := er_eq_ref e1
  subst e1 e2 e3
  refine wpAny_bind (wpAny_holding (J.any (J_newTuple (Q := fun pv o g => ∃ t, pv = .ref t ∧ o = (t, ATup [f, a]) :: (pair, ATup [iv 0, iv 0]) :: o₁ ∧ g = g₂) (by show 2 ≤ 1000000; decide) (fun l => ⟨l, rfl, by simp [hu, hv], rfl⟩)) R₂ fun tv s₃ o₃ g₃ R₃ ⟨t, e1, e2, e3⟩ => ?_))
  have e1 := er_eq_ref e1
  subst e1 e2 e3
  obtain ⟨n, I, hI, turn⟩ := h₁ pair t
  have R₄ : Rep B ((pair, APair) :: (t, ATup [f, a]) :: o₁) g₃ s₃ := (R₃.sub (Sub.of_perm (List.Perm.swap ..))).sub (Sub.weak (fun o ⟨its, e, h⟩ => by
    obtain ⟨l, rfl⟩ : ∃ l, its = l.toArray := ⟨its.toList, by simp⟩
    obtain ⟨u0, v0, rfl, _, _⟩ := er2 (show l.map er = [iv 0, iv 0] by simpa using h)
    exact ⟨u0, v0, e⟩) (Sub.refl _))
  refine wpAny_pure ⟨Code.quiet_builtin _ (by decide +kernel), ?_⟩
  refine codeAny_mono (reduce_loop (hA.less (m := k + 1)) hcal I turn n none [] o₁ g₃ s₃ rfl hI R₄) fun r s' ⟨v, e, z⟩ => ?_
  subst e
  exact z
end
end Mine
end
section
set_option maxRecDepth 100000
open PySem PySem.Calls PyProof.Rows PySem.W PySem.Spec
namespace Mine
section
variable {prog : Program} {w : World} {B : Bs} {A : Around} {own : Own} {gs : Array GenState}
theorem extend_loop {S : Addr} {it : Value} {k : Nat} (hA : AOk B A (k + 1)) (I : List Value → Nat → Own → Array GenState → Prop) (Fi : List Value → Own → Array GenState → Prop)
    (turn : ∀ A' xs n o g, AOk B A' k → I xs n o g → NextJ prog w B A' it ((S, AList xs) :: o) g fun r o g => match r with
      | some x => xs.length < 1000000 ∧ ∃ m o', m < n ∧ Sub ((S, AList xs) :: o') o ∧ I (xs ++ [x]) m o' g
      | none => ∃ o', Sub ((S, AList xs) :: o') o ∧ Fi xs o' g) :
    ∀ n xs o g s, I xs n o g → Rep B ((S, AList xs) :: o) g s →
      codeAny (model prog w) A (.builtin "list.extend.loop" ⟨[.ref S, it, .none], []⟩) (fun r s' => r = .ok (.ret .none) ∧ ∃ xs o g, Rep B ((S, AList xs) :: o) g s' ∧ Fi xs o g) s := by
  intro n
  induction n using Nat.strongRecOn with
  | ind n ih =>
    intro xs o g s hI R
    refine codeAny_builtin F.entry_extend_loop ?_
    rw [Around.under_plainId F.plain_extend_loop _]
    show wpAny _ A.in1 (pyNext it >>= _) _ _ s
    refine wpAny_bind ((turn _ xs n o g hA.in1 hI).any R fun r s₁ o₁ g₁ R₁ h₁ => ?_)
    cases r with
    | none =>
      obtain ⟨o', hs, hf⟩ := h₁
      exact wpAny_pure ⟨rfl, xs, o', g₁, R₁.sub hs, hf⟩
    | some x =>
      obtain ⟨hx, m, o', hm, hs, hi⟩ := h₁
      have R₂ := R₁.sub hs
      obtain ⟨ol, hol, its, c, rfl, hits⟩ := R₂.o _ _ (.head _)
      have hsz : its.size = xs.length := by rw [← hits]; simp
      show wpAny _ A.in1 (updateSeq S (·.push x) >>= _) _ _ _
      refine wpAny_bind (wpAny_updateSeq hol rfl ?_ (by rw [sizeLine_eq]; omega) (by show (its.push x).size ≤ sizeLine + 1; rw [sizeLine_eq, Array.size_push]; omega))
      have R₃ := R₂.upd (p := AList xs) (p' := AList (xs ++ [er x])) (tk := s₁.toks) (Upd.head _) (Heap.SameBut.extBut (Heap.SameBut.update ..)) ⟨_, Heap.get?_update_self (Obj.mapSeq (·.push x)) hol rfl, its.push x, _, rfl, by simp [hits]⟩
      exact wpAny_pure ⟨plainId_quiet F.plain_extend_loop _, ih m hm (xs ++ [er x]) o' g₁ _ hi R₃⟩
/-- list(generator): all that it gives, in a new list -/
theorem Call_listGen {a : Addr} {g0 k : Nat} {Q : QV} (hA : AOk B A (k + 3)) (hg : Has B own a (AGen g0))
    (hrun : ∀ S, ∃ (n : Nat) (I : List Value → Nat → Own → Array GenState → Prop), I [] n own gs ∧
      ∀ A' xs n o g, AOk B A' k → I xs n o g → NextJ prog w B A' (.ref a) ((S, AList xs) :: o) g fun r o g => match r with
      | some x => xs.length < 1000000 ∧ ∃ m o', m < n ∧ Sub ((S, AList xs) :: o') o ∧ I (xs ++ [x]) m o' g
      | none => ∃ o', Sub ((S, AList xs) :: o') o ∧ Q (.ref S) ((S, AList xs) :: o') g) : CallJ prog w B A (.type "list") [.ref a] own gs Q := fun us hus s R => by
  obtain ⟨u, rfl, hu⟩ := er1 hus
  rw [er_eq_ref hu]
  refine callType_codes (Q₁ := fun obj s₁ => obj = .ref s.heap.objs.size ∧ s₁ = { s with heap := s.heap.push { cls := .type "list", data := .seq #[] } }) F.called_list (F.typeCall_list_1 _) F.entry_list_init
    (code_list_new _ ⟨rfl, rfl⟩) fun obj s₁ h₁ => ?_
  obtain ⟨rfl, rfl⟩ := h₁
  have hS : (s.heap.push { cls := .type "list", data := .seq #[] }).get? s.heap.objs.size = some { cls := .type "list", data := .seq #[] } := Heap.get?_push_size _ rfl
  refine ⟨⟨_, hS, rfl⟩, F.args_list_init_2 _ _, ?_⟩
  have R₁ := R.push (o := { cls := .type "list", data := .seq #[] }) (p := AList []) rfl ⟨#[], 0, rfl, rfl⟩ s.toks
  obtain ⟨og, hog, hgp⟩ := R.get hg
  have hSa : s.heap.objs.size ≠ a := Nat.ne_of_gt (Heap.lt_size hog)
  generalize hSe : s.heap.objs.size = S at *
  show wpAny _ _ (do let old ← Builtin.List.listItems (.ref S); Builtin.List.listUpdate (.ref S) (fun _ => #[]); letGo old.toList.reverse; Builtin.List.listExtendWith (.ref S) (.ref a) .none) _ _ _
  refine wpAny_bind ?_
  unfold Builtin.List.listItems
  refine wpAny_bind (wpAny_seqItems hS rfl (wpAny_pure ?_))
  show wpAny _ _ (updateSeq S (fun _ => #[]) >>= fun _ => letGo (#[] : Array Value).toList.reverse >>= fun _ => Builtin.List.listExtendWith (.ref S) (.ref a) .none) _ _ _
  refine wpAny_bind (wpAny_updateSeq hS rfl ?_)
  have R₂ := R₁.upd (p := AList []) (p' := AList []) (tk := s.toks) (Upd.head _) (Heap.SameBut.extBut (Heap.SameBut.update ..)) ⟨_, Heap.get?_update_self (Obj.mapSeq (fun _ => (#[] : Array Value))) hS rfl, #[], _, rfl, rfl⟩
  refine wpAny_bind (wpAny_letGo ?_)
  unfold Builtin.List.listExtendWith
  obtain ⟨og2, hog2, hgp2⟩ := R₂.get (hg.elim (fun q => .inl (.tail _ q)) .inr : Has B ((S, AList []) :: own) a (AGen g0))
  have hT := (AGen.isGen hog2 hgp2).typeIs
  refine wpAny_bind (wpAny_typeOf hT ?_)
  have h1 : Builtin.List.listSameRef (.ref S) (.ref a) = false := by simp [Builtin.List.listSameRef, hSa]
  have h2 : (Value.type "generator" == Value.type "list") = false := by decide
  have h3 : (Value.type "generator" == Value.type "tuple") = false := by decide
  simp only [h1, h2, h3, Bool.or_false, Bool.false_eq_true, if_false]
  refine wpAny_bind (wpAny_pyIter_gen (AGen.isGen hog2 hgp2) ?_)
  refine wpAny_bind (wpAny_holding ?_)
  unfold Builtin.List.listLengthHint
  refine wpAny_bind (wpAny_specialOf hT F.gen_no_len ?_)
  show wpAny _ _ (specialOf (Value.ref a) (Str.ofString "__length_hint__") >>= _) _ _ _
  refine wpAny_bind (wpAny_specialOf hT F.gen_no_hint ?_)
  refine wpAny_pure ?_
  show wpAny _ _ (rule "list.extend.makes-room" >>= fun _ => Builtin.List.listTouch (.ref S) >>= fun _ =>
    again (.builtin "list.extend.loop" ⟨[.ref S, .ref a, .none], []⟩)) _ _ _
  refine wpAny_bind (wpAny_rule ?_)
  obtain ⟨ol, hol, its, c, rfl, hits⟩ := R₂.o _ _ (.head _)
  obtain rfl : its = #[] := by simpa using hits
  refine wpAny_bind ?_
  show wpAny _ _ (updateSeq S (·.push .none) >>= fun _ => updateSeq S (·.pop)) _ _ _
  refine wpAny_bind (wpAny_updateSeq hol rfl ?_)
  have hS₂ := Heap.get?_update_self (Obj.mapSeq (·.push Value.none)) hol rfl
  refine wpAny_updateSeq hS₂ rfl ?_
  have hS₃ := Heap.get?_update_self (Obj.mapSeq (·.pop)) hS₂ rfl
  have R₃ := R₂.upd (p := AList []) (p' := AList []) (tk := s.toks) (Upd.head _) ((Heap.SameBut.extBut (Heap.SameBut.update ..)).trans (Heap.SameBut.extBut (Heap.SameBut.update ..))) ⟨_, hS₃, #[], _, rfl, rfl⟩
  obtain ⟨n, I, hI, turn⟩ := hrun S
  refine wpAny_pure ⟨plainId_quiet F.plain_extend_loop _, ?_⟩
  refine codeAny_mono (extend_loop (k := k) (hA.in1.less (m := k + 1)) I (fun xs o g => Q (.ref S) ((S, AList xs) :: o) g) turn n [] own gs _ hI R₃) fun r s' ⟨e, xs, o, g, R', hq⟩ => ?_
  subst e
  exact ⟨rfl, _, _, R', hq⟩
end
end Mine
end
section
set_option maxRecDepth 100000
open PySem PySem.Calls PyProof.Rows PySem.W PySem.Spec
namespace Mine
section
variable {prog : Program} {w : World} {B : Bs} {A : Around} {own own' : Own} {gs : Array GenState} {Q : QV}
theorem Call_reverse {l : Addr} {xs : List Value} (hu : Upd l (AList xs) (AList xs.reverse) own own') (hs : xs.length ≤ 1000000) (h : Q .none own' gs) : CallJ prog w B A (.builtin "list.reverse") [.ref l] own gs Q := by
  intro us hus s R
  obtain ⟨a, rfl, h1⟩ := er1 hus
  rw [er_eq_ref h1]
  obtain ⟨o, ho, its, n, rfl, e⟩ := R.o _ _ hu.mem
  have hsz : its.size ≤ sizeLine := by
    have : its.size = xs.length := by rw [← e]; simp
    rw [this]; exact Nat.le_trans hs (by decide)
  refine call_meets PySem.F.slot_list_reverse ⟨_, ho, rfl⟩ PySem.F.entry_list_reverse (PySem.F.args_list_reverse_1 _) (PySem.AutoSeq1.list_reverse_list_0 l its n hsz) ⟨ho, ?_⟩
  exact ⟨own', gs, R.upd (tk := s.toks) hu (Heap.SameBut.extBut (Heap.SameBut.update ..)) ⟨_, Heap.get?_update_self _ ho rfl, its.reverse, _, rfl, by simp [e]⟩, h⟩
theorem ADict.plain {kvs : List (Int × Value)} {ep : Nat} {o : Obj} (x : ADict prog w kvs ep o) : o.cls = .type "dict" := by
  obtain ⟨_, _, h, _⟩ := x
  exact h.1
/-- `del d[k]` -/
theorem JF_DelDict {env : Env} {o i : Expr} {ps pos : Pos} {Q : QF}
    (h : JV prog w B A (eval o env) own gs fun a o' g => JV prog w B A (eval i env) o' g fun b o' g => ∃ d k kvs ep o'', a = .ref d ∧ b = iv k ∧ Upd d (ADict prog w kvs ep) (AD prog w (without kvs k)) o' o'' ∧ kvs.length ≤ 1000000 ∧ (valueAt kvs k).isSome = true ∧ Q .next o'' g) :
    JF prog w B A (exec (.Delete [.Subscript o i ps] pos) env) own gs Q := fun s R => by
  refine wpAny_Delete (wpAny_deleteEach_cons (wpAny_delete_Subscript (J.any h R fun a s₁ o₁ g₁ R₁ h₁ => J.any h₁ R₁ fun b s₂ o₂ g₂ R₂ ⟨d, k, kvs, ep, o₃, ea, eb, hu, hs, hv, hq⟩ => ?_)))
  have ea := er_eq_ref ea
  subst ea
  obtain ⟨t, rfl⟩ := er_eq_int eb
  obtain ⟨od, hod, x⟩ := R₂.o _ _ hu.mem
  obtain ⟨kvs', hD, rfl⟩ := x.at hod
  have hDO : s₂.heap.DictOf (intKind prog w) d kvs' := hD.dictOf
  have hlen : kvs'.length ≤ sizeLine := by
    rw [List.length_map] at hs
    exact Nat.le_trans hs (by decide)
  have hv' : (valueAt kvs' k).isSome = true := by rw [valueAt_er] at hv; simpa using hv
  refine wpAny_delItem_slot ⟨od, hod, x.plain⟩ (by decide +kernel) F.slot_dict_delitem ?_
  refine call_meetsIn F.slot_dict_delitem ⟨od, hod, x.plain⟩ F.entry_dict_delitem (F.args_dict_delitem_2 _ _) (meets_dict_delitem_pairs (intKind prog w) d (intKind_is prog w k t)) ⟨kvs', hDO, hlen, hv', fun h' hD' hb => ?_⟩
  obtain ⟨ep', o', ho', x'⟩ := ADict.of hD'
  refine wpAny_deleteEach_nil ⟨o₃, g₂, R₂.upd (tk := s₂.toks + 1) hu hb.extBut ⟨o', ho', ep', ?_⟩, hq⟩
  rw [← without_er]
  exact x'
end
end Mine
end
section
set_option maxRecDepth 100000
open PySem PySem.Calls PyProof.Rows PySem.W PySem.Spec
namespace Mine
/-- an object that was not there before -/
theorem Rep.freshAt {B : Bs} {own own' : Own} {gs : Array GenState} {s s' : Shared} (R : Rep B own gs s) (R' : Rep B own' gs s') (hk : own'.map (·.1) = own.map (·.1)) {c : Addr} {p : Pd} {o : Obj} (hge : s.heap.objs.size ≤ c) (ho : s'.heap.get? c = some o) (hp : p o) :
    Rep B ((c, p) :: own') gs s' where
  b := R'.b
  o := fun a q h => by
    cases h with
    | head => exact ⟨o, ho, hp⟩
    | tail _ h => exact R'.o a q h
  dis := fun a q h => by
    cases h with
    | head =>
      cases e : B.f c with
      | none => rfl
      | some q =>
        obtain ⟨o', ho', _⟩ := R.b c q e
        exact absurd (Heap.lt_size ho') (Nat.not_lt.mpr hge)
    | tail _ h => exact R'.dis a q h
  nd := by
    rw [List.map_cons, List.nodup_cons]
    refine ⟨fun h => ?_, R'.nd⟩
    rw [hk] at h
    obtain ⟨⟨a, q⟩, hm, rfl⟩ := List.mem_map.mp h
    obtain ⟨o', ho', _⟩ := R.o a q hm
    exact absurd (Heap.lt_size ho') (Nat.not_lt.mpr hge)
  gens := R'.gens
  os := R'.os
section
variable {prog : Program} {w : World} {B : Bs} {A : Around} {own : Own} {gs : Array GenState} {env : Env} {K : Frag} {p : Program} {loose : List Str} {mg mb : Str → Option Value}
/-- the function that a nested def makes -/
def ADef (name qual : Str) (params : Arguments) (body : List Stmt) (scope : Scope) (clos : List (Str × Addr)) (c : Addr) : Pd := fun o => ∃ pm doc ctv, o.cls = .type "function" ∧
  o.data = .func { name, qualname := qual, params, body := .stmts body, scope, globals := mainGlobals, closure := clos, defaults := .none, kwdefaults := .none, doc, pyModule := pm, annotations := none, code := .ref c, closureTuple := ctv, builtins := builtinsNs }
theorem J_defMiss {name qual : Str} {params : Arguments} {body : List Stmt} {scope : Scope} {pos : Pos} {fl : Nat} {c P : Addr} {clos : List (Str × Addr)} {es : List (Pos × Addr)} {Q : Value → Own → Array GenState → Prop} (T : TopB K p loose mg mb B) (BM : BMain mg B)
    (hcl : closureFor scope env = pure clos) (hge0 : env.globals = mainGlobals) (hc : env.code = .ref c) (hC : ∀ h, B.sat h → CodeHd h c P) (hm : (P, ATab es) ∈ own) (hn : codeAmong pos (tabArr es).toList = none)
    (h : ∀ c' f, ∃ own', Upd P (ATab es) (ATab (es ++ [(pos, c')])) own own' ∧ Q (.ref f) ((f, ADef name qual params body scope clos c') :: (c', ACode qual) :: own') gs) :
    J prog w B A (makeFunction name qual params (.stmts body) scope env [] [] [] pos fl) own gs Q := fun s R => by
  obtain ⟨o, ho, rfl⟩ := R.o _ _ hm
  have C := hC _ R.b
  obtain ⟨bm, ob, h1, h2, h3, h4, h5, h6, h7⟩ := BM
  obtain ⟨om, hom, rfl⟩ := R.b _ _ h4
  have hgP : mainGlobals ≠ P := fun e => by
    obtain ⟨og, es', ep, hog, hd, _⟩ := (T _ R.b).2.1.g
    rw [e, ho] at hog
    cases hog
    cases hd
  have hbP : bm ≠ P := fun e => by
    rw [e, ho] at hom
    cases hom
    cases h7
  refine makeFunction_K hcl hge0 (T _ R.b).2.1.g hc C ho (tabArr_ok es) hn hgP ⟨bm, om, h1, h2, h3, hbP, hom, h5, h6, h7⟩ fun c' ctv doc h' tk hx hge hlt hrec htb => ?_
  obtain ⟨own', u, hq⟩ := h c' h'.objs.size
  have R₁ := R.upd (tk := tk) u hx ⟨_, htb, show _ = _ by rw [tabArr_snoc]⟩
  obtain ⟨c₂, oc, vs, t, e, hoc, hdc, hvs⟩ := hrec
  cases e
  have R₂ := R.freshAt R₁ u.keys (p := ACode qual) hge hoc ⟨vs, t, hdc, hvs⟩
  exact ⟨_, gs, R₂.push (p := ADef name qual params body scope clos c') rfl ⟨_, _, _, rfl, rfl⟩ tk, hq⟩
theorem J_defHit {name qual : Str} {params : Arguments} {body : List Stmt} {scope : Scope} {pos : Pos} {fl : Nat} {c P c' : Addr} {clos : List (Str × Addr)} {es : List (Pos × Addr)} {Q : Value → Own → Array GenState → Prop} (T : TopB K p loose mg mb B) (BM : BMain mg B)
    (hcl : closureFor scope env = pure clos) (hge0 : env.globals = mainGlobals) (hc : env.code = .ref c) (hC : ∀ h, B.sat h → CodeHd h c P) (hm : (P, ATab es) ∈ own) (hn : codeAmong pos (tabArr es).toList = some (.ref c'))
    (h : ∀ f, Q (.ref f) ((f, ADef name qual params body scope clos c') :: own) gs) :
    J prog w B A (makeFunction name qual params (.stmts body) scope env [] [] [] pos fl) own gs Q := fun s R => by
  obtain ⟨o, ho, rfl⟩ := R.o _ _ hm
  have C := hC _ R.b
  obtain ⟨bm, ob, h1, h2, h3, h4, h5, h6, h7⟩ := BM
  obtain ⟨om, hom, rfl⟩ := R.b _ _ h4
  have hbP : bm ≠ P := fun e => by
    rw [e, ho] at hom
    cases hom
    cases h7
  refine makeFunction_hit hcl hge0 (T _ R.b).2.1.g hc C ho (tabArr_ok es) hn ⟨bm, om, h1, h2, h3, hbP, hom, h5, h6, h7⟩ fun ctv doc h' tk hk hge => ?_
  have R₁ := R.ext (tk := tk) hk
  exact ⟨_, gs, R₁.push (p := ADef name qual params body scope clos c') rfl ⟨_, _, _, rfl, rfl⟩ tk, h h'.objs.size⟩
/-- a nested def as a statement -/
theorem JF_Def {name : Str} {params : Arguments} {body : List Stmt} {scope : Scope} {pos : Pos} {Q : QF} (h : J prog w B A (makeFunction name (qualnameIn env name name) params (.stmts body) scope env [] [] [] pos pos.line) own gs fun v o g => StoreJ prog w B A env name (er v) o g (Q .next))
    (hd0 : params.defaults = [] := by rfl) (hk0 : params.kw_defaults = [] := by rfl) (ha : annTrees params none env = [] := by rfl) :
    JF prog w B A (exec (.FunctionDef name params body [] none [] scope none name pos) env) own gs Q := fun s R =>
  nestDef_K hd0 hk0 ha (J.any h R fun v s₁ o g R₁ h₁ => J.any (h₁ v rfl) R₁ fun _ s₂ o g R₂ h₂ => ⟨o, g, R₂, h₂⟩)
theorem Keep_def {f : Addr} {name qual : Str} {params : Arguments} {body : List Stmt} {scope : Scope} {clos : List (Str × Addr)} {c : Addr} (h : Has B own f (ADef name qual params body scope clos c)) : KeepOk prog w B own (.ref f) := ⟨rfl, fun s _ R => by
  obtain ⟨⟨c, d, dt, sl⟩, ho, _, _, _, hc, hd⟩ := R.get h
  simp only at hc hd
  subst hc hd
  exact ⟨.frame, .inl rfl, (Looks.ld (part := none) ho).andThen .now⟩⟩
/-- a call of a nested def -/
theorem Call_def {n : Nat} {f c : Addr} {name qual : Str} {params : Arguments} {body : List Stmt} {scope : Scope} {clos : List (Str × Addr)} {args : List Value} {Q : QV} (T : TopB K p loose mg mb B) (hA : AOk B A (n + 1))
    (hf : Has B own f (ADef name qual params body scope clos c)) (hc : Has B own c (ACode qual))
    (h : ∀ us, us.map er = args → ∀ pm doc ctv, J prog w B A.in1 (bindArgs { name, qualname := qual, params, body := .stmts body, scope, globals := mainGlobals, closure := clos, defaults := .none, kwdefaults := .none, doc, pyModule := pm, annotations := none, code := .ref c, closureTuple := ctv, builtins := builtinsNs } ⟨us, []⟩) own gs fun binds o g => ∀ L, CellsJ scope.names clos ((L, ANs []) :: o) fun cells o =>
      StoresJ prog w B A.in1 (newEnv scope L mainGlobals cells (qual ++ ".<locals>.") (some f) (.ref c) none builtinsNs) binds o g fun o g => ∀ A', AOk B A' n →
        JF prog w B A' (execs body (newEnv scope L mainGlobals cells (qual ++ ".<locals>.") (some f) (.ref c) none builtinsNs)) o g
          fun fl o g => ∃ o₂, Sub o₂ o ∧ Q (retOf fl) o₂ g)
    (hco : scope.isCoroutine = false := by rfl) (hgen : scope.isGenerator = false := by rfl) : CallJ prog w B A (.ref f) args own gs Q := by
  intro us hus s R
  obtain ⟨o, ho, pm, doc, ctv, hcls, hd⟩ := R.get hf
  obtain ⟨oc, hoc, vs, t, hdc, hvs⟩ := R.get hc
  refine wpAny_call (codeAny_call_function hA.depth ho hd hco hgen rfl ⟨c, oc, vs, t, rfl, hoc, hdc, hvs⟩ ?_)
  refine J.any (h us hus pm doc ctv) R fun binds s₁ o g R₁ hJ => ?_
  refine J.any (J_newEnv (Q := fun env o g => JF prog w B (A.deeper env) (execs body env) o g fun fl o g => ∃ o₂, Sub o₂ o ∧ Q (retOf fl) o₂ g) fun L => CellsJ_mono (fun cells o hs => StoresJ_mono (fun o g hq => hq _ (hA.deeper _)) _ _ _ hs) _ _ _ (hJ L)) R₁ fun env s₂ o g R₂ hb => ?_
  refine ⟨limit_of T _ R₂.b, codeAny_func (J.any hb R₂ fun fl s₃ o g R₃ ⟨o₂, hs, hq⟩ => ?_)⟩
  cases fl <;> exact ⟨o₂, g, R₃.sub hs, hq⟩
end
end Mine
end
section
set_option maxRecDepth 100000
open PySem PySem.Calls PyProof.Rows PySem.W PySem.Spec
namespace Mine
section
variable {prog : Program} {w : World} {B : Bs} {A : Around} {own : Own} {gs : Array GenState} {env : Env}
/-- a dict display with one pair -/
theorem JV_Dict1 {ke ve : Expr} {pos : Pos} {Q : QV}
    (h : ∀ d, JV prog w B A (eval ke env) ((d, AEmpty) :: own) gs fun kv o g => JV prog w B A (eval ve env) o g fun v o g => ∃ k o', kv = iv k ∧ Upd d AEmpty (AD prog w [(k, v)]) o o' ∧ Q (.ref d) o' g) :
    JV prog w B A (eval (.Dict [some ke] [ve] pos) env) own gs Q := fun s R => by
  refine wpAny_Dict_pairs (knd := intKind prog w) (pairs := [(eval ke env, do let x ← eval ve env; standAt pos; pure x)]) rfl (by simp) (by simp) ?_
  have R₁ := R.push (o := emptyDict) (p := AEmpty) rfl AEmpty.fresh s.toks
  refine evalPairs_cons (J.any (h _) R₁ fun kv s₁ o₁ g₁ R₂ h₁ => ?_)
  refine wpAny_bind (J.any h₁ R₂ fun vv s₂ o₂ g₂ R₃ ⟨k, o', hk, hu, hq⟩ => wpAny_bind (wpAny_standAt (wpAny_pure ?_)))
  obtain ⟨t, rfl⟩ := er_eq_int hk
  refine evalPairs_nil ⟨[(k, vv)], ⟨intKind_is prog w k t, rfl, trivial⟩, ?_, fun h' hD hb => ?_⟩
  · obtain ⟨o, ho, x⟩ := R₃.o _ _ hu.mem
    exact AEmpty.dictOf _ ho x
  · obtain ⟨ep', o'', ho', x'⟩ := ADict.of (prog := prog) (w := w) (kvs' := [(k, vv)]) (by simpa [merged, stored] using hD)
    exact ⟨o', g₂, R₃.upd hu hb.extBut ⟨o'', ho', ep', x'⟩, hq⟩
end
end Mine
end
section
set_option maxRecDepth 100000
open PySem PySem.Calls PyProof.Rows PySem.W PySem.Spec
namespace Mine
def evP (x : Int) : Ev := fun v o => v = iv x ∧ o = []
/-- every generator has come to its end -/
def AllFin (g : Array GenState) : Prop := ∀ (i : Nat) (st : GenState), g[i]? = some st → st = GenState.finished
def FinBut (l : List Nat) (g : Array GenState) : Prop := ∀ (i : Nat) (st : GenState), g[i]? = some st → i ∈ l ∨ st = GenState.finished
theorem AllFin.bare {g : Array GenState} (h : AllFin g) : AllBare g := fun y hy => by
  obtain ⟨i, hi, rfl⟩ := Array.mem_iff_getElem.mp hy
  rw [h i _ (Array.getElem?_eq_getElem hi)]; rfl
theorem AllFin.nil : AllFin #[] := fun i st h => by simp at h
theorem FinBut.set {l : List Nat} {g : Array GenState} {i : Nat} {st : GenState} (h : FinBut l g) (hi : i ∈ l) : FinBut l (g.setIfInBounds i st) := fun j st' hj => by
  by_cases e : i = j
  · exact .inl (e ▸ hi)
  · rw [Array.getElem?_setIfInBounds_ne e] at hj
    exact h j st' hj
theorem FinBut.fin {a : Nat} {l : List Nat} {g : Array GenState} (h : FinBut (a :: l) g) (ha : ∀ st, g[a]? = some st → st = .finished) : FinBut l g := fun j st' hj => by
  rcases h j st' hj with k | k
  · rcases List.mem_cons.mp k with rfl | k
    · exact .inr (ha _ hj)
    · exact .inl k
  · exact .inr k
theorem FinBut.all {g : Array GenState} (h : FinBut [] g) : AllFin g := fun i st hi => (h i st hi).resolve_left (by simp)
theorem FinBut.push {l : List Nat} {g : Array GenState} {st : GenState} (h : FinBut l g) : FinBut (g.size :: l) (g.push st) := fun j st' hj => by
  rw [Array.getElem?_push] at hj
  split at hj
  · next e => exact .inl (by rw [e]; simp)
  · rcases h j st' hj with k | k
    · exact .inl (.tail _ k)
    · exact .inr k
theorem AllFin.but {g : Array GenState} (h : AllFin g) : FinBut [] g := fun i st hi => .inr (h i st hi)
section
variable (prog : Program) (w : World) (B : Bs) (n : Nat)
/-- a generator of ints that lies still: it will give ys -/
def GRun (g0 : Nat) (ys : List Int) (int : Own) (g : Array GenState) : Prop :=
  ∃ st gl, GY prog w B n (ys.map evP) st int gl ∧ g[g0]? = some st ∧ ghas gl g ∧ (∀ x, gl = some x → x.1 ≠ g0) ∧ FinBut (g0 :: (gl.map (·.1)).toList) g
end
section
variable {prog : Program} {w : World} {B : Bs} {A : Around} {own : Own} {gs : Array GenState} {n : Nat}
theorem ghas_set {gl : Option (Nat × GenState)} {g : Array GenState} {g0 : Nat} {st : GenState} (h : ghas gl g) (hne : ∀ x, gl = some x → x.1 ≠ g0) : ghas gl (g.setIfInBounds g0 st) := by
  cases gl with
  | none => trivial
  | some x =>
    have := hne x rfl
    show (g.setIfInBounds g0 st)[x.1]? = some x.2
    rw [Array.getElem?_setIfInBounds_ne fun e => this e.symm]
    exact h
theorem gset_get {gl : Option (Nat × GenState)} {g : Array GenState} {g0 : Nat} (hne : ∀ x, gl = some x → x.1 ≠ g0) : (gset gl g)[g0]? = g[g0]? := by
  cases gl with
  | none => rfl
  | some x => exact Array.getElem?_setIfInBounds_ne (hne x rfl)
theorem gset_size {gl : Option (Nat × GenState)} {g : Array GenState} : (gset gl g).size = g.size := by
  cases gl with
  | none => rfl
  | some x => exact Array.size_setIfInBounds
theorem ghas_gset {gl gl' : Option (Nat × GenState)} {g g' : Array GenState} (h : ghas gl g) (hs : g'.size = g.size) (e : gl'.map (·.1) = gl.map (·.1)) : ghas gl' (gset gl' g') := by
  cases gl' with
  | none => trivial
  | some x' =>
    cases gl with
    | none => cases e
    | some x =>
      have e : x'.1 = x.1 := by simpa using e
      have h : g[x.1]? = some x.2 := h
      have hlt : x'.1 < g'.size := by rw [hs, e]; exact (Array.getElem?_eq_some_iff.mp h).1
      show (g'.setIfInBounds x'.1 x'.2)[x'.1]? = some x'.2
      simp [hlt]
theorem finBut_gset {gl : Option (Nat × GenState)} {g : Array GenState} {l : List Nat} (h : FinBut l g) (hl : ∀ x, gl = some x → x.1 ∈ l) : FinBut l (gset gl g) := by
  cases gl with
  | none => exact h
  | some x => exact h.set (hl x rfl)
theorem Next_GRun {a : Addr} {g0 : Nat} {ys : List Int} {int rest : Own} {Q : Option Value → Own → Array GenState → Prop} (hA : AOk B A (n + 1)) (hl : ∀ h, B.sat h → h.NoLimit) (hm : Has B rest a (AGen g0)) (R : GRun prog w B n g0 ys int gs)
    (h : match ys with | [] => ∀ g', AllFin g' → Q none rest g' | y :: ys => ∀ int' g', GRun prog w B n g0 ys int' g' → Q (some (iv y)) (int' ++ rest) g') : NextJ prog w B A (.ref a) (int ++ rest) gs Q := by
  obtain ⟨st, gl, hY, hg, hgh, hne, hfb⟩ := R
  have hlt : g0 < gs.size := (Array.getElem?_eq_some_iff.mp hg).1
  refine J_drop ?_
  refine Next_wake (Q := fun r o g => ∃ o₂, Sub o₂ o ∧ Q r o₂ g) (st := st) hA hl (hm.elim (fun k => .inl (List.mem_append_right _ k)) .inr) hg (GY_iff.mp hY _ rest _ hA.in1 (ghas_set hgh hne)) fun e o g' ho => ?_
  cases ys with
  | nil =>
    obtain ⟨h1, h2, hs, rfl⟩ := ho
    refine .inr ⟨h1, h2, rest, hs, h _ ?_⟩
    have hne' : ∀ x, (gl.map fun x => (x.1, GenState.finished)) = some x → x.1 ≠ g0 := fun x hx => by
      cases gl with
      | none => cases hx
      | some y => cases hx; exact hne y rfl
    have hf := FinBut.set (l := g0 :: (gl.map (·.1)).toList) (i := g0) (st := .finished) (finBut_gset (gl := gl.map fun x => (x.1, GenState.finished)) (hfb.set (i := g0) (st := .running) (.head _)) fun x hx => by
      cases gl with
      | none => cases hx
      | some y => cases hx; exact .tail _ (.head _)) (.head _)
    refine FinBut.all ?_
    have hf1 := hf.fin fun st' e => by
      rw [Array.getElem?_setIfInBounds_self_of_lt (by rw [gset_size, Array.size_setIfInBounds]; exact hlt)] at e
      exact (Option.some.inj e).symm
    cases gl with
    | none => exact hf1
    | some y =>
      refine FinBut.fin hf1 fun st' e => ?_
      have hy : y.1 ≠ g0 := hne y rfl
      rw [Array.getElem?_setIfInBounds_ne fun z => hy z.symm] at e
      have h0 : gs[y.1]? = some y.2 := hgh
      have hlt' : y.1 < gs.size := (Array.getElem?_eq_some_iff.mp h0).1
      have e' : ((gs.setIfInBounds g0 .running).setIfInBounds y.1 .finished)[y.1]? = some st' := e
      rw [Array.getElem?_setIfInBounds_self_of_lt (by rw [Array.size_setIfInBounds]; exact hlt')] at e'
      exact (Option.some.inj e').symm
  | cons y ys =>
    obtain ⟨v, ex, int', gl', h1, ⟨h2, rfl⟩, hs, hgl, rfl, hY'⟩ := ho
    refine .inl ⟨v, h1, int' ++ rest, by simpa using hs, ?_⟩
    rw [h2]
    have hne' : ∀ x, gl' = some x → x.1 ≠ g0 := fun x hx => by
      subst hx
      cases gl with
      | none => cases hgl
      | some y => have e : x.1 = y.1 := by simpa using hgl
                  rw [e]; exact hne y rfl
    refine h int' _ ⟨e.genState, gl', hY', ?_, ?_, hne', ?_⟩
    · rw [Array.getElem?_setIfInBounds_self_of_lt (by rw [gset_size, Array.size_setIfInBounds]; exact hlt)]
    · exact ghas_set (ghas_gset hgh Array.size_setIfInBounds hgl) hne'
    · rw [hgl]
      refine FinBut.set (finBut_gset (hfb.set (.head _)) fun x hx => ?_) (.head _)
      subst hx
      cases gl with
      | none => cases hgl
      | some y => have e : x.1 = y.1 := by simpa using hgl
                  rw [e]; exact .tail _ (.head _)
/-- reduce over a generator of ints -/
theorem Call_reduceGY {Q : QV} (hA : AOk B A (n + 3)) (hl : ∀ h, B.sat h → h.NoLimit) {f a : Addr} {g0 : Nat} {int rest : Own} {x : Int} {xs : List Int} (R : GRun prog w B n g0 (x :: xs) int gs) (Inv : Int → List Int → Prop) (h0 : Inv x xs)
    (step : ∀ A' acc y ys o g, AOk B A' (n + 1) → Inv acc (y :: ys) → CallJ prog w B A' (.ref f) [iv acc, iv y] o g fun v o' g' => ∃ d, v = iv d ∧ Sub o o' ∧ g' = g ∧ Inv d ys)
    (h : ∀ d g', Inv d [] → AllFin g' → Q (iv d) ((a, AGen g0) :: rest) g') : CallJ prog w B A (.builtin "_functools.reduce") [.ref f, .ref a] (int ++ ((a, AGen g0) :: rest)) gs Q := by
  refine Call_reduce (k := n + 1) hA rfl fun A' hA' => Iter_gen (g := g0) (.own (List.mem_append_right _ (.head _))) fun pair t => ?_
  refine ⟨(x :: xs).length, fun acc m o g => ∃ ys int', m = ys.length ∧ GRun prog w B n g0 ys int' g ∧ o = int' ++ ((a, AGen g0) :: rest) ∧ (match acc with | none => ys = x :: xs | some v => ∃ d, v = iv d ∧ Inv d ys), ⟨_, int, rfl, R, rfl, rfl⟩, ?_⟩
  rintro A2 acc m o g hA2 ⟨ys, int', rfl, R', rfl, hacc⟩
  have hp : Sub (int' ++ ((pair, APair) :: (t, ATup [.ref f, .ref a]) :: (a, AGen g0) :: rest)) ((pair, APair) :: (t, ATup [.ref f, .ref a]) :: (int' ++ ((a, AGen g0) :: rest))) := Sub.of_perm perm2'.symm
  have hq : ∀ i2 : Own, Sub ((pair, APair) :: (t, ATup [.ref f, .ref a]) :: (i2 ++ ((a, AGen g0) :: rest))) (i2 ++ ((pair, APair) :: (t, ATup [.ref f, .ref a]) :: (a, AGen g0) :: rest)) := fun i2 => Sub.of_perm perm2'
  refine NextJ_sub hp (Next_GRun hA2 hl (.own (.tail _ (.tail _ (.head _)))) R' ?_)
  cases ys with
  | nil =>
    intro g' hf
    cases acc with
    | none => cases hacc
    | some v =>
      obtain ⟨d, rfl, hd⟩ := hacc
      exact ⟨_, Sub.skip (Sub.skip (Sub.refl _)), h d g' hd hf⟩
  | cons y ys =>
    intro i2 g' R2
    cases acc with
    | none =>
      cases hacc
      exact ⟨_, _, Nat.lt_succ_self _, hq i2, _, i2, rfl, R2, rfl, x, rfl, h0⟩
    | some v =>
      obtain ⟨d, rfl, hd⟩ := hacc
      refine ⟨_, hq i2, fun us hus => J_mono (step A2 d y ys _ _ hA2 hd us hus) fun v o g ⟨d', e1, hs, e2, hd'⟩ => ?_⟩
      subst e2
      exact ⟨_, _, Nat.lt_succ_self _, hs, _, i2, rfl, R2, rfl, d', e1, hd'⟩
/-- a list of all that a generator of ints gives -/
theorem Call_listGY {Q : QV} (hA : AOk B A (n + 4)) (hl : ∀ h, B.sat h → h.NoLimit) {a : Addr} {g0 : Nat} {int rest : Own} {xs : List Int} (R : GRun prog w B n g0 xs int gs) (hlen : xs.length ≤ 1000000)
    (h : ∀ S g', AllFin g' → Q (.ref S) ((S, AList (xs.map iv)) :: (a, AGen g0) :: rest) g') : CallJ prog w B A (.type "list") [.ref a] (int ++ ((a, AGen g0) :: rest)) gs Q := by
  refine Call_listGen (k := n + 1) hA (.own (List.mem_append_right _ (.head _))) fun S => ?_
  refine ⟨xs.length, fun vs m o g => ∃ pre ys int', xs = pre ++ ys ∧ m = ys.length ∧ vs = pre.map iv ∧ GRun prog w B n g0 ys int' g ∧ o = int' ++ ((a, AGen g0) :: rest), ⟨[], xs, int, rfl, rfl, rfl, R, rfl⟩, ?_⟩
  rintro A2 vs m o g hA2 ⟨pre, ys, int', rfl, rfl, rfl, R', rfl⟩
  refine NextJ_sub (o₂ := int' ++ ((S, AList (pre.map iv)) :: (a, AGen g0) :: rest)) (Sub.of_perm List.perm_middle) (Next_GRun hA2 hl (.own (.tail _ (.head _))) R' ?_)
  cases ys with
  | nil =>
    intro g' hf
    have := h S g' hf
    rw [List.append_nil] at this
    exact ⟨_, Sub.refl _, this⟩
  | cons y ys =>
    intro i2 g' R2
    refine ⟨?_, _, _, Nat.lt_succ_self _, Sub.of_perm List.perm_middle.symm, pre ++ [y], ys, i2, by simp, rfl, by simp, R2, rfl⟩
    rw [List.length_append, List.length_cons] at hlen
    rw [List.length_map]
    omega
theorem GRun.push2 {n : Nat} {gs : Array GenState} (hf : AllFin gs) {st1 st2 : GenState} {int : Own} {ys : List Int} (h : GY prog w B n (ys.map evP) st2 int (some (gs.size, st1))) : GRun prog w B n (gs.size + 1) ys int ((gs.push st1).push st2) := by
  refine ⟨st2, some (gs.size, st1), h, ?_, ?_, ?_, ?_⟩
  · rw [Array.getElem?_push]; simp
  · show ((gs.push st1).push st2)[gs.size]? = some st1
    rw [Array.getElem?_push]
    simp
  · intro x hx; cases hx; exact Nat.ne_of_lt (Nat.lt_succ_self _)
  · have := ((hf.but.push (st := st1)).push (st := st2))
    simpa using this
theorem GRun.push1 {n : Nat} {gs : Array GenState} (hf : AllFin gs) {st : GenState} {int : Own} {ys : List Int} (h : GY prog w B n (ys.map evP) st int none) : GRun prog w B n gs.size ys int (gs.push st) := by
  refine ⟨st, none, h, ?_, trivial, fun _ hx => (by cases hx), ?_⟩
  · rw [Array.getElem?_push]; simp
  · simpa using (hf.but.push (st := st))
theorem CallJ_sub {f : Value} {args : List Value} {o₂ : Own} {Q : QV} (hs : Sub o₂ own) (h : CallJ prog w B A f args o₂ gs Q) : CallJ prog w B A f args own gs Q := fun us hus => J_sub hs (h us hus)
theorem Has.skip {B : Bs} {o : Own} {x : Addr × Pd} {d : Addr} {q : Pd} (h : Has B o d q) : Has B (x :: o) d q := h.elim (fun q => .inl (.tail _ q)) .inr
theorem JV_frame {t : Sem Value} {fr give : Own} {Q : QV} (hp : Sub (give ++ fr) own)
    (h : ∀ B' : Bs, B.le B' → (∀ x ∈ fr, B'.f x.1 = some x.2) → JV prog w B' A t give gs fun a o g => Q a (o ++ fr) g) : JV prog w B A t own gs Q := J_frame hp h
theorem JCV_frame {t : Sem Value} {fr give : Own} {Q : QV} (hp : Sub (give ++ fr) own)
    (h : ∀ B' : Bs, B.le B' → (∀ x ∈ fr, B'.f x.1 = some x.2) → JCV prog w B' A t give gs fun a o g => Q a (o ++ fr) g) : JCV prog w B A t own gs Q := JC_frame hp h
theorem JCF_frame {t : Sem Flow} {fr give : Own} {Q : QF} (hp : Sub (give ++ fr) own)
    (h : ∀ B' : Bs, B.le B' → (∀ x ∈ fr, B'.f x.1 = some x.2) → JCF prog w B' A t give gs fun a o g => Q a (o ++ fr) g) : JCF prog w B A t own gs Q := JC_frame hp h
theorem IterJ_ref {a : Addr} {Q : Value → Own → Array GenState → Prop} (h : J prog w B A (pyIter (.ref a)) own gs Q) : IterJ prog w B A (.ref a) own gs Q := fun u hu => by rw [er_eq_ref hu]; exact h
theorem JCF_While' {env : Env} {t : Expr} {body orelse : List Stmt} {pos : Pos} {Q : QF} (I : Nat → Own → Array GenState → Prop)
    (turn : ∀ n o g, I n o g → TestJ prog w B A env t o g fun b o g => if b = true then JCF prog w B A (execs body env) o g (fun f o g => match f with
        | .next | .cont => ∃ m, m < n ∧ ∃ o₂, Sub o₂ o ∧ I m o₂ g
        | .brk => Q .next o g
        | .ret v => Q (.ret v) o g) else JCF prog w B A (execs orelse env) o g Q)
    (n : Nat) (o₂ : Own) (hs : Sub o₂ own) (h : I n o₂ gs) : JCF prog w B A (exec (.While t body orelse pos) env) own gs Q :=
  JCF_While (fun n o g => ∃ o₂, Sub o₂ o ∧ I n o₂ g) (fun n o g ⟨o₂, hs, hI⟩ => J_sub hs (turn n o₂ g hI)) n ⟨o₂, hs, h⟩
/-- a for over a list that stands still -/
theorem JCF_ForList {env : Env} {n : Nat} {t iter : Expr} {body : List Stmt} {pos : Pos} {Q : QF} {l : Addr} {xs : List Value} (hA : AOk B A n) (I : Nat → Own → Array GenState → Prop)
    (h : JV prog w B A (eval iter env) own gs fun v o g => v = .ref l ∧ Has B o l (AList xs) ∧ ∃ o₂, Sub o₂ o ∧ I 0 o₂ g)
    (hl : ∀ i o g, I i o g → Has B o l (AList xs))
    (turn : ∀ it i x o g, xs[i]? = some x → I i o g → AssignJ prog w B A env t x ((it, AListIter l (i + 1)) :: o) g fun o g => JCF prog w B A (execs body env) o g fun f o g => match f with
        | .next | .cont => ∃ o₂, Sub ((it, AListIter l (i + 1)) :: o₂) o ∧ I (i + 1) o₂ g
        | .brk => Q .next o g
        | .ret v => Q (.ret v) o g)
    (done : ∀ o g, I xs.length o g → Q .next o g)
    (hs : ∀ x, foldedSetIterable iter env x = pure x := by intro _; rfl) (ht : ∀ it v, letOwnedTupleGo t it v = pure () := by intro _ _; rfl) : JCF prog w B A (exec (.For t iter body [] pos) env) own gs Q := by
  refine JCF_For (fun v m o g => ∃ it i o₂, v = .ref it ∧ i ≤ xs.length ∧ m = xs.length - i ∧ Sub ((it, AListIter l i) :: o₂) o ∧ I i o₂ g) ?_ ?_ hs ht
  · refine J_mono h fun v o g ⟨e, hh, o₂, hs, hI⟩ => ?_
    rw [e]
    exact Iter_list hh fun it => ⟨xs.length - 0, it, 0, o₂, rfl, Nat.zero_le _, rfl, Sub.keep hs, hI⟩
  · rintro v m o g ⟨it, i, o₂, rfl, hi, rfl, hs, hI⟩
    refine NextJ_sub hs (Next_list' hA (hl i o₂ g hI) ?_)
    cases hx : xs[i]? with
    | none =>
      have : i = xs.length := Nat.le_antisymm hi (List.getElem?_eq_none_iff.mp hx)
      subst this
      exact JF_clean (JF_nil (done o₂ g hI))
    | some x =>
      have hlt : i < xs.length := (List.getElem?_eq_some_iff.mp hx).1
      refine fun u hu => J_mono (turn it i x o₂ g hx hI u hu) fun _ o g hb => JC_mono hb fun f o g hf => ?_
      cases f with
      | next => obtain ⟨o₃, hs', hI'⟩ := hf; exact ⟨xs.length - (i + 1), by omega, it, i + 1, o₃, rfl, hlt, rfl, hs', hI'⟩
      | cont => obtain ⟨o₃, hs', hI'⟩ := hf; exact ⟨xs.length - (i + 1), by omega, it, i + 1, o₃, rfl, hlt, rfl, hs', hI'⟩
      | brk => exact hf
      | ret v => exact hf
theorem J_openHead {α : Type} {t : Sem α} {Q : α → Own → Array GenState → Prop} {d : Addr} {ι : Type} {f : ι → Pd} {p₀ : Pd} {rest : Own} (hp : ∀ o, p₀ o → ∃ i, f i o) (h : ∀ i, J prog w B A t ((d, f i) :: rest) gs Q) : J prog w B A t ((d, p₀) :: rest) gs Q := fun s R => by
  obtain ⟨o, ho, x⟩ := R.o d p₀ (.head _)
  obtain ⟨i, hi⟩ := hp o x
  exact h i s (R.upd (p' := f i) (tk := s.toks) (Upd.head _) (fun b o _ e => e) ⟨o, ho, hi⟩)
theorem JF_openHead {t : Sem Flow} {Q : QF} {d : Addr} {ι : Type} {f : ι → Pd} {p₀ : Pd} {rest : Own} (hp : ∀ o, p₀ o → ∃ i, f i o) (h : ∀ i, JF prog w B A t ((d, f i) :: rest) gs Q) : JF prog w B A t ((d, p₀) :: rest) gs Q := J_openHead hp h
theorem JF_sub {t : Sem Flow} {o₂ : Own} {Q : QF} (hs : Sub o₂ own) (h : JF prog w B A t o₂ gs Q) : JF prog w B A t own gs Q := J_sub hs h
theorem JV_sub {t : Sem Value} {o₂ : Own} {Q : QV} (hs : Sub o₂ own) (h : JV prog w B A t o₂ gs Q) : JV prog w B A t own gs Q := J_sub hs h
theorem JCF_sub {t : Sem Flow} {o₂ : Own} {Q : QF} (hs : Sub o₂ own) (h : JCF prog w B A t o₂ gs Q) : JCF prog w B A t own gs Q := JC_sub hs h
theorem Test_mono {env : Env} {e : Expr} {Q Q' : QB} (h : TestJ prog w B A env e own gs Q) (hq : ∀ b o g, Q b o g → Q' b o g) : TestJ prog w B A env e own gs Q' := J_mono h hq
theorem Call_reduceGY' {Q : QV} (hA : AOk B A (n + 3)) (hl : ∀ h, B.sat h → h.NoLimit) {f a : Addr} {g0 : Nat} {int rest : Own} {ys : List Int} {x : Int} {xs : List Int} (R : GRun prog w B n g0 ys int gs) (hys : ys = x :: xs) (Inv : Int → List Int → Prop) (h0 : Inv x xs)
    (step : ∀ A' acc y ys o g, AOk B A' (n + 1) → Inv acc (y :: ys) → CallJ prog w B A' (.ref f) [iv acc, iv y] o g fun v o' g' => ∃ d, v = iv d ∧ Sub o o' ∧ g' = g ∧ Inv d ys)
    (h : ∀ d g', Inv d [] → AllFin g' → Q (iv d) ((a, AGen g0) :: rest) g') : CallJ prog w B A (.builtin "_functools.reduce") [.ref f, .ref a] (int ++ ((a, AGen g0) :: rest)) gs Q := by
  subst hys
  exact Call_reduceGY hA hl R Inv h0 step h
theorem Test_det {env : Env} {e : Expr} {Q : QB} (b : Bool) (h : TestJ prog w B A env e own gs fun b' o g => b' = b ∧ o = own ∧ g = gs) (hq : Q b own gs) : TestJ prog w B A env e own gs Q := J_mono h fun _ _ _ ⟨e1, e2, e3⟩ => by rw [e1, e2, e3]; exact hq
end
end Mine
end
section
/- plain law: the labelled depth-first walk -/
set_option autoImplicit false
set_option linter.unusedVariables false
namespace Mine
/-- the nodes that the walk goes forward to, each with where it comes from -/
def fwdsD : List DE → List (Int × Int)
  | [] => []
  | (u, v, .fwd) :: E => (u, v) :: fwdsD E
  | _ :: E => fwdsD E
/-- the nodes that the walk goes back from -/
def postsD : List DE → List Int
  | [] => []
  | (_, v, .rev) :: E => v :: postsD E
  | _ :: E => postsD E
/-- a stands before b -/
def Bef (Q : List Int) (a b : Int) : Prop := [a, b].Sublist Q
theorem Bef.cons {Q : List Int} {a b x : Int} (h : Bef Q a b) : Bef (x :: Q) a b := List.Sublist.cons _ h
theorem idx_ne {Q : List Int} {a x : Int} (h : x ≠ a) : (x :: Q).idxOf a = Q.idxOf a + 1 := by
  rw [List.idxOf_cons]
  have : (x == a) = false := by simpa using h
  rw [this]; rfl
theorem Bef.idx {Q : List Int} {a b : Int} (h : Bef Q a b) (nd : Q.Nodup) : Q.idxOf a < Q.idxOf b := by
  induction Q with
  | nil => cases h
  | cons x Q ih =>
    rw [List.nodup_cons] at nd
    have h' : [a, b].Sublist (x :: Q) := h
    cases h' with
    | cons _ h =>
      have ha : a ∈ Q := h.subset (by simp)
      have hb : b ∈ Q := h.subset (by simp)
      rw [idx_ne, idx_ne]
      · exact Nat.succ_lt_succ (ih h nd.2)
      · exact fun e => nd.1 (e ▸ hb)
      · exact fun e => nd.1 (e ▸ ha)
    | cons_cons _ h =>
      have hb : b ∈ Q := h.subset (by simp)
      rw [List.idxOf_cons_self, idx_ne]
      · exact Nat.succ_pos _
      · exact fun e => nd.1 (e ▸ hb)
variable {succ : Int → List Int}
abbrev stk (S : List (Int × Nat)) : List Int := S.map (·.1)
/-- what is known of the walk that is still to come -/
structure DFacts (succ : Int → List Int) (V : List Int) (S : List (Int × Nat)) (E : List DE) (m : Int) : Prop where
  last : (stk S).getLast? = some m
  ndF : ((fwdsD E).map (·.2)).Nodup
  newF : ∀ c ∈ (fwdsD E).map (·.2), c ∉ V
  perm : (postsD E ++ [m]).Perm ((fwdsD E).map (·.2) ++ stk S)
  ord : (stk S).Sublist (postsD E ++ [m])
  par : ∀ e ∈ fwdsD E, e.2 ∈ succ e.1 ∧ Bef (postsD E ++ [m]) e.2 e.1
  clF : ∀ x ∈ (fwdsD E).map (·.2), ∀ y ∈ succ x, y ∈ V ∨ y ∈ (fwdsD E).map (·.2)
  clS : ∀ e ∈ S, ∀ y ∈ (succ e.1).drop e.2, y ∈ V ∨ y ∈ (fwdsD E).map (·.2)
  beS : ∀ e ∈ S, ∀ y ∈ (succ e.1).drop e.2, y ∈ (fwdsD E).map (·.2) → Bef (postsD E ++ [m]) y e.1
  beF : ∀ x y, Bef ((fwdsD E).map (·.2)) x y → y ∈ succ x → Bef (postsD E ++ [m]) y x
theorem drop_cases {l : List Int} {i : Nat} {c y : Int} (h : l[i]? = some c) (hy : y ∈ l.drop i) : y = c ∨ y ∈ l.drop (i + 1) := by
  obtain ⟨hi, rfl⟩ := List.getElem?_eq_some_iff.mp h
  rw [List.drop_eq_getElem_cons hi] at hy
  exact List.mem_cons.mp hy
theorem drop_none {l : List Int} {i : Nat} (h : l[i]? = none) : l.drop i = [] := List.drop_eq_nil_of_le (List.getElem?_eq_none_iff.mp h)
theorem DRun.facts {V : List Int} {S : List (Int × Nat)} {E : List DE} (h : DRun succ V S E) (hS : S ≠ []) (hV : ∀ x ∈ stk S, x ∈ V) (nd : (stk S).Nodup) : ∃ m, DFacts succ V S E m := by
  induction h with
  | nil => exact absurd rfl hS
  | @non V u i c S E hc hm _ ih =>
    obtain ⟨m, F⟩ := ih (by simp) hV nd
    refine ⟨m, ⟨F.last, F.ndF, F.newF, F.perm, F.ord, F.par, F.clF, ?_, ?_, F.beF⟩⟩
    · intro e he y hy
      rcases List.mem_cons.mp he with rfl | he
      · rcases drop_cases hc hy with rfl | hy
        · exact .inl hm
        · exact F.clS (u, i + 1) (by simp) y hy
      · exact F.clS e (List.mem_cons_of_mem _ he) y hy
    · intro e he y hy hF
      rcases List.mem_cons.mp he with rfl | he
      · rcases drop_cases hc hy with rfl | hy
        · exact absurd hm (F.newF _ hF)
        · exact F.beS (u, i + 1) (by simp) y hy hF
      · exact F.beS e (List.mem_cons_of_mem _ he) y hy hF
  | @fwd V u i c S E hc hm _ ih =>
    obtain ⟨m, F⟩ := ih (by simp) (fun x hx => by
      rcases List.mem_cons.mp hx with rfl | hx
      · exact .head _
      · exact .tail _ (hV x hx)) (by
      show (c :: stk ((u, i + 1) :: S)).Nodup
      exact List.nodup_cons.mpr ⟨fun h => hm (hV c h), nd⟩)
    have hbef : ∀ x ∈ stk ((u, i + 1) :: S), Bef (postsD E ++ [m]) c x := fun x hx => by
      have h1 : (c :: stk ((u, i + 1) :: S)).Sublist (postsD E ++ [m]) := F.ord
      exact (List.Sublist.cons_cons c (List.singleton_sublist.mpr hx)).trans h1
    refine ⟨m, ⟨?_, ?_, ?_, ?_, ?_, ?_, ?_, ?_, ?_, ?_⟩⟩
    · have := F.last
      simpa [stk, List.getLast?_cons_cons] using this
    · show (c :: (fwdsD E).map (·.2)).Nodup
      exact List.nodup_cons.mpr ⟨fun h => F.newF c h (.head _), F.ndF⟩
    · intro x hx
      rcases List.mem_cons.mp (show x ∈ c :: (fwdsD E).map (·.2) from hx) with rfl | hx
      · exact hm
      · exact fun k => F.newF x hx (.tail _ k)
    · refine F.perm.trans ?_
      show ((fwdsD E).map (·.2) ++ c :: stk ((u, i + 1) :: S)).Perm (c :: (fwdsD E).map (·.2) ++ stk ((u, i) :: S))
      exact List.perm_middle
    · exact (List.sublist_cons_self _ _).trans F.ord
    · intro e he
      rcases List.mem_cons.mp (show e ∈ (u, c) :: fwdsD E from he) with rfl | he
      · exact ⟨List.mem_of_getElem? hc, hbef u (by simp [stk])⟩
      · exact F.par e he
    · intro x hx y hy
      rcases List.mem_cons.mp (show x ∈ c :: (fwdsD E).map (·.2) from hx) with rfl | hx
      · rcases F.clS (x, 0) (.head _) y (by simpa using hy) with h | h
        · rcases List.mem_cons.mp h with rfl | h
          · exact .inr (.head _)
          · exact .inl h
        · exact .inr (.tail _ h)
      · rcases F.clF x hx y hy with h | h
        · rcases List.mem_cons.mp h with rfl | h
          · exact .inr (.head _)
          · exact .inl h
        · exact .inr (.tail _ h)
    · intro e he y hy
      have key : y = c ∨ y ∈ c :: V ∨ y ∈ (fwdsD E).map (·.2) := by
        rcases List.mem_cons.mp he with rfl | he
        · rcases drop_cases hc hy with rfl | hy
          · exact .inl rfl
          · exact .inr (F.clS (u, i + 1) (by simp) y hy)
        · exact .inr (F.clS e (List.mem_cons_of_mem _ (List.mem_cons_of_mem _ he)) y hy)
      rcases key with rfl | h | h
      · exact .inr (.head _)
      · rcases List.mem_cons.mp h with rfl | h
        · exact .inr (.head _)
        · exact .inl h
      · exact .inr (.tail _ h)
    · intro e he y hy hF
      rcases List.mem_cons.mp (show y ∈ c :: (fwdsD E).map (·.2) from hF) with rfl | hF'
      · refine hbef e.1 ?_
        rcases List.mem_cons.mp he with rfl | he
        · simp [stk]
        · exact .tail _ (List.mem_map_of_mem (f := (·.1)) he)
      · rcases List.mem_cons.mp he with rfl | he
        · rcases drop_cases hc hy with rfl | hy
          · exact absurd (.head _) (F.newF _ hF')
          · exact F.beS (u, i + 1) (by simp) y hy hF'
        · exact F.beS e (List.mem_cons_of_mem _ (List.mem_cons_of_mem _ he)) y hy hF'
    · intro x y hxy hy
      have hxy' : [x, y].Sublist (c :: (fwdsD E).map (·.2)) := hxy
      cases hxy' with
      | cons _ h => exact F.beF x y h hy
      | cons_cons _ h => exact F.beS (c, 0) (.head _) y (by simpa using hy) (h.subset (by simp))
  | @pop V u i u' i' S E hc _ ih =>
    have nd' := List.nodup_cons.mp (show (u :: stk ((u', i') :: S)).Nodup from nd)
    obtain ⟨m, F⟩ := ih (by simp) (fun x hx => hV x (.tail _ hx)) nd'.2
    refine ⟨m, ⟨?_, F.ndF, F.newF, ?_, ?_, ?_, F.clF, ?_, ?_, ?_⟩⟩
    · have := F.last
      simpa [stk, List.getLast?_cons_cons] using this
    · show (u :: (postsD E ++ [m])).Perm ((fwdsD E).map (·.2) ++ u :: stk ((u', i') :: S))
      exact (F.perm.cons u).trans List.perm_middle.symm
    · exact List.Sublist.cons_cons u F.ord
    · exact fun e he => ⟨(F.par e he).1, (F.par e he).2.cons⟩
    · intro e he y hy
      rcases List.mem_cons.mp he with rfl | he
      · rw [drop_none hc] at hy; cases hy
      · exact F.clS e he y hy
    · intro e he y hy hF
      rcases List.mem_cons.mp he with rfl | he
      · rw [drop_none hc] at hy; cases hy
      · exact (F.beS e he y hy hF).cons
    · exact fun x y hxy hy => (F.beF x y hxy hy).cons
  | @last V u i hc =>
    have hF : ((fwdsD []).map (·.2)) = [] := rfl
    refine ⟨u, ⟨rfl, List.nodup_nil, ?_, List.Perm.refl _, List.Sublist.refl _, ?_, ?_, ?_, ?_, ?_⟩⟩
    · intro c h; rw [hF] at h; cases h
    · intro e h; cases h
    · intro c h; rw [hF] at h; cases h
    · intro e he y hy
      rcases List.mem_cons.mp he with rfl | he
      · rw [drop_none hc] at hy; cases hy
      · cases he
    · intro e he y hy h; rw [hF] at h; cases h
    · intro x y h; rw [hF] at h; cases h
theorem nodup_le {l r : List Int} (nd : l.Nodup) (h : ∀ x ∈ l, x ∈ r) : l.length ≤ r.length := by
  induction l generalizing r with
  | nil => exact Nat.zero_le _
  | cons a l ih =>
    rw [List.nodup_cons] at nd
    have ha := h a (.head _)
    have hp : r.Perm (a :: r.erase a) := List.perm_cons_erase ha
    have := ih (r := r.erase a) nd.2 fun x hx => by
      have : x ∈ a :: r.erase a := hp.mem_iff.mp (h x (.tail _ hx))
      rcases List.mem_cons.mp this with rfl | h
      · exact absurd hx nd.1
      · exact h
    have hl := hp.length_eq
    simp only [List.length_cons] at hl ⊢
    omega
/-- the walk comes to its end -/
theorem DRun.exist {names : List Int} (hcl : ∀ u ∈ names, ∀ c ∈ succ u, c ∈ names) : ∀ (n k : Nat) (V : List Int) (S : List (Int × Nat)), S ≠ [] → V.Nodup → (∀ v ∈ V, v ∈ names) → (∀ x ∈ stk S, x ∈ names) → names.length - V.length ≤ n →
    (S.map fun e => (succ e.1).length - e.2 + 1).sum ≤ k → ∃ E, DRun succ V S E := by
  intro n
  induction n using Nat.strongRecOn with
  | ind n ihn =>
    intro k
    induction k using Nat.strongRecOn with
    | ind k ihk =>
      intro V S hS hV hVn hSn hn hk
      match S, hS with
      | (u, i) :: S, _ =>
        cases hc : (succ u)[i]? with
        | some c =>
          have hcn : c ∈ names := hcl u (hSn u (by simp [stk])) c (List.mem_of_getElem? hc)
          have hil : i < (succ u).length := (List.getElem?_eq_some_iff.mp hc).1
          by_cases hm : c ∈ V
          · obtain ⟨E, h⟩ := ihk ((((u, i + 1) :: S).map fun e => (succ e.1).length - e.2 + 1).sum) (by
              simp only [List.map_cons, List.sum_cons] at hk ⊢
              omega) V ((u, i + 1) :: S) (by simp) hV hVn hSn hn (Nat.le_refl _)
            exact ⟨_, .non hc hm h⟩
          · have nd : (c :: V).Nodup := List.nodup_cons.mpr ⟨hm, hV⟩
            have hle : (c :: V).length ≤ names.length := by
              refine nodup_le nd fun x hx => ?_
              rcases List.mem_cons.mp hx with rfl | hx
              · exact hcn
              · exact hVn x hx
            obtain ⟨E, h⟩ := ihn (n - 1) (by simp at hle; omega) _ (c :: V) ((c, 0) :: (u, i + 1) :: S) (by simp) nd (fun x hx => by
                rcases List.mem_cons.mp hx with rfl | hx
                · exact hcn
                · exact hVn x hx) (fun x hx => by
                rcases List.mem_cons.mp hx with rfl | hx
                · exact hcn
                · exact hSn x hx) (by simp at hle ⊢; omega) (Nat.le_refl _)
            exact ⟨_, .fwd hc hm h⟩
        | none =>
          match S with
          | [] => exact ⟨[], .last hc⟩
          | (u', i') :: S =>
            obtain ⟨E, h⟩ := ihk ((((u', i') :: S).map fun e => (succ e.1).length - e.2 + 1).sum) (by
              simp only [List.map_cons, List.sum_cons] at hk ⊢
              omega) V ((u', i') :: S) (by simp) hV hVn (fun x hx => hSn x (.tail _ hx)) hn (Nat.le_refl _)
            exact ⟨_, .pop hc h⟩
end Mine
end
section
/- plain law: the search for immediate dominators by intersection -/
set_option autoImplicit false
set_option linter.unusedVariables false
namespace Mine
/-- reached from s without w -/
inductive Avoid (E : Int → Int → Prop) (s w : Int) : Int → Prop
  | start (h : s ≠ w) : Avoid E s w s
  | step {x y : Int} (h : Avoid E s w x) (e : E x y) (n : y ≠ w) : Avoid E s w y
/-- upwards along f -/
inductive Up (f : Int → Option Int) : Int → Int → Prop
  | refl (x : Int) : Up f x x
  | step {x y z : Int} (h : f x = some y) (t : Up f y z) : Up f x z
theorem Up.trans {f : Int → Option Int} {x y z : Int} (a : Up f x y) (b : Up f y z) : Up f x z := by
  induction a with
  | refl x => exact b
  | step h _ ih => exact .step h (ih b)
theorem Up.one {f : Int → Option Int} {x y : Int} (h : f x = some y) : Up f x y := .step h (.refl y)
theorem Up.lin {f : Int → Option Int} {x y z : Int} (a : Up f x y) (b : Up f x z) : Up f y z ∨ Up f z y := by
  induction a with
  | refl x => exact .inl b
  | step h t ih =>
    cases b with
    | refl => exact .inr (.step h t)
    | step h' t' =>
      rw [h] at h'; cases h'
      exact ih t'
theorem Up.none {f : Int → Option Int} {x y : Int} (a : Up f x y) (h : f x = none) : y = x := by
  cases a with
  | refl => rfl
  | step h' _ => rw [h] at h'; cases h'
theorem Up.cases_ne {f : Int → Option Int} {x y d : Int} (a : Up f x y) (h : f x = some d) : y = x ∨ Up f d y := by
  cases a with
  | refl => exact .inl rfl
  | step h' t => rw [h] at h'; cases h'; exact .inr t
theorem Up.num {f : Int → Option Int} {num : Int → Nat} (hn : ∀ x y, f x = some y → num x < num y) {x y : Int} (a : Up f x y) : x = y ∨ num x < num y := by
  induction a with
  | refl x => exact .inl rfl
  | step h _ ih => exact .inr (by have := hn _ _ h; rcases ih with rfl | ih <;> omega)
theorem Up.numle {f : Int → Option Int} {num : Int → Nat} (hn : ∀ x y, f x = some y → num x < num y) {x y : Int} (a : Up f x y) : num x ≤ num y := by
  rcases a.num hn with rfl | h <;> omega
theorem Up.antisymm {f : Int → Option Int} {num : Int → Nat} (hn : ∀ x y, f x = some y → num x < num y) {x y : Int} (a : Up f x y) (b : Up f y x) : x = y := by
  rcases a.num hn with h | h
  · exact h
  · have := b.numle hn; omega

/-- what the depth-first walk's postorder gives -/
structure DfsOk (E : Int → Int → Prop) (s : Int) (R : Int → Prop) (num : Int → Nat) (par : Int → Int) : Prop where
  rs : R s
  cl : ∀ x y, R x → E x y → R y
  par : ∀ x, R x → x ≠ s → R (par x) ∧ E (par x) x ∧ num x < num (par x)
  inj : ∀ x y, R x → R y → num x = num y → x = y
  max : ∀ x, R x → num x ≤ num s
def parf (s : Int) (R : Int → Prop) [DecidablePred R] (par : Int → Int) (x : Int) : Option Int := if R x ∧ x ≠ s then some (par x) else none

section
variable {E : Int → Int → Prop} {s : Int} {R : Int → Prop} {num : Int → Nat} {par : Int → Int}
theorem Avoid.isR (h : DfsOk E s R num par) {w x : Int} (a : Avoid E s w x) : R x := by
  induction a with
  | start _ => exact h.rs
  | step _ e _ ih => exact h.cl _ _ ih e
theorem Avoid.ne {w x : Int} (a : Avoid E s w x) : x ≠ w := by
  cases a <;> assumption
/-- upwards in the walk's tree -/
inductive Tr (s : Int) (R : Int → Prop) (par : Int → Int) : Int → Int → Prop
  | refl (x : Int) : Tr s R par x x
  | step {x z : Int} (r : R x) (h : x ≠ s) (t : Tr s R par (par x) z) : Tr s R par x z
theorem Tr.trans {x y z : Int} (a : Tr s R par x y) (b : Tr s R par y z) : Tr s R par x z := by
  induction a with
  | refl x => exact b
  | step r h _ ih => exact .step r h (ih b)
theorem Tr.nlt (D : DfsOk E s R num par) {x y : Int} (a : Tr s R par x y) : x = y ∨ num x < num y := by
  induction a with
  | refl x => exact .inl rfl
  | step r h _ ih =>
    have := (D.par _ r h).2.2
    refine .inr ?_
    rcases ih with e | ih
    · rw [← e]; exact this
    · omega
/-- down the walk's tree, everything below w -/
theorem Tr.avoid (D : DfsOk E s R num par) {x u w : Int} (a : Tr s R par x u) (hu : Avoid E s w u) (hw : num u < num w) : Avoid E s w x := by
  induction a with
  | refl x => exact hu
  | @step x z r h t ih =>
    have hp := D.par _ r h
    refine .step (ih hu hw) hp.2.1 fun e => ?_
    subst e
    rcases t.nlt D with q | q
    · rw [q] at hp; omega
    · omega

/-- the state of the search: f is the tree found so far -/
structure Inv (E : Int → Int → Prop) (s : Int) (R : Int → Prop) (num : Int → Nat) (par : Int → Int) (f : Int → Option Int) : Prop where
  root : f s = none
  up : ∀ x y, f x = some y → R x ∧ num x < num y ∧ (y = s ∨ (f y).isSome = true) ∧ Tr s R par (par x) y
  dom : ∀ x, (x = s ∨ (f x).isSome = true) → ∀ w, R w → ¬ Avoid E s w x → Up f x w
  low : ∀ u d, f u = some d → ∀ z, (∀ v, E v u → (v = s ∨ (f v).isSome = true) → Up f v z) → num d ≤ num z
/-- those with a number of b or more are done in this turn -/
def Mp (s : Int) (R : Int → Prop) (num : Int → Nat) (par : Int → Int) (f : Int → Option Int) (b : Nat) : Prop :=
  ∀ a, R a → a ≠ s → b ≤ num a → ∃ d, f a = some d ∧ Up f (par a) d
abbrev InD (s : Int) (f : Int → Option Int) (x : Int) : Prop := x = s ∨ (f x).isSome = true
variable {f : Int → Option Int}
theorem Inv.nlt (I : Inv E s R num par f) : ∀ x y, f x = some y → num x < num y := fun x y h => (I.up x y h).2.1
theorem Inv.isR (D : DfsOk E s R num par) (I : Inv E s R num par f) {x : Int} (h : InD s f x) : R x := by
  rcases h with rfl | h
  · exact D.rs
  · obtain ⟨y, hy⟩ := Option.isSome_iff_exists.mp h
    exact (I.up x y hy).1
theorem Inv.upD (I : Inv E s R num par f) {x y : Int} (h : InD s f x) (u : Up f x y) : InD s f y := by
  induction u with
  | refl x => exact h
  | step e _ ih => exact ih (I.up _ _ e).2.2.1
theorem Inv.tr (D : DfsOk E s R num par) (I : Inv E s R num par f) {x y : Int} (u : Up f x y) : Tr s R par x y := by
  induction u with
  | refl x => exact .refl x
  | step e _ ih =>
    have q := I.up _ _ e
    refine .step q.1 (fun e' => ?_) (q.2.2.2.trans ih)
    rw [e', I.root] at e; cases e
theorem Inv.toRoot (D : DfsOk E s R num par) (I : Inv E s R num par f) : ∀ (n : Nat) (x : Int), num s - num x ≤ n → InD s f x → Up f x s := by
  intro n
  induction n with
  | zero =>
    intro x h hx
    have : x = s := D.inj x s (I.isR D hx) D.rs (by have := D.max x (I.isR D hx); omega)
    rw [this]; exact .refl s
  | succ n ih =>
    intro x h hx
    rcases hx with rfl | hx
    · exact .refl _
    · obtain ⟨y, hy⟩ := Option.isSome_iff_exists.mp hx
      have q := I.up x y hy
      exact .step hy (ih y (by omega) q.2.2.1)
theorem Inv.root_up (D : DfsOk E s R num par) (I : Inv E s R num par f) {x : Int} (h : InD s f x) : Up f x s := I.toRoot D _ x (Nat.le_refl _) h

/-- one step of the meeting of two -/
theorem meet_left (D : DfsOk E s R num par) (I : Inv E s R num par f) {u v : Int} (hu : InD s f u) (hv : InD s f v) (h : num u < num v) :
    ∃ u', f u = some u' ∧ InD s f u' ∧ num u < num u' ∧ ∀ z, (Up f u z ∧ Up f v z) ↔ (Up f u' z ∧ Up f v z) := by
  have hs : u ≠ s := fun e => by have := D.max v (I.isR D hv); rw [e] at h; omega
  obtain ⟨u', e⟩ := Option.isSome_iff_exists.mp (hu.resolve_left hs)
  refine ⟨u', e, (I.up _ _ e).2.2.1, (I.up _ _ e).2.1, fun z => ⟨fun ⟨a, b⟩ => ⟨?_, b⟩, fun ⟨a, b⟩ => ⟨.step e a, b⟩⟩⟩
  rcases a.cases_ne e with q | q
  · have := b.numle I.nlt; rw [q] at this; omega
  · exact q

/-- the tree once u's place is set to d -/
def setF (f : Int → Option Int) (u d : Int) : Int → Option Int := fun x => if x = u then some d else f x
theorem setF_self {u d : Int} : setF f u d u = some d := if_pos rfl
theorem setF_ne {u d x : Int} (h : x ≠ u) : setF f u d x = f x := if_neg h
theorem setF_same {u d : Int} (h : f u = some d) : setF f u d = f := by
  funext x; unfold setF; split
  · next e => rw [e, h]
  · rfl
/-- the value that the step sets: the meeting of all that are told of -/
structure Meets (E : Int → Int → Prop) (s : Int) (f : Int → Option Int) (u d : Int) : Prop where
  inD : InD s f d
  iff : ∀ z, Up f d z ↔ ∀ v, E v u → InD s f v → Up f v z
theorem setF_high {num : Int → Nat} (hn : ∀ x y, f x = some y → num x < num y) {u d x z : Int} (h : num u < num x) : Up (setF f u d) x z ↔ Up f x z := by
  constructor
  · intro a
    induction a with
    | refl x => exact .refl x
    | @step x y z e t ih =>
      rw [setF_ne (fun e => by rw [e] at h; omega)] at e
      exact .step e (ih (by have := hn _ _ e; omega))
  · intro a
    induction a with
    | refl x => exact .refl x
    | @step x y z e t ih => exact .step (by rw [setF_ne (fun e => by rw [e] at h; omega)]; exact e) (ih (by have := hn _ _ e; omega))
theorem Inv.parD (D : DfsOk E s R num par) {b : Nat} {u : Int} (hM : Mp s R num par f b) (hb : ∀ a, R a → num u < num a → b ≤ num a) (hu : R u) (hs : u ≠ s) : InD s f (par u) := by
  by_cases e : par u = s
  · exact .inl e
  · have q := D.par u hu hs
    obtain ⟨d, hd, _⟩ := hM (par u) q.1 e (hb _ q.1 q.2.2)
    exact .inr (by rw [hd]; rfl)
/-- what stands above in the walk's tree is on the way up -/
theorem Mp.climb (D : DfsOk E s R num par) {b : Nat} {u : Int} (hM : Mp s R num par f b) (hb : ∀ a, R a → num u < num a → b ≤ num a) {a d₀ z : Int} (t : Tr s R par a d₀) (ha : num u < num a) (hz : Up f a z) (hn : ∀ x y, f x = some y → num x < num y) (h : num d₀ ≤ num z) (Rz : InD s f z → R z) (Rd : R d₀) (zD : InD s f z) : Up f d₀ z := by
  induction t with
  | refl x => exact hz
  | @step x d r hxs t ih =>
    have hp := D.par _ r hxs
    have hxd : num x < num d := by
      rcases t.nlt D with q | q
      · rw [← q]; exact hp.2.2
      · omega
    obtain ⟨y, hy, hup⟩ := hM x r hxs (hb _ r ha)
    rcases hz.cases_ne hy with q | q
    · rw [q] at h; omega
    · exact ih (by omega) (hup.trans q) h Rd
theorem step_new (D : DfsOk E s R num par) (I : Inv E s R num par f) {b : Nat} {u d : Int} (hM : Mp s R num par f b) (hb : ∀ a, R a → num u < num a → b ≤ num a) (hu : R u) (hs : u ≠ s) (h : Meets E s f u d) :
    num u < num d ∧ Up f (par u) d ∧ ∀ d₀, f u = some d₀ → Up f d₀ d := by
  have q := D.par u hu hs
  have hp : Up f (par u) d := (h.iff d).mp (.refl d) _ q.2.1 (Inv.parD D hM hb hu hs)
  refine ⟨by have := hp.numle I.nlt; omega, hp, fun d₀ e => ?_⟩
  have hl := I.low u d₀ e d ((h.iff d).mp (.refl d))
  exact Mp.climb D hM hb (I.up _ _ e).2.2.2 q.2.2 hp I.nlt hl (fun x => I.isR D x) (I.isR D (I.up _ _ e).2.2.1) h.inD
theorem setF_inD {u d x : Int} (h : InD s f x) : InD s (setF f u d) x := by
  rcases h with h | h
  · exact .inl h
  · by_cases e : x = u
    · rw [e]; exact .inr (by rw [setF_self]; rfl)
    · exact .inr (by rw [setF_ne e]; exact h)
theorem step_shrink (D : DfsOk E s R num par) (I : Inv E s R num par f) {b : Nat} {u d : Int} (hM : Mp s R num par f b) (hb : ∀ a, R a → num u < num a → b ≤ num a) (hu : R u) (hs : u ≠ s) (h : Meets E s f u d) {v z : Int} (hv : InD s f v) (a : Up (setF f u d) v z) : Up f v z := by
  have N := step_new D I hM hb hu hs h
  induction a with
  | refl x => exact .refl x
  | @step x y z e t ih =>
    by_cases q : x = u
    · subst q
      rw [setF_self] at e; cases e
      rcases hv with hv | hv
      · exact absurd hv hs
      · obtain ⟨d₀, hd₀⟩ := Option.isSome_iff_exists.mp hv
        exact .step hd₀ ((N.2.2 d₀ hd₀).trans (ih h.inD))
    · rw [setF_ne q] at e
      exact .step e (ih (I.up _ _ e).2.2.1)
/-- a node below u keeps the way to u -/
theorem setF_toU {u d x : Int} (a : Up f x u) : Up (setF f u d) x u := by
  induction a with
  | refl x => exact .refl x
  | @step x y z e t ih =>
    by_cases q : x = z
    · rw [q]; exact .refl _
    · exact .step (by rw [setF_ne q]; exact e) ih
theorem setF_notU {u d x z : Int} (a : Up f x z) (h : ¬ Up f x u) : Up (setF f u d) x z := by
  induction a with
  | refl x => exact .refl x
  | @step x y z e t ih =>
    have q : x ≠ u := fun q => h (by rw [q]; exact .refl u)
    exact .step (by rw [setF_ne q]; exact e) (ih fun k => h (.step e k))
theorem setF_belowU {u d x z : Int} {num : Int → Nat} (hn : ∀ x y, f x = some y → num x < num y) (a : Up f x z) (b : Up f z u) : Up (setF f u d) x z := by
  induction a with
  | refl x => exact .refl x
  | @step x y z e t ih =>
    by_cases q : x = u
    · subst q
      have h1 : num x < num x := by have := hn _ _ e; have := t.numle hn; have := b.numle hn; omega
      omega
    · exact .step (by rw [setF_ne q]; exact e) (ih b)
/-- the step keeps the state sound -/
theorem Inv.set (D : DfsOk E s R num par) (I : Inv E s R num par f) {b : Nat} {u d : Int} (hM : Mp s R num par f b) (hb : ∀ a, R a → num u < num a → b ≤ num a) (hu : R u) (hs : u ≠ s) (h : Meets E s f u d) : Inv E s R num par (setF f u d) := by
  have N := step_new D I hM hb hu hs h
  have q := D.par u hu hs
  have domu : ∀ w, R w → ¬ Avoid E s w u → Up (setF f u d) u w := by
    intro w hw ha
    by_cases e : w = u
    · rw [e]; exact .refl u
    · refine .step setF_self ((setF_high I.nlt N.1).mpr ((h.iff w).mpr fun v ev hv => I.dom v hv w hw fun av => ha (.step av ev fun e' => e e'.symm)))
  refine ⟨?_, fun x y e => ?_, fun x hx w hw ha => ?_, fun x y e z hz => ?_⟩
  · rw [setF_ne fun e => hs e.symm]; exact I.root
  · by_cases ex : x = u
    · subst ex
      rw [setF_self] at e; cases e
      exact ⟨hu, N.1, setF_inD h.inD, I.tr D N.2.1⟩
    · rw [setF_ne ex] at e
      have z := I.up x y e
      exact ⟨z.1, z.2.1, setF_inD z.2.2.1, z.2.2.2⟩
  · by_cases ex : x = u
    · subst ex; exact domu w hw ha
    · have hx' : InD s f x := by
        rcases hx with hx | hx
        · exact .inl hx
        · rw [setF_ne ex] at hx; exact .inr hx
      have hxw := I.dom x hx' w hw ha
      by_cases hxu : Up f x u
      · rcases hxw.lin hxu with k | k
        · exact setF_belowU I.nlt hxw k
        · rcases k.num I.nlt with k' | k'
          · rw [← k']; exact setF_toU hxu
          · refine (setF_toU hxu).trans (domu w hw fun av => ha ?_)
            exact (I.tr D hxu).avoid D av k'
      · exact setF_notU hxw hxu
  · have hz' : ∀ v, E v x → InD s f v → Up f v z := fun v ev hv => step_shrink D I hM hb hu hs h hv (hz v ev (setF_inD hv))
    by_cases ex : x = u
    · subst ex
      rw [setF_self] at e; cases e
      exact ((h.iff z).mpr hz').numle I.nlt
    · rw [setF_ne ex] at e
      exact I.low x y e z hz'
theorem Mp.set (D : DfsOk E s R num par) (I : Inv E s R num par f) {b : Nat} {u d : Int} (hM : Mp s R num par f b) (hb : ∀ a, R a → num u < num a → b ≤ num a) (hu : R u) (hs : u ≠ s) (h : Meets E s f u d) : Mp s R num par (setF f u d) (num u) := by
  have N := step_new D I hM hb hu hs h
  have q := D.par u hu hs
  intro a ha has hab
  by_cases e : a = u
  · subst e
    exact ⟨d, setF_self, (setF_high I.nlt q.2.2).mpr N.2.1⟩
  · have hlt : num u < num a := by
      rcases Nat.lt_or_ge (num u) (num a) with k | k
      · exact k
      · exact absurd (D.inj a u ha hu (by omega)) e
    obtain ⟨y, hy, hyu⟩ := hM a ha has (hb a ha hlt)
    exact ⟨y, by rw [setF_ne e]; exact hy, (setF_high I.nlt (by have := (D.par a ha has).2.2; omega)).mpr hyu⟩
/-- the step does not change u's place, or raises it -/
theorem step_gain (D : DfsOk E s R num par) (I : Inv E s R num par f) {b : Nat} {u d : Int} (hM : Mp s R num par f b) (hb : ∀ a, R a → num u < num a → b ≤ num a) (hu : R u) (hs : u ≠ s) (h : Meets E s f u d) {d₀ : Int} (e : f u = some d₀) (hne : d₀ ≠ d) : num d₀ < num d := by
  rcases ((step_new D I hM hb hu hs h).2.2 d₀ e).num I.nlt with k | k
  · exact absurd k hne
  · exact k
theorem Inv.init (D : DfsOk E s R num par) : Inv E s R num par fun _ => none where
  root := rfl
  up := fun _ _ h => by cases h
  dom := fun x hx w hw ha => by
    rcases hx with rfl | hx
    · by_cases e : x = w
      · rw [e]; exact .refl w
      · exact absurd (.start e) ha
    · cases hx
  low := fun _ _ h => by cases h
theorem Mp.init (D : DfsOk E s R num par) : Mp s R num par f (num s) := fun a ha has h =>
  absurd (D.inj a s ha D.rs (by have := D.max a ha; omega)) has
/-- where nothing changes any more, the ways up are the dominators -/
theorem fix_dom (D : DfsOk E s R num par) (I : Inv E s R num par f) (h : ∀ u, R u → u ≠ s → ∃ d, f u = some d ∧ Meets E s f u d) {x w : Int} (hx : R x) (hw : R w) : Up f x w ↔ ¬ Avoid E s w x := by
  have inD : ∀ x, R x → InD s f x := fun x hx => by
    by_cases e : x = s
    · exact .inl e
    · obtain ⟨d, hd, _⟩ := h x hx e
      exact .inr (by rw [hd]; rfl)
  refine ⟨fun a b => ?_, fun ha => I.dom x (inD x hx) w hw ha⟩
  induction b with
  | start hne => exact hne (a.none I.root).symm
  | @step x y b e hne ih =>
    have hR := Avoid.isR D b
    by_cases hy : y = s
    · subst hy; exact hne (a.none I.root).symm
    · obtain ⟨d, hd, hm⟩ := h y hx hy
      rcases a.cases_ne hd with q | q
      · exact hne q.symm
      · exact ih hR ((hm.iff w).mp q x e (inD x hR))
end
end Mine
end
section
set_option autoImplicit false
set_option linter.unusedVariables false
namespace Mine
section
variable {succ : Int → List Int} {s : Int} {E : List DE}
def postQ (s : Int) (E : List DE) : List Int := postsD E ++ [s]
theorem dfs_facts (h : DRun succ [s] [(s, 0)] E) : DFacts succ [s] [(s, 0)] E s := by
  obtain ⟨m, F⟩ := h.facts (by simp) (fun x hx => hx) (by simp)
  have := F.last
  simp [stk] at this
  subst this
  exact F
theorem Bef.left {Q : List Int} {a b : Int} (h : Bef Q a b) : a ∈ Q := h.subset (by simp)
theorem Bef.right {Q : List Int} {a b : Int} (h : Bef Q a b) : b ∈ Q := h.subset (by simp)
theorem postQ_mem (h : DRun succ [s] [(s, 0)] E) {x : Int} : x ∈ postQ s E ↔ x = s ∨ x ∈ (fwdsD E).map (·.2) := by
  rw [postQ, (dfs_facts h).perm.mem_iff]
  simp [stk, or_comm]
theorem postQ_nd (h : DRun succ [s] [(s, 0)] E) : (postQ s E).Nodup := by
  have F := dfs_facts h
  rw [postQ, F.perm.nodup_iff, List.nodup_append]
  refine ⟨F.ndF, by simp [stk], fun x hx y hy e => ?_⟩
  simp [stk] at hy
  exact F.newF x hx (by rw [e, hy]; simp)
theorem postQ_cl (h : DRun succ [s] [(s, 0)] E) {x y : Int} (hx : x ∈ postQ s E) (hy : y ∈ succ x) : y ∈ postQ s E := by
  have F := dfs_facts h
  rw [postQ_mem h] at hx ⊢
  rcases hx with rfl | hx
  · rcases F.clS (x, 0) (by simp) y (by simpa using hy) with k | k
    · exact .inl (List.mem_singleton.mp k)
    · exact .inr k
  · rcases F.clF x hx y hy with k | k
    · exact .inl (List.mem_singleton.mp k)
    · exact .inr k
open Classical in
noncomputable def parD (E : List DE) (x : Int) : Int := if h : ∃ u, (u, x) ∈ fwdsD E then h.choose else 0
theorem parD_mem {x : Int} (h : x ∈ (fwdsD E).map (·.2)) : (parD E x, x) ∈ fwdsD E := by
  obtain ⟨⟨u, v⟩, hm, rfl⟩ := List.mem_map.mp h
  have hx : ∃ u, (u, v) ∈ fwdsD E := ⟨u, hm⟩
  unfold parD
  rw [dif_pos hx]
  exact hx.choose_spec
theorem idxOf_le_last : ∀ (P : List Int) {x : Int}, x ∈ P ++ [s] → (P ++ [s]).Nodup → (P ++ [s]).idxOf x ≤ (P ++ [s]).idxOf s
  | [], x, h, _ => by simp at h; rw [h]; exact Nat.le_refl _
  | p :: P, x, h, nd => by
    have nd' := List.nodup_cons.mp (show (p :: (P ++ [s])).Nodup from nd)
    by_cases e : p = x
    · subst e; show (p :: (P ++ [s])).idxOf p ≤ _; rw [List.idxOf_cons_self]; exact Nat.zero_le _
    · show (p :: (P ++ [s])).idxOf x ≤ (p :: (P ++ [s])).idxOf s
      have es : p ≠ s := fun e => nd'.1 (by rw [e]; simp)
      rw [idx_ne e, idx_ne es]
      refine Nat.succ_le_succ (idxOf_le_last P ?_ nd'.2)
      rcases List.mem_cons.mp (show x ∈ p :: (P ++ [s]) from h) with k | k
      · exact absurd k.symm e
      · exact k
theorem idxOf_get : ∀ {Q : List Int} {x : Int}, x ∈ Q → Q[Q.idxOf x]? = some x
  | q :: Q, x, h => by
    by_cases e : q = x
    · subst e; rw [List.idxOf_cons_self]; rfl
    · rw [idx_ne e, List.getElem?_cons_succ]
      exact idxOf_get ((List.mem_cons.mp h).resolve_left fun k => e k.symm)
theorem idxOf_inj {Q : List Int} {x y : Int} (hx : x ∈ Q) (hy : y ∈ Q) (h : Q.idxOf x = Q.idxOf y) : x = y := by
  have h1 := idxOf_get hx
  rw [h, idxOf_get hy] at h1
  cases h1; rfl
theorem dfsOk (h : DRun succ [s] [(s, 0)] E) : DfsOk (fun x y => y ∈ succ x) s (· ∈ postQ s E) ((postQ s E).idxOf ·) (parD E) where
  rs := by simp [postQ]
  cl := fun x y hx hy => postQ_cl h hx hy
  par := fun x hx hs => by
    have F := dfs_facts h
    have hm := parD_mem (((postQ_mem h).mp hx).resolve_left hs)
    have q := F.par _ hm
    exact ⟨Bef.right q.2, q.1, Bef.idx q.2 (postQ_nd h)⟩
  inj := fun x y hx hy e => idxOf_inj hx hy e
  max := fun x hx => idxOf_le_last _ hx (postQ_nd h)
/-- what the walk meets is what is reached -/
theorem dfs_up {R : Int → Prop} {X : Int → Int → Prop} {num : Int → Nat} {par : Int → Int} (D : DfsOk X s R num par) {P : Int → Prop} (h0 : P s) (h1 : ∀ x, R x → x ≠ s → P (par x) → P x) : ∀ (n : Nat) (x : Int), R x → num s - num x ≤ n → P x := by
  intro n
  induction n with
  | zero =>
    intro x hx hn
    have := D.inj x s hx D.rs (by have := D.max x hx; omega)
    rw [this]; exact h0
  | succ n ih =>
    intro x hx hn
    by_cases e : x = s
    · rw [e]; exact h0
    · have q := D.par x hx e
      have := D.max _ q.1
      exact h1 x hx e (ih _ q.1 (by omega))
theorem postQ_reach {names : List Int} (hcl : ∀ u ∈ names, ∀ c ∈ succ u, c ∈ names) (hs : s ∈ names) (h : DRun succ [s] [(s, 0)] E) {x : Int} : x ∈ postQ s E ↔ Reach succ (· ∈ names) s x := by
  constructor
  · intro hx
    exact dfs_up (P := fun x => Reach succ (· ∈ names) s x) (dfsOk h) (.refl hs) (fun x hx e ih => .step ih ((dfsOk h).par x hx e).2.1 (hcl _ ih.ok _ ((dfsOk h).par x hx e).2.1)) _ x hx (Nat.le_refl _)
  · intro hx
    induction hx with
    | refl _ => simp [postQ]
    | step _ hc _ ih => exact postQ_cl h ih hc
theorem dfs_exist {names : List Int} (hcl : ∀ u ∈ names, ∀ c ∈ succ u, c ∈ names) (hs : s ∈ names) : ∃ E, DRun succ [s] [(s, 0)] E :=
  DRun.exist hcl _ _ [s] [(s, 0)] (by simp) (by simp) (by simpa using hs) (by simpa [stk] using hs) (Nat.le_refl _) (Nat.le_refl _)
end
end Mine
end
section
set_option maxRecDepth 100000
open PySem PySem.Calls PyProof.Rows PySem.W PySem.Spec
namespace Mine
def treeKv (t : List (Int × Int)) : List (Int × Value) := t.map fun p => (p.1, iv p.2)
def look (t : List (Int × Int)) (k : Int) : Option Int := (t.find? fun p => p.1 = k).map (·.2)
theorem valueAt_treeKv (t : List (Int × Int)) (k : Int) : valueAt (treeKv t) k = (look t k).map iv := by
  unfold valueAt treeKv look
  rw [List.find?_map, Option.map_map, Option.map_map]
  rfl
def chain (f : Int → Option Int) : Nat → Int → List Int
  | 0, x => [x]
  | n + 1, x => match f x with
    | none => [x]
    | some y => x :: chain f n y
theorem look_isSome {t : List (Int × Int)} {k : Int} : (look t k).isSome = true ↔ k ∈ t.map (·.1) := by
  unfold look
  rw [Option.isSome_map, List.find?_isSome]
  constructor
  · rintro ⟨x, h1, h2⟩; exact List.mem_map.mpr ⟨x, h1, by simpa using h2⟩
  · intro h; obtain ⟨x, h1, h2⟩ := List.mem_map.mp h; exact ⟨x, h1, by simpa using h2⟩
theorem look_mem {t : List (Int × Int)} {k d : Int} (h : look t k = some d) : (k, d) ∈ t := by
  unfold look at h
  cases q : t.find? fun p => p.1 = k with
  | none => rw [q] at h; cases h
  | some p =>
    rw [q] at h; cases h
    have h1 := List.mem_of_find?_eq_some q
    have h2 := List.find?_some q
    simp only [decide_eq_true_eq] at h2
    rw [← h2]; exact h1
/-- the tree with u's place set -/
def setT (t : List (Int × Int)) (u d : Int) : List (Int × Int) :=
  if t.any (fun p => p.1 = u) then t.map (fun p => if p.1 = u then (p.1, d) else p) else t ++ [(u, d)]
theorem look_setT (t : List (Int × Int)) (u d : Int) : look (setT t u d) = setF (look t) u d := by
  funext x
  unfold setT setF
  split
  · next h =>
    unfold look
    induction t with
    | nil => simp at h
    | cons p t ih =>
      simp only [List.map_cons, List.find?_cons, List.any_cons, Bool.or_eq_true, decide_eq_true_eq] at h ⊢
      by_cases hp : p.1 = u
      · rw [if_pos hp]
        by_cases hx : x = u
        · have e1 : (decide (p.1 = x)) = true := by simp [hp, hx]
          simp [hx, hp]
        · have e1 : ¬ (p.1 = x) := fun e => hx (e ▸ hp)
          simp only [e1, decide_false, hx, if_false]
          by_cases ht : t.any (fun p => p.1 = u) = true
          · have := ih (by simpa using ht)
            simp only [hx, if_false] at this
            exact this
          · have hid : t.map (fun p => if p.1 = u then (p.1, d) else p) = t := by
              conv => rhs; rw [← List.map_id t]
              refine List.map_congr_left fun q hq => ?_
              rw [if_neg (fun e => ht (List.any_eq_true.mpr ⟨q, hq, by simpa using e⟩))]; rfl
            rw [hid]
      · rw [if_neg hp]
        have ht := h.resolve_left hp
        have := ih (by simpa using ht)
        by_cases hpx : p.1 = x
        · have hx : x ≠ u := fun e => hp (hpx.trans e)
          simp [hpx, hx]
        · simp only [hpx, decide_false]
          exact this
  · next h =>
    unfold look
    rw [List.find?_append]
    by_cases hx : x = u
    · subst hx
      have : t.find? (fun p => decide (p.1 = x)) = none := by
        rw [List.find?_eq_none]
        intro q hq e
        exact h (List.any_eq_true.mpr ⟨q, hq, e⟩)
      simp [this]
    · have : ¬ (u = x) := fun e => hx e.symm
      simp [this, hx]
theorem setT_keys {t : List (Int × Int)} {u d : Int} (h : (t.map (·.1)).Nodup) : ((setT t u d).map (·.1)).Nodup := by
  unfold setT
  split
  · rw [List.map_map]
    have : ((fun p : Int × Int => p.1) ∘ fun p => if p.1 = u then (p.1, d) else p) = fun p => p.1 := by
      funext p; simp only [Function.comp]; split <;> rfl
    rw [this]; exact h
  · next hn =>
    rw [List.map_append, List.nodup_append]
    refine ⟨h, by simp, fun x hx y hy e => ?_⟩
    simp only [List.map_cons, List.map_nil, List.mem_singleton] at hy
    subst hy
    obtain ⟨q, hq, rfl⟩ := List.mem_map.mp hx
    exact hn (List.any_eq_true.mpr ⟨q, hq, by simpa using e⟩)
def idomKv (s : Int) (t : List (Int × Int)) : List (Int × Value) := (s, .none) :: treeKv t
theorem valueAt_idomKv {s : Int} {t : List (Int × Int)} {k : Int} : valueAt (idomKv s t) k = if k = s then some .none else (look t k).map iv := by
  rw [← valueAt_treeKv]
  unfold valueAt idomKv
  rw [List.find?_cons]
  by_cases h : k = s
  · simp [h]
  · have : ¬ (s = k) := fun e => h e.symm
    simp [this, h]
theorem stored_idomKv {s : Int} {t : List (Int × Int)} {u d : Int} (h : u ≠ s) : stored (idomKv s t) u (iv d) = idomKv s (setT t u d) := by
  have hs : ¬ (s = u) := fun e => h e.symm
  unfold stored idomKv setT
  have e1 : (treeKv t).any (fun kv => decide (kv.1 = u)) = t.any (fun p => decide (p.1 = u)) := by
    unfold treeKv; rw [List.any_map]; rfl
  simp only [List.any_cons, hs, decide_false, Bool.false_or, e1, List.map_cons, if_false]
  split
  · congr 1
    unfold treeKv
    rw [List.map_map, List.map_map]
    refine List.map_congr_left fun p _ => ?_
    simp only [Function.comp]
    split <;> rfl
  · simp [treeKv]
theorem without_idomKv {s : Int} {t : List (Int × Int)} (h : look t s = none) : without (idomKv s t) s = treeKv t := by
  unfold without idomKv
  simp only [List.filter_cons, ne_eq, not_true, decide_false, Bool.false_eq_true, if_false]
  rw [List.filter_eq_self]
  intro p hp
  obtain ⟨q, hq, rfl⟩ := List.mem_map.mp hp
  have : q.1 ≠ s := fun e => by
    have : (look t s).isSome = true := look_isSome.mpr (List.mem_map.mpr ⟨q, hq, e⟩)
    rw [h] at this; cases this
  simpa using this
/-- each with its place in the list -/
def dfnKv (Q : List Int) : List (Int × Value) := Q.zipIdx.map fun p => (p.1, iv p.2)
theorem valueAt_zip : ∀ (Q : List Int) (n : Nat) (k : Int), k ∈ Q → valueAt ((Q.zipIdx n).map fun p => (p.1, iv p.2)) k = some (iv (n + Q.idxOf k : Nat))
  | q :: Q, n, k, h => by
    rw [List.zipIdx_cons, List.map_cons]
    unfold valueAt
    rw [List.find?_cons]
    by_cases e : q = k
    · subst e; simp
    · have hk := (List.mem_cons.mp h).resolve_left fun z => e z.symm
      have := valueAt_zip Q (n + 1) k hk
      unfold valueAt at this
      simp only [e, decide_false]
      rw [this, idx_ne e]
      congr 3; omega
theorem valueAt_dfnKv {Q : List Int} {k : Int} (h : k ∈ Q) : valueAt (dfnKv Q) k = some (iv (Q.idxOf k : Nat)) := by
  have := valueAt_zip Q 0 k h
  simpa [dfnKv] using this
theorem dfnKv_take {Q : List Int} {i : Nat} {q : Int} (nd : Q.Nodup) (h : Q[i]? = some q) : dfnKv (Q.take (i + 1)) = stored (dfnKv (Q.take i)) q (iv i) := by
  have hi : i < Q.length := (List.getElem?_eq_some_iff.mp h).1
  have hn : q ∉ Q.take i := by
    intro hm
    obtain ⟨j, hj, e⟩ := List.mem_iff_getElem.mp hm
    rw [List.getElem_take] at e
    have hji : j < i := by
      have := hj
      rw [List.length_take] at this
      omega
    have : Q[i] = q := (List.getElem?_eq_some_iff.mp h).2
    exact absurd ((List.getElem_inj nd).mp (e.trans this.symm)) (by omega)
  have ha : (dfnKv (Q.take i)).any (fun kv => decide (kv.1 = q)) = false := by
    rw [List.any_eq_false]
    intro p hp hq
    obtain ⟨⟨x, m⟩, hm, rfl⟩ := List.mem_map.mp hp
    have : x ∈ Q.take i := (List.mem_zipIdx' hm).2 ▸ List.getElem_mem _
    simp only [decide_eq_true_eq] at hq
    exact hn (hq ▸ this)
  unfold stored
  rw [ha, List.take_add_one, h]
  simp only [Bool.false_eq_true, if_false, Option.toList_some]
  unfold dfnKv
  rw [List.zipIdx_append, List.map_append]
  simp [Nat.min_eq_left (Nat.le_of_lt hi)]
/-- what is left to gain -/
def gap (num : Int → Nat) (N : Nat) : Option Int → Nat
  | none => N + 1
  | some d => N - num d
def mu (num : Int → Nat) (N : Nat) (f : Int → Option Int) (ord : List Int) : Nat := (ord.map fun u => gap num N (f u)).sum
theorem mu_same {num : Int → Nat} {N : Nat} {f g : Int → Option Int} {ord : List Int} (h : ∀ x ∈ ord, f x = g x) : mu num N f ord = mu num N g ord := by
  unfold mu
  rw [List.map_congr_left fun x hx => by rw [h x hx]]
theorem mu_lt {num : Int → Nat} {N : Nat} {f : Int → Option Int} {u d : Int} : ∀ {ord : List Int}, u ∈ ord → ord.Nodup → gap num N (some d) < gap num N (f u) → mu num N (setF f u d) ord < mu num N f ord
  | x :: ord, hu, nd, h => by
    rw [List.nodup_cons] at nd
    show gap num N (setF f u d x) + mu num N (setF f u d) ord < gap num N (f x) + mu num N f ord
    rcases List.mem_cons.mp hu with rfl | hu
    · rw [setF_self, mu_same (f := setF f u d) (g := f) fun y hy => setF_ne fun e => nd.1 (by rw [← e]; exact hy)]
      omega
    · have := mu_lt hu nd.2 h
      rw [setF_ne (x := x) fun e => nd.1 (by rw [e]; exact hu)]
      omega
end Mine
end
section
set_option maxRecDepth 100000
open PySem PySem.Calls PyProof.Rows PySem.W PySem.Spec
namespace Mine
section
variable {prog : Program} {w : World} {B : Bs} {A : Around} {own : Own} {gs : Array GenState} {env : Env} {K : Frag} {p : Program} {loose : List Str} {mg mb : Str → Option Value} {Q : QV}
theorem AD.at {kvs : List (Int × Value)} {h : Heap} {d : Addr} {o : Obj} (ho : h.get? d = some o) (x : AD prog w kvs o) : ∃ kvs', h.DictOf (intKind prog w) d kvs' ∧ kvs'.map (fun p => (p.1, er p.2)) = kvs := by
  obtain ⟨ep, x⟩ := x
  obtain ⟨kvs', h1, h2⟩ := ADict.at ho x
  exact ⟨kvs', h1.dictOf, h2⟩
theorem AD.not_sys {kvs : List (Int × Value)} {h : Heap} {d : Addr} {o : Obj} (ho : h.get? d = some o) (x : AD prog w kvs o) (hs : sysObs h = true) : (d == sysModules) = false := by
  obtain ⟨ep, x⟩ := x
  exact ADict.not_sys ho x hs
/-- dict(d) -/
theorem Call_dictCopy (T : TopB K p loose mg mb B) {d : Addr} {kvs : List (Int × Value)} (hd : Has B own d (AD prog w kvs)) (hl : kvs.length ≤ 1000000) (h : ∀ d', Q (.ref d') ((d', AD prog w kvs) :: own) gs) : CallJ prog w B A (.type "dict") [.ref d] own gs Q := fun us hus s R => by
  obtain ⟨u, rfl, hu⟩ := er1 hus
  rw [er_eq_ref hu]
  obtain ⟨o, ho, x⟩ := R.get hd
  have hn := x.not_sys ho (T _ R.b).2.2
  obtain ⟨kvs', hD, rfl⟩ := x.at ho
  refine kt_call_dict hn hD (by rw [List.length_map] at hl; rw [sizeLine_eq]; omega) fun h' hD' hsb => ?_
  obtain ⟨ep', o', ho', x'⟩ := ADict.of hD'
  refine ⟨_, gs, R.new (a := s.heap.objs.size) (p := AD prog w (kvs'.map fun (p : Int × Value) => (p.1, er p.2))) (tk := s.toks) (fun b o hb e => hsb.extBut b o hb (Heap.get?_push_of_some _ e)) (get?_size _) ⟨o', ho', ep', x'⟩, h s.heap.objs.size⟩
theorem intsAre_er : ∀ {vs : List Value} {ns : List Int}, vs.map er = ns.map iv → IntsAre vs ns
  | [], [], _ => .nil
  | v :: vs, n :: ns, h => by
    simp only [List.map_cons, List.cons.injEq] at h
    obtain ⟨t, rfl⟩ := er_eq_int h.1
    exact .cons n t (intsAre_er h.2)
  | [], _ :: _, h => by simp at h
  | _ :: _, [], h => by simp at h
theorem er_intsAre {vs : List Value} {ns : List Int} (h : IntsAre vs ns) : vs.map er = ns.map iv := by
  induction h with
  | nil => rfl
  | cons n t _ ih => simp [ih]
/-- sorted of a list of ints -/
theorem Call_sortedList {l : Addr} {ns : List Int} (hd : Has B own l (AList (ns.map iv))) (hl : ns.length < 64)
    (h : ∀ (a : Addr) (ms : List Int), ms.Perm ns → ms.Pairwise (· ≤ ·) → Q (.ref a) ((a, AList (ms.map iv)) :: own) gs) : CallJ prog w B A (.builtin "sorted") [.ref l] own gs Q := fun us hus s R => by
  obtain ⟨u, rfl, hu⟩ := er1 hus
  rw [er_eq_ref hu]
  obtain ⟨o, ho, x⟩ := R.get hd
  obtain ⟨its, hL, hits⟩ := AList.isList ho x
  have hlen : its.toList.length < 64 := by
    have := congrArg List.length hits
    simp only [List.length_map] at this
    omega
  refine sorted_ints (vs := its.toList) (ns := ns) hL (intsAre_er hits) hlen fun out ns' a1 a2 a3 => ?_
  obtain ⟨e, he⟩ := sortedAll_at s.heap its.toList out
  have hfr : s.heap.get? (s.heap.objs.size + 1) = none := by
    cases q : s.heap.get? (s.heap.objs.size + 1) with
    | none => rfl
    | some o => exact absurd (Heap.lt_size q) (Nat.not_lt_of_le (Nat.le_succ _))
  exact ⟨_, gs, R.new (a := s.heap.objs.size + 1) (p := AList (ns'.map iv)) (tk := s.toks) (fun b o hb e => sortedAll_old e) hfr ⟨_, he, out, e, rfl, er_intsAre a1⟩, h _ ns' a2 a3⟩
/-- sorted of a dict with int keys -/
theorem Call_sortedDict (T : TopB K p loose mg mb B) (hh : A.handled = none) {d : Addr} {kvs : List (Int × Value)} (hd : Has B own d (AD prog w kvs)) (hl : kvs.length < 64)
    (h : ∀ (a : Addr) (ms : List Int), ms.Perm (kvs.map (·.1)) → ms.Pairwise (· ≤ ·) → Q (.ref a) ((a, AList (ms.map iv)) :: own) gs) : CallJ prog w B A (.builtin "sorted") [.ref d] own gs Q := fun us hus s R => by
  obtain ⟨u, rfl, hu⟩ := er1 hus
  rw [er_eq_ref hu]
  obtain ⟨o, ho, x⟩ := R.get hd
  have hn := x.not_sys ho (T _ R.b).2.2
  obtain ⟨ep, x⟩ := x
  obtain ⟨kvs', hD, rfl⟩ := ADict.at ho x
  rw [List.length_map] at hl
  refine Calls.call_function_entry kind_sorted plain_sorted entry_sorted (args_sorted1 _) ?_
  unfold Builtin.«sorted»
  refine wpAny_bind (m := checkCount "sorted" 1 1 _) (wpAny_pure ?_)
  refine wpAny_bind (kdu_collect (A := A.in1) (kdl_dict hn) hh hD (by rw [sizeLine_eq]; omega) fun h' tk acc hk hacc => ?_)
  have hal : acc.toList.length = kvs'.length := by rw [Array.length_toList]; exact hacc.1
  have her : acc.toList.map er = (kvs'.map (·.1)).map iv := by
    apply List.ext_getElem?
    intro j
    rw [List.getElem?_map, List.getElem?_map, List.getElem?_map]
    cases q : acc.toList[j]? with
    | none =>
      have h1 := List.getElem?_eq_none_iff.mp q
      rw [List.getElem?_eq_none_iff.mpr (show kvs'.length ≤ j by omega)]
      rfl
    | some v =>
      obtain ⟨k, y, hy, hi⟩ := hacc.2 j v (by rw [← Array.getElem?_toList]; exact q)
      rw [hy]
      cases v with
      | int n t =>
        have : n = k := by simpa [intKind, Value.isInt] using hi
        subst this; rfl
      | _ => simp [intKind, Value.isInt] at hi
  refine wpAny_bind (wpAny_newList ?_ (by rw [hal, sizeLine_eq]; omega))
  have hoL : (h'.push { cls := .type "list", data := .seq acc.toList.toArray }).get? h'.objs.size = some (seqObj "list" acc.toList.toArray 0) := Heap.get?_push_size _ rfl
  have hfr : s.heap.get? h'.objs.size = none := by
    cases q : s.heap.get? h'.objs.size with
    | none => rfl
    | some o => exact absurd (Heap.lt_size (hk _ _ q)) (Nat.lt_irrefl _)
  refine wpAny_bind (wpAny_holding (wpAny_call_entry slot_list_sort ⟨_, hoL, rfl⟩ entry_list_sort (list_sort_tree hoL (intsAre_er her) (by omega) fun out ns' a1 a2 a3 => ⟨_, rfl, ?_⟩) (args_list_sort _)))
  obtain ⟨e, he⟩ := sortedHeap_at (out := out) hoL
  refine wpAny_pure ⟨_, rfl, _, gs, R.new (a := h'.objs.size) (p := AList (ns'.map iv)) (tk := tk) (fun b o hb e => ?_) hfr ⟨_, he, out, e, rfl, er_intsAre a1⟩, ?_⟩
  · rw [sortedHeap_old hb (Nat.lt_of_lt_of_le (Heap.lt_size (hk _ _ e)) (by rw [size_push']; exact Nat.le_succ _))]
    exact Heap.get?_push_of_some _ (hk _ _ e)
  · refine h _ ns' ?_ a3
    rw [List.map_map]
    exact a2
theorem keqHits_ints {A : Around} {s : Shared} {kb' : List (Int × Value)} {kb : List (Int × Int)} (hb : kb'.map (fun p => (p.1, er p.2)) = treeKv kb) : ∀ {ka' : List (Int × Value)} {ka : List (Int × Int)}, ka'.map (fun p => (p.1, er p.2)) = treeKv ka →
    KeqHits A s kb' ka' (ka.all fun p => look kb p.1 == some p.2)
  | [], [], _ => .nil
  | (k, v) :: ka', (k2, n) :: ka, h => by
    simp only [treeKv, List.map_cons, List.cons.injEq, Prod.mk.injEq] at h
    obtain ⟨⟨rfl, hv⟩, ht⟩ := h
    obtain ⟨t, rfl⟩ := er_eq_int hv
    have hva : (valueAt kb' k).map er = (look kb k).map iv := by rw [← valueAt_er, hb, valueAt_treeKv]
    rw [List.all_cons]
    cases q : valueAt kb' k with
    | none =>
      rw [q] at hva
      have : look kb k = none := by simpa using hva.symm
      rw [this]
      have hf : ((none : Option Int) == some n) = false := rfl
      simp only [hf, Bool.false_and]
      exact .miss q
    | some y =>
      rw [q] at hva
      obtain ⟨m, hm⟩ : ∃ m, look kb k = some m := by
        cases z : look kb k with
        | none => rw [z] at hva; cases hva
        | some m => exact ⟨m, rfl⟩
      rw [hm] at hva ⊢
      obtain ⟨u, rfl⟩ := er_eq_int (by simpa using hva : er y = iv m)
      have e : (some m == some n) = (n == m) := by
        by_cases hnm : n = m
        · subst hnm; simp
        · have : ¬ (m = n) := fun z => hnm z.symm
          show (m == n) = (n == m)
          rw [beq_eq_false_iff_ne.mpr this, beq_eq_false_iff_ne.mpr hnm]
      rw [e]
      exact .hit q (SeqAt.EqAt.int_int n t m u) (keqHits_ints hb ht)
  | [], _ :: _, h => by simp [treeKv] at h
  | _ :: _, [], h => by simp [treeKv] at h
/-- two dicts from ints to ints -/
theorem Cmp_eqDicts {n : Nat} (T : TopB K p loose mg mb B) (hA : AOk B A n) {a b : Addr} {ka kb : List (Int × Int)} (ha : Has B own a (AD prog w (treeKv ka))) (hb : Has B own b (AD prog w (treeKv kb)))
    (h : Q (.bool (ka.length == kb.length && ka.all fun p => look kb p.1 == some p.2)) own gs) : CmpJ prog w B A .Eq (.ref a) (.ref b) own gs Q := fun u v hu hv s R => by
  rw [er_eq_ref hu, er_eq_ref hv]
  obtain ⟨oa, hoa, xa⟩ := R.get ha
  obtain ⟨ob, hob, xb⟩ := R.get hb
  have hna := xa.not_sys hoa (T _ R.b).2.2
  have hnb := xb.not_sys hob (T _ R.b).2.2
  obtain ⟨ka', hDa, ea⟩ := xa.at hoa
  obtain ⟨kb', hDb, eb⟩ := xb.at hob
  have la : ka'.length = ka.length := by have := congrArg List.length ea; simpa [treeKv] using this
  have lb : kb'.length = kb.length := by have := congrArg List.length eb; simpa [treeKv] using this
  refine keq_eq (knd := intKind prog w) hna hnb hDa hDb hA.units (fun _ => keqHits_ints eb ea) ?_
  rw [la, lb]
  exact ⟨own, gs, R, h⟩
theorem Cmp_neDicts {n : Nat} (T : TopB K p loose mg mb B) (hA : AOk B A n) {a b : Addr} {ka kb : List (Int × Int)} (ha : Has B own a (AD prog w (treeKv ka))) (hb : Has B own b (AD prog w (treeKv kb)))
    (h : Q (.bool (!(ka.length == kb.length && ka.all fun p => look kb p.1 == some p.2))) own gs) : CmpJ prog w B A .NotEq (.ref a) (.ref b) own gs Q := fun u v hu hv s R => by
  rw [er_eq_ref hu, er_eq_ref hv]
  obtain ⟨oa, hoa, xa⟩ := R.get ha
  obtain ⟨ob, hob, xb⟩ := R.get hb
  have hna := xa.not_sys hoa (T _ R.b).2.2
  have hnb := xb.not_sys hob (T _ R.b).2.2
  obtain ⟨ka', hDa, ea⟩ := xa.at hoa
  obtain ⟨kb', hDb, eb⟩ := xb.at hob
  have la : ka'.length = ka.length := by have := congrArg List.length ea; simpa [treeKv] using this
  have lb : kb'.length = kb.length := by have := congrArg List.length eb; simpa [treeKv] using this
  refine keq_ne (knd := intKind prog w) hna hnb hDa hDb hA.units (fun _ => keqHits_ints eb ea) ?_
  rw [la, lb]
  exact ⟨own, gs, R, h⟩
end
end Mine
end
section
set_option maxRecDepth 100000
open PySem PySem.Calls PyProof.Rows PySem.W PySem.Spec
namespace Mine
/-- an exception of an own class: its traceback v, no context -/
def AExcF (C : Addr) (v : Value) : Pd := fun o => o.cls = .ref C ∧ ∃ vs, o.data = .fields vs ∧ vs[1]? = some v ∧ vs[2]? = some .none
def ATb (fl : Value) : Pd := fun o => ∃ ts, o.data = .fields ts ∧ ts[3]? = some fl
theorem AExcF.exc0 {C : Addr} {v : Value} : ∀ o, AExcF C v o → AExc0 o := fun o ⟨_, vs, h, _, h2⟩ => ⟨vs, h, h2⟩
def FramesIn (l : List Env) (own : Own) : Prop := ∀ env ∈ l, env.scope.kind ≠ .module ∧ ∃ L al, env.frame = some L ∧ (L, ANs al) ∈ own
section
variable {prog : Program} {w : World} {B : Bs} {A : Around} {own : Own} {gs : Array GenState} {env : Env} {K : Frag} {p : Program} {loose : List Str} {mg mb : Str → Option Value}
theorem ANs.slots {al : List (Str × Value)} {o : Obj} {sl : Array (Option Value)} (h : ANs al o) : ANs al { o with slots := sl } := h
theorem FramesIn.fun {l : List Env} {s : Shared} (R : Rep B own gs s) (h : FramesIn l own) : s.heap.FunFrames ({} : Heap) l := by
  induction l with
  | nil => trivial
  | cons env l ih =>
    obtain ⟨hk, L, al, hf, hm⟩ := h env (.head _)
    obtain ⟨o, ho, es, ep, hd, _⟩ := R.o _ _ hm
    exact ⟨hk, ⟨L, o, hf, by rfl, ho, fun vs e => by rw [hd] at e; cases e⟩, ih fun e he => h e (.tail _ he)⟩
/-- only the frames' own marks change -/
theorem Rep.slots {s : Shared} {h' : Heap} {S : List Addr} (R : Rep B own gs s) (hS : ∀ L ∈ S, ∃ al, (L, ANs al) ∈ own) (hs : Heap.SlotsOnly S s.heap h') : Rep B own gs { s with heap := h' } where
  b := fun a p e => by
    obtain ⟨o, ho, hp⟩ := R.b a p e
    refine ⟨o, ?_, hp⟩
    show h'.get? a = some o
    rw [hs.2.1 a fun hm => by obtain ⟨al, q⟩ := hS a hm; have := R.dis a _ q; rw [this] at e; cases e]
    exact ho
  o := fun a p q => by
    by_cases hm : a ∈ S
    · obtain ⟨al, q'⟩ := hS a hm
      have : p = ANs al := by
        have h1 := lookup_of_nodup R.nd q
        have h2 := lookup_of_nodup R.nd q'
        rw [h1] at h2
        exact Option.some.inj h2
      subst this
      obtain ⟨o, ho, hp⟩ := R.o a _ q
      obtain ⟨sl, e⟩ := hs.2.2 a o ho
      exact ⟨_, e, hp.slots⟩
    · obtain ⟨o, ho, hp⟩ := R.o a p q
      refine ⟨o, ?_, hp⟩
      show h'.get? a = some o
      rw [hs.2.1 a hm]; exact ho
  dis := R.dis
  nd := R.nd
  gens := R.gens
  os := R.os
/-- a traceback entry for the frame -/
theorem J_entry {outer : List Env} {L e C : Addr} {v head : Value} {had : Bool} {rest : Own} {Q : Unit → Own → Array GenState → Prop} (hfr : A.frames = some (env :: outer)) (hF : FramesIn (env :: outer) rest) (hf : env.frame = some L)
    (h : ∀ T, Q () ((e, AExcF C (.ref T)) :: (T, ATb (rawInt L)) :: rest) gs) :
    J prog w B A (do let a ← frameOf env; let pl ← entryPlaceOf L had; let b ← EntryCells.newEntry head a .none (rawInt L) .none pl; setField (.ref e) 1 b) ((e, AExcF C v) :: rest) gs Q := fun s R => by
  have hF' : FramesIn (env :: outer) ((e, AExcF C v) :: rest) := fun x hx => let ⟨a, L, al, b, c⟩ := hF x hx; ⟨a, L, al, b, .tail _ c⟩
  refine wpAny_bind (wpAny_frameOf_fun hfr (hF'.fun R) hf fun h₁ hs₁ => ?_)
  have R₁ := R.slots (fun b hb => by
    obtain ⟨x, hx, hxf⟩ := List.mem_filterMap.mp hb
    obtain ⟨_, L', al, h1, h2⟩ := hF' x hx
    rw [h1] at hxf; cases hxf
    exact ⟨al, h2⟩) hs₁
  refine wpAny_bind (wpAny_entryPlaceOf fun pl hpl => ?_)
  unfold EntryCells.newEntry newFields
  refine wpAny_bind (wpAny_newObj_type ?_ (hpl.sizeOk5 _ _ _ _ _))
  have R₂ := R₁.push (o := { cls := .type "traceback", dict := none, data := .fields ([head, .ref L, .none, rawInt L, .none] ++ (if pl.isEmpty then List.replicate 6 Value.none else pl)).toArray }) (p := ATb (rawInt L)) rfl ⟨_, rfl, by simp⟩ s.toks
  obtain ⟨oe, he, hc, vs, hd, h1, h2⟩ := R₂.o _ _ (.tail _ (.head _))
  have hsz : 1 < vs.size := (Array.getElem?_eq_some_iff.mp h1).1
  refine wpAny_setField he hd hsz ?_
  have hd₃ := Obj.data_mapFields hd (·.setIfInBounds 1 (Value.ref h₁.objs.size))
  have R₃ := R₂.upd (a := e) (p := AExcF C v) (p' := AExcF C (.ref h₁.objs.size)) (tk := s.toks) (.tail _ (.head _)) (h' := (h₁.push _).update e (Obj.mapFields (·.setIfInBounds 1 (Value.ref h₁.objs.size)))) (fun b o hb q => by rw [Heap.get?_update_other _ _ (Ne.symm hb)]; exact q)
    ⟨_, Heap.get?_update_self _ he (Obj.isFreed_of_fields hd₃), by rw [Obj.cls_mapFields]; exact hc, _, hd₃, by simp [hsz], by rw [Array.getElem?_setIfInBounds_ne (by decide)]; exact h2⟩
  exact ⟨_, gs, R₃.sub (Sub.of_perm (List.Perm.swap ..)), h _⟩
theorem J_flight {e C T : Addr} {fl : Value} {rest : Own} {Q : Unit → Own → Array GenState → Prop} (h : Q () ((e, AExcF C (.ref T)) :: (T, ATb .none) :: rest) gs) :
    J prog w B A (setFlight (.ref e) none) ((e, AExcF C (.ref T)) :: (T, ATb fl) :: rest) gs Q := fun s R => by
  obtain ⟨oe, he, hc, vs, hd, h1, h2⟩ := R.o _ _ (.head _)
  obtain ⟨oT, hT, ts, hdt, h3⟩ := R.o _ _ (.tail _ (.head _))
  have hsz : 3 < ts.size := (Array.getElem?_eq_some_iff.mp h3).1
  unfold setFlight
  refine wpAny_bind (wpAny_field he hd h1 ?_)
  rw [if_pos (show (Value.ref T != Value.none) = true from by simp)]
  have hd₃ := Obj.data_mapFields hdt (·.setIfInBounds 3 ((none : Option Addr).elim Value.none fun f => rawInt f))
  refine wpAny_setField hT hdt hsz ⟨_, gs, R.upd (a := T) (p := ATb fl) (p' := ATb .none) (tk := s.toks) (.tail _ (.head _)) (fun b o hb q => by rw [Heap.get?_update_other _ _ (Ne.symm hb)]; exact q) ⟨_, Heap.get?_update_self _ hT (Obj.isFreed_of_fields hd₃), _, hd₃, by simp [hsz]⟩, h⟩
/-- a frame is left by an exception that has no traceback yet -/
theorem J_leave {outer : List Env} {L e C : Addr} {rest : Own} {Q : Unit → Own → Array GenState → Prop} (hfr : A.frames = some (env :: outer)) (hF : FramesIn (env :: outer) rest) (hf : env.frame = some L)
    (h : ∀ T, Q () ((e, AExcF C (.ref T)) :: (T, ATb .none) :: rest) gs) : J prog w B A (leaving env (.ref e)) ((e, AExcF C .none) :: rest) gs Q := by
  unfold leaving
  refine J_bind ?_
  unfold noteFrame
  simp only [hf]
  intro s R
  obtain ⟨oe, he, hc, vs, hd, h1, h2⟩ := R.o _ _ (.head _)
  refine wpAny_bind (wpAny_field he hd h1 ?_)
  rw [if_neg (by decide)]
  exact J_entry hfr hF hf (fun T => J_flight (h T)) s R
/-- the next frame notes it -/
theorem J_note {outer : List Env} {L e C T : Addr} {rest : Own} {Q : Unit → Own → Array GenState → Prop} (hfr : A.frames = some (env :: outer)) (hF : FramesIn (env :: outer) rest) (hf : env.frame = some L)
    (h : ∀ T', Q () ((e, AExcF C (.ref T')) :: (T', ATb (rawInt L)) :: (T, ATb .none) :: rest) gs) : J prog w B A (noteFrame (.ref e) env) ((e, AExcF C (.ref T)) :: (T, ATb .none) :: rest) gs Q := by
  unfold noteFrame
  simp only [hf]
  intro s R
  obtain ⟨oe, he, hc, vs, hd, h1, h2⟩ := R.o _ _ (.head _)
  obtain ⟨oT, hT, ts, hdt, h3⟩ := R.o _ _ (.tail _ (.head _))
  have hsz : 3 < ts.size := (Array.getElem?_eq_some_iff.mp h3).1
  refine wpAny_bind (wpAny_field he hd h1 ?_)
  rw [if_pos (show (Value.ref T != Value.none) = true from by simp)]
  refine wpAny_bind (wpAny_field hT hdt h3 ?_)
  rw [if_neg (show ¬ ((Value.none == rawInt L) = true) from by simp [rawInt])]
  have hd₃ := Obj.data_mapFields hdt (·.setIfInBounds 3 Value.none)
  refine wpAny_bind (wpAny_setField hT hdt hsz ?_)
  have R' := R.upd (a := T) (p := ATb .none) (p' := ATb .none) (tk := s.toks) (.tail _ (.head _)) (h' := s.heap.update T (Obj.mapFields (·.setIfInBounds 3 Value.none))) (fun b o hb q => by rw [Heap.get?_update_other _ _ (Ne.symm hb)]; exact q) ⟨_, Heap.get?_update_self _ hT (Obj.isFreed_of_fields hd₃), _, hd₃, by simp [hsz]⟩
  exact J_entry hfr (fun x hx => let ⟨a, L, al, b, c⟩ := hF x hx; ⟨a, L, al, b, .tail _ c⟩) hf h _ R'
end
end Mine
end
section
set_option maxRecDepth 100000
open PySem PySem.Calls PyProof.Rows PySem.W PySem.Spec
namespace Mine
abbrev QX := Addr → Own → Array GenState → Prop
section
variable {prog : Program} {w : World} {B : Bs} {A : Around} {own : Own} {gs : Array GenState} {env : Env} {K : Frag} {p : Program} {loose : List Str} {mg mb : Str → Option Value} {α β : Type}
/-- the tree comes to a raise that X describes -/
def JX (prog : Program) (w : World) (B : Bs) (A : Around) (t : Sem α) (own : Own) (gs : Array GenState) (X : QX) : Prop :=
  ∀ s, Rep B own gs s → wpAny (model prog w) A t (fun _ _ => False) (fun e s' => ∃ ea o g, e = .ref ea ∧ Rep B o g s' ∧ X ea o g) s
theorem JX_bind1 {t : Sem α} {k : α → Sem β} {X : QX} (h : J prog w B A t own gs fun a o g => JX prog w B A (k a) o g X) : JX prog w B A (t >>= k) own gs X :=
  fun s R => wpAny_bind (h.any R fun a s' o g R' h' => h' s' R')
theorem JX_bind2 {t : Sem α} {k : α → Sem β} {X : QX} (h : JX prog w B A t own gs X) : JX prog w B A (t >>= k) own gs X :=
  fun s R => wpAny_bind (wpAny_mono (h s R) (fun _ _ e => e.elim) fun _ _ e => e)
theorem JX_first {st : Stmt} {rest : List Stmt} {X : QX} (h : JX prog w B A (exec st env) own gs X) : JX prog w B A (execs (st :: rest) env) own gs X :=
  fun s R => wpAny_execs_cons (wpAny_mono (h s R) (fun _ _ e => e.elim) fun _ _ e => e)
theorem JX_If {t : Expr} {b o : List Stmt} {pos : Pos} {X : QX} (h : TestJ prog w B A env t own gs fun c o' g => c = true ∧ JX prog w B A (execs b env) o' g X) :
    JX prog w B A (exec (.If t b o pos) env) own gs X := fun s R =>
  wpAny_If (h.any R fun c s' o' g R' ⟨e, h'⟩ => by subst e; exact h' s' R')
theorem ns_again {N : Addr} {oN : Obj} {m : Str → Option Value} {h h' : Heap} (kN : K.lookup N = some oN) (x : K.In h) (x' : K.In h') (n : h.Ns N m) : h'.Ns N m := by
  obtain ⟨o, es, ep, ho, r⟩ := n
  have := x _ _ kN
  rw [ho] at this
  cases this
  exact ⟨_, es, ep, x' _ _ kN, r⟩
/-- raise C(text), C an own class of exceptions -/
theorem JX_Raise {C N : Addr} {nm q1 : Str} {bs bm : List Value} {hdct : Bool} {sn : List Str} {sub : List Value} {ab : Bool} {col : Option Bool} {dd : Option Addr} {k0 k1 k2 k3 k5 : Option Value} {oC oN : Obj}
    {x : Str} {m : Str} {kk : Nat} {np p1 cpos pos : Pos} {X : QX} (T : TopB K p loose mg mb B) (hh : A.handled = none)
    (eC : K.lookup C = some oC) (eC' : oC = excClassObj nm q1 C N bs bm hdct sn sub ab col dd k0 k1 k2 k3 k5 "Exception.__new__")
    (eN : K.lookup N = some oN) (e1 : nsOkIn K N = true) (e2 : nsIn K N "__init__" = some none) (e3 : tailIn K [.type "Exception", .type "BaseException", .type "object"] bm = true)
    (hbase : bm.contains (.type "BaseException") = true)
    (hx : JV prog w B A (eval (.Name x np) env) own gs fun v o g => v = .ref C ∧ o = own ∧ g = gs)
    (h : ∀ e, X e ((e, AExcF C .none) :: own) gs) :
    JX prog w B A (exec (.Raise (some (.Call (.Name x np) [.Constant (.str m) kk p1] [] cpos)) none pos) env) own gs X := fun s R => by
  have X0 := (T _ R.b).1
  have hN : s.heap.Ns N (s.heap.nsMap N) := .of_isNs (isNs_of_in X0 e1)
  have hni : s.heap.nsMap N "__init__" = none := nsMap_none_of_in X0 e1 e2
  subst eC'
  refine wpAny_Raise_call_subT (mN := s.heap.nsMap N) (C := C) (nm := nm) (q := q1) (N := N) (bs := bs) (bm := bm) (hdct := hdct) (sn := sn) (sub := sub) (ab := ab) (col := col) (dd := dd) (k0 := k0) (k1 := k1) (k2 := k2) (k3 := k3) (k5 := k5) F.excBase_Exception hbase hh rfl hni (J.any hx R fun v s₁ o g R₁ ⟨ev, eo, eg⟩ => ?_)
  subst eo eg
  refine ⟨er_eq_ref ev, ?_⟩
  have hargs : ArgsJ prog w B A env cpos [.Constant (.str m) kk p1] o g (fun vs o' g' => vs = [.str m 0] ∧ o' = o ∧ g' = g) := Args_cons (JV_str (Args_nil ⟨rfl, rfl, rfl⟩))
  refine evalArgs_any rfl (J.any hargs R₁ fun vs s₂ o₂ g₂ R₂ ⟨ea, eo, eg⟩ => ?_)
  subst eo eg
  have X2 := (T _ R₂.b).1
  obtain ⟨u, rfl, _⟩ := er1 ea
  refine ⟨rfl, by rw [sizeLine_eq]; exact Nat.le_of_ble_eq_true rfl, X2 _ _ eC, ns_again eN X0 X2 hN, tail_of_in X2 e3, fun h' e hm => ?_⟩
  obtain ⟨t, he, htn, ht⟩ := hm.there
  have R₃ := R₂.new (a := e) (p := AExcF C .none) (tk := s₂.toks) (fun b o _ q => hm.keeps b o q) hm.new ⟨_, he, rfl, _, rfl, rfl, rfl⟩
  exact ⟨e, _, _, rfl, R₃, h e⟩
/-- a call of a def of the text that ends by an exception without traceback yet -/
theorem CallX_K {n : Nat} {f C : Addr} {fo : Obj} {fd : FuncData} {body : List Stmt} {args : List Value} {outer : List Env} {X : QX} (T : TopB K p loose mg mb B) (hA : AOk B A (n + 1)) (hfr : A.frames = some outer)
    (k1 : K.lookup f = some fo) (k2 : fo.data = .func fd) (k3 : fd.body = .stmts body) (k4 : codeIn K fd.code fd.qualname = true)
    (h : ∀ us, us.map er = args → J prog w B A.in1 (bindArgs fd ⟨us, []⟩) own gs fun binds o g => ∀ L, CellsJ fd.scope.names fd.closure ((L, ANs []) :: o) fun cells o =>
      StoresJ prog w B A.in1 (newEnv fd.scope L fd.globals cells (fd.qualname ++ ".<locals>.") (some f) fd.code none fd.builtins) binds o g fun o g => ∀ A', AOk B A' n → A'.handled = A.handled →
        JX prog w B A' (execs body (newEnv fd.scope L fd.globals cells (fd.qualname ++ ".<locals>.") (some f) fd.code none fd.builtins)) o g
          fun e o g => ∃ rest, Sub ((e, AExcF C .none) :: rest) o ∧ FramesIn (newEnv fd.scope L fd.globals cells (fd.qualname ++ ".<locals>.") (some f) fd.code none fd.builtins :: outer) rest ∧ ∀ T', X e ((e, AExcF C (.ref T')) :: (T', ATb .none) :: rest) g)
    (hco : fd.scope.isCoroutine = false) (hgen : fd.scope.isGenerator = false) : ∀ us, us.map er = args → JX prog w B A (call (.ref f) us []) own gs X := by
  intro us hus s R
  have ho : s.heap.get? f = some fo := (T _ R.b).1 _ _ k1
  refine wpAny_call (codeAny_call_function hA.depth ho k2 hco hgen k3 (code_of T k4 s gs R) ?_)
  refine J.any (h us hus) R fun binds s₁ o g R₁ hJ => ?_
  refine J.any (J_newEnv (Q := fun env o g => env.frame = some env.locals ∧ JX prog w B (A.deeper env) (execs body env) o g fun e o g => ∃ rest, Sub ((e, AExcF C .none) :: rest) o ∧ FramesIn (env :: outer) rest ∧ ∀ T', X e ((e, AExcF C (.ref T')) :: (T', ATb .none) :: rest) g) fun L => CellsJ_mono (fun cells o hs => StoresJ_mono (fun o g hq => ⟨rfl, hq _ (hA.deeper _) rfl⟩) _ _ _ hs) _ _ _ (hJ L)) R₁ fun env s₂ o g R₂ ⟨hf, hb⟩ => ?_
  refine ⟨limit_of T _ R₂.b, codeAny_func (wpAny_mono (hb _ R₂) (fun _ _ e => e.elim) fun e s₃ ⟨ea, o, g, ee, R₃, rest, hs, hF, hX⟩ => ?_)⟩
  subst ee
  exact J.any (J_leave (Q := fun _ o' g' => ∃ T', o' = (ea, AExcF C (.ref T')) :: (T', ATb .none) :: rest ∧ g' = g) (show (A.deeper env).frames = some (env :: outer) by show A.frames.map _ = _; rw [hfr]; rfl) hF hf fun T' => ⟨T', rfl, rfl⟩) (R₃.sub hs) fun _ s₄ o' g' R₄ ⟨T', e1, e2⟩ => ⟨ea, _, g, rfl, by rw [← e1, ← e2]; exact R₄, hX T'⟩
/-- an expression statement whose call raises -/
theorem JX_callWith {pos : Pos} {f : Value} {first : List Value} {args : List Expr} {X : QX} (hp : (backTo pos (starEach args env)).any (·.1) = false)
    (h : ArgsJ prog w B A env pos args own gs fun vs o g => KeepOk prog w B o f ∧ ∀ us, us.map er = first.map er ++ vs → JX prog w B A (call f us []) o g X) :
    JX prog w B A (callWith pos f first (backTo pos (starEach args env)) []) own gs X := fun s R => by
  refine callWith_of (P := fun h => ∃ k, (k = Keeper.frame ∨ k = Keeper.machine ∨ k = Keeper.boundFrame) ∧ Looks (model prog w) h (keeperOf f) k) (by rw [hp]; rfl) (fun _ h => h) ?_
  refine evalArgs_any hp (J.any h R fun vs s' o g R' ⟨hk, hc⟩ => ⟨hk.2 _ _ R', ?_⟩)
  exact hc (first ++ vs) (by simp) _ R'
theorem JX_Call {f : Expr} {args : List Expr} {pos : Pos} {X : QX}
    (h : JV prog w B A (eval f env) own gs fun fv o g => isCallee fv = true ∧ ArgsJ prog w B A env pos args o g fun vs o g => KeepOk prog w B o fv ∧ ∀ us, us.map er = vs → JX prog w B A (call fv us []) o g X)
    (hp : (backTo pos (starEach args env)).any (·.1) = false := by rfl)
    (he : eval (.Call f args [] pos) env = (do callWith pos (← eval f env) [] (backTo pos (starEach args env)) (backToKw pos (keywordEach [] env))) := by rfl) :
    JX prog w B A (eval (.Call f args [] pos) env) own gs X := fun s R => by
  rw [he]
  refine wpAny_bind (J.any h R fun fv s' o g R' ⟨hc, h'⟩ => ?_)
  have := callee_er rfl hc
  rw [← this] at h'
  exact JX_callWith (first := []) hp h' _ R'
theorem JX_Expr {e : Expr} {pos : Pos} {X : QX} (h : JX prog w B A (eval e env) own gs X) (hi : interactive env = false := by rfl) (hs : swapsWith e none pos.line env = pure false := by rfl) :
    JX prog w B A (exec (.Expr e pos) env) own gs X := fun s R => wpAny_Expr_any (wpAny_mono (h s R) (fun _ _ h => h.elim) fun _ _ e => e) hi hs
theorem codeC_handlers_suite {e : Value} {b₀ : Stmt} {body : List Stmt} {pos : Pos} {s : Shared} {R : Result → Shared → Prop}
    (h : wpC (model prog w) A (setFlight e none) (fun _ s₁ => wpC (model prog w) A (execs (b₀ :: body) env) (fun f s₂ => R (.ok f) s₂) NoE s₁) NoE s) :
    codeC (model prog w) A (.handlers e [.ExceptHandler none none (b₀ :: body) pos] env) R s := by
  refine codeC_of_tree ?_
  show wpC _ A (do return Fin.done (← (handleWith e env [.ExceptHandler none none (b₀ :: body) pos]).onRaise (fun x => do noteFrame x env; theTreesLotGoes x))) _ _ s
  refine wpC_bind (wpC_onRaise ?_)
  unfold handleWith
  exact wpC_bind (wpC_standAt (wpC_bind (wpC_mono h (fun _ s₁ h₁ => wpC_mono h₁ (fun f s₂ h₂ => wpC_pure h₂) fun _ _ x => x) fun _ _ x => x)))
/-- try: .. except C: suite, where the body raises a C -/
theorem JCF_TryX {C : Addr} {body : List Stmt} {b₀ : Stmt} {suite : List Stmt} {hpos np pos : Pos} {x : Str} {Q : QF} {nm q1 : Str} {N : Addr} {bs bm : List Value} {hdct : Bool} {sn : List Str} {sub : List Value} {ab : Bool} {col : Option Bool} {dd : Option Addr} {k0 k1 k2 k3 k5 : Option Value} {oC : Obj} {nid : String}
    (T : TopB K p loose mg mb B) {n : Nat} (hA : AOk B A n) (hfr : A.frames = some [env]) {L : Addr} (hfe : env.frame = some L)
    (eC : K.lookup C = some oC) (eC' : oC = excClassObj nm q1 C N bs bm hdct sn sub ab col dd k0 k1 k2 k3 k5 nid) (hbase : bm.contains (.type "BaseException") = true)
    (hx : ∀ ea o g, JV prog w B (A.mark (some (.ref ea))) (eval (.Name x np) env) o g fun v o' g' => v = .ref C ∧ o' = o ∧ g' = g)
    (h : JX prog w B A (execs body env) own gs fun ea o g => ∃ rest T', Sub ((ea, AExcF C (.ref T')) :: (T', ATb .none) :: rest) o ∧ FramesIn [env] rest ∧
      ∀ T2, JCF prog w B (A.mark (some (.ref ea))) (execs (b₀ :: suite) env) ((ea, AExcF C (.ref T2)) :: rest) g Q) :
    JCF prog w B A (exec (.Try body [.ExceptHandler (some (.Name x np)) none (b₀ :: suite) hpos] [] [] pos) env) own gs Q := fun s R => by
  subst eC'
  rw [arm_exec_Try]
  refine wpC_bind (wpC_standAt ?_)
  unfold tryStmt
  simp only [List.isEmpty_nil, if_true, List.isEmpty_cons, Bool.false_and, Bool.false_eq_true, if_false]
  refine wpC_bind (wpC_of (wpAny_attempt (wpAny_mono (h s R) (fun _ _ e => e.elim) fun e s₁ ⟨ea, o, g, ee, R₁, rest, T', hs, hF, hJ⟩ => ?_)))
  subst ee
  dsimp only
  refine wpC_bind (wpC_of (J.any (J_note (Q := fun _ o' g' => ∃ T2, o' = (ea, AExcF C (.ref T2)) :: (T2, ATb (rawInt L)) :: (T', ATb .none) :: rest ∧ g' = g) hfr hF hfe fun T2 => ⟨T2, rfl, rfl⟩) (R₁.sub hs) fun _ s₂ o₂ g₂ R₂ ⟨T2, e1, e2⟩ => ?_))
  subst e1 e2
  refine wpC_bind (wpC_of (J.any (J_flight (Q := fun _ o' g' => o' = (ea, AExcF C (.ref T2)) :: (T2, ATb .none) :: (T', ATb .none) :: rest ∧ g' = g₂) ⟨rfl, rfl⟩) R₂ fun _ s₃ o₃ g₃ R₃ ⟨e1, e2⟩ => ?_))
  subst e1 e2
  rw [handleBy]
  refine wpC_bind (wpC_holding (wpC_runOwn rfl (codeC_of (codeAny_handlers_test (J.any (hx ea _ _) R₃ fun v s₄ o₄ g₄ R₄ ⟨ev, eo, eg⟩ => ?_)))))
  subst eo eg
  rw [er_eq_ref ev]
  have X4 := (T _ R₄.b).1
  obtain ⟨oe, he, hc, _⟩ := R₄.o _ _ (.head _)
  obtain ⟨hp, gg, d, tk, os⟩ := s₄
  refine wpAny_excMatches_sub_self (X4 _ _ eC) he hc hbase ?_
  dsimp only
  rw [if_pos rfl]
  dsimp only
  refine wpC_bind (wpC_pure ?_)
  simp only [Bool.not_true, Bool.false_eq_true, if_false]
  refine wpC_bind (wpC_holding (wpC_runOwn rfl ?_))
  refine codeC_handlers_suite (wpC_of (J.any (J_flight (Q := fun _ o' g' => o' = (ea, AExcF C (.ref T2)) :: (T2, ATb .none) :: (T', ATb .none) :: rest ∧ g' = g₄) ⟨rfl, rfl⟩) R₄ fun _ s₅ o₅ g₅ R₅ ⟨e1, e2⟩ => ?_))
  subst e1 e2
  exact JC.any (hJ T2) (R₅.sub (Sub.keep (Sub.skip (Sub.skip (Sub.refl _))))) fun f s₆ o₆ g₆ R₆ hq => wpC_pure ⟨o₆, g₆, R₆, hq⟩
end
end Mine
end
section
set_option maxRecDepth 100000
open PySem PySem.Calls PyProof.Rows PySem.W PySem.Spec
namespace Mine
section
variable {prog : Program} {w : World} {B : Bs} {A : Around} {own : Own} {gs : Array GenState} {env : Env}
theorem CodeC_KA {K : Frag} {p : Program} {loose : List Str} {mg mb : Str → Option Value} {n : Nat} {f : Addr} {fo : Obj} {fd : FuncData} {body : List Stmt} {args : List Value} {Q : QV} (T : TopB K p loose mg mb B) (hA : AOk B A (n + 1))
    (k1 : K.lookup f = some fo) (k2 : fo.data = .func fd) (k3 : fd.body = .stmts body) (k4 : codeIn K fd.code fd.qualname = true)
    (h : ∀ us, us.map er = args → J prog w B A.in1 (bindArgs fd ⟨us, []⟩) own gs fun binds o g => ∀ L, CellsJ fd.scope.names fd.closure ((L, ANs []) :: o) fun cells o =>
      StoresJ prog w B A.in1 (newEnv fd.scope L fd.globals cells (fd.qualname ++ ".<locals>.") (some f) fd.code none fd.builtins) binds o g fun o g =>
        JCF prog w B (A.deeper (newEnv fd.scope L fd.globals cells (fd.qualname ++ ".<locals>.") (some f) fd.code none fd.builtins)) (execs body (newEnv fd.scope L fd.globals cells (fd.qualname ++ ".<locals>.") (some f) fd.code none fd.builtins)) o g
          fun fl o g => ∃ o₂, Sub o₂ o ∧ Q (retOf fl) o₂ g)
    (hco : fd.scope.isCoroutine = false) (hgen : fd.scope.isGenerator = false) : CodeC prog w B A (.ref f) args own gs Q := by
  intro us hus s R
  have X := (T _ R.b).1
  refine codeC_call_function hA.depth (X _ _ k1) k2 hco hgen k3 (codeRec_of X k4) ?_
  refine J.any (h us hus) R fun binds s₁ o g R₁ hJ => ?_
  refine J.any (J_newEnv (Q := fun env o g => JCF prog w B (A.deeper env) (execs body env) o g fun fl o g => ∃ o₂, Sub o₂ o ∧ Q (retOf fl) o₂ g) fun L => CellsJ_mono (fun cells o hs => StoresJ_mono (fun o g hq => hq) _ _ _ hs) _ _ _ (hJ L)) R₁ fun env s₂ o g R₂ hb => ?_
  refine ⟨limit_of T _ R₂.b, codeC_func (JC.any hb R₂ fun fl s₃ o g R₃ ⟨o₂, hs, hq⟩ => ?_)⟩
  cases fl <;> exact ⟨_, rfl, o₂, g, R₃.sub hs, hq⟩
/-- said, or more -/
def HasW (B : Bs) (own : Own) (a : Addr) (p : Pd) : Prop := ∃ q, Has B own a q ∧ ∀ o, q o → p o
theorem Has.toW {a : Addr} {p : Pd} (h : Has B own a p) : HasW B own a p := ⟨p, h, fun _ x => x⟩
theorem Rep.getW {s : Shared} (R : Rep B own gs s) {a : Addr} {p : Pd} (h : HasW B own a p) : ∃ o, s.heap.get? a = some o ∧ p o := by
  obtain ⟨q, h1, h2⟩ := h
  obtain ⟨o, ho, hp⟩ := R.get h1
  exact ⟨o, ho, h2 o hp⟩
/-- a for over range -/
theorem JF_ForRange {n m : Nat} {t iter : Expr} {body : List Stmt} {pos : Pos} {Q : QF} (hA : AOk B A n) (I : Nat → Own → Array GenState → Prop)
    (h : JV prog w B A (eval iter env) own gs fun v o g => IterJ prog w B A v o g fun it o g => ∃ ita o₂, it = .ref ita ∧ Sub ((ita, ARangeIter 0 (m : Int)) :: o₂) o ∧ I 0 o₂ g)
    (turn : ∀ it i o g, i < m → I i o g → AssignJ prog w B A env t (iv i) ((it, ARangeIter ((i : Int) + 1) ((m : Int) - i - 1)) :: o) g fun o g => JF prog w B A (execs body env) o g fun f o g => match f with
        | .next | .cont => ∃ o₂, Sub ((it, ARangeIter ((i : Int) + 1) ((m : Int) - i - 1)) :: o₂) o ∧ I (i + 1) o₂ g
        | .brk => Q .next o g
        | .ret v => Q (.ret v) o g)
    (done : ∀ o g, I m o g → Q .next o g)
    (hs : ∀ x, foldedSetIterable iter env x = pure x := by intro _; rfl) (ht : ∀ it v, letOwnedTupleGo t it v = pure () := by intro _ _; rfl) : JF prog w B A (exec (.For t iter body [] pos) env) own gs Q := by
  refine JF_For (fun v k o g => ∃ it i o₂, v = .ref it ∧ i ≤ m ∧ k = m - i ∧ Sub ((it, ARangeIter (i : Int) ((m : Int) - i)) :: o₂) o ∧ I i o₂ g) ?_ ?_ hs ht
  · refine J_mono h fun v o g h' => fun u hu => J_mono (h' u hu) fun it o g ⟨ita, o₂, e, hs, hI⟩ => ?_
    exact ⟨m - 0, ita, 0, o₂, e, Nat.zero_le _, rfl, by simpa using hs, hI⟩
  · rintro v k o g ⟨it, i, o₂, rfl, hi, rfl, hs, hI⟩
    refine NextJ_sub hs (Next_range hA ?_)
    by_cases hlt : i < m
    · rw [if_pos (by omega)]
      refine fun u hu => J_mono (turn it i o₂ g hlt hI u hu) fun _ o g hb => J_mono hb fun f o g hf => ?_
      have e1 : ((i + 1 : Nat) : Int) = (i : Int) + 1 := by omega
      have e2 : (m : Int) - ((i + 1 : Nat) : Int) = (m : Int) - i - 1 := by omega
      cases hfl : erF f with
      | next => rw [hfl] at hf; obtain ⟨o₃, hs', hI'⟩ := hf; exact ⟨m - (i + 1), by omega, it, i + 1, o₃, rfl, hlt, rfl, by rw [e1, ← e1, e2]; rw [e1]; exact hs', hI'⟩
      | cont => rw [hfl] at hf; obtain ⟨o₃, hs', hI'⟩ := hf; exact ⟨m - (i + 1), by omega, it, i + 1, o₃, rfl, hlt, rfl, by rw [e1, ← e1, e2]; rw [e1]; exact hs', hI'⟩
      | brk => rw [hfl] at hf; exact hf
      | ret v => rw [hfl] at hf; exact hf
    · rw [if_neg (by omega)]
      have : i = m := by omega
      subst this
      exact JF_nil (done o₂ g hI)
/-- a for over a dict's keys, which stand still -/
theorem JF_ForDict {K : Frag} {p : Program} {loose : List Str} {mg mb : Str → Option Value} (T : TopB K p loose mg mb B) {n : Nat} {t iter : Expr} {body : List Stmt} {pos : Pos} {Q : QF} {d : Addr} {kvs : List (Int × Value)} {ep : Nat} (hA : AOk B A n) (I : Nat → Own → Array GenState → Prop)
    (h : JV prog w B A (eval iter env) own gs fun v o g => v = .ref d ∧ Has B o d (ADict prog w kvs ep) ∧ ∃ o₂, Sub o₂ o ∧ I 0 o₂ g)
    (hl : ∀ i o g, I i o g → Has B o d (ADict prog w kvs ep))
    (turn : ∀ it i x o g, (kvs.map (·.1))[i]? = some x → I i o g → AssignJ prog w B A env t (iv x) ((it, AKeyIter d (i + 1) kvs.length ep) :: o) g fun o g => JF prog w B A (execs body env) o g fun f o g => match f with
        | .next | .cont => ∃ o₂, Sub ((it, AKeyIter d (i + 1) kvs.length ep) :: o₂) o ∧ I (i + 1) o₂ g
        | .brk => Q .next o g
        | .ret v => Q (.ret v) o g)
    (done : ∀ o g, I kvs.length o g → Q .next o g)
    (hs : ∀ x, foldedSetIterable iter env x = pure x := by intro _; rfl) (ht : ∀ it v, letOwnedTupleGo t it v = pure () := by intro _ _; rfl) : JF prog w B A (exec (.For t iter body [] pos) env) own gs Q := by
  refine JF_For (fun v k o g => ∃ it i o₂, v = .ref it ∧ i ≤ kvs.length ∧ k = kvs.length - i ∧ Sub ((it, AKeyIter d i kvs.length ep) :: o₂) o ∧ I i o₂ g) ?_ ?_ hs ht
  · refine J_mono h fun v o g ⟨e, hh, o₂, hs, hI⟩ => ?_
    rw [e]
    exact Iter_dict T hh fun it => ⟨kvs.length - 0, it, 0, o₂, rfl, Nat.zero_le _, rfl, Sub.keep hs, hI⟩
  · rintro v k o g ⟨it, i, o₂, rfl, hi, rfl, hs, hI⟩
    refine NextJ_sub hs (Next_key' hA (hl i o₂ g hI) ?_)
    cases hx : kvs[i]? with
    | none =>
      have : i = kvs.length := Nat.le_antisymm hi (List.getElem?_eq_none_iff.mp hx)
      subst this
      exact JF_nil (done o₂ g hI)
    | some x =>
      have hlt : i < kvs.length := (List.getElem?_eq_some_iff.mp hx).1
      refine fun u hu => J_mono (turn it i x.1 o₂ g (by rw [List.getElem?_map, hx]; rfl) hI u hu) fun _ o g hb => J_mono hb fun f o g hf => ?_
      cases hfl : erF f with
      | next => rw [hfl] at hf; obtain ⟨o₃, hs', hI'⟩ := hf; exact ⟨kvs.length - (i + 1), by omega, it, i + 1, o₃, rfl, hlt, rfl, hs', hI'⟩
      | cont => rw [hfl] at hf; obtain ⟨o₃, hs', hI'⟩ := hf; exact ⟨kvs.length - (i + 1), by omega, it, i + 1, o₃, rfl, hlt, rfl, hs', hI'⟩
      | brk => rw [hfl] at hf; exact hf
      | ret v => rw [hfl] at hf; exact hf
theorem cells_none : ∀ {names : List (Str × NameKind)} {cl : List (Str × Addr)} {o : Own} {Q : List (Str × Addr) → Own → Prop}, (names.all fun p => p.2 != .cell) = true → Q cl o → CellsJ names cl o Q
  | [], cl, o, Q, _, h => h
  | (n, k) :: r, cl, o, Q, hn, h => by
    simp only [List.all_cons, Bool.and_eq_true, bne_iff_ne, ne_eq] at hn
    exact Cells_skip hn.1 (cells_none (by simpa using hn.2) h)
/-- the frame of a comprehension -/
abbrev cenv (scope : Scope) (env : Env) (cl : List (Str × Addr)) (C : Addr) : Env := { newEnv scope C env.globals cl env.qual none .none (some env) builtinsNs with scope := { scope with names := compNames scope env } }
theorem CJ_filterList {n : Nat} {x : Str} {p1 p2 pos : Pos} {iter cond : Expr} {scope : Scope} {cl : List (Str × Addr)} {l it acc C : Addr} {ns : List Int} {o : Own} {g : Array GenState} {Q : QU} (pr : Int → Bool) (hA : AOk B A n)
    (hl : Has B o l (AList (ns.map iv))) (hlen : ns.length ≤ 1000)
    (hcond : ∀ i k out, ns[i]? = some k → TestJ prog w B A (cenv scope env cl C) cond ((C, ANs [(x, iv k)]) :: (it, AListIter l (i + 1)) :: (acc, AList out) :: o) g fun b o' g' => b = pr k ∧ o' = (C, ANs [(x, iv k)]) :: (it, AListIter l (i + 1)) :: (acc, AList out) :: o ∧ g' = g)
    (h : Q ((C, ANs []) :: (acc, AList ((ns.filter pr).map iv)) :: o) g)
    (hkind : scope.kind = .function) (hk : (cenv scope env cl C).kindOf x = some .local) (hd : (x == ("__debug__" : Str)) = false) (ht : ∀ it v, letOwnedTupleGo (.Name x p2) it v = pure ()) :
    CJ prog w B A (.compStart (.ListComp (.Name x p1) [⟨.Name x p2, iter, [cond], 0⟩] scope pos) 0 (.ref it) (.ref acc) (cenv scope env cl C)) ((C, ANs []) :: (acc, AList []) :: (it, AListIter l 0) :: o) g Q := by
  refine CJ_start rfl rfl rfl (Iter_listIter (.own (.tail _ (.tail _ (.head _)))) ⟨rfl, rfl, rfl⟩) ?_
  refine CJ_list (fun m o' g' => ∃ i, i ≤ ns.length ∧ m = ns.length - i ∧ g' = g ∧ ∃ o₂, Sub o₂ o' ∧ o₂ = (it, AListIter l i) :: (C, ANs []) :: (acc, AList (((ns.take i).filter pr).map iv)) :: o) ?_ ns.length ⟨0, Nat.zero_le _, rfl, rfl, _, ?_, rfl⟩
  · rintro m o' g' ⟨i, hi, rfl, rfl, o₂, hsub, rfl⟩
    refine NextJ_sub hsub (Next_list' hA (hl.skip.skip) ?_)
    cases hx : ns[i]? with
    | none =>
      have hle := List.getElem?_eq_none_iff.mp hx
      rw [show (ns.map iv)[i]? = none by rw [List.getElem?_map, hx]; rfl]
      rw [List.take_of_length_le hle]
      exact h
    | some k =>
      have hlt : i < ns.length := (List.getElem?_eq_some_iff.mp hx).1
      rw [show (ns.map iv)[i]? = some (iv k) by rw [List.getElem?_map, hx]; rfl]
      have htk : ns.take (i + 1) = ns.take i ++ [k] := by rw [List.take_add_one, hx]; rfl
      intro u hu
      rw [ht]
      refine J_pure (Assign_name (Store_local (al' := [(x, iv k)]) (.tail _ (.head _)) .nil ?_ hkind hk))
      refine J_sub (Sub.swap) (J_mono (hcond i k _ hx) fun b o₃ g₃ ⟨e1, e2, e3⟩ => ?_)
      subst e1 e2 e3
      cases hp : pr k with
      | true =>
        rw [if_pos rfl]
        show IfsJ prog w B A _ [] _ _ _
        refine Ifs_nil ?_
        rw [if_pos rfl]
        refine JV_local (al := [(x, iv k)]) (v := iv k) (.own (.head _)) (by simp [List.lookup]) ?_ hkind hk hd
        refine Call_append (.tail _ (.tail _ (.head _))) (by simp; exact Nat.le_trans (Nat.le_trans (List.length_filter_le _ _) (List.length_take_le' _ _)) (by omega)) ?_
        refine ⟨ns.length - (i + 1), by omega, i + 1, hlt, rfl, rfl, _, ?_, rfl⟩
        rw [htk, List.filter_append, List.filter_cons, hp]
        simp only [if_true, List.filter_nil, List.map_append, List.map_cons, List.map_nil]
        exact (Sub.keep (Sub.weak (ANs.sub fun _ h => by cases h) (Sub.refl _))).trans Sub.swap
      | false =>
        rw [if_neg Bool.false_ne_true]
        dsimp only
        rw [if_neg Bool.false_ne_true]
        refine ⟨ns.length - (i + 1), by omega, i + 1, hlt, rfl, rfl, _, ?_, rfl⟩
        rw [htk, List.filter_append, List.filter_cons, hp]
        simp only [Bool.false_eq_true, if_false, List.filter_nil, List.append_nil]
        exact (Sub.keep (Sub.weak (ANs.sub fun _ h => by cases h) (Sub.refl _))).trans Sub.swap
  · refine Sub.of_perm ?_
    exact ((List.Perm.swap _ _ _).trans (List.Perm.cons _ (List.Perm.swap _ _ _))).symm.symm
/-- [x for x in l if cond] -/
theorem JV_filterList {n : Nat} {x : Str} {p1 p2 pos : Pos} {iter cond : Expr} {scope : Scope} {cl : List (Str × Addr)} {l : Addr} {ns : List Int} {Q : QV} (pr : Int → Bool) (hA : AOk B A n)
    (hiter : JV prog w B A (eval iter env) own gs fun v o g => v = .ref l ∧ o = own ∧ g = gs) (hl : Has B own l (AList (ns.map iv))) (hlen : ns.length ≤ 1000)
    (hcond : ∀ acc C i k out it, ns[i]? = some k → TestJ prog w B A (cenv scope env cl C) cond ((C, ANs [(x, iv k)]) :: (it, AListIter l (i + 1)) :: (acc, AList out) :: own) gs fun b o g => b = pr k ∧ o = (C, ANs [(x, iv k)]) :: (it, AListIter l (i + 1)) :: (acc, AList out) :: own ∧ g = gs)
    (h : ∀ acc, Q (.ref acc) ((acc, AList ((ns.filter pr).map iv)) :: own) gs)
    (hcl : closureFor scope env = pure cl := by rfl) (hs : ∀ x, foldedSetIterable iter env x = pure x := by intro _; rfl) (hkind : scope.kind = .function := by rfl)
    (hnames : (scope.names.all fun x => !(x.2 == .local) || (compNames scope env).lookup x.1 == some .local) = true := by rfl) (hnc : (scope.names.all fun p => p.2 != .cell) = true := by rfl)
    (hk : ∀ C, (cenv scope env cl C).kindOf x = some .local := by intro _; rfl) (hd : (x == ("__debug__" : Str)) = false := by decide) (ht : ∀ it v, letOwnedTupleGo (.Name x p2) it v = pure () := by intro _ _; rfl) :
    JV prog w B A (eval (.ListComp (.Name x p1) [⟨.Name x p2, iter, [cond], 0⟩] scope pos) env) own gs Q := by
  refine JV_ListComp (cl := cl) (J_mono hiter fun v o g ⟨e1, e2, e3⟩ => ?_) hcl hs hkind hnames
  subst e2 e3
  rw [e1]
  refine Iter_list hl fun it acc C => cells_none hnc ?_
  exact CJ_filterList pr hA hl hlen (fun i k out hx => hcond acc C i k out it hx) ⟨_, _, PickR.head _, h acc⟩ hkind (hk C) hd ht
theorem Call_lenListW {l : Addr} {xs : List Value} {Q : QV} (hl : HasW B own l (AList xs)) (hs : xs.length ≤ 1000000) (h : Q (iv xs.length) own gs) : CallJ prog w B A (.builtin "len") [.ref l] own gs Q := fun us hus s R => by
  obtain ⟨u, rfl, hu⟩ := er1 hus
  rw [er_eq_ref hu]
  obtain ⟨o, ho, hp⟩ := R.getW hl
  obtain ⟨its, hL, rfl⟩ := AList.isList ho hp
  have hs' : its.size ≤ 1000000 := by simpa using hs
  exact Calls.call_function_entry kind_len plain_len entry_len (args_len1 _) (wpAny_len_body_list hL (by omega) ⟨own, gs, R.toks _, by simpa using h⟩)
theorem Item_listW {value slice : Expr} {l : Addr} {xs : List Value} {k : Int} {x : Value} {Q : QV} (hl : HasW B own l (AList xs)) (h0 : 0 ≤ k) (hk : k < 2 ^ 62) (hx : xs[k.toNat]? = some x) (h : Q x own gs)
    (hs : ∀ o i, subscripted slice false o i = operate [o, i] (getItem o i) := by intro _ _; with_unfolding_all rfl) : ItemJ prog w B A value slice (.ref l) (iv k) own gs Q := by
  intro u v hu hv s R
  rw [er_eq_ref hu]
  obtain ⟨t, rfl⟩ := er_eq_int hv
  obtain ⟨o, ho, hp⟩ := R.getW hl
  obtain ⟨its, hL, rfl⟩ := AList.isList ho hp
  rw [List.getElem?_map, Option.map_eq_some_iff] at hx
  obtain ⟨y, hy, rfl⟩ := hx
  exact tail_any hL.typeIs F.slot_list_getitem.lookup (wpAny_getItem_list hL h0 (by omega) (by simpa using hy) ⟨own, gs, R, h⟩) (hs _ _)
theorem HasW.base {a : Addr} {p q : Pd} (h : B.f a = some q) (hq : ∀ o, q o → p o) : HasW B own a p := ⟨q, .base h, hq⟩
theorem CallJ_frame {f : Value} {args : List Value} {fr give : Own} {Q : QV} (hp : Sub (give ++ fr) own)
    (h : ∀ B' : Bs, B.le B' → (∀ x ∈ fr, B'.f x.1 = some x.2) → CallJ prog w B' A f args give gs fun a o g => Q a (o ++ fr) g) : CallJ prog w B A f args own gs Q :=
  fun us hus => J_frame hp fun B' hl hfr => h B' hl hfr us hus
theorem CallC_frame {f : Value} {args : List Value} {fr give : Own} {Q : QV} (hp : Sub (give ++ fr) own)
    (h : ∀ B' : Bs, B.le B' → (∀ x ∈ fr, B'.f x.1 = some x.2) → CallC prog w B' A f args give gs fun a o g => Q a (o ++ fr) g) : CallC prog w B A f args own gs Q :=
  fun us hus => JC_frame hp fun B' hl hfr => h B' hl hfr us hus
end
end Mine
end
section
set_option maxRecDepth 100000
set_option maxHeartbeats 4000000
open PySem PySem.Calls PyProof.Rows PySem.W PySem.Spec
namespace Mine
example : PySem.Challenge.rw_ci0025_01.prog = PySem.Challenge.rw_ci0025_01.prog ∧ hd.heap_39 = hd.heap_39 := by k_fill; exact ⟨rfl, rfl⟩
local macro_rules | `(tactic| k_mem) => `(tactic| first | apply List.Mem.head | exact Gr.memS (by assumption) | exact Gr.memP (by assumption) | exact Gr.memJ (by assumption) | (apply List.Mem.tail; k_mem))
local macro_rules | `(tactic| walk_at "has") => `(tactic| first | (apply Has.own; k_mem) | (apply Has.base; assumption))
local macro_rules | `(tactic| walk_at "upd") => `(tactic| first | apply Upd.head | exact Gr.updS (by assumption) (by assumption) | exact Gr.updP (by assumption) (by assumption) | (apply Upd.tail; walk_at "upd"))
local macro_rules | `(tactic| walk_at "setl") => `(tactic| first | apply SetL.nil | apply SetL.here | (apply SetL.next (by rfl); walk_at "setl"))
local macro_rules | `(tactic| walk_at "cells") => `(tactic| repeat' (first | refine Cells_nil ?_ | refine Cells_skip (by decide) ?_ | (refine Cells_cell ?_; intro _)))
local macro_rules | `(tactic| walk_at "pick") => `(tactic| first | apply PickR.head | (apply PickR.tail; walk_at "pick"))
local macro_rules | `(tactic| walk_at "weak") => `(tactic| first | exact fun _ h => h | exact AEmpty.toAD | (refine ANs.sub ?_; repeat' (first | exact List.forall_mem_nil _ | refine List.forall_mem_cons.mpr ⟨rfl, ?_⟩)))
local macro_rules | `(tactic| walk_at "subt") => `(tactic| first | exact Sub.refl _ | (refine Sub.skip ?_; walk_at "subt"))
local macro_rules | `(tactic| walk_at "sub") => `(tactic| first | apply Sub.nil | (refine' Sub.pick ?hp ?hw ?_; (case hp => walk_at "pick"); (case hw => walk_at "weak"); walk_at "sub") | walk_at "subt")
local macro_rules | `(tactic| walk_at "store") => `(tactic| first | (refine' Store_local ?hu ?hs ?_; (case hu => walk_at "upd"); (case hs => walk_at "setl")))

local macro_rules | `(tactic| walk_at "name") => `(tactic| first
  | (refine' JV_local ?hn ?hv ?_; (case hn => walk_at "has"); (case hv => rfl))
  | (refine' JV_cell ?hc ?hn ?_; (case hc => rfl); (case hn => walk_at "has"))
  | (refine' JV_free ?hc ?hn ?_; (case hc => rfl); (case hn => walk_at "has")))
local macro_rules | `(tactic| walk_at "js") => `(tactic| first
  | with_reducible refine JF_cons ?_
  | with_reducible refine JF_nil ?_
  | refine JF_Assign ?_
  | with_reducible refine JF_If ?_
  | with_reducible refine JF_Return ?_
  | refine JF_Expr ?_
  | with_reducible refine JV_int ?_
  | with_reducible refine JV_bool ?_
  | with_reducible refine JV_none ?_
  | with_reducible refine JV_str ?_
  | with_reducible refine JV_BinOp ?_
  | refine JV_Compare ?_
  | with_reducible refine JV_IfExp ?_
  | refine Test_cmp ?_
  | with_reducible refine Test_not ?_
  | with_reducible refine Test_and ?_
  | with_reducible refine Test_and_nil ?_
  | with_reducible refine Test_or ?_
  | with_reducible refine Test_or_nil ?_
  | with_reducible refine Tru_bool ?_
  | refine JV_List ?_
  | refine JV_Tuple ?_
  | with_reducible refine Args_nil ?_
  | refine Args_cons ?_
  | with_reducible refine Bin_add ?_
  | with_reducible refine Cmp_eq ?_
  | with_reducible refine Cmp_ne ?_
  | with_reducible refine Cmp_lt ?_
  | with_reducible refine Cmp_le ?_
  | with_reducible refine Cmp_gt ?_
  | with_reducible refine Cmp_ge ?_
  | walk_at "name"
  | walk_at "store")
local macro_rules | `(tactic| walk_at "inst") => `(tactic| (refine' Inst.mk ?ix ?id; (case ix => walk_at "has"); (case id => walk_at "has")))
local macro_rules | `(tactic| walk_at "kfun") => `(tactic| (refine' Call_K (by assumption) (by assumption) ?k1 ?k2 ?k3 ?k4 ?_ ?k5 ?k6; (case k1 => k_is); (case k2 => rfl); (case k3 => rfl); (case k4 => k_is); (case k5 => rfl); (case k6 => rfl)))
local macro_rules | `(tactic| walk_at "kcode") => `(tactic| (refine' Code_K (by assumption) (by assumption) ?k1 ?k2 ?k3 ?k4 ?_ ?k5 ?k6; (case k1 => k_is); (case k2 => rfl); (case k3 => rfl); (case k4 => k_is); (case k5 => rfl); (case k6 => rfl)))
local macro_rules | `(tactic| walk_at "methk") => `(tactic| (refine' Meth_K (by assumption) ?mi ?mv ?_ ?g1 ?g2 ?g3 ?g4; (case mi => walk_at "inst"); (case mv => first | exact fields_none (by assumption) (by decide) | rfl); (case g1 => k_is); (case g2 => k_is); (case g3 => k_is); (case g4 => k_is)))
local macro_rules | `(tactic| walk_at "getown") => `(tactic| (refine' Get_own (by assumption) ?mi ?mv ?_ ?g1 ?g2 ?gh; (case mi => walk_at "inst"); (case mv => rfl); (case g1 => k_is); (case g2 => kernel_rfl); (case gh => rfl)))
local macro_rules | `(tactic| walk_at "setown") => `(tactic| (refine' SetAttr_inst (by assumption) ?sx ?sd ?sk ?_ ?se ?sl; (case sx => walk_at "has"); (case sd => walk_at "upd"); (case se => rfl); (case sl => exact Nat.le_of_ble_eq_true rfl); (case sk => kernel_rfl)))
local macro_rules | `(tactic| walk_at "keepk") => `(tactic| (exact Keep_K (by assumption) (by k_is)))
local macro_rules | `(tactic| walk_at "apart") => `(tactic| first | (apply Apart.left; k_mem; done) | (apply Apart.right; k_mem; done) | (apply Apart.tail; walk_at "apart"))
local macro_rules | `(tactic| walk_at "kgen") => `(tactic| (refine' Call_gen (by assumption) (by assumption) ?k1 ?k2 ?k3 ?k4 ?_ ?k5 ?k6; (case k1 => k_is); (case k2 => rfl); (case k3 => rfl); (case k4 => k_is); (case k5 => rfl); (case k6 => rfl)))
local macro_rules | `(tactic| walk_at "getmeth") => `(tactic| (refine' Get_meth (by assumption) ?mi ?mv ?_ ?g1 ?g2 ?g3 ?g4; (case mi => walk_at "inst"); (case mv => first | exact fields_none (by assumption) (by decide) | rfl); (case g1 => k_is); (case g2 => kernel_rfl); (case g3 => k_is); (case g4 => k_is)))

structure GBase (C : Addr) (prog : Program) (w : World) (B : Bs) (G : Gr) (ep : Int → Nat) : Prop where
  x : B.f G.x = some (AInst C G.dx)
  dx : B.f G.dx = some (AVars prog w G.fields)
  nd : B.f G.nd = some (AD prog w (Gr.outer G.names G.N))
  su : B.f G.su = some (AD prog w (Gr.outer G.names G.S))
  S : ∀ n ∈ G.names, B.f (G.S n) = some (ADict prog w (G.sk n) (ep n))
section
variable {prog : Program} {w : World} {B : Bs} {A : Around} {own : Own} {gs : Array GenState} {p : Program} {loose : List Str} {mg mb : Str → Option Value} {Q : QV}
theorem succ_spec (T : TopB (hd.heap_39 w.params) p loose mg mb B) (hA : AOk B A 3) {G : Gr} {ep : Int → Nat} (hG : G.Ok) (hB : GBase 873 prog w B G ep) {n : Int} (hn : n ∈ G.names)
  (h : ∀ it, Q (.ref it) ((it, AKeyIter (G.S n) 0 (G.sk n).length (ep n)) :: own) gs) : CodeJ prog w B A (.ref 795) [.ref G.x, iv n] own gs Q := by
  have hmo := hG.mo
  obtain ⟨hx, hdx, hnd, hsu, hS⟩ := hB
  walk_at "kcode"
  intro us hus
  obtain ⟨u1, u2, rfl, h1, h2⟩ := er2 hus
  refine Bind_eq (by rfl) ?_
  dsimp only
  intro L
  walk_at "cells"
  dsimp only [newEnv]
  refine Stores_cons h1 ?_
  walk_at "store"
  refine Stores_cons h2 ?_
  walk_at "store"
  refine Stores_nil ?_
  intro A1 hA1
  dsimp only
  refine JF_cons (JF_Try (JF_cons (JF_Return (JV_Call (JV_builtin T (by k_is) boot_iter ⟨rfl, Args_cons (JV_Subscript (JV_Attr ?_))⟩)))))
  walk_at "name"
  walk_at "getown"
  walk_at "name"
  refine Item_AD (.base hsu) (by rw [valueAt_outer, if_pos hn]) ?_
  refine Args_nil ⟨Keep_builtin, J_iterCall (Iter_dict T (.base (hS n hn)) (fun it => ?_) (.ref (G.S n)) rfl)⟩
  exact ⟨_, Sub.keep (Sub.skip (Sub.refl _)), h it⟩
theorem len_spec (T : TopB (hd.heap_39 w.params) p loose mg mb B) (hA : AOk B A 3) {G : Gr} {ep : Int → Nat} (hG : G.Ok) (hB : GBase 873 prog w B G ep)
  (h : Q (iv G.names.length) own gs) : CallJ prog w B A (.ref 460) [.ref G.x] own gs Q := by
  have hmo := hG.mo
  obtain ⟨hx, hdx, hnd, hsu, hS⟩ := hB
  walk_at "kfun"
  intro us hus
  obtain ⟨u1, rfl, h1⟩ := er1 hus
  refine Bind_eq (by rfl) ?_
  dsimp only
  intro L
  walk_at "cells"
  dsimp only [newEnv]
  refine Stores_cons h1 ?_
  walk_at "store"
  refine Stores_nil ?_
  intro A1 hA1
  dsimp only
  refine JF_cons (JF_Return (JV_Call (JV_builtin T (by k_is) boot_len ⟨rfl, Args_cons (JV_Attr ?_)⟩)))
  walk_at "name"
  walk_at "getown"
  have hl := hG.len
  refine Args_nil ⟨Keep_builtin, Call_lenDict T (.base hnd) (by simp only [Gr.outer, List.length_map]; omega) ?_⟩
  refine ⟨_, Sub.skip (Sub.refl _), ?_⟩
  simpa [Gr.outer, retOf] using h
end
end Mine
end
section
set_option maxRecDepth 100000
set_option maxHeartbeats 4000000
open PySem PySem.Calls PyProof.Rows PySem.W PySem.Spec
namespace Mine
example : PySem.Challenge.rw_ci0025_01.prog = PySem.Challenge.rw_ci0025_01.prog ∧ hd.heap_39 = hd.heap_39 := by k_fill; exact ⟨rfl, rfl⟩
local macro_rules | `(tactic| k_mem) => `(tactic| first | apply List.Mem.head | exact Gr.memS (by assumption) | exact Gr.memP (by assumption) | exact Gr.memJ (by assumption) | (apply List.Mem.tail; k_mem))
local macro_rules | `(tactic| walk_at "has") => `(tactic| first | (apply Has.own; k_mem) | (apply Has.base; assumption))
local macro_rules | `(tactic| walk_at "upd") => `(tactic| first | apply Upd.head | exact Gr.updS (by assumption) (by assumption) | exact Gr.updP (by assumption) (by assumption) | (apply Upd.tail; walk_at "upd"))
local macro_rules | `(tactic| walk_at "setl") => `(tactic| first | apply SetL.nil | apply SetL.here | (apply SetL.next (by rfl); walk_at "setl"))
local macro_rules | `(tactic| walk_at "cells") => `(tactic| repeat' (first | refine Cells_nil ?_ | refine Cells_skip (by decide) ?_ | (refine Cells_cell ?_; intro _)))
local macro_rules | `(tactic| walk_at "pick") => `(tactic| first | apply PickR.head | (apply PickR.tail; walk_at "pick"))
local macro_rules | `(tactic| walk_at "weak") => `(tactic| first | exact fun _ h => h | exact AEmpty.toAD | (refine ANs.sub ?_; repeat' (first | exact List.forall_mem_nil _ | refine List.forall_mem_cons.mpr ⟨rfl, ?_⟩)))
local macro_rules | `(tactic| walk_at "subt") => `(tactic| first | exact Sub.refl _ | (refine Sub.skip ?_; walk_at "subt"))
local macro_rules | `(tactic| walk_at "sub") => `(tactic| first | apply Sub.nil | (refine' Sub.pick ?hp ?hw ?_; (case hp => walk_at "pick"); (case hw => walk_at "weak"); walk_at "sub") | walk_at "subt")
local macro_rules | `(tactic| walk_at "store") => `(tactic| first | (refine' Store_local ?hu ?hs ?_; (case hu => walk_at "upd"); (case hs => walk_at "setl")) | (refine' Store_cell ?hc ?hu ?_; (case hc => rfl); (case hu => walk_at "upd")))

local macro_rules | `(tactic| walk_at "name") => `(tactic| first
  | (refine' JV_local ?hn ?hv ?_; (case hn => walk_at "has"); (case hv => rfl))
  | (refine' JV_cell ?hc ?hn ?_; (case hc => rfl); (case hn => walk_at "has"))
  | (refine' JV_free ?hc ?hn ?_; (case hc => rfl); (case hn => walk_at "has")))
local macro_rules | `(tactic| walk_at "js") => `(tactic| first
  | with_reducible refine JF_cons ?_
  | with_reducible refine JF_nil ?_
  | refine JF_Assign ?_
  | with_reducible refine JF_If ?_
  | with_reducible refine JF_Return ?_
  | refine JF_Expr ?_
  | with_reducible refine JV_int ?_
  | with_reducible refine JV_bool ?_
  | with_reducible refine JV_none ?_
  | with_reducible refine JV_str ?_
  | with_reducible refine JV_BinOp ?_
  | refine JV_Compare ?_
  | with_reducible refine JV_IfExp ?_
  | refine Test_cmp ?_
  | with_reducible refine Test_not ?_
  | with_reducible refine Test_and ?_
  | with_reducible refine Test_and_nil ?_
  | with_reducible refine Test_or ?_
  | with_reducible refine Test_or_nil ?_
  | with_reducible refine Tru_bool ?_
  | refine JV_List ?_
  | refine JV_Tuple ?_
  | with_reducible refine Args_nil ?_
  | refine Args_cons ?_
  | with_reducible refine Bin_add ?_
  | with_reducible refine Cmp_eq ?_
  | with_reducible refine Cmp_ne ?_
  | with_reducible refine Cmp_lt ?_
  | with_reducible refine Cmp_le ?_
  | with_reducible refine Cmp_gt ?_
  | with_reducible refine Cmp_ge ?_
  | walk_at "name"
  | walk_at "store")
local macro_rules | `(tactic| walk_at "inst") => `(tactic| (refine' Inst.mk ?ix ?id; (case ix => walk_at "has"); (case id => walk_at "has")))
local macro_rules | `(tactic| walk_at "kfun") => `(tactic| (refine' Call_K (by assumption) (by assumption) ?k1 ?k2 ?k3 ?k4 ?_ ?k5 ?k6; (case k1 => k_is); (case k2 => rfl); (case k3 => rfl); (case k4 => k_is); (case k5 => rfl); (case k6 => rfl)))
local macro_rules | `(tactic| walk_at "kcode") => `(tactic| (refine' Code_K (by assumption) (by assumption) ?k1 ?k2 ?k3 ?k4 ?_ ?k5 ?k6; (case k1 => k_is); (case k2 => rfl); (case k3 => rfl); (case k4 => k_is); (case k5 => rfl); (case k6 => rfl)))
local macro_rules | `(tactic| walk_at "methk") => `(tactic| (refine' Meth_K (by assumption) ?mi ?mv ?_ ?g1 ?g2 ?g3 ?g4; (case mi => walk_at "inst"); (case mv => first | exact fields_none (by assumption) (by decide) | rfl); (case g1 => k_is); (case g2 => k_is); (case g3 => k_is); (case g4 => k_is)))
local macro_rules | `(tactic| walk_at "getown") => `(tactic| (refine' Get_own (by assumption) ?mi ?mv ?_ ?g1 ?g2 ?gh; (case mi => walk_at "inst"); (case mv => rfl); (case g1 => k_is); (case g2 => kernel_rfl); (case gh => rfl)))
local macro_rules | `(tactic| walk_at "setown") => `(tactic| (refine' SetAttr_inst (by assumption) ?sx ?sd ?sk ?_ ?se ?sl; (case sx => walk_at "has"); (case sd => walk_at "upd"); (case se => rfl); (case sl => exact Nat.le_of_ble_eq_true rfl); (case sk => kernel_rfl)))
local macro_rules | `(tactic| walk_at "keepk") => `(tactic| (exact Keep_K (by assumption) (by k_is)))
local macro_rules | `(tactic| walk_at "apart") => `(tactic| first | (apply Apart.left; k_mem; done) | (apply Apart.right; k_mem; done) | (apply Apart.tail; walk_at "apart"))
local macro_rules | `(tactic| walk_at "kgen") => `(tactic| (refine' Call_gen (by assumption) (by assumption) ?k1 ?k2 ?k3 ?k4 ?_ ?k5 ?k6; (case k1 => k_is); (case k2 => rfl); (case k3 => rfl); (case k4 => k_is); (case k5 => rfl); (case k6 => rfl)))

def stackOwn (prog : Program) (w : World) (G : Gr) (ep : Int → Nat) : List SE → Own
  | [] => []
  | e :: S => (e.t, ATup [iv e.u, .ref e.it]) :: (e.it, AKeyIter (G.S e.u) e.i (G.sk e.u).length (ep e.u)) :: stackOwn prog w G ep S
def dfsW (prog : Program) (w : World) (G : Gr) (ep : Int → Nat) (s0 : Int) (L m v st nl ni : Addr) : List Int → List SE → Own → Own := fun V S rest =>
  (L, ANs [(Str.ofString "depth_limit", iv G.names.length), (Str.ofString "get_children", .ref m), (Str.ofString "visited", .ref v), (Str.ofString "start", iv s0), (Str.ofString "stack", .ref st), (Str.ofString "depth_now", iv S.length)]) ::
      (m, AMeth 795 G.x) :: (v, ASet prog w V) :: (st, AList (S.map fun e => .ref e.t).reverse) :: (nl, AList [iv s0]) :: (ni, AListIter nl 1) :: (stackOwn prog w G ep S ++ rest)
def dfsC (prog : Program) (w : World) (G : Gr) (ep : Int → Nat) (s0 : Int) (L m v st nl ni : Addr) : List Int → List SE → Own → Own := fun V S rest =>
  (L, ANs ([(Str.ofString "depth_limit", iv G.names.length), (Str.ofString "get_children", .ref m), (Str.ofString "visited", .ref v), (Str.ofString "start", iv s0), (Str.ofString "stack", .ref st), (Str.ofString "depth_now", iv S.length)] ++
        match S with | e :: _ => [(Str.ofString "parent", iv e.u), (Str.ofString "children", .ref e.it)] | [] => [])) ::
      (m, AMeth 795 G.x) :: (v, ASet prog w V) :: (st, AList (S.map fun e => .ref e.t).reverse) :: (nl, AList [iv s0]) :: (ni, AListIter nl 1) :: (stackOwn prog w G ep S ++ rest)
theorem dfsW_app {prog : Program} {w : World} {G : Gr} {ep : Int → Nat} {s0 : Int} {L m v st nl ni : Addr} {V : List Int} {S : List SE} {rest : Own} : dfsW prog w G ep s0 L m v st nl ni V S [] ++ rest = dfsW prog w G ep s0 L m v st nl ni V S rest := by
  unfold dfsW; simp
theorem dfsC_app {prog : Program} {w : World} {G : Gr} {ep : Int → Nat} {s0 : Int} {L m v st nl ni : Addr} {V : List Int} {S : List SE} {rest : Own} : dfsC prog w G ep s0 L m v st nl ni V S [] ++ rest = dfsC prog w G ep s0 L m v st nl ni V S rest := by
  unfold dfsC; simp
section
variable {prog : Program} {w : World} {B : Bs} {A : Around} {own : Own} {gs : Array GenState} {p : Program} {loose : List Str} {mg mb : Str → Option Value} {Q : QV}
theorem dfs_spec (T : TopB (hd.heap_39 w.params) p loose mg mb B) (hA : AOk B A 10) {G : Gr} {ep : Int → Nat} (hG : G.Ok) (hB : GBase 873 prog w B G ep) {s0 : Int} (hs0 : s0 ∈ G.names) {E : List DE}
  (hE : DRun (fun u => (G.sk u).map (·.1)) [s0] [(s0, 0)] E)
  (h : ∀ a st int, GY prog w B 9 (evD (s0, s0, .fwd) :: (E.map evD ++ [evD (s0, s0, .rev)])) st int none → Q (.ref a) ((a, AGen gs.size) :: (int ++ own)) (gs.push st)) :
    CallKJ prog w B A (.ref 57) [.ref G.x] [("source", iv s0), ("depth_limit", .none), ("sort_neighbors", .none)] own gs Q := by
  have hmo := hG.mo
  have hB' := hB
  obtain ⟨hx, hdx, hnd, hsu, hS⟩ := hB
  walk_at "kgen"
  intro us ks hus hks
  obtain ⟨u1, rfl, h1⟩ := er1 hus
  obtain ⟨k1, k2, k3, rfl, h2, h3, h4⟩ := er3 hks
  refine Bind_dflt T (T := 49) (by k_is) (by rfl) (by rfl) ?_
  refine J_eq (by rfl) ?_
  dsimp only
  intro L
  refine Cells_cell fun cG => Cells_skip (by decide) (Cells_skip (by decide) (Cells_cell fun cS => ?_))
  walk_at "cells"
  dsimp only [newEnv]
  refine Stores_cons h1 ?_
  walk_at "store"
  refine Stores_cons h2 ?_
  walk_at "store"
  refine Stores_cons h3 ?_
  walk_at "store"
  refine Stores_cons h4 ?_
  walk_at "store"
  refine Stores_nil ?_
  intro a
  refine h a _ [(cS, _), (cG, _), (L, _)] (GY_iff.mpr fun A1 rest gs1 hA1 _ => ?_)
  show SJ prog w B A1 _ _ _ [] _ gs1
  refine SJ_func ?_
  dsimp only [List.cons_append, List.nil_append]
  have hA2 := fun b e => hA1.over_func (b := b) (e := e)
  refine SF_plain (JF_If (Test_cmp ?_))
  walk_at "name"
  refine JV_none (Cmp_isNoneInt (Tru_bool ?_))
  rw [if_neg (by decide)]
  refine JF_cons (JF_Assign (JV_List (Args_cons ?_)))
  walk_at "name"
  refine Args_nil ⟨by simp, fun nl => ?_⟩
  walk_at "store"
  refine JF_nil ⟨rfl, ?_⟩
  refine SF_plain (JF_If (Test_cmp ?_))
  walk_at "name"
  refine JV_none (Cmp_isNoneNone (Tru_bool ?_))
  rw [if_pos (by rfl)]
  refine JF_cons (JF_Assign (JV_Call (JV_builtin T (by k_is) boot_len ⟨rfl, Args_cons ?_⟩)))
  walk_at "name"
  refine Args_nil ⟨Keep_builtin, Call_lenInst T (k := G.names.length) (by walk_at "inst") (by k_is) (by k_is) (len_spec T ((hA2 _ _).in1.less) hG hB' ⟨rfl, by have := hG.len; omega, ?_⟩)⟩
  walk_at "store"
  refine JF_nil ⟨rfl, ?_⟩
  refine SF_plain (JF_Assign (JV_IfExp (Test_cmp ?_)))
  walk_at "name"
  refine JV_none (Cmp_isNoneNone (Tru_bool ?_))
  rw [if_pos (by rfl)]
  refine JV_Attr ?_
  walk_at "name"
  refine' Get_meth (f := 795) T ?mi ?mv ?_ ?g1 ?g2 ?g3 ?g4
  (case mi => walk_at "inst")
  (case mv => exact fields_none hmo (by decide))
  (case g1 => k_is)
  (case g2 => kernel_rfl)
  (case g3 => k_is)
  (case g4 => k_is)
  intro m
  walk_at "store"
  refine ⟨rfl, SF_plain (JF_Assign (JV_Call (JV_builtin T (by k_is) boot_set ⟨rfl, Args_nil ⟨Keep_type, Call_set0 fun v => ?_⟩⟩)))⟩
  walk_at "store"
  refine ⟨rfl, SF_For ?_⟩
  walk_at "name"
  refine Iter_list (xs := [iv s0]) (by walk_at "has") fun ni k p hk => ?_
  refine SJ_forLoop (NextJ_sub (o₂ := (ni, AListIter nl 0) :: _) (Sub.refl _) (Next_list' (xs := [iv s0]) (hA2 _ _).over_for (by walk_at "has") ?_))
  dsimp only [List.getElem?_cons_zero]
  refine Assign_name ?_
  walk_at "store"
  refine SF_plain (JF_If (Test_cmp ?_))
  walk_at "name"
  walk_at "name"
  refine Cmp_inSet (S := []) (by walk_at "has") (Tru_bool ?_)
  rw [if_neg (by simp)]
  refine JF_nil ⟨rfl, ?_⟩
  refine SF_Yield rfl rfl (JV_Tuple (Args_cons ?_))
  walk_at "name"
  refine Args_cons ?_
  walk_at "name"
  refine Args_cons (JV_str ?_)
  refine Args_nil ⟨by simp, fun t => ?_⟩
  intro kk l pp u hu hkk
  rw [er_eq_ref hu]
  refine ⟨_, [(t, ATup [iv s0, iv s0, .str "forward" 0])], [(L, ANs [(Str.ofString "depth_limit", iv G.names.length), (Str.ofString "get_children", .ref m), (Str.ofString "visited", .ref v), (Str.ofString "start", iv s0)]), (m, AMeth 795 G.x), (v, ASet prog w []), (nl, AList [iv s0]), (ni, AListIter nl 1)], none, rfl, ⟨t, rfl, rfl⟩, ?_, rfl, rfl, GY_iff.mpr fun A2 rest2 gs2 hA2' _ => ?_⟩
  · dsimp only [List.cons_append, List.nil_append]
    walk_at "sub"
  show SJ prog w B A2 _ _ (kk (.send .none)) _ _ gs2
  refine hkk _ _ _ _ ?_
  dsimp only [List.cons_append, List.nil_append]
  have hA3 := fun b e k g l p kp t i b' o' e' => (hA2'.over_func (b := b) (e := e)).over_for (k := k) (g := g) (l := l) (p := p) (kp := kp) (t := t) (i := i) (b := b') (o := o') (e := e')
  -- visited.add(start)
  refine SF_plain (JF_Expr (JV_MCall ?_))
  walk_at "name"
  refine Meth_builtin F.plainAttrs_set F.slot_set_add F.type_set_add ⟨v, ASet prog w [], rfl, by walk_at "has", fun ob ⟨_, _, _, h, _⟩ => ⟨h.1, h.2.1⟩⟩ ?_
  refine Args_cons ?_
  walk_at "name"
  refine' Args_nil ⟨Keep_builtin, Call_setAdd (S := []) ?hu (by simp) ?_⟩
  (case hu => walk_at "upd")
  -- stack = [(start, get_children(start))]
  refine ⟨rfl, SF_plain (JF_Assign (JV_List (Args_cons (JV_Tuple (Args_cons ?_)))))⟩
  walk_at "name"
  refine Args_cons (JV_Call ?_)
  walk_at "name"
  refine ⟨rfl, Args_cons ?_⟩
  walk_at "name"
  refine Args_nil ⟨Keep_meth (f := 795) T (by walk_at "has") (by k_is) (by rfl), Call_meth (f := 795) (by walk_at "has") (succ_spec T ((hA3 _ _ _ _ _ _ _ _ _ _ _ _).less) hG hB' hs0 fun it => ?_)⟩
  refine Args_nil ⟨by simp, fun tt => ?_⟩
  refine Args_nil ⟨by simp, fun st => ?_⟩
  walk_at "store"
  refine ⟨rfl, SF_plain (JF_Assign (JV_int ?_))⟩
  walk_at "store"
  refine ⟨rfl, SF_While fun k1 p1 hk1 => ?_⟩
  have hcl : ∀ u ∈ G.names, ∀ c ∈ (G.sk u).map (·.1), c ∈ G.names := fun u hu c hc => by
    obtain ⟨e, he, rfl⟩ := List.mem_map.mp hc
    exact (hG.sk u hu e he).1
  refine' SJ_sub ?hsub (dfs_loops (prog := prog) (w := w) (B := B) (n := 9) (names := G.names) hcl
    (dfsW prog w G ep s0 L m v st nl ni) (dfsC prog w G ep s0 L m v st nl ni)
    ?hW ?hW0 ?hnon ?hfwd ?hpop ?hlast hE [⟨s0, 0, tt, it⟩] rfl ⟨by simp, by simpa using hs0, by simp, by simpa using hs0⟩ A2 rest2 gs2 hA2')
  case hsub =>
    dsimp only [dfsW, stackOwn, List.cons_append, List.nil_append, List.map_cons, List.map_nil, List.reverse_cons, List.reverse_nil, List.length_cons, List.length_nil]
    walk_at "sub"
  case hW =>
    intro A Out V e S rest gs hA hI hk2
    simp only [dfsW, stackOwn, List.map_cons, List.reverse_cons, List.cons_append]
    have hlen := hI.len
    have hlen2 := hI.nd.length_le_of_subset (l₂ := G.names) fun v hv => hI.sub v hv
    have hl3 := hG.len
    refine SJ_whileLoop (Test_plain ?_)
    walk_at "name"
    refine Tru_list (by walk_at "has") (by simp at hlen ⊢; omega) ?_
    rw [if_pos (by simp)]
    refine SF_plain (JF_Assign1 (JV_Subscript ?_))
    walk_at "name"
    refine JV_Neg ?_
    refine Item_last (by walk_at "has") ?_
    refine' Assign_tup (xs := [iv e.u, .ref e.it]) ?hA (by walk_at "has") (Assign_name ?_)
    case hA => exact hA.over_func.over_for.over_while
    walk_at "store"
    refine Assign_name ?_
    walk_at "store"
    refine ⟨rfl, SF_For ?_⟩
    walk_at "name"
    intro u hu
    rw [er_eq_ref hu]
    refine Iter_key (by walk_at "has") ?_
    intro k2 p2 hk3
    have := hk2 k2 p2 (fun A' Out' c' o' g' hs => hk3 A' Out' c' o' g' (SF_nil hs))
    simp only [dfsC, stackOwn, List.map_cons, List.reverse_cons, List.cons_append] at this
    exact this
  case hnon =>
    intro A V e S c E' rest gs k2 p2 hA hI hxx hc hk2 next
    have hu0 := hI.mem e (.head _)
    have hxx' : ((G.sk e.u).map (·.1))[e.i]? = some c := hxx
    simp only [dfsC, stackOwn, List.map_cons, List.reverse_cons, List.cons_append, List.nil_append]
    refine' SJ_forLoop (Next_keySome (kvs := G.sk e.u) ?hA rfl (.base (hS _ hu0)) ?hu hxx' (Assign_name ?_))
    case hA => exact hA.over_func.over_for.over_while.over_for
    case hu => walk_at "upd"
    walk_at "store"
    refine SF_If (Test_cmp ?_)
    walk_at "name"
    walk_at "name"
    refine Cmp_inSet (S := V) (by walk_at "has") (Tru_bool ?_)
    intro K' hK1 hK2
    rw [if_pos (by simpa using hc)]
    refine SF_Yield rfl rfl (JV_Tuple (Args_cons ?_))
    walk_at "name"
    refine Args_cons ?_
    walk_at "name"
    refine Args_cons (JV_str ?_)
    refine Args_nil ⟨by simp, fun t => ?_⟩
    intro kk l pp u hu' hkk
    rw [er_eq_ref hu']
    refine ⟨_, [(t, ATup [iv e.u, iv c, .str "nontree" 0])], dfsC prog w G ep s0 L m v st nl ni V ({ e with i := e.i + 1 } :: S) [], none, rfl, ⟨t, rfl, rfl⟩, ?_, rfl, rfl, GY_iff.mpr fun A3 rest3 gs3 hA3 _ => ?_⟩
    · rw [dfsC_app]
      simp only [dfsC, stackOwn, List.map_cons, List.reverse_cons, List.cons_append, List.nil_append]
      walk_at "sub"
    · show SJ prog w B A3 _ _ (kk (.send .none)) _ _ gs3
      rw [dfsC_app]
      exact hkk _ _ _ _ (SF_nil (hK1 _ _ _ _ (SF_nil (SJ_again rfl (next A3 rest3 gs3 hA3)))))
  case hfwd =>
    intro A V e S c E' rest gs k2 p2 hA hI hxx hc hcn hk2 next
    have hu0 := hI.mem e (.head _)
    have hxx' : ((G.sk e.u).map (·.1))[e.i]? = some c := hxx
    have hshort := hI.short hcn hc
    have hlen2 := hI.nd.length_le_of_subset (l₂ := G.names) fun v hv => hI.sub v hv
    have hl3 := hG.len
    simp only [dfsC, stackOwn, List.map_cons, List.reverse_cons, List.cons_append, List.nil_append]
    refine' SJ_forLoop (Next_keySome (kvs := G.sk e.u) ?hA rfl (.base (hS _ hu0)) ?hu hxx' (Assign_name ?_))
    case hA => exact hA.over_func.over_for.over_while.over_for
    case hu => walk_at "upd"
    walk_at "store"
    refine SF_If (Test_cmp ?_)
    walk_at "name"
    walk_at "name"
    refine Cmp_inSet (S := V) (by walk_at "has") (Tru_bool ?_)
    intro K' hK1 hK2
    rw [if_neg (by simpa using hc)]
    refine SF_Yield rfl rfl (JV_Tuple (Args_cons ?_))
    walk_at "name"
    refine Args_cons ?_
    walk_at "name"
    refine Args_cons (JV_str ?_)
    refine Args_nil ⟨by simp, fun t => ?_⟩
    intro kk l pp u hu' hkk
    rw [er_eq_ref hu']
    refine ⟨_, [(t, ATup [iv e.u, iv c, .str "forward" 0])], (L, ANs ([(Str.ofString "depth_limit", iv G.names.length), (Str.ofString "get_children", .ref m), (Str.ofString "visited", .ref v), (Str.ofString "start", iv s0), (Str.ofString "stack", .ref st), (Str.ofString "depth_now", iv (e :: S).length), (Str.ofString "parent", iv e.u), (Str.ofString "children", .ref e.it), (Str.ofString "child", iv c)])) ::
      (m, AMeth 795 G.x) :: (v, ASet prog w V) :: (st, AList ((S.map fun e => .ref e.t).reverse ++ [.ref e.t])) :: (nl, AList [iv s0]) :: (ni, AListIter nl 1) :: (stackOwn prog w G ep ({ e with i := e.i + 1 } :: S) ++ []), none, rfl, ⟨t, rfl, rfl⟩, ?_, rfl, rfl, GY_iff.mpr fun A3 rest3 gs3 hA3 _ => ?_⟩
    · simp only [stackOwn, List.map_cons, List.reverse_cons, List.cons_append, List.nil_append, List.append_nil]
      walk_at "sub"
    · show SJ prog w B A3 _ _ (kk (.send .none)) _ _ gs3
      simp only [stackOwn, List.map_cons, List.reverse_cons, List.cons_append, List.nil_append, List.append_nil]
      refine hkk _ _ _ _ ?_
      -- visited.add(child)
      refine SF_plain (JF_Expr (JV_MCall ?_))
      walk_at "name"
      refine Meth_builtin F.plainAttrs_set F.slot_set_add F.type_set_add ⟨v, ASet prog w V, rfl, by walk_at "has", fun ob ⟨_, _, _, h, _⟩ => ⟨h.1, h.2.1⟩⟩ ?_
      refine Args_cons ?_
      walk_at "name"
      refine' Args_nil ⟨Keep_builtin, Call_setAdd (S := V) ?hu (by omega) ?_⟩
      case hu => walk_at "upd"
      refine ⟨rfl, SF_If (Test_cmp ?_)⟩
      walk_at "name"
      walk_at "name"
      refine Cmp_lt (Tru_bool ?_)
      intro K'' hK1' hK2'
      rw [if_pos (by simp only [decide_eq_true_eq]; omega)]
      -- stack.append((child, iter(get_children(child))))
      refine SF_plain (JF_Expr (JV_MCall ?_))
      walk_at "name"
      refine Meth_builtin F.plainAttrs_list F.slot_list_append F.type_list_append ⟨st, AList _, rfl, by walk_at "has", AList.plain⟩ ?_
      refine Args_cons (JV_Tuple (Args_cons ?_))
      walk_at "name"
      refine Args_cons (JV_Call (JV_builtin T (by k_is) boot_iter ⟨rfl, Args_cons (JV_Call ?_)⟩))
      walk_at "name"
      refine ⟨rfl, Args_cons ?_⟩
      walk_at "name"
      refine' Args_nil ⟨Keep_meth (f := 795) T (by walk_at "has") (by k_is) (by rfl), Call_meth (f := 795) (by walk_at "has") (succ_spec T ?hA hG hB' hcn fun it2 => ?_)⟩
      case hA => exact hA3.over_func.over_for.over_while.over_for.less
      refine Args_nil ⟨Keep_builtin, J_iterCall (Iter_key (by walk_at "has") ?_)⟩
      refine Args_nil ⟨by simp, fun t2 => ?_⟩
      refine' Args_nil ⟨Keep_builtin, Call_append ?hu ?_ ?_⟩
      case hu => walk_at "upd"
      · simp at hshort ⊢; omega
      refine ⟨rfl, SF_plain (JF_AugAdd (a := ((e :: S).length : Int)) (by walk_at "has") (by rfl) (JV_int ⟨1, rfl, ?_⟩))⟩
      walk_at "store"
      refine ⟨rfl, SF_last (JF_Break ?_)⟩
      dsimp only
      rw [hK2' .brk (by simp), hK2 .brk (by simp)]
      refine hk2 _ _ _ _ _ (SJ_again rfl (SJ_sub ?_ (next A3 rest3 gs3 t2 it2 hA3)))
      simp only [dfsW, stackOwn, List.map_cons, List.reverse_cons, List.cons_append, List.nil_append]
      walk_at "sub"
  case hpop =>
    intro A V e e' S E' rest gs k2 p2 hA hI hxx hk2 next
    have hu0 := hI.mem e (.head _)
    have hxx' : ((G.sk e.u).map (·.1))[e.i]? = none := hxx
    have hlen := hI.len
    have hlen2 := hI.nd.length_le_of_subset (l₂ := G.names) fun v hv => hI.sub v hv
    have hl3 := hG.len
    simp only [dfsC, stackOwn, List.map_cons, List.reverse_cons, List.cons_append, List.nil_append]
    refine' SJ_forLoop (Next_keyNone (kvs := G.sk e.u) ?hA rfl (.base (hS _ hu0)) ?hp hxx' ?_)
    case hA => exact hA.over_func.over_for.over_while.over_for
    case hp => walk_at "pick"
    -- stack.pop()
    refine SF_plain (JF_Expr (JV_MCall ?_))
    walk_at "name"
    refine Meth_builtin F.plainAttrs_list F.slot_list_pop F.type_list_pop ⟨st, AList _, rfl, by walk_at "has", AList.plain⟩ ?_
    refine' Args_nil ⟨Keep_builtin, Call_pop ?hu ?_ ?_⟩
    case hu => walk_at "upd"
    · simp at hlen ⊢; omega
    refine ⟨rfl, SF_plain (JF_AugSub (a := ((e :: e' :: S).length : Int)) (by walk_at "has") (by rfl) (JV_int ⟨1, rfl, ?_⟩))⟩
    walk_at "store"
    refine ⟨rfl, SF_If (Test_plain ?_)⟩
    walk_at "name"
    refine Tru_list (by walk_at "has") (by simp at hlen ⊢; omega) ?_
    intro K' hK1 hK2
    rw [if_pos (by simp)]
    refine SF_Yield rfl rfl (JV_Tuple (Args_cons (JV_Subscript (JV_Subscript ?_))))
    walk_at "name"
    refine JV_Neg (Item_last (by walk_at "has") (JV_int ?_))
    refine Item_tup (xs := [iv e'.u, .ref e'.it]) (k := 0) (x := iv e'.u) (by walk_at "has") (by decide) (by decide) (by rfl) ?_
    refine Args_cons ?_
    walk_at "name"
    refine Args_cons (JV_str ?_)
    refine Args_nil ⟨by simp, fun t => ?_⟩
    intro kk l pp u hu' hkk
    rw [er_eq_ref hu']
    refine ⟨_, [(t, ATup [iv e'.u, iv e.u, .str "reverse" 0])], dfsW prog w G ep s0 L m v st nl ni V (e' :: S) [], none, rfl, ⟨t, rfl, rfl⟩, ?_, rfl, rfl, GY_iff.mpr fun A3 rest3 gs3 hA3 _ => ?_⟩
    · rw [dfsW_app]
      simp only [dfsW, stackOwn, List.map_cons, List.reverse_cons, List.cons_append, List.nil_append]
      have e1 : ((e :: e' :: S).length : Int) - 1 = ((e' :: S).length : Int) := by simp
      rw [e1]
      walk_at "sub"
    · show SJ prog w B A3 _ _ (kk (.send .none)) _ _ gs3
      rw [dfsW_app]
      exact hkk _ _ _ _ (SF_nil (hK1 _ _ _ _ (SF_nil (hk2 _ _ _ _ _ (SJ_again rfl (next A3 rest3 gs3 hA3))))))
  case hlast =>
    intro A V e Out rest gs k2 p2 hA hI hxx hk2 hend
    have hu0 := hI.mem e (.head _)
    have hxx' : ((G.sk e.u).map (·.1))[e.i]? = none := hxx
    simp only [dfsC, stackOwn, List.map_cons, List.map_nil, List.reverse_cons, List.reverse_nil, List.cons_append, List.nil_append]
    refine' SJ_forLoop (Next_keyNone (kvs := G.sk e.u) ?hA rfl (.base (hS _ hu0)) ?hp hxx' ?_)
    case hA => exact hA.over_func.over_for.over_while.over_for
    case hp => walk_at "pick"
    refine SF_plain (JF_Expr (JV_MCall ?_))
    walk_at "name"
    refine Meth_builtin F.plainAttrs_list F.slot_list_pop F.type_list_pop ⟨st, AList _, rfl, by walk_at "has", AList.plain⟩ ?_
    refine' Args_nil ⟨Keep_builtin, Call_pop (xs := []) ?hu (by simp) ?_⟩
    case hu => walk_at "upd"
    refine ⟨rfl, SF_plain (JF_AugSub (a := (([e] : List SE).length : Int)) (by walk_at "has") (by rfl) (JV_int ⟨1, rfl, ?_⟩))⟩
    walk_at "store"
    refine ⟨rfl, SF_If (Test_plain ?_)⟩
    walk_at "name"
    refine Tru_list (xs := []) (by walk_at "has") (by decide) ?_
    intro K' hK1 hK2
    rw [if_neg (by simp)]
    refine SF_nil (hK1 _ _ _ _ (SF_nil (hk2 _ _ _ _ _ (SJ_again rfl (SJ_sub ?_ hend)))))
    simp only [dfsW, stackOwn, List.map_nil, List.reverse_nil, List.nil_append]
    walk_at "sub"
  case hW0 =>
    intro A V rest gs hA
    simp only [dfsW, stackOwn, List.map_nil, List.reverse_nil, List.nil_append]
    refine SJ_whileLoop (Test_plain ?_)
    walk_at "name"
    refine Tru_list (xs := []) (by walk_at "has") (by decide) ?_
    rw [if_neg (by simp)]
    refine SF_nil (hk1 _ _ _ _ _ ?_)
    refine SF_Yield rfl rfl (JV_Tuple (Args_cons ?_))
    walk_at "name"
    refine Args_cons ?_
    walk_at "name"
    refine Args_cons (JV_str ?_)
    refine Args_nil ⟨by simp, fun t => ?_⟩
    intro kk l pp u hu' hkk
    rw [er_eq_ref hu']
    refine ⟨_, [(t, ATup [iv s0, iv s0, .str "reverse" 0])], [(nl, AList [iv s0]), (ni, AListIter nl 1)], none, rfl, ⟨t, rfl, rfl⟩, ?_, rfl, rfl, GY_iff.mpr fun A3 rest3 gs3 hA3 _ => ?_⟩
    · dsimp only [List.cons_append, List.nil_append]
      walk_at "sub"
    · show SJ prog w B A3 _ _ (kk (.send .none)) _ _ gs3
      refine hkk _ _ _ _ (SF_nil (SJ_again rfl (SJ_forLoop ?_)))
      dsimp only [List.cons_append, List.nil_append]
      refine' NextJ_sub (o₂ := (ni, AListIter nl 1) :: (nl, AList [iv s0]) :: rest3) Sub.swap (Next_list' (xs := [iv s0]) ?hA (by walk_at "has") ?_)
      case hA => exact hA3.over_func.over_for
      dsimp only [List.getElem?_cons_succ, List.getElem?_nil]
      refine SF_nil (hk _ _ _ _ _ (SF_nil (SJ_end (.ok (.ret .none)) ⟨rfl, rfl, Sub.skip (Sub.refl _), rfl⟩)))
end
end Mine
end
section
set_option maxRecDepth 100000
set_option maxHeartbeats 4000000
open PySem PySem.Calls PyProof.Rows PySem.W PySem.Spec
namespace Mine
example : PySem.Challenge.rw_ci0025_01.prog = PySem.Challenge.rw_ci0025_01.prog ∧ hd.heap_39 = hd.heap_39 := by k_fill; exact ⟨rfl, rfl⟩
local macro_rules | `(tactic| k_mem) => `(tactic| first | apply List.Mem.head | exact Gr.memS (by assumption) | exact Gr.memP (by assumption) | exact Gr.memJ (by assumption) | (apply List.Mem.tail; k_mem))
local macro_rules | `(tactic| walk_at "has") => `(tactic| first | (apply Has.own; k_mem) | (apply Has.base; assumption))
local macro_rules | `(tactic| walk_at "upd") => `(tactic| first | apply Upd.head | exact Gr.updS (by assumption) (by assumption) | exact Gr.updP (by assumption) (by assumption) | (apply Upd.tail; walk_at "upd"))
local macro_rules | `(tactic| walk_at "setl") => `(tactic| first | apply SetL.nil | apply SetL.here | (apply SetL.next (by rfl); walk_at "setl"))
local macro_rules | `(tactic| walk_at "cells") => `(tactic| repeat' (first | refine Cells_nil ?_ | refine Cells_skip (by decide) ?_ | (refine Cells_cell ?_; intro _)))
local macro_rules | `(tactic| walk_at "pick") => `(tactic| first | apply PickR.head | (apply PickR.tail; walk_at "pick"))
local macro_rules | `(tactic| walk_at "weak") => `(tactic| first | exact fun _ h => h | exact AEmpty.toAD | (refine ANs.sub ?_; repeat' (first | exact List.forall_mem_nil _ | refine List.forall_mem_cons.mpr ⟨rfl, ?_⟩)))
local macro_rules | `(tactic| walk_at "subt") => `(tactic| first | exact Sub.refl _ | (refine Sub.skip ?_; walk_at "subt"))
local macro_rules | `(tactic| walk_at "sub") => `(tactic| first | apply Sub.nil | (refine' Sub.pick ?hp ?hw ?_; (case hp => walk_at "pick"); (case hw => walk_at "weak"); walk_at "sub") | walk_at "subt")
local macro_rules | `(tactic| walk_at "store") => `(tactic| first | (refine' Store_local ?hu ?hs ?_; (case hu => walk_at "upd"); (case hs => walk_at "setl")) | (refine' Store_cell ?hc ?hu ?_; (case hc => rfl); (case hu => walk_at "upd")))

local macro_rules | `(tactic| walk_at "name") => `(tactic| first
  | (refine' JV_local ?hn ?hv ?_; (case hn => walk_at "has"); (case hv => rfl))
  | (refine' JV_cell ?hc ?hn ?_; (case hc => rfl); (case hn => walk_at "has"))
  | (refine' JV_free ?hc ?hn ?_; (case hc => rfl); (case hn => walk_at "has")))
local macro_rules | `(tactic| walk_at "js") => `(tactic| first
  | with_reducible refine JF_cons ?_
  | with_reducible refine JF_nil ?_
  | refine JF_Assign ?_
  | with_reducible refine JF_If ?_
  | with_reducible refine JF_Return ?_
  | refine JF_Expr ?_
  | with_reducible refine JV_int ?_
  | with_reducible refine JV_bool ?_
  | with_reducible refine JV_none ?_
  | with_reducible refine JV_str ?_
  | with_reducible refine JV_BinOp ?_
  | refine JV_Compare ?_
  | with_reducible refine JV_IfExp ?_
  | refine Test_cmp ?_
  | with_reducible refine Test_not ?_
  | with_reducible refine Test_and ?_
  | with_reducible refine Test_and_nil ?_
  | with_reducible refine Test_or ?_
  | with_reducible refine Test_or_nil ?_
  | with_reducible refine Tru_bool ?_
  | refine JV_List ?_
  | refine JV_Tuple ?_
  | with_reducible refine Args_nil ?_
  | refine Args_cons ?_
  | with_reducible refine Bin_add ?_
  | with_reducible refine Cmp_eq ?_
  | with_reducible refine Cmp_ne ?_
  | with_reducible refine Cmp_lt ?_
  | with_reducible refine Cmp_le ?_
  | with_reducible refine Cmp_gt ?_
  | with_reducible refine Cmp_ge ?_
  | walk_at "name"
  | walk_at "store")
local macro_rules | `(tactic| walk_at "inst") => `(tactic| (refine' Inst.mk ?ix ?id; (case ix => walk_at "has"); (case id => walk_at "has")))
local macro_rules | `(tactic| walk_at "kfun") => `(tactic| (refine' Call_K (by assumption) (by assumption) ?k1 ?k2 ?k3 ?k4 ?_ ?k5 ?k6; (case k1 => k_is); (case k2 => rfl); (case k3 => rfl); (case k4 => k_is); (case k5 => rfl); (case k6 => rfl)))
local macro_rules | `(tactic| walk_at "kcode") => `(tactic| (refine' Code_K (by assumption) (by assumption) ?k1 ?k2 ?k3 ?k4 ?_ ?k5 ?k6; (case k1 => k_is); (case k2 => rfl); (case k3 => rfl); (case k4 => k_is); (case k5 => rfl); (case k6 => rfl)))
local macro_rules | `(tactic| walk_at "methk") => `(tactic| (refine' Meth_K (by assumption) ?mi ?mv ?_ ?g1 ?g2 ?g3 ?g4; (case mi => walk_at "inst"); (case mv => first | exact fields_none (by assumption) (by decide) | rfl); (case g1 => k_is); (case g2 => k_is); (case g3 => k_is); (case g4 => k_is)))
local macro_rules | `(tactic| walk_at "getown") => `(tactic| (refine' Get_own (by assumption) ?mi ?mv ?_ ?g1 ?g2 ?gh; (case mi => walk_at "inst"); (case mv => rfl); (case g1 => k_is); (case g2 => kernel_rfl); (case gh => rfl)))
local macro_rules | `(tactic| walk_at "setown") => `(tactic| (refine' SetAttr_inst (by assumption) ?sx ?sd ?sk ?_ ?se ?sl; (case sx => walk_at "has"); (case sd => walk_at "upd"); (case se => rfl); (case sl => exact Nat.le_of_ble_eq_true rfl); (case sk => kernel_rfl)))
local macro_rules | `(tactic| walk_at "keepk") => `(tactic| (exact Keep_K (by assumption) (by k_is)))
local macro_rules | `(tactic| walk_at "apart") => `(tactic| first | (apply Apart.left; k_mem; done) | (apply Apart.right; k_mem; done) | (apply Apart.tail; walk_at "apart"))
local macro_rules | `(tactic| walk_at "kgen") => `(tactic| (refine' Call_gen (by assumption) (by assumption) ?k1 ?k2 ?k3 ?k4 ?_ ?k5 ?k6; (case k1 => k_is); (case k2 => rfl); (case k3 => rfl); (case k4 => k_is); (case k5 => rfl); (case k6 => rfl)))

def posts (l : List DE) : List Int := (l.filter fun e => e.2.2 == .rev).map fun e => e.2.1
theorem codeHd_of {K : Frag} {c P : Addr} {h : Heap} {o : Obj} {vs : Array Value} {file : Str} {tf : Tok} {flags : Int} {tg : Tok} {inF : Bool} {text : Int} {tt : Tok} (X : K.In h) (k1 : K.lookup c = some o) (h0 : o.cls = .type "code") (h1 : o.data = .fields vs) (h2 : vs[11]? = some (.ref P))
    (h4 : vs.getD 18 .none = .str file tf) (h5 : vs.getD 7 .none = .int flags tg) (h6 : vs.getD 9 .none = .bool inF) (h7 : vs.getD 10 .none = .int text tt) (h8 : c ≠ P) : CodeHd h c P :=
  ⟨o, vs, file, tf, flags, tg, inF, text, tt, X _ _ k1, h0, h1, h2, by rw [Array.getD_eq_getD_getElem?, h2]; rfl, h4, h5, h6, h7, h8⟩
section
variable {prog : Program} {w : World} {B : Bs} {A : Around} {own : Own} {gs : Array GenState} {p : Program} {loose : List Str} {mg mb : Str → Option Value} {Q : QV}
theorem post_spec (T : TopB (hd.heap_39 w.params) p loose mg mb B) (BM : BMain mg B) (hA : AOk B A 20) {G : Gr} {ep : Int → Nat} (hG : G.Ok) (hB : GBase 873 prog w B G ep) {s0 : Int} (hs0 : s0 ∈ G.names) {E : List DE}
  (hE : DRun (fun u => (G.sk u).map (·.1)) [s0] [(s0, 0)] E) {es : List (Pos × Addr)} (hes : es = [] ∨ ∃ c, es = [(⟨8, 11, 8, 53⟩, c)])
  (h : ∀ a st1 st2 int es', (es' = [] ∨ ∃ c, es' = [(⟨8, 11, 8, 53⟩, c)]) → GY prog w B 12 ((posts ((s0, s0, .fwd) :: (E ++ [(s0, s0, .rev)]))).map evP) st2 int (some (gs.size, st1)) → Q (.ref a) ((a, AGen (gs.size + 1)) :: (int ++ (43, ATab es') :: own)) ((gs.push st1).push st2)) :
    CallJ prog w B A (.ref 48) [.ref G.x, iv s0] ((43, ATab es) :: own) gs Q := by
  walk_at "kfun"
  intro us hus
  obtain ⟨u1, u2, rfl, h1, h2⟩ := er2 hus
  refine Bind_dflt T (T := 40) (by k_is) (by rfl) (by rfl) ?_
  refine Bind_kwOf3 T (T := 41) (x := "sort_neighbors") (v := some .none) (by rfl) (by k_is) ?_
  refine J_eq (by rfl) ?_
  dsimp only
  intro L
  walk_at "cells"
  dsimp only [newEnv]
  refine Stores_cons h1 ?_
  walk_at "store"
  refine Stores_cons h2 ?_
  walk_at "store"
  refine Stores_cons (x := .none) rfl ?_
  walk_at "store"
  refine Stores_cons (x := .none) rfl ?_
  walk_at "store"
  refine Stores_nil ?_
  intro A1 hA1
  dsimp only
  refine JF_cons (JF_Assign (JV_CallKw (JV_global T (by k_is) ⟨rfl, Args_cons ?_⟩)))
  walk_at "name"
  refine Args_nil ?_
  refine Kws_cons ?_
  walk_at "name"
  refine Kws_cons ?_
  walk_at "name"
  refine Kws_cons ?_
  walk_at "name"
  refine Kws_nil ⟨by walk_at "keepk", rfl, ?_⟩
  refine dfs_spec T (hA1.less) hG hB hs0 hE fun a1 st1 int1 hY1 => StoreJ_sub (Sub.of_perm perm3) ?_
  walk_at "store"
  refine JF_cons (JF_Return (JV_GenExp T BM hA1 ?_))
  walk_at "name"
  refine Iter_gen (g := gs.size) (by walk_at "has") ?_
  have hC : ∀ h, B.sat h → CodeHd h 47 43 := fun h hs => codeHd_of (T h hs).1 (by k_is) rfl rfl rfl rfl rfl rfl rfl (by decide)
  refine Gen_tab1 (es := es) rfl hC (by k_mem) hes fun code es' hes' => ⟨_, by walk_at "upd", ?_⟩
  intro C
  walk_at "cells"
  dsimp only [newEnv]
  refine Stores_cons (x := .ref a1) rfl ?_
  walk_at "store"
  refine Stores_nil ?_
  intro a2
  have hsz : (gs.push st1).size = gs.size + 1 := Array.size_push ..
  rw [hsz]
  refine ⟨_, ?_, h a2 st1 _ ((C, ANs [(Str.ofString ".0", .ref a1)]) :: (a1, AGen gs.size) :: int1) es' hes' (GY_iff.mpr fun A2 rest2 gs2 hA2 hg2 => ?_)⟩
  · exact Sub.keep (Sub.keep (Sub.skip (Sub.keep (Sub.of_perm List.perm_middle))))
  · have hY1' : GY prog w B 9 (((s0, s0, .fwd) :: (E ++ [(s0, s0, .rev)])).map evD) st1 int1 none := by simpa using hY1
    clear hY1 hsz
    generalize ((s0, s0, DK.fwd) :: (E ++ [(s0, s0, DK.rev)])) = ys at hY1'
    generalize gs.size = g1 at hg2
    show SJ prog w B A2 _ _ _ [] _ gs2
    refine' SJ_compStart ?hi ?_
    case hi => exact Iter_gen (g := g1) (.own (.tail _ (.head _))) ⟨rfl, rfl, rfl⟩ (.ref a1) rfl
    have hg2' : gs2[g1]? = some st1 := hg2
    clear hg2
    induction ys generalizing A2 rest2 gs2 st1 int1 with
    | nil =>
      refine SJ_compLoop1 (NextJ_sub (o₂ := int1 ++ ((C, ANs [(Str.ofString ".0", .ref a1)]) :: (a1, AGen g1) :: rest2)) (Sub.of_perm perm2) ?_) rfl rfl
      refine' Next_wake (n := 10) ?hA (limit_of T) (.own (List.mem_append_right _ (.tail _ (.head _)))) hg2' (GY_iff.mp hY1' _ _ _ ?hA' trivial) fun e o g' ho => .inr ?_
      case hA => exact hA2.over_nil (Nat.le_of_ble_eq_true rfl) (Nat.le_of_ble_eq_true rfl)
      case hA' => exact (hA2.over_nil (n := 11) (Nat.le_of_ble_eq_true rfl) (Nat.le_of_ble_eq_true rfl)).in1.less
      obtain ⟨e1, e2, hs, rfl⟩ := ho
      refine ⟨e1, e2, SJ_end (.ok .next) ⟨rfl, rfl, (Sub.skip (Sub.skip (Sub.refl _))).trans hs, ?_⟩⟩
      simp [gset]
    | cons e ys ih =>
      refine SJ_compLoop1 (NextJ_sub (o₂ := int1 ++ ((C, ANs [(Str.ofString ".0", .ref a1)]) :: (a1, AGen g1) :: rest2)) (Sub.of_perm perm2) ?_) rfl rfl
      refine' Next_wake (n := 10) ?hA (limit_of T) (.own (List.mem_append_right _ (.tail _ (.head _)))) hg2' (GY_iff.mp hY1' _ _ _ ?hA' trivial) fun ee o g' ho => .inl ?_
      case hA => exact hA2.over_nil (Nat.le_of_ble_eq_true rfl) (Nat.le_of_ble_eq_true rfl)
      case hA' => exact (hA2.over_nil (n := 11) (Nat.le_of_ble_eq_true rfl) (Nat.le_of_ble_eq_true rfl)).in1.less
      obtain ⟨v, ex, int', gl', e1, ⟨t, ht, rfl⟩, hs, hgl, rfl, hY'⟩ := ho
      refine ⟨v, e1, fun u hu => ?_⟩
      have hgl' : gl' = none := by simpa using hgl
      subst hgl'
      generalize ee.genState = st1' at hY' ⊢
      have hlt : g1 < gs2.size := (Array.getElem?_eq_some_iff.mp hg2').1
      have hgs : (gset none (gs2.setIfInBounds g1 .running)).setIfInBounds g1 st1' = gs2.setIfInBounds g1 st1' := by simp [gset]
      rw [hgs]
      have hg3 : (gs2.setIfInBounds g1 st1')[g1]? = some st1' := by simp [hlt]
      rw [er_eq_ref (hu.trans ht)]
      refine J_sub (o₂ := (t, ATup [iv e.1, iv e.2.1, .str e.2.2.str 0]) :: (C, ANs [(Str.ofString ".0", .ref a1)]) :: (a1, AGen g1) :: (int' ++ rest2)) ((Sub.keep (Sub.of_perm perm2')).trans hs) ?_
      refine LetGo_gen (g := g1) (by walk_at "has") ?_
      rw [ht]
      refine' Assign_tup (xs := [iv e.1, iv e.2.1, .str e.2.2.str 0]) ?hA3 (by walk_at "has") (Assign_name ?_)
      case hA3 => exact hA2.over_nil (n := 11) (Nat.le_of_ble_eq_true rfl) (Nat.le_of_ble_eq_true rfl)
      walk_at "store"
      refine Assign_name ?_
      walk_at "store"
      refine Assign_name ?_
      walk_at "store"
      refine Test_cmp ?_
      walk_at "name"
      refine JV_str (Cmp_eqStr (Tru_bool ?_))
      have ih' := ih
      by_cases hk : e.2.2 = .rev
      · have hp : posts (e :: ys) = e.2.1 :: posts ys := by simp [posts, hk]
        rw [hp, hk, if_pos (by rfl)]
        walk_at "name"
        intro kk l pp u' hu' hkk
        refine ⟨u', [], (C, ANs [(Str.ofString ".0", .ref a1)]) :: (a1, AGen g1) :: int', some (g1, st1'), rfl, ⟨hu', rfl⟩, ?_, rfl, rfl, GY_iff.mpr fun A3 rest3 gs3 hA3 hg4 => ?_⟩
        · dsimp only [List.nil_append, List.cons_append]
          walk_at "sub"
        · show SJ prog w B A3 _ _ (kk (.send .none)) [] _ gs3
          exact hkk _ _ _ _ (ih st1' int' A3 rest3 gs3 hA3 hY' hg4)
      · have hp : posts (e :: ys) = posts ys := by simp [posts, hk]
        have hf : (e.2.2.str == (Str.ofString "reverse")) = false := by
          cases q : e.2.2 with
          | fwd => rfl
          | non => rfl
          | rev => exact absurd q hk
        rw [hp, if_neg (by rw [hf]; decide)]
        refine SJ_mono (SJ_sub ?_ (ih st1' int' A2 rest2 (gs2.setIfInBounds g1 st1') hA2 hY' hg3)) fun e o g ho => GOut_set ho
        dsimp only [List.cons_append]
        walk_at "sub"
end
end Mine
end
section
set_option maxRecDepth 100000
set_option maxHeartbeats 4000000
open PySem PySem.Calls PyProof.Rows PySem.W PySem.Spec
namespace Mine
example : PySem.Challenge.rw_ci0025_01.prog = PySem.Challenge.rw_ci0025_01.prog ∧ hd.heap_39 = hd.heap_39 := by k_fill; exact ⟨rfl, rfl⟩
local macro_rules | `(tactic| k_mem) => `(tactic| first | apply List.Mem.head | exact Gr.memS (by assumption) | exact Gr.memP (by assumption) | exact Gr.memJ (by assumption) | (apply List.Mem.tail; k_mem))
local macro_rules | `(tactic| walk_at "has") => `(tactic| first | (apply Has.own; k_mem) | (apply Has.base; assumption))
local macro_rules | `(tactic| walk_at "upd") => `(tactic| first | apply Upd.head | exact Gr.updS (by assumption) (by assumption) | exact Gr.updP (by assumption) (by assumption) | (apply Upd.tail; walk_at "upd"))
local macro_rules | `(tactic| walk_at "setl") => `(tactic| first | apply SetL.nil | apply SetL.here | (apply SetL.next (by rfl); walk_at "setl"))
local macro_rules | `(tactic| walk_at "cells") => `(tactic| repeat' (first | refine Cells_nil ?_ | refine Cells_skip (by decide) ?_ | (refine Cells_cell ?_; intro _)))
local macro_rules | `(tactic| walk_at "pick") => `(tactic| first | apply PickR.head | (apply PickR.tail; walk_at "pick"))
local macro_rules | `(tactic| walk_at "weak") => `(tactic| first | exact fun _ h => h | exact AEmpty.toAD | (refine ANs.sub ?_; repeat' (first | exact List.forall_mem_nil _ | refine List.forall_mem_cons.mpr ⟨rfl, ?_⟩)))
local macro_rules | `(tactic| walk_at "subt") => `(tactic| first | exact Sub.refl _ | (refine Sub.skip ?_; walk_at "subt"))
local macro_rules | `(tactic| walk_at "sub") => `(tactic| first | apply Sub.nil | (refine' Sub.pick ?hp ?hw ?_; (case hp => walk_at "pick"); (case hw => walk_at "weak"); walk_at "sub") | walk_at "subt")
local macro_rules | `(tactic| walk_at "store") => `(tactic| first | (refine' Store_local ?hu ?hs ?_; (case hu => walk_at "upd"); (case hs => walk_at "setl")) | (refine' Store_cell ?hc ?hu ?_; (case hc => rfl); (case hu => walk_at "upd")))

local macro_rules | `(tactic| walk_at "name") => `(tactic| first
  | (refine' JV_local ?hn ?hv ?_; (case hn => walk_at "has"); (case hv => rfl))
  | (refine' JV_cell ?hc ?hn ?_; (case hc => rfl); (case hn => walk_at "has"))
  | (refine' JV_free ?hc ?hn ?_; (case hc => rfl); (case hn => walk_at "has")))
local macro_rules | `(tactic| walk_at "js") => `(tactic| first
  | with_reducible refine JF_cons ?_
  | with_reducible refine JF_nil ?_
  | refine JF_Assign ?_
  | with_reducible refine JF_If ?_
  | with_reducible refine JF_Return ?_
  | refine JF_Expr ?_
  | with_reducible refine JV_int ?_
  | with_reducible refine JV_bool ?_
  | with_reducible refine JV_none ?_
  | with_reducible refine JV_str ?_
  | with_reducible refine JV_BinOp ?_
  | refine JV_Compare ?_
  | with_reducible refine JV_IfExp ?_
  | refine Test_cmp ?_
  | with_reducible refine Test_not ?_
  | with_reducible refine Test_and ?_
  | with_reducible refine Test_and_nil ?_
  | with_reducible refine Test_or ?_
  | with_reducible refine Test_or_nil ?_
  | with_reducible refine Tru_bool ?_
  | refine JV_List ?_
  | refine JV_Tuple ?_
  | with_reducible refine Args_nil ?_
  | refine Args_cons ?_
  | with_reducible refine Bin_add ?_
  | with_reducible refine Cmp_eq ?_
  | with_reducible refine Cmp_ne ?_
  | with_reducible refine Cmp_lt ?_
  | with_reducible refine Cmp_le ?_
  | with_reducible refine Cmp_gt ?_
  | with_reducible refine Cmp_ge ?_
  | walk_at "name"
  | walk_at "store")
local macro_rules | `(tactic| walk_at "inst") => `(tactic| (refine' Inst.mk ?ix ?id; (case ix => walk_at "has"); (case id => walk_at "has")))
local macro_rules | `(tactic| walk_at "kfun") => `(tactic| (refine' Call_K (by assumption) (by assumption) ?k1 ?k2 ?k3 ?k4 ?_ ?k5 ?k6; (case k1 => k_is); (case k2 => rfl); (case k3 => rfl); (case k4 => k_is); (case k5 => rfl); (case k6 => rfl)))
local macro_rules | `(tactic| walk_at "kcode") => `(tactic| (refine' Code_K (by assumption) (by assumption) ?k1 ?k2 ?k3 ?k4 ?_ ?k5 ?k6; (case k1 => k_is); (case k2 => rfl); (case k3 => rfl); (case k4 => k_is); (case k5 => rfl); (case k6 => rfl)))
local macro_rules | `(tactic| walk_at "methk") => `(tactic| (refine' Meth_K (by assumption) ?mi ?mv ?_ ?g1 ?g2 ?g3 ?g4; (case mi => walk_at "inst"); (case mv => first | exact fields_none (by assumption) (by decide) | rfl); (case g1 => k_is); (case g2 => k_is); (case g3 => k_is); (case g4 => k_is)))
local macro_rules | `(tactic| walk_at "getown") => `(tactic| (refine' Get_own (by assumption) ?mi ?mv ?_ ?g1 ?g2 ?gh; (case mi => walk_at "inst"); (case mv => rfl); (case g1 => k_is); (case g2 => kernel_rfl); (case gh => rfl)))
local macro_rules | `(tactic| walk_at "setown") => `(tactic| (refine' SetAttr_inst (by assumption) ?sx ?sd ?sk ?_ ?se ?sl; (case sx => walk_at "has"); (case sd => walk_at "upd"); (case se => rfl); (case sl => exact Nat.le_of_ble_eq_true rfl); (case sk => kernel_rfl)))
local macro_rules | `(tactic| walk_at "keepk") => `(tactic| (exact Keep_K (by assumption) (by k_is)))
local macro_rules | `(tactic| walk_at "apart") => `(tactic| first | (apply Apart.left; k_mem; done) | (apply Apart.right; k_mem; done) | (apply Apart.tail; walk_at "apart"))
local macro_rules | `(tactic| walk_at "kgen") => `(tactic| (refine' Call_gen (by assumption) (by assumption) ?k1 ?k2 ?k3 ?k4 ?_ ?k5 ?k6; (case k1 => k_is); (case k2 => rfl); (case k3 => rfl); (case k4 => k_is); (case k5 => rfl); (case k6 => rfl)))

section
variable {prog : Program} {w : World} {B : Bs} {A : Around} {own : Own} {gs : Array GenState} {p : Program} {loose : List Str} {mg mb : Str → Option Value} {Q : QV}
def lawNumbers (script : List Int) (count : Nat) : List Int := (List.range count).map fun k => if script.length > 0 then script.getD (k % script.length) 0 else 0
theorem numbers_spec (T : TopB (hd.heap_39 w.params) p loose mg mb B) (hA : AOk B A 10) {sc : Addr} {script : List Int} {P : Pd} (hs : B.f sc = some P) (hP : ∀ o, P o → AList (script.map iv) o) (hl : script.length ≤ 1000) {count : Nat} (hc : count ≤ 1000)
  (h : ∀ l, Q (.ref l) ((l, AList ((lawNumbers script count).map iv)) :: own) gs) : CallJ prog w B A (.ref 887) [.ref sc, iv count] own gs Q := by
  walk_at "kfun"
  intro us hus
  obtain ⟨u1, u2, rfl, h1, h2⟩ := er2 hus
  refine Bind_eq (by rfl) ?_
  dsimp only
  intro L
  refine Cells_cell fun cs => ?_
  walk_at "cells"
  dsimp only [newEnv]
  refine Stores_cons h1 ?_
  walk_at "store"
  refine Stores_cons h2 ?_
  walk_at "store"
  refine Stores_nil ?_
  intro A1 hA1
  dsimp only
  refine JF_cons (JF_Return (JV_ListComp (JV_Call (JV_builtin T (by k_is) boot_range ⟨rfl, Args_cons ?_⟩))))
  walk_at "name"
  refine Args_nil ⟨Keep_type, Call_range1 fun r => Iter_range (by walk_at "has") (by omega) (by omega) fun it => ?_⟩
  intro acc C
  dsimp only
  walk_at "cells"
  dsimp only [newEnv]
  refine CJ_start rfl rfl rfl (Iter_rangeIter (by walk_at "has") ⟨rfl, rfl, rfl⟩) ?_
  refine CJ_list (fun n o g => ∃ i, i ≤ count ∧ n = count - i ∧ g = gs ∧ ∃ o₂, Sub o₂ o ∧ o₂ = (it, ARangeIter i ((count : Int) - i)) :: (C, ANs []) :: (acc, AList ((lawNumbers script count).take i |>.map iv)) :: (cs, ACell (some (.ref sc))) :: own) ?_ count ⟨0, Nat.zero_le _, rfl, rfl, _, ?_, rfl⟩
  · rintro n o g ⟨i, hi, rfl, rfl, o₂, hsub, rfl⟩
    refine NextJ_sub hsub (Next_range hA1 ?_)
    by_cases hlt : i < count
    · rw [if_pos (by omega)]
      intro u hu
      refine J_pure ?_
      refine Assign_name ?_
      walk_at "store"
      refine Ifs_nil ?_
      rw [if_pos rfl]
      have hval : (lawNumbers script count)[i]? = some (if script.length > 0 then script.getD (i % script.length) 0 else 0) := by
        unfold lawNumbers
        rw [List.getElem?_map, List.getElem?_range hlt]; rfl
      have htk : (lawNumbers script count).take (i + 1) = (lawNumbers script count).take i ++ [if script.length > 0 then script.getD (i % script.length) 0 else 0] := by
        rw [List.take_add_one, hval]; rfl
      have hlen : (lawNumbers script count).length = count := by simp [lawNumbers]
      refine JV_IfExp (Test_cmp (JV_Call (JV_builtin T (by k_is) boot_len ⟨rfl, Args_cons ?_⟩)))
      walk_at "name"
      refine Args_nil ⟨Keep_builtin, Call_lenListW (.base hs hP) (by simp; omega) (JV_int (Cmp_gt (Tru_bool ?_)))⟩
      by_cases hp : 0 < script.length
      · rw [if_pos (by simpa using hp)]
        refine JV_Subscript ?_
        walk_at "name"
        refine JV_BinOp ?_
        walk_at "name"
        refine JV_Call (JV_builtin T (by k_is) boot_len ⟨rfl, Args_cons ?_⟩)
        walk_at "name"
        refine Args_nil ⟨Keep_builtin, Call_lenListW (.base hs hP) (by simp; omega) (Bin_mod (by simp only [List.length_map]; omega) ?_)⟩
        have e : ((i : Int).fmod ((script.map iv).length : Int)) = ((i % script.length : Nat) : Int) := by
          rw [List.length_map, Int.fmod_eq_emod_of_nonneg _ (by omega)]; rfl
        rw [e]
        have hm := Nat.mod_lt i hp
        generalize i % script.length = j at hm htk ⊢
        refine Item_listW (x := iv (script.getD j 0)) (.base hs hP) (by omega) (by omega) (by
          rw [Int.toNat_natCast, List.getElem?_map, List.getElem?_eq_getElem hm]
          simp [List.getD_eq_getElem?_getD, hm]) ?_
        refine' Call_append ?hu ?hl ⟨_, ?_, i + 1, hlt, rfl, rfl, _, ?_, rfl⟩
        case hu => walk_at "upd"
        case hl => simp; omega
        · omega
        · rw [show ((count : Int) - ((i + 1 : Nat) : Int)) = (count : Int) - i - 1 by omega, show (((i + 1 : Nat) : Int)) = (i : Int) + 1 by omega, htk, if_pos hp, List.map_append]
          walk_at "sub"
      · rw [if_neg (by simpa using hp)]
        refine JV_int ?_
        refine' Call_append ?hu ?hl ⟨_, ?_, i + 1, hlt, rfl, rfl, _, ?_, rfl⟩
        case hu => walk_at "upd"
        case hl => simp; omega
        · omega
        · rw [show ((count : Int) - ((i + 1 : Nat) : Int)) = (count : Int) - i - 1 by omega, show (((i + 1 : Nat) : Int)) = (i : Int) + 1 by omega, htk, if_neg hp, List.map_append]
          walk_at "sub"
    · rw [if_neg (by omega)]
      have : i = count := by omega
      subst this
      refine ⟨_, _, by walk_at "pick", _, ?_, h acc⟩
      rw [show (lawNumbers script i).take i = lawNumbers script i from List.take_of_length_le (by simp [lawNumbers])]
      walk_at "sub"
  · walk_at "sub"
end
end Mine
end
section
set_option maxRecDepth 100000
set_option maxHeartbeats 4000000
open PySem PySem.Calls PyProof.Rows PySem.W PySem.Spec
namespace Mine
example : PySem.Challenge.rw_ci0025_01.prog = PySem.Challenge.rw_ci0025_01.prog ∧ hd.heap_39 = hd.heap_39 := by k_fill; exact ⟨rfl, rfl⟩
local macro_rules | `(tactic| k_mem) => `(tactic| first | apply List.Mem.head | exact Gr.memS (by assumption) | exact Gr.memP (by assumption) | exact Gr.memJ (by assumption) | (apply List.Mem.tail; k_mem))
local macro_rules | `(tactic| walk_at "has") => `(tactic| first | (apply Has.own; k_mem) | (apply Has.base; assumption))
local macro_rules | `(tactic| walk_at "upd") => `(tactic| first | apply Upd.head | exact Gr.updS (by assumption) (by assumption) | exact Gr.updP (by assumption) (by assumption) | (apply Upd.tail; walk_at "upd"))
local macro_rules | `(tactic| walk_at "setl") => `(tactic| first | apply SetL.nil | apply SetL.here | (apply SetL.next (by rfl); walk_at "setl"))
local macro_rules | `(tactic| walk_at "cells") => `(tactic| repeat' (first | refine Cells_nil ?_ | refine Cells_skip (by decide) ?_ | (refine Cells_cell ?_; intro _)))
local macro_rules | `(tactic| walk_at "pick") => `(tactic| first | apply PickR.head | (apply PickR.tail; walk_at "pick"))
local macro_rules | `(tactic| walk_at "weak") => `(tactic| first | exact fun _ h => h | exact AEmpty.toAD | (refine ANs.sub ?_; repeat' (first | exact List.forall_mem_nil _ | refine List.forall_mem_cons.mpr ⟨rfl, ?_⟩)))
local macro_rules | `(tactic| walk_at "subt") => `(tactic| first | exact Sub.refl _ | (refine Sub.skip ?_; walk_at "subt"))
local macro_rules | `(tactic| walk_at "sub") => `(tactic| first | apply Sub.nil | (refine' Sub.pick ?hp ?hw ?_; (case hp => walk_at "pick"); (case hw => walk_at "weak"); walk_at "sub") | walk_at "subt")
local macro_rules | `(tactic| walk_at "store") => `(tactic| first | (refine' Store_local ?hu ?hs ?_; (case hu => walk_at "upd"); (case hs => walk_at "setl")) | (refine' Store_cell ?hc ?hu ?_; (case hc => rfl); (case hu => walk_at "upd")))

local macro_rules | `(tactic| walk_at "name") => `(tactic| first
  | (refine' JV_local ?hn ?hv ?_; (case hn => walk_at "has"); (case hv => rfl))
  | (refine' JV_cell ?hc ?hn ?_; (case hc => rfl); (case hn => walk_at "has"))
  | (refine' JV_free ?hc ?hn ?_; (case hc => rfl); (case hn => walk_at "has")))
local macro_rules | `(tactic| walk_at "js") => `(tactic| first
  | with_reducible refine JF_cons ?_
  | with_reducible refine JF_nil ?_
  | refine JF_Assign ?_
  | with_reducible refine JF_If ?_
  | with_reducible refine JF_Return ?_
  | refine JF_Expr ?_
  | with_reducible refine JV_int ?_
  | with_reducible refine JV_bool ?_
  | with_reducible refine JV_none ?_
  | with_reducible refine JV_str ?_
  | with_reducible refine JV_BinOp ?_
  | refine JV_Compare ?_
  | with_reducible refine JV_IfExp ?_
  | refine Test_cmp ?_
  | with_reducible refine Test_not ?_
  | with_reducible refine Test_and ?_
  | with_reducible refine Test_and_nil ?_
  | with_reducible refine Test_or ?_
  | with_reducible refine Test_or_nil ?_
  | with_reducible refine Tru_bool ?_
  | refine JV_List ?_
  | refine JV_Tuple ?_
  | with_reducible refine Args_nil ?_
  | refine Args_cons ?_
  | with_reducible refine Bin_add ?_
  | with_reducible refine Cmp_eq ?_
  | with_reducible refine Cmp_ne ?_
  | with_reducible refine Cmp_lt ?_
  | with_reducible refine Cmp_le ?_
  | with_reducible refine Cmp_gt ?_
  | with_reducible refine Cmp_ge ?_
  | walk_at "name"
  | walk_at "store")
local macro_rules | `(tactic| walk_at "inst") => `(tactic| (refine' Inst.mk ?ix ?id; (case ix => walk_at "has"); (case id => walk_at "has")))
local macro_rules | `(tactic| walk_at "kfun") => `(tactic| (refine' Call_K (by assumption) (by assumption) ?k1 ?k2 ?k3 ?k4 ?_ ?k5 ?k6; (case k1 => k_is); (case k2 => rfl); (case k3 => rfl); (case k4 => k_is); (case k5 => rfl); (case k6 => rfl)))
local macro_rules | `(tactic| walk_at "kcode") => `(tactic| (refine' Code_K (by assumption) (by assumption) ?k1 ?k2 ?k3 ?k4 ?_ ?k5 ?k6; (case k1 => k_is); (case k2 => rfl); (case k3 => rfl); (case k4 => k_is); (case k5 => rfl); (case k6 => rfl)))
local macro_rules | `(tactic| walk_at "methk") => `(tactic| (refine' Meth_K (by assumption) ?mi ?mv ?_ ?g1 ?g2 ?g3 ?g4; (case mi => walk_at "inst"); (case mv => first | exact fields_none (by assumption) (by decide) | rfl); (case g1 => k_is); (case g2 => k_is); (case g3 => k_is); (case g4 => k_is)))
local macro_rules | `(tactic| walk_at "getown") => `(tactic| (refine' Get_own (by assumption) ?mi ?mv ?_ ?g1 ?g2 ?gh; (case mi => walk_at "inst"); (case mv => rfl); (case g1 => k_is); (case g2 => kernel_rfl); (case gh => rfl)))
local macro_rules | `(tactic| walk_at "setown") => `(tactic| (refine' SetAttr_inst (by assumption) ?sx ?sd ?sk ?_ ?se ?sl; (case sx => walk_at "has"); (case sd => walk_at "upd"); (case se => rfl); (case sl => exact Nat.le_of_ble_eq_true rfl); (case sk => kernel_rfl)))
local macro_rules | `(tactic| walk_at "keepk") => `(tactic| (exact Keep_K (by assumption) (by k_is)))
local macro_rules | `(tactic| walk_at "apart") => `(tactic| first | (apply Apart.left; k_mem; done) | (apply Apart.right; k_mem; done) | (apply Apart.tail; walk_at "apart"))
local macro_rules | `(tactic| walk_at "kgen") => `(tactic| (refine' Call_gen (by assumption) (by assumption) ?k1 ?k2 ?k3 ?k4 ?_ ?k5 ?k6; (case k1 => k_is); (case k2 => rfl); (case k3 => rfl); (case k4 => k_is); (case k5 => rfl); (case k6 => rfl)))

section
variable {prog : Program} {w : World} {B : Bs} {A : Around} {own : Own} {gs : Array GenState} {p : Program} {loose : List Str} {mg mb : Str → Option Value} {Q : QV}
theorem above_spec (T : TopB (hd.heap_39 w.params) p loose mg mb B) (hA : AOk B A 10) {d : Addr} {t : List (Int × Int)} (hd' : Has B own d (AD prog w (treeKv t))) (hl : t.length ≤ 1000) {one : Int}
  (h : ∀ l, Q (.ref l) ((l, AList ((chain (look t) t.length one).map iv)) :: own) gs) : CallJ prog w B A (.ref 901) [.ref d, iv one] own gs Q := by
  walk_at "kfun"
  intro us hus
  obtain ⟨u1, u2, rfl, h1, h2⟩ := er2 hus
  refine Bind_eq (by rfl) ?_
  dsimp only
  intro L
  walk_at "cells"
  dsimp only [newEnv]
  refine Stores_cons h1 ?_
  walk_at "store"
  refine Stores_cons h2 ?_
  walk_at "store"
  refine Stores_nil ?_
  intro A1 hA1
  dsimp only
  refine JF_cons (JF_Assign (JV_List (Args_cons ?_)))
  walk_at "name"
  refine Args_nil ⟨by simp, fun r => ?_⟩
  walk_at "store"
  have hkl : (treeKv t).length = t.length := by simp [treeKv]
  refine JF_cons (JF_While' (fun n o g => ∃ pre x, chain (look t) t.length one = pre ++ chain (look t) (t.length - pre.length) x ∧ pre.length ≤ t.length ∧ n = t.length - pre.length ∧ g = gs ∧
    o = (r, AList ((pre ++ [x]).map iv)) :: (L, ANs [(Str.ofString "tree", .ref d), (Str.ofString "row", .ref r)]) :: own) ?_ _ _ ?_ ⟨[], one, rfl, Nat.zero_le _, rfl, rfl, rfl⟩)
  · rintro n o g ⟨pre, x, hch, hpl, rfl, rfl, rfl⟩
    have hd2 : ∀ {a b : Addr × Pd}, Has B (a :: b :: own) d (AD prog w (treeKv t)) := fun {a b} => hd'.elim (fun q => .inl (.tail _ (.tail _ q))) .inr
    refine Test_and (Test_cmp (JV_Subscript ?_))
    walk_at "name"
    rw [List.map_append]
    refine JV_Neg (Item_last (by walk_at "has") ?_)
    walk_at "name"
    refine Cmp_inAD T hd2 (Tru_bool ?_)
    rw [valueAt_treeKv]
    cases hx : look t x with
    | none =>
      rw [if_neg (by simp), if_neg (by simp)]
      refine JF_nil (JF_cons (JF_Return ?_))
      walk_at "name"
      refine ⟨_, ?_, h r⟩
      have : chain (look t) (t.length - pre.length) x = [x] := by
        cases q : t.length - pre.length with
        | zero => rfl
        | succ m => simp [chain, hx]
      rw [hch, this, List.map_append]
      exact Sub.keep (Sub.skip (Sub.refl _))
    | some y =>
      rw [if_pos (by simp)]
      refine Test_and (Test_cmp (JV_Call (JV_builtin T (by k_is) boot_len ⟨rfl, Args_cons ?_⟩)))
      walk_at "name"
      refine Args_nil ⟨Keep_builtin, Call_lenList (xs := pre.map iv ++ [iv x]) (by walk_at "has") (by simp; omega) ?_⟩
      refine JV_Call (JV_builtin T (by k_is) boot_len ⟨rfl, Args_cons ?_⟩)
      walk_at "name"
      refine Args_nil ⟨Keep_builtin, Call_lenDict T hd2 (by omega) (Cmp_le (Tru_bool ?_))⟩
      by_cases hlt : pre.length < t.length
      · rw [if_pos (by simp [hkl]; omega)]
        refine Test_and_nil ?_
        rw [if_pos rfl]
        refine JF_cons (JF_Expr (JV_MCall ?_))
        walk_at "name"
        refine Meth_builtin F.plainAttrs_list F.slot_list_append F.type_list_append ⟨r, AList (pre.map iv ++ [iv x]), rfl, by walk_at "has", AList.plain⟩ ?_
        refine Args_cons (JV_Subscript ?_)
        walk_at "name"
        refine JV_Subscript ?_
        walk_at "name"
        refine JV_Neg (Item_last (by walk_at "has") (Item_AD hd2 (by rw [valueAt_treeKv, hx]; rfl) ?_))
        refine' Args_nil ⟨Keep_builtin, Call_append ?hu ?hl2 ?_⟩
        case hu => walk_at "upd"
        case hl2 => simp; omega
        refine JF_nil ⟨t.length - (pre ++ [x]).length, by simp; omega, _, Sub.refl _, pre ++ [x], y, ?_, by simp; omega, rfl, rfl, by simp⟩
        obtain ⟨m, hm⟩ : ∃ m, t.length - pre.length = m + 1 := ⟨t.length - pre.length - 1, by omega⟩
        rw [hch, hm]
        simp only [chain, hx, List.length_append, List.length_cons, List.length_nil, List.append_assoc, List.cons_append, List.nil_append]
        rw [show t.length - (pre.length + (0 + 1)) = m by omega]
      · rw [if_neg (by simp [hkl]; omega), if_neg (by simp)]
        refine JF_nil (JF_cons (JF_Return ?_))
        walk_at "name"
        refine ⟨_, ?_, h r⟩
        have : t.length - pre.length = 0 := by omega
        rw [hch, this, chain, List.map_append]
        exact Sub.keep (Sub.skip (Sub.refl _))
  · walk_at "sub"
end
end Mine
end
section
set_option maxRecDepth 100000
set_option maxHeartbeats 4000000
open PySem PySem.Calls PyProof.Rows PySem.W PySem.Spec
namespace Mine
example : PySem.Challenge.rw_ci0025_01.prog = PySem.Challenge.rw_ci0025_01.prog ∧ hd.heap_39 = hd.heap_39 := by k_fill; exact ⟨rfl, rfl⟩
local macro_rules | `(tactic| k_mem) => `(tactic| first | apply List.Mem.head | exact Gr.memS (by assumption) | exact Gr.memP (by assumption) | exact Gr.memJ (by assumption) | (apply List.Mem.tail; k_mem))
local macro_rules | `(tactic| walk_at "has") => `(tactic| first | (apply Has.own; k_mem) | (apply Has.base; assumption))
local macro_rules | `(tactic| walk_at "upd") => `(tactic| first | apply Upd.head | exact Gr.updS (by assumption) (by assumption) | exact Gr.updP (by assumption) (by assumption) | (apply Upd.tail; walk_at "upd"))
local macro_rules | `(tactic| walk_at "setl") => `(tactic| first | apply SetL.nil | apply SetL.here | (apply SetL.next (by rfl); walk_at "setl"))
local macro_rules | `(tactic| walk_at "cells") => `(tactic| repeat' (first | refine Cells_nil ?_ | refine Cells_skip (by decide) ?_ | (refine Cells_cell ?_; intro _)))
local macro_rules | `(tactic| walk_at "pick") => `(tactic| first | apply PickR.head | (apply PickR.tail; walk_at "pick"))
local macro_rules | `(tactic| walk_at "weak") => `(tactic| first | exact fun _ h => h | exact AEmpty.toAD | (refine ANs.sub ?_; repeat' (first | exact List.forall_mem_nil _ | refine List.forall_mem_cons.mpr ⟨rfl, ?_⟩)))
local macro_rules | `(tactic| walk_at "subt") => `(tactic| first | exact Sub.refl _ | (refine Sub.skip ?_; walk_at "subt"))
local macro_rules | `(tactic| walk_at "sub") => `(tactic| first | apply Sub.nil | (refine' Sub.pick ?hp ?hw ?_; (case hp => walk_at "pick"); (case hw => walk_at "weak"); walk_at "sub") | walk_at "subt")
local macro_rules | `(tactic| walk_at "store") => `(tactic| first | (refine' Store_local ?hu ?hs ?_; (case hu => walk_at "upd"); (case hs => walk_at "setl")) | (refine' Store_cell ?hc ?hu ?_; (case hc => rfl); (case hu => walk_at "upd")))

local macro_rules | `(tactic| walk_at "name") => `(tactic| first
  | (refine' JV_local ?hn ?hv ?_; (case hn => walk_at "has"); (case hv => rfl))
  | (refine' JV_cell ?hc ?hn ?_; (case hc => rfl); (case hn => walk_at "has"))
  | (refine' JV_free ?hc ?hn ?_; (case hc => rfl); (case hn => walk_at "has")))
local macro_rules | `(tactic| walk_at "js") => `(tactic| first
  | with_reducible refine JF_cons ?_
  | with_reducible refine JF_nil ?_
  | refine JF_Assign ?_
  | with_reducible refine JF_If ?_
  | with_reducible refine JF_Return ?_
  | refine JF_Expr ?_
  | with_reducible refine JV_int ?_
  | with_reducible refine JV_bool ?_
  | with_reducible refine JV_none ?_
  | with_reducible refine JV_str ?_
  | with_reducible refine JV_BinOp ?_
  | refine JV_Compare ?_
  | with_reducible refine JV_IfExp ?_
  | refine Test_cmp ?_
  | with_reducible refine Test_not ?_
  | with_reducible refine Test_and ?_
  | with_reducible refine Test_and_nil ?_
  | with_reducible refine Test_or ?_
  | with_reducible refine Test_or_nil ?_
  | with_reducible refine Tru_bool ?_
  | refine JV_List ?_
  | refine JV_Tuple ?_
  | with_reducible refine Args_nil ?_
  | refine Args_cons ?_
  | with_reducible refine Bin_add ?_
  | with_reducible refine Cmp_eq ?_
  | with_reducible refine Cmp_ne ?_
  | with_reducible refine Cmp_lt ?_
  | with_reducible refine Cmp_le ?_
  | with_reducible refine Cmp_gt ?_
  | with_reducible refine Cmp_ge ?_
  | walk_at "name"
  | walk_at "store")
local macro_rules | `(tactic| walk_at "inst") => `(tactic| (refine' Inst.mk ?ix ?id; (case ix => walk_at "has"); (case id => walk_at "has")))
local macro_rules | `(tactic| walk_at "kfun") => `(tactic| (refine' Call_K (by assumption) (by assumption) ?k1 ?k2 ?k3 ?k4 ?_ ?k5 ?k6; (case k1 => k_is); (case k2 => rfl); (case k3 => rfl); (case k4 => k_is); (case k5 => rfl); (case k6 => rfl)))
local macro_rules | `(tactic| walk_at "kcode") => `(tactic| (refine' Code_K (by assumption) (by assumption) ?k1 ?k2 ?k3 ?k4 ?_ ?k5 ?k6; (case k1 => k_is); (case k2 => rfl); (case k3 => rfl); (case k4 => k_is); (case k5 => rfl); (case k6 => rfl)))
local macro_rules | `(tactic| walk_at "methk") => `(tactic| (refine' Meth_K (by assumption) ?mi ?mv ?_ ?g1 ?g2 ?g3 ?g4; (case mi => walk_at "inst"); (case mv => first | exact fields_none (by assumption) (by decide) | rfl); (case g1 => k_is); (case g2 => k_is); (case g3 => k_is); (case g4 => k_is)))
local macro_rules | `(tactic| walk_at "getown") => `(tactic| (refine' Get_own (by assumption) ?mi ?mv ?_ ?g1 ?g2 ?gh; (case mi => walk_at "inst"); (case mv => rfl); (case g1 => k_is); (case g2 => kernel_rfl); (case gh => rfl)))
local macro_rules | `(tactic| walk_at "setown") => `(tactic| (refine' SetAttr_inst (by assumption) ?sx ?sd ?sk ?_ ?se ?sl; (case sx => walk_at "has"); (case sd => walk_at "upd"); (case se => rfl); (case sl => exact Nat.le_of_ble_eq_true rfl); (case sk => kernel_rfl)))
local macro_rules | `(tactic| walk_at "keepk") => `(tactic| (exact Keep_K (by assumption) (by k_is)))
local macro_rules | `(tactic| walk_at "apart") => `(tactic| first | (apply Apart.left; k_mem; done) | (apply Apart.right; k_mem; done) | (apply Apart.tail; walk_at "apart"))
local macro_rules | `(tactic| walk_at "kgen") => `(tactic| (refine' Call_gen (by assumption) (by assumption) ?k1 ?k2 ?k3 ?k4 ?_ ?k5 ?k6; (case k1 => k_is); (case k2 => rfl); (case k3 => rfl); (case k4 => k_is); (case k5 => rfl); (case k6 => rfl)))
local macro_rules | `(tactic| walk_at "kcodec") => `(tactic| (refine' CodeC_K (by assumption) (by assumption) ?k1 ?k2 ?k3 ?k4 ?_ ?k5 ?k6; (case k1 => k_is); (case k2 => rfl); (case k3 => rfl); (case k4 => k_is); (case k5 => rfl); (case k6 => rfl)))
local macro_rules | `(tactic| walk_at "getk") => `(tactic| (refine' Get_K (by assumption) ?k1 ?k2 ?k3 ?k4 ?k5 ?g1 ?g2 ?g3 ?gh ?_; (case k1 => k_is); (case k2 => rfl); (case k3 => rfl); (case k4 => rfl); (case k5 => k_is); (case g1 => k_is); (case g2 => kernel_rfl); (case g3 => rfl); (case gh => rfl)))

section
variable {prog : Program} {w : World} {B : Bs} {A : Around} {own : Own} {gs : Array GenState} {p : Program} {loose : List Str} {mg mb : Str → Option Value} {Q : QV}
/-- `n in graph` -/
theorem contains_spec (T : TopB (hd.heap_39 w.params) p loose mg mb B) (hA : AOk B A 3) {x dx nd : Addr} {kvs : List (Str × Value)} {ns : List (Int × Value)} (hx : Has B own x (AInst 873 dx)) (hdx : Has B own dx (AVars prog w kvs)) (hnd : Has B own nd (AD prog w ns))
  (hk : valueAt kvs "_node" = some (.ref nd)) {n : Int} (h : Q (.bool (valueAt ns n).isSome) own gs) : CallJ prog w B A (.ref 453) [.ref x, iv n] own gs Q := by
  walk_at "kfun"
  intro us hus
  obtain ⟨u1, u2, rfl, h1, h2⟩ := er2 hus
  refine Bind_eq (by rfl) ?_
  dsimp only
  intro L
  walk_at "cells"
  dsimp only [newEnv]
  refine Stores_cons h1 ?_
  walk_at "store"
  refine Stores_cons h2 ?_
  walk_at "store"
  refine Stores_nil ?_
  intro A1 hA1
  dsimp only
  refine JF_cons (JF_Try (JF_cons (JF_Return (JV_Compare ?_))))
  walk_at "name"
  refine JV_Attr ?_
  walk_at "name"
  have hs : ∀ {o : Own} {a : Addr × Pd} {d : Addr} {q : Pd}, Has B o d q → Has B (a :: o) d q := fun h => h.elim (fun q => .inl (.tail _ q)) .inr
  refine' Get_own T ⟨hs hx, hs hdx⟩ hk ?_ ?g1 ?g2 rfl
  case g1 => k_is
  case g2 => kernel_rfl
  refine Cmp_inAD T (hs hnd) ?_
  exact ⟨_, Sub.skip (Sub.refl _), h⟩
/-- `graph.pred`: the first read makes the dict real and keeps what it found -/
theorem pred_get (T : TopB (hd.heap_39 w.params) p loose mg mb B) (hA : AOk B A 4) {x dx pr : Addr} {kvs kvs' : List (Str × Value)} {ps : List (Int × Value)} (hx : Has B own x (AInst 873 dx)) (hpr : Has B own pr (AD prog w ps))
  (hdx : (dx, AVars prog w kvs) ∈ own) (hne : (dx == sysModules) = false) (hl : kvs.length ≤ 999) (hk : valueAt kvs "_pred" = some (.ref pr)) (hp : valueAt kvs "pred" = none) (e : stored kvs "pred" (.ref pr) = kvs')
  {own' : Own} (hu : Upd dx (AVars prog w kvs) (AVars prog w kvs') own own')
  (h : Q (.ref pr) own' gs) : CodeC prog w B A (.ref 350) [.ref 717, .ref x, .ref 873] own gs Q := by
  walk_at "kcodec"
  intro us hus
  obtain ⟨u1, u2, u3, rfl, h1, h2, h3⟩ := er3 hus
  refine Bind_dflt T (T := 343) (by k_is) (by rfl) (by rfl) ?_
  refine J_pure ?_
  dsimp only
  intro L
  walk_at "cells"
  dsimp only [newEnv]
  refine Stores_cons h1 ?_
  walk_at "store"
  refine Stores_cons h2 ?_
  walk_at "store"
  refine Stores_cons h3 ?_
  walk_at "store"
  refine Stores_nil ?_
  intro A1 hA1
  dsimp only
  have hs : ∀ {o : Own} {a : Addr × Pd} {d : Addr} {q : Pd}, Has B o d q → Has B (a :: o) d q := fun h => h.elim (fun q => .inl (.tail _ q)) .inr
  refine JCF_cons (JCF_If (Test_cmp ?_))
  walk_at "name"
  refine JV_none (Cmp_isNoneRef (Tru_bool ?_))
  rw [if_neg (by decide)]
  refine JF_clean (JF_nil ?_)
  dsimp only
  refine JCF_cons (JCF_If (Test_cmp (JV_Attr ?_)))
  walk_at "name"
  walk_at "getk"
  refine JV_none (Cmp_isNoneStr (Tru_bool ?_))
  rw [if_neg (by decide)]
  refine JF_clean (JF_nil ?_)
  dsimp only
  refine JCF_cons (JCF_Try (JCF_cons (JCF_Assign (JCV_Attr ?_))))
  walk_at "name"
  refine Get_dict (gd := 659) (O := .ref 658) T (hs hx) (.tail _ hdx) ?_ (by k_is) (by k_is) (by k_is) (by k_is) (by k_is) (by k_is) (by k_is) (by k_is) (by k_is) (by k_is) (by k_is)
  walk_at "store"
  refine JF_clean (JF_nil ?_)
  dsimp only
  refine JF_clean (JF_nil ?_)
  dsimp only
  refine JF_clean (JF_cons (JF_Assign (JV_MCall ?_)))
  walk_at "name"
  refine Meth_builtin F.plainAttrs_dict F.slot_dict_get F.type_dict_get ⟨dx, AVars prog w kvs, rfl, .own (.tail _ hdx), AVars.plain⟩ ?_
  refine Args_cons (JV_Attr ?_)
  walk_at "name"
  walk_at "getk"
  refine Args_cons (JV_global T (by k_is) ?_)
  refine Args_nil ⟨Keep_builtin, Call_getVars (.tail _ hdx) hne ?_⟩
  rw [hp]
  walk_at "store"
  dsimp only
  refine JF_cons (JF_If (Test_cmp ?_))
  walk_at "name"
  refine JV_global T (by k_is) (Cmp_isSelf (Tru_bool ?_))
  rw [if_pos rfl]
  refine JF_cons (JF_Assign (JV_MCall ?_))
  walk_at "name"
  refine' Meth_Kown T ?k1 ?k2 ?k3 ?k4 ?k5 ?g1 ?g2 ?g3 ?g4 ?g5 ?g6 ?g7 ?_
  case k1 => k_is
  case k2 => rfl
  case k3 => rfl
  case k4 => rfl
  case k5 => k_is
  case g1 => k_is
  case g2 => k_is
  case g3 => k_is
  case g4 => kernel_rfl
  case g5 => rfl
  case g6 => rfl
  case g7 => rfl
  refine Args_cons ?_
  walk_at "name"
  refine Args_nil ⟨by walk_at "keepk", ?_⟩
  dsimp only [List.nil_append]
  walk_at "kfun"
  intro us hus
  obtain ⟨u1, rfl, h4⟩ := er1 hus
  refine Bind_eq (by rfl) ?_
  dsimp only
  intro L2
  walk_at "cells"
  dsimp only [newEnv]
  refine Stores_cons h4 ?_
  walk_at "store"
  refine Stores_nil ?_
  intro A2 hA2
  dsimp only
  refine JF_cons (JF_Return (JV_Attr ?_))
  walk_at "name"
  refine' Get_own T ⟨hs (hs hx), hs (hs (.inl hdx))⟩ hk ?_ ?g1 ?g2 rfl
  case g1 => k_is
  case g2 => kernel_rfl
  refine ⟨_, Sub.skip (Sub.refl _), ?_⟩
  dsimp only [retOf]
  walk_at "store"
  dsimp only
  refine JF_cons (JF_Try (JF_cons (JF_AssignSub ?_)))
  walk_at "name"
  walk_at "name"
  refine JV_Attr ?_
  walk_at "name"
  walk_at "getk"
  refine Set_vars (.tail _ hu) ?_ e (by omega)
  refine JF_nil (JF_nil (JF_nil (JF_cons (JF_Return ?_))))
  walk_at "name"
  exact ⟨_, Sub.skip (Sub.refl _), h⟩
/-- `graph.pred`, read again -/
theorem pred_get2 (T : TopB (hd.heap_39 w.params) p loose mg mb B) (hA : AOk B A 4) {x dx pr : Addr} {kvs : List (Str × Value)} {ps : List (Int × Value)} (hx : Has B own x (AInst 873 dx)) (hpr : Has B own pr (AD prog w ps))
  (hdx : (dx, AVars prog w kvs) ∈ own) (hne : (dx == sysModules) = false) (hp : valueAt kvs "pred" = some (.ref pr))
  (h : Q (.ref pr) own gs) : CodeC prog w B A (.ref 350) [.ref 717, .ref x, .ref 873] own gs Q := by
  walk_at "kcodec"
  intro us hus
  obtain ⟨u1, u2, u3, rfl, h1, h2, h3⟩ := er3 hus
  refine Bind_dflt T (T := 343) (by k_is) (by rfl) (by rfl) ?_
  refine J_pure ?_
  dsimp only
  intro L
  walk_at "cells"
  dsimp only [newEnv]
  refine Stores_cons h1 ?_
  walk_at "store"
  refine Stores_cons h2 ?_
  walk_at "store"
  refine Stores_cons h3 ?_
  walk_at "store"
  refine Stores_nil ?_
  intro A1 hA1
  dsimp only
  have hs : ∀ {o : Own} {a : Addr × Pd} {d : Addr} {q : Pd}, Has B o d q → Has B (a :: o) d q := fun h => h.elim (fun q => .inl (.tail _ q)) .inr
  refine JCF_cons (JCF_If (Test_cmp ?_))
  walk_at "name"
  refine JV_none (Cmp_isNoneRef (Tru_bool ?_))
  rw [if_neg (by decide)]
  refine JF_clean (JF_nil ?_)
  dsimp only
  refine JCF_cons (JCF_If (Test_cmp (JV_Attr ?_)))
  walk_at "name"
  walk_at "getk"
  refine JV_none (Cmp_isNoneStr (Tru_bool ?_))
  rw [if_neg (by decide)]
  refine JF_clean (JF_nil ?_)
  dsimp only
  refine JCF_cons (JCF_Try (JCF_cons (JCF_Assign (JCV_Attr ?_))))
  walk_at "name"
  refine Get_dict (gd := 659) (O := .ref 658) T (hs hx) (.tail _ hdx) ?_ (by k_is) (by k_is) (by k_is) (by k_is) (by k_is) (by k_is) (by k_is) (by k_is) (by k_is) (by k_is) (by k_is)
  walk_at "store"
  refine JF_clean (JF_nil ?_)
  dsimp only
  refine JF_clean (JF_nil ?_)
  dsimp only
  refine JF_clean (JF_cons (JF_Assign (JV_MCall ?_)))
  walk_at "name"
  refine Meth_builtin F.plainAttrs_dict F.slot_dict_get F.type_dict_get ⟨dx, AVars prog w kvs, rfl, .own (.tail _ hdx), AVars.plain⟩ ?_
  refine Args_cons (JV_Attr ?_)
  walk_at "name"
  walk_at "getk"
  refine Args_cons (JV_global T (by k_is) ?_)
  refine Args_nil ⟨Keep_builtin, Call_getVars (.tail _ hdx) hne ?_⟩
  rw [hp]
  walk_at "store"
  dsimp only
  refine JF_cons (JF_If (Test_cmp ?_))
  walk_at "name"
  refine' JV_global T (by k_is) (Cmp_isDictK T (hs hpr) ?hp ?kb ?hb (Tru_bool ?_))
  case hp => exact fun o ⟨_, _, _, h, _⟩ => h.1
  case kb => k_is
  case hb => decide
  rw [if_neg (by decide)]
  refine JF_nil (JF_cons (JF_Return ?_))
  walk_at "name"
  exact ⟨_, Sub.skip (Sub.refl _), h⟩
end
end Mine
end
section
set_option maxRecDepth 100000
set_option maxHeartbeats 4000000
open PySem PySem.Calls PyProof.Rows PySem.W PySem.Spec
namespace Mine
example : PySem.Challenge.rw_ci0025_01.prog = PySem.Challenge.rw_ci0025_01.prog ∧ hd.heap_39 = hd.heap_39 := by k_fill; exact ⟨rfl, rfl⟩
local macro_rules | `(tactic| k_mem) => `(tactic| first | apply List.Mem.head | exact Gr.memS (by assumption) | exact Gr.memP (by assumption) | exact Gr.memJ (by assumption) | (apply List.Mem.tail; k_mem))
local macro_rules | `(tactic| walk_at "has") => `(tactic| first | (apply Has.own; k_mem) | (apply Has.base; assumption))
local macro_rules | `(tactic| walk_at "upd") => `(tactic| first | apply Upd.head | exact Gr.updS (by assumption) (by assumption) | exact Gr.updP (by assumption) (by assumption) | (apply Upd.tail; walk_at "upd"))
local macro_rules | `(tactic| walk_at "setl") => `(tactic| first | apply SetL.nil | apply SetL.here | (apply SetL.next (by rfl); walk_at "setl"))
local macro_rules | `(tactic| walk_at "cells") => `(tactic| repeat' (first | refine Cells_nil ?_ | refine Cells_skip (by decide) ?_ | (refine Cells_cell ?_; intro _)))
local macro_rules | `(tactic| walk_at "pick") => `(tactic| first | apply PickR.head | (apply PickR.tail; walk_at "pick"))
local macro_rules | `(tactic| walk_at "weak") => `(tactic| first | exact fun _ h => h | exact AEmpty.toAD | (refine ANs.sub ?_; repeat' (first | exact List.forall_mem_nil _ | refine List.forall_mem_cons.mpr ⟨rfl, ?_⟩)))
local macro_rules | `(tactic| walk_at "subt") => `(tactic| first | exact Sub.refl _ | (refine Sub.skip ?_; walk_at "subt"))
local macro_rules | `(tactic| walk_at "sub") => `(tactic| first | apply Sub.nil | (refine' Sub.pick ?hp ?hw ?_; (case hp => walk_at "pick"); (case hw => walk_at "weak"); walk_at "sub") | walk_at "subt")
local macro_rules | `(tactic| walk_at "store") => `(tactic| first | (refine' Store_local ?hu ?hs ?_; (case hu => walk_at "upd"); (case hs => walk_at "setl")) | (refine' Store_cell ?hc ?hu ?_; (case hc => rfl); (case hu => walk_at "upd")))

local macro_rules | `(tactic| walk_at "name") => `(tactic| first
  | (refine' JV_local ?hn ?hv ?_; (case hn => walk_at "has"); (case hv => rfl))
  | (refine' JV_cell ?hc ?hn ?_; (case hc => rfl); (case hn => walk_at "has"))
  | (refine' JV_free ?hc ?hn ?_; (case hc => rfl); (case hn => walk_at "has")))
local macro_rules | `(tactic| walk_at "js") => `(tactic| first
  | with_reducible refine JF_cons ?_
  | with_reducible refine JF_nil ?_
  | refine JF_Assign ?_
  | with_reducible refine JF_If ?_
  | with_reducible refine JF_Return ?_
  | refine JF_Expr ?_
  | with_reducible refine JV_int ?_
  | with_reducible refine JV_bool ?_
  | with_reducible refine JV_none ?_
  | with_reducible refine JV_str ?_
  | with_reducible refine JV_BinOp ?_
  | refine JV_Compare ?_
  | with_reducible refine JV_IfExp ?_
  | refine Test_cmp ?_
  | with_reducible refine Test_not ?_
  | with_reducible refine Test_and ?_
  | with_reducible refine Test_and_nil ?_
  | with_reducible refine Test_or ?_
  | with_reducible refine Test_or_nil ?_
  | with_reducible refine Tru_bool ?_
  | refine JV_List ?_
  | refine JV_Tuple ?_
  | with_reducible refine Args_nil ?_
  | refine Args_cons ?_
  | with_reducible refine Bin_add ?_
  | with_reducible refine Cmp_eq ?_
  | with_reducible refine Cmp_ne ?_
  | with_reducible refine Cmp_lt ?_
  | with_reducible refine Cmp_le ?_
  | with_reducible refine Cmp_gt ?_
  | with_reducible refine Cmp_ge ?_
  | walk_at "name"
  | walk_at "store")
local macro_rules | `(tactic| walk_at "inst") => `(tactic| (refine' Inst.mk ?ix ?id; (case ix => walk_at "has"); (case id => walk_at "has")))
local macro_rules | `(tactic| walk_at "kfun") => `(tactic| (refine' Call_K (by assumption) (by assumption) ?k1 ?k2 ?k3 ?k4 ?_ ?k5 ?k6; (case k1 => k_is); (case k2 => rfl); (case k3 => rfl); (case k4 => k_is); (case k5 => rfl); (case k6 => rfl)))
local macro_rules | `(tactic| walk_at "kcode") => `(tactic| (refine' Code_K (by assumption) (by assumption) ?k1 ?k2 ?k3 ?k4 ?_ ?k5 ?k6; (case k1 => k_is); (case k2 => rfl); (case k3 => rfl); (case k4 => k_is); (case k5 => rfl); (case k6 => rfl)))
local macro_rules | `(tactic| walk_at "methk") => `(tactic| (refine' Meth_K (by assumption) ?mi ?mv ?_ ?g1 ?g2 ?g3 ?g4; (case mi => walk_at "inst"); (case mv => first | exact fields_none (by assumption) (by decide) | rfl); (case g1 => k_is); (case g2 => k_is); (case g3 => k_is); (case g4 => k_is)))
local macro_rules | `(tactic| walk_at "getown") => `(tactic| (refine' Get_own (by assumption) ?mi ?mv ?_ ?g1 ?g2 ?gh; (case mi => walk_at "inst"); (case mv => rfl); (case g1 => k_is); (case g2 => kernel_rfl); (case gh => rfl)))
local macro_rules | `(tactic| walk_at "setown") => `(tactic| (refine' SetAttr_inst (by assumption) ?sx ?sd ?sk ?_ ?se ?sl; (case sx => walk_at "has"); (case sd => walk_at "upd"); (case se => rfl); (case sl => exact Nat.le_of_ble_eq_true rfl); (case sk => kernel_rfl)))
local macro_rules | `(tactic| walk_at "keepk") => `(tactic| (exact Keep_K (by assumption) (by k_is)))
local macro_rules | `(tactic| walk_at "apart") => `(tactic| first | (apply Apart.left; k_mem; done) | (apply Apart.right; k_mem; done) | (apply Apart.tail; walk_at "apart"))
local macro_rules | `(tactic| walk_at "kgen") => `(tactic| (refine' Call_gen (by assumption) (by assumption) ?k1 ?k2 ?k3 ?k4 ?_ ?k5 ?k6; (case k1 => k_is); (case k2 => rfl); (case k3 => rfl); (case k4 => k_is); (case k5 => rfl); (case k6 => rfl)))
local macro_rules | `(tactic| walk_at "kcodec") => `(tactic| (refine' CodeC_K (by assumption) (by assumption) ?k1 ?k2 ?k3 ?k4 ?_ ?k5 ?k6; (case k1 => k_is); (case k2 => rfl); (case k3 => rfl); (case k4 => k_is); (case k5 => rfl); (case k6 => rfl)))
local macro_rules | `(tactic| walk_at "getk") => `(tactic| (refine' Get_K (by assumption) ?k1 ?k2 ?k3 ?k4 ?k5 ?g1 ?g2 ?g3 ?gh ?_; (case k1 => k_is); (case k2 => rfl); (case k3 => rfl); (case k4 => rfl); (case k5 => k_is); (case g1 => k_is); (case g2 => kernel_rfl); (case g3 => rfl); (case gh => rfl)))
/-- the def within the claim's function -/
def isectOf (p : Program) : Option (Arguments × List Stmt × Scope) := match (show List Stmt from p.main.body)[9]? with
  | some (Stmt.FunctionDef _ _ b ..) => match (show List Stmt from b)[6]? with
    | some (Stmt.FunctionDef _ a b _ _ _ s ..) => some (a, b, s)
    | _ => none
  | _ => none
structure MeetI (s : Int) (f : Int → Option Int) (a b u v : Int) : Prop where
  uD : InD s f u
  vD : InD s f v
  iff : ∀ z, (Up f u z ∧ Up f v z) ↔ (Up f a z ∧ Up f b z)
section
variable {prog : Program} {w : World} {B : Bs} {A : Around} {own : Own} {gs : Array GenState} {K : Frag} {p : Program} {loose : List Str} {mg mb : Str → Option Value} {Q : QV}
theorem intersect_spec (T : TopB K p loose mg mb B) (hA : AOk B A 6) {f c cd ci dd di : Addr} {name qual : Str} {params : Arguments} {body : List Stmt} {scope : Scope} (hb : isectOf PySem.Challenge.pw_ci0025_01 = some (params, body, scope))
  (hf : Has B own f (ADef name qual params body scope [("idom", ci), ("dfn", cd)] c)) (hc : Has B own c (ACode qual)) (hcd : Has B own cd (ACell (some (.ref dd)))) (hci : Has B own ci (ACell (some (.ref di))))
  {ord : List Int} {s : Int} {t : List (Int × Int)} (hdd : Has B own dd (AD prog w (dfnKv ord))) (hdi : Has B own di (AD prog w (idomKv s t)))
  {E : Int → Int → Prop} {par : Int → Int} (D : DfsOk E s (· ∈ ord) (ord.idxOf ·) par) (I : Inv E s (· ∈ ord) (ord.idxOf ·) par (look t)) {a b : Int} (ha : InD s (look t) a) (hb' : InD s (look t) b)
  (h : ∀ d, InD s (look t) d → (∀ z, Up (look t) d z ↔ Up (look t) a z ∧ Up (look t) b z) → Q (iv d) own gs) : CallJ prog w B A (.ref f) [iv a, iv b] own gs Q := by
  cases (show some (_, _, _) = some (params, body, scope) from hb)
  refine Call_def T hA hf hc fun us hus pm doc ctv => ?_
  obtain ⟨u1, u2, rfl, h1, h2⟩ := er2 hus
  refine Bind_eq (by rfl) ?_
  dsimp only
  intro L
  walk_at "cells"
  dsimp only [newEnv]
  refine Stores_cons h1 ?_
  walk_at "store"
  refine Stores_cons h2 ?_
  walk_at "store"
  refine Stores_nil ?_
  intro A1 hA1
  dsimp only
  clear hb hf hc
  have hR : ∀ {x}, InD s (look t) x → x ∈ ord := fun h => I.isR D h
  have hmx : ∀ {x}, InD s (look t) x → ord.idxOf x ≤ ord.idxOf s := fun h => D.max _ (hR h)
  refine JF_cons (JF_While' (fun n o g => ∃ u v, o = (L, ANs [("u", iv u), ("v", iv v)]) :: own ∧ g = gs ∧ MeetI s (look t) a b u v ∧ n = (ord.idxOf s - ord.idxOf u) + (ord.idxOf s - ord.idxOf v)) ?turn _ _ (Sub.refl _) ⟨a, b, rfl, rfl, ⟨ha, hb', fun z => Iff.rfl⟩, rfl⟩)
  case turn =>
    rintro n o g ⟨u, v, rfl, rfl, M, rfl⟩
    refine Test_cmp ?_
    walk_at "name"
    walk_at "name"
    refine Cmp_ne (Tru_bool ?_)
    by_cases e : u = v
    · subst e
      rw [if_neg (by simp)]
      refine JF_nil (JF_cons (JF_Return ?_))
      walk_at "name"
      exact ⟨_, Sub.skip (Sub.refl _), h u M.uD fun z => ⟨fun k => (M.iff z).mp ⟨k, k⟩, fun k => ((M.iff z).mpr k).1⟩⟩
    · rw [if_pos (by simpa using e)]
      have hne : ord.idxOf u ≠ ord.idxOf v := fun q => e (D.inj u v (hR M.uD) (hR M.vD) q)
      refine JF_cons (JF_While' (fun n o g1 => ∃ u', o = (L, ANs [("u", iv u'), ("v", iv v)]) :: own ∧ g1 = g ∧ MeetI s (look t) a b u' v ∧ ord.idxOf u ≤ ord.idxOf u' ∧ n = ord.idxOf s - ord.idxOf u') ?turn1 _ _ (Sub.refl _) ⟨u, rfl, rfl, M, Nat.le_refl _, rfl⟩)
      case turn1 =>
        rintro n o g1 ⟨u', rfl, rfl, M', hu', rfl⟩
        refine Test_cmp (JV_Subscript ?_)
        refine JV_free (c := cd) rfl hcd.skip ?_
        walk_at "name"
        refine Item_AD hdd.skip (valueAt_dfnKv (hR M'.uD)) (JV_Subscript ?_)
        refine JV_free (c := cd) rfl hcd.skip ?_
        walk_at "name"
        refine Item_AD hdd.skip (valueAt_dfnKv (hR M'.vD)) ?_
        refine Cmp_lt (Tru_bool ?_)
        by_cases hlt : ord.idxOf u' < ord.idxOf v
        · rw [if_pos (by simpa using hlt)]
          obtain ⟨u'', e1, d1, n1, i1⟩ := meet_left D I M'.uD M'.vD hlt
          have hus : u' ≠ s := fun q => by have := hmx M'.vD; rw [q] at hlt; omega
          refine JF_cons (JF_Assign (JV_Subscript ?_))
          refine JV_free (c := ci) rfl hci.skip ?_
          walk_at "name"
          refine Item_AD hdi.skip (x := iv u'') (by rw [valueAt_idomKv, if_neg hus, e1]; rfl) ?_
          walk_at "store"
          refine JF_nil ⟨_, ?_, _, Sub.refl _, u'', rfl, rfl, ⟨d1, M'.vD, fun z => (i1 z).symm.trans (M'.iff z)⟩, by omega, rfl⟩
          have := hmx d1
          omega
        · rw [if_neg (by simpa using hlt)]
          refine JF_nil ?_
          dsimp only
          refine JF_cons (JF_While' (fun n o g2 => ∃ v', o = (L, ANs [("u", iv u'), ("v", iv v')]) :: own ∧ g2 = g1 ∧ MeetI s (look t) a b u' v' ∧ ord.idxOf v ≤ ord.idxOf v' ∧ n = ord.idxOf s - ord.idxOf v') ?turn2 _ _ (Sub.refl _) ⟨v, rfl, rfl, M', Nat.le_refl _, rfl⟩)
          case turn2 =>
            rintro n o g2 ⟨v', rfl, rfl, M'', hv', rfl⟩
            refine Test_cmp (JV_Subscript ?_)
            refine JV_free (c := cd) rfl hcd.skip ?_
            walk_at "name"
            refine Item_AD hdd.skip (valueAt_dfnKv (hR M''.uD)) (JV_Subscript ?_)
            refine JV_free (c := cd) rfl hcd.skip ?_
            walk_at "name"
            refine Item_AD hdd.skip (valueAt_dfnKv (hR M''.vD)) ?_
            refine Cmp_gt (Tru_bool ?_)
            by_cases hgt : ord.idxOf v' < ord.idxOf u'
            · rw [if_pos (by simpa using hgt)]
              obtain ⟨v'', e1, d1, n1, i1⟩ := meet_left D I M''.vD M''.uD hgt
              have hus : v' ≠ s := fun q => by have := hmx M''.uD; rw [q] at hgt; omega
              refine JF_cons (JF_Assign (JV_Subscript ?_))
              refine JV_free (c := ci) rfl hci.skip ?_
              walk_at "name"
              refine Item_AD hdi.skip (x := iv v'') (by rw [valueAt_idomKv, if_neg hus, e1]; rfl) ?_
              walk_at "store"
              refine JF_nil ⟨_, ?_, _, Sub.refl _, v'', rfl, rfl, ⟨M''.uD, d1, fun z => ?_⟩, by omega, rfl⟩
              · have := hmx d1
                omega
              · exact (and_comm.trans (i1 z).symm).trans (and_comm.trans (M''.iff z))
            · rw [if_neg (by simpa using hgt)]
              refine JF_nil (JF_nil ⟨_, ?_, _, Sub.refl _, u', v', rfl, rfl, M'', rfl⟩)
              have h1 := hmx M''.uD
              have h2 := hmx M''.vD
              omega
/-- the nested def's function object -/
def IsIsect (clos : List (Str × Addr)) (c : Addr) (fp : Pd) : Prop := ∃ name qual params body scope, fp = ADef name qual params body scope clos c ∧ qual = Str.ofString "immediate_dominators.<locals>.intersect" ∧ isectOf PySem.Challenge.pw_ci0025_01 = some (params, body, scope)
theorem isect_spec (T : TopB K p loose mg mb B) (hA : AOk B A 6) {f c cd ci dd di : Addr} {fp : Pd} (hfp : IsIsect [("idom", ci), ("dfn", cd)] c fp)
  (hf : Has B own f fp) (hc : Has B own c (ACode "immediate_dominators.<locals>.intersect")) (hcd : Has B own cd (ACell (some (.ref dd)))) (hci : Has B own ci (ACell (some (.ref di))))
  {ord : List Int} {s : Int} {t : List (Int × Int)} (hdd : Has B own dd (AD prog w (dfnKv ord))) (hdi : Has B own di (AD prog w (idomKv s t)))
  {E : Int → Int → Prop} {par : Int → Int} (D : DfsOk E s (· ∈ ord) (ord.idxOf ·) par) (I : Inv E s (· ∈ ord) (ord.idxOf ·) par (look t)) {a b : Int} (ha : InD s (look t) a) (hb' : InD s (look t) b)
  (h : ∀ d, InD s (look t) d → (∀ z, Up (look t) d z ↔ Up (look t) a z ∧ Up (look t) b z) → Q (iv d) own gs) : CallJ prog w B A (.ref f) [iv a, iv b] own gs Q := by
  obtain ⟨name, qual, params, body, scope, rfl, rfl, hb⟩ := hfp
  exact intersect_spec T hA hb hf hc hcd hci hdd hdi D I ha hb' h
theorem isect_keep {f c : Addr} {clos : List (Str × Addr)} {fp : Pd} (hfp : IsIsect clos c fp) (hf : Has B own f fp) : KeepOk prog w B own (.ref f) := by
  obtain ⟨name, qual, params, body, scope, rfl, rfl, hb⟩ := hfp
  exact Keep_def hf
end
end Mine
end
section
set_option maxRecDepth 100000
set_option maxHeartbeats 4000000
open PySem PySem.Calls PyProof.Rows PySem.W PySem.Spec
namespace Mine
example : PySem.Challenge.rw_ci0025_01.prog = PySem.Challenge.rw_ci0025_01.prog ∧ hd.heap_39 = hd.heap_39 := by k_fill; exact ⟨rfl, rfl⟩
local macro_rules | `(tactic| k_mem) => `(tactic| first | apply List.Mem.head | exact Gr.memS (by assumption) | exact Gr.memP (by assumption) | exact Gr.memJ (by assumption) | (apply List.Mem.tail; k_mem))
local macro_rules | `(tactic| walk_at "has") => `(tactic| first | (apply Has.own; k_mem) | (apply Has.base; assumption))
local macro_rules | `(tactic| walk_at "upd") => `(tactic| first | apply Upd.head | exact Gr.updS (by assumption) (by assumption) | exact Gr.updP (by assumption) (by assumption) | (apply Upd.tail; walk_at "upd"))
local macro_rules | `(tactic| walk_at "setl") => `(tactic| first | apply SetL.nil | apply SetL.here | (apply SetL.next (by rfl); walk_at "setl"))
local macro_rules | `(tactic| walk_at "cells") => `(tactic| repeat' (first | refine Cells_nil ?_ | refine Cells_skip (by decide) ?_ | (refine Cells_cell ?_; intro _)))
local macro_rules | `(tactic| walk_at "pick") => `(tactic| first | apply PickR.head | (apply PickR.tail; walk_at "pick"))
local macro_rules | `(tactic| walk_at "weak") => `(tactic| first | exact fun _ h => h | exact AEmpty.toAD | (refine ANs.sub ?_; repeat' (first | exact List.forall_mem_nil _ | refine List.forall_mem_cons.mpr ⟨rfl, ?_⟩)))
local macro_rules | `(tactic| walk_at "subt") => `(tactic| first | exact Sub.refl _ | (refine Sub.skip ?_; walk_at "subt"))
local macro_rules | `(tactic| walk_at "sub") => `(tactic| first | apply Sub.nil | (refine' Sub.pick ?hp ?hw ?_; (case hp => walk_at "pick"); (case hw => walk_at "weak"); walk_at "sub") | walk_at "subt")
local macro_rules | `(tactic| walk_at "store") => `(tactic| first | (refine' Store_local ?hu ?hs ?_; (case hu => walk_at "upd"); (case hs => walk_at "setl")) | (refine' Store_cell ?hc ?hu ?_; (case hc => rfl); (case hu => walk_at "upd")))

local macro_rules | `(tactic| walk_at "name") => `(tactic| first
  | (refine' JV_local ?hn ?hv ?_; (case hn => walk_at "has"); (case hv => rfl))
  | (refine' JV_cell ?hc ?hn ?_; (case hc => rfl); (case hn => walk_at "has"))
  | (refine' JV_free ?hc ?hn ?_; (case hc => rfl); (case hn => walk_at "has")))
local macro_rules | `(tactic| walk_at "js") => `(tactic| first
  | with_reducible refine JF_cons ?_
  | with_reducible refine JF_nil ?_
  | refine JF_Assign ?_
  | with_reducible refine JF_If ?_
  | with_reducible refine JF_Return ?_
  | refine JF_Expr ?_
  | with_reducible refine JV_int ?_
  | with_reducible refine JV_bool ?_
  | with_reducible refine JV_none ?_
  | with_reducible refine JV_str ?_
  | with_reducible refine JV_BinOp ?_
  | refine JV_Compare ?_
  | with_reducible refine JV_IfExp ?_
  | refine Test_cmp ?_
  | with_reducible refine Test_not ?_
  | with_reducible refine Test_and ?_
  | with_reducible refine Test_and_nil ?_
  | with_reducible refine Test_or ?_
  | with_reducible refine Test_or_nil ?_
  | with_reducible refine Tru_bool ?_
  | refine JV_List ?_
  | refine JV_Tuple ?_
  | with_reducible refine Args_nil ?_
  | refine Args_cons ?_
  | with_reducible refine Bin_add ?_
  | with_reducible refine Cmp_eq ?_
  | with_reducible refine Cmp_ne ?_
  | with_reducible refine Cmp_lt ?_
  | with_reducible refine Cmp_le ?_
  | with_reducible refine Cmp_gt ?_
  | with_reducible refine Cmp_ge ?_
  | walk_at "name"
  | walk_at "store")
local macro_rules | `(tactic| walk_at "inst") => `(tactic| (refine' Inst.mk ?ix ?id; (case ix => walk_at "has"); (case id => walk_at "has")))
local macro_rules | `(tactic| walk_at "kfun") => `(tactic| (refine' Call_K (by assumption) (by assumption) ?k1 ?k2 ?k3 ?k4 ?_ ?k5 ?k6; (case k1 => k_is); (case k2 => rfl); (case k3 => rfl); (case k4 => k_is); (case k5 => rfl); (case k6 => rfl)))
local macro_rules | `(tactic| walk_at "kcode") => `(tactic| (refine' Code_K (by assumption) (by assumption) ?k1 ?k2 ?k3 ?k4 ?_ ?k5 ?k6; (case k1 => k_is); (case k2 => rfl); (case k3 => rfl); (case k4 => k_is); (case k5 => rfl); (case k6 => rfl)))
local macro_rules | `(tactic| walk_at "methk") => `(tactic| (refine' Meth_K (by assumption) ?mi ?mv ?_ ?g1 ?g2 ?g3 ?g4; (case mi => walk_at "inst"); (case mv => first | exact fields_none (by assumption) (by decide) | rfl); (case g1 => k_is); (case g2 => k_is); (case g3 => k_is); (case g4 => k_is)))
local macro_rules | `(tactic| walk_at "getown") => `(tactic| (refine' Get_own (by assumption) ?mi ?mv ?_ ?g1 ?g2 ?gh; (case mi => walk_at "inst"); (case mv => rfl); (case g1 => k_is); (case g2 => kernel_rfl); (case gh => rfl)))
local macro_rules | `(tactic| walk_at "setown") => `(tactic| (refine' SetAttr_inst (by assumption) ?sx ?sd ?sk ?_ ?se ?sl; (case sx => walk_at "has"); (case sd => walk_at "upd"); (case se => rfl); (case sl => exact Nat.le_of_ble_eq_true rfl); (case sk => kernel_rfl)))
local macro_rules | `(tactic| walk_at "keepk") => `(tactic| (exact Keep_K (by assumption) (by k_is)))
local macro_rules | `(tactic| walk_at "apart") => `(tactic| first | (apply Apart.left; k_mem; done) | (apply Apart.right; k_mem; done) | (apply Apart.tail; walk_at "apart"))
local macro_rules | `(tactic| walk_at "kgen") => `(tactic| (refine' Call_gen (by assumption) (by assumption) ?k1 ?k2 ?k3 ?k4 ?_ ?k5 ?k6; (case k1 => k_is); (case k2 => rfl); (case k3 => rfl); (case k4 => k_is); (case k5 => rfl); (case k6 => rfl)))
local macro_rules | `(tactic| walk_at "kcodec") => `(tactic| (refine' CodeC_K (by assumption) (by assumption) ?k1 ?k2 ?k3 ?k4 ?_ ?k5 ?k6; (case k1 => k_is); (case k2 => rfl); (case k3 => rfl); (case k4 => k_is); (case k5 => rfl); (case k6 => rfl)))
local macro_rules | `(tactic| walk_at "getk") => `(tactic| (refine' Get_K (by assumption) ?k1 ?k2 ?k3 ?k4 ?k5 ?g1 ?g2 ?g3 ?gh ?_; (case k1 => k_is); (case k2 => rfl); (case k3 => rfl); (case k4 => rfl); (case k5 => k_is); (case g1 => k_is); (case g2 => kernel_rfl); (case g3 => rfl); (case gh => rfl)))
def genOf (p : Program) : Option Expr := match (show List Stmt from p.main.body)[9]? with
  | some (Stmt.FunctionDef _ _ b ..) => match (show List Stmt from b)[8]? with
    | some (Stmt.While _ wb ..) => match (show List Stmt from wb)[1]? with
      | some (Stmt.For _ _ fb ..) => match (show List Stmt from fb)[0]? with
        | some (Stmt.Assign _ (Expr.Call _ as ..) ..) => (show List Expr from as)[1]?
        | _ => none
      | _ => none
    | _ => none
  | _ => none
def inDb (s : Int) (t : List (Int × Int)) (k : Int) : Bool := k == s || (look t k).isSome
theorem inDb_iff {s : Int} {t : List (Int × Int)} {k : Int} : inDb s t k = true ↔ InD s (look t) k := by
  simp [inDb, InD]
theorem inDb_val {s : Int} {t : List (Int × Int)} {k : Int} : (valueAt (idomKv s t) k).isSome = inDb s t k := by
  rw [valueAt_idomKv]
  by_cases h : k = s
  · simp [h, inDb]
  · simp [h, inDb]
section
variable {prog : Program} {w : World} {B : Bs} {A : Around} {own : Own} {gs : Array GenState} {K : Frag} {p : Program} {loose : List Str} {mg mb : Str → Option Value} {Q : QV}
theorem predGen_GY (T : TopB K p loose mg mb B) {elt : Expr} {gens : List Comprehension} {scope : Scope} {pos : Pos} (he : genOf PySem.Challenge.pw_ci0025_01 = some (.GeneratorExp elt gens scope pos)) {C it P ci di : Addr} {code : Value} {q : Str} {s : Int} {t : List (Int × Int)} {kvs : List (Int × Value)} {ep : Nat}
    (hci : B.f ci = some (ACell (some (.ref di)))) (hdi : B.f di = some (AD prog w (idomKv s t))) (hP : B.f P = some (ADict prog w kvs ep)) :
    GY prog w B 12 (((kvs.map (·.1)).filter (inDb s t)).map evP) (.fresh (.compStart (.GeneratorExp elt gens scope pos) 0 (.ref it) .none (newEnv scope C mainGlobals [("idom", ci)] q none code none builtinsNs)))
      [(C, ANs [(Str.ofString ".0", .ref it)]), (it, AKeyIter P 0 kvs.length ep)] none := by
  cases (show some (Expr.GeneratorExp _ _ _ _) = some (Expr.GeneratorExp elt gens scope pos) from he)
  clear he
  refine GY_iff.mpr fun A2 rest2 gs2 hA2 hg2 => ?_
  show SJ prog w B A2 _ _ _ [] _ gs2
  refine' SJ_compStart ?hi ?_
  case hi => exact Iter_key (.own (.tail _ (.head _))) ⟨rfl, rfl, rfl⟩
  generalize hO : [(C, ANs [(Str.ofString ".0", Value.ref it)]), (it, AKeyIter P 0 kvs.length ep)] ++ rest2 = O
  obtain ⟨xs, hxs⟩ : ∃ xs, xs = kvs.map (·.1) := ⟨_, rfl⟩
  rw [← hxs]
  have hO' : ∃ i, O = (C, ANs [(Str.ofString ".0", Value.ref it)]) :: (it, AKeyIter P i kvs.length ep) :: rest2 ∧ (kvs.map (·.1)).drop i = xs := ⟨0, hO.symm, hxs.symm⟩
  clear hxs hO hg2
  induction xs generalizing O A2 rest2 gs2 with
  | nil =>
    obtain ⟨i, rfl, hx⟩ := hO'
    have hn : (kvs.map (·.1))[i]? = none := List.getElem?_eq_none_iff.mpr (List.drop_eq_nil_iff.mp hx)
    refine SJ_compLoop1 (NextJ_sub (o₂ := (it, AKeyIter P i kvs.length ep) :: rest2) (Sub.skip (Sub.refl _)) ?_) rfl rfl
    refine' Next_key' (n := 9) ?hA (.base hP) ?_
    case hA => exact hA2.over_nil (n := 11) (Nat.le_of_ble_eq_true rfl) (Nat.le_of_ble_eq_true rfl) |>.less
    have hk : kvs[i]? = none := by simpa using hn
    rw [hk]
    exact SJ_end (.ok .next) ⟨rfl, rfl, Sub.refl _, rfl⟩
  | cons x xs ih =>
    obtain ⟨i, rfl, hx⟩ := hO'
    have hi : (kvs.map (·.1))[i]? = some x := by
      have : ((kvs.map (·.1)).drop i)[0]? = some x := by rw [hx]; rfl
      simpa using this
    have hx' : (kvs.map (·.1)).drop (i + 1) = xs := by
      have : ((kvs.map (·.1)).drop i).drop 1 = xs := by rw [hx]; rfl
      simpa [List.drop_drop] using this
    obtain ⟨⟨x', v'⟩, hk, rfl⟩ : ∃ e, kvs[i]? = some e ∧ e.1 = x := by
      rw [List.getElem?_map, Option.map_eq_some_iff] at hi; exact hi
    refine SJ_compLoop1 (NextJ_sub (o₂ := (it, AKeyIter P i kvs.length ep) :: (C, ANs [(Str.ofString ".0", Value.ref it)]) :: rest2) (Sub.of_perm (List.Perm.swap ..)) ?_) rfl rfl
    refine' Next_key' (n := 9) ?hA (.base hP) ?_
    case hA => exact hA2.over_nil (n := 11) (Nat.le_of_ble_eq_true rfl) (Nat.le_of_ble_eq_true rfl) |>.less
    rw [hk]
    intro u hu
    refine J_pure ?_
    refine Assign_name ?_
    walk_at "store"
    refine Test_cmp ?_
    walk_at "name"
    refine JV_free (c := ci) rfl (.base hci) ?_
    refine Cmp_inAD T (.base hdi) (Tru_bool ?_)
    rw [inDb_val]
    cases hb : inDb s t x' with
    | true =>
      rw [if_pos rfl, List.filter_cons, if_pos hb, List.map_cons]
      walk_at "name"
      intro kk l pp u' hu' hkk
      refine ⟨u', [], [(C, ANs [(Str.ofString ".0", Value.ref it)]), (it, AKeyIter P (i + 1) kvs.length ep)], none, rfl, ⟨hu', rfl⟩, ?_, rfl, rfl, GY_iff.mpr fun A3 rest3 gs3 hA3 hg4 => ?_⟩
      · dsimp only [List.nil_append, List.cons_append]
        walk_at "sub"
      · show SJ prog w B A3 _ _ (kk (.send .none)) [] _ gs3
        exact hkk _ _ _ _ (ih A3 rest3 gs3 hA3 _ ⟨i + 1, rfl, hx'⟩)
    | false =>
      rw [if_neg Bool.false_ne_true, List.filter_cons, if_neg (by rw [hb]; exact Bool.false_ne_true)]
      refine SJ_sub ?_ (ih A2 rest2 gs2 hA2 _ ⟨i + 1, rfl, hx'⟩)
      walk_at "sub"
end
end Mine
end
section
/- plain law: one edge more and the tree of immediate dominators -/
set_option autoImplicit false
set_option linter.unusedVariables false
namespace Mine
/-- what the answer says -/
structure IdomOk (E : Int → Int → Prop) (s : Int) (R : Int → Prop) (t : List (Int × Int)) : Prop where
  nd : (t.map (·.1)).Nodup
  keys : ∀ x, x ∈ t.map (·.1) ↔ R x ∧ x ≠ s
  dom : ∀ x w, R x → R w → (Up (look t) x w ↔ ¬ Avoid E s w x)
  num : ∃ num : Int → Nat, ∀ x y, look t x = some y → num x < num y
  up : ∀ x y, look t x = some y → R y
section
variable {E E' : Int → Int → Prop} {s : Int} {R : Int → Prop} {t t' : List (Int × Int)}
theorem IdomOk.get (h : IdomOk E s R t) {x : Int} (hx : R x) (hs : x ≠ s) : ∃ d, look t x = some d ∧ R d := by
  have := look_isSome.mpr ((h.keys x).mpr ⟨hx, hs⟩)
  obtain ⟨d, hd⟩ := Option.isSome_iff_exists.mp this
  exact ⟨d, hd, h.up x d hd⟩
theorem IdomOk.isR (h : IdomOk E s R t) {x d : Int} (e : look t x = some d) : R x ∧ x ≠ s :=
  (h.keys x).mp (look_isSome.mp (by rw [e]; rfl))
theorem IdomOk.upR (h : IdomOk E s R t) {x w : Int} (hx : R x) (u : Up (look t) x w) : R w := by
  induction u with
  | refl x => exact hx
  | step e _ ih => exact ih (h.up _ _ e)
theorem IdomOk.anti (h : IdomOk E s R t) {x w : Int} (a : Up (look t) x w) (b : Up (look t) w x) : x = w := by
  obtain ⟨num, hn⟩ := h.num
  exact a.antisymm hn b
/-- who is the immediate dominator -/
theorem IdomOk.uniq (h : IdomOk E s R t) {u c : Int} (hu : R u) (hc : R c) (hne : c ≠ u) (h1 : ¬ Avoid E s c u) (h2 : ∀ w, R w → ¬ Avoid E s w u → w ≠ u → ¬ Avoid E s w c) : look t u = some c := by
  have a := (h.dom u c hu hc).mpr h1
  cases a with
  | refl => exact absurd rfl hne
  | @step _ d _ e a =>
    have hd := h.up _ _ e
    have hdu : d ≠ u := by
      obtain ⟨num, hn⟩ := h.num
      intro q
      have := hn _ _ e
      rw [q] at this
      omega
    have hud : Up (look t) u d := .one e
    have b := (h.dom c d hc hd).mpr (h2 d hd ((h.dom u d hu hd).mp hud) hdu)
    rw [e, h.anti a b]
theorem Avoid.mono (hE : ∀ x y, E x y → E' x y) {w x : Int} (a : Avoid E s w x) : Avoid E' s w x := by
  induction a with
  | start h => exact .start h
  | step _ e n ih => exact .step ih (hE _ _ e) n
/-- a way onwards without w -/
inductive Way (E : Int → Int → Prop) (ok : Int → Prop) (a : Int) : Int → Prop
  | refl (h : ok a) : Way E ok a a
  | step {b c : Int} (h : Way E ok a b) (e : E b c) (o : ok c) : Way E ok a c
theorem Way.avoid {w a b : Int} (p : Way E (· ≠ w) a b) (h : Avoid E s w a) : Avoid E s w b := by
  induction p with
  | refl _ => exact h
  | step _ e n ih => exact .step ih e n
theorem Way.ok {ok : Int → Prop} {a b : Int} (p : Way E ok a b) : ok b := by cases p <;> assumption
theorem Way.mono {ok ok' : Int → Prop} {a b : Int} (p : Way E ok a b) (h : ∀ x, ok x → ok' x) : Way E ok' a b := by
  induction p with
  | refl o => exact .refl (h _ o)
  | step _ e o ih => exact .step ih e (h _ o)
theorem Way.back {d h u : Int} (p : Way E (· ≠ d) h u) (hR : R h) (cl : ∀ x y, R x → E x y → R y) (hu : ¬ Avoid E s d u) : Way E (fun x => x ≠ d ∧ ¬ Avoid E s d x ∧ R x) h u ∧ R u := by
  induction p with
  | refl o => exact ⟨.refl ⟨o, hu, hR⟩, hR⟩
  | @step b c p e o ih =>
    obtain ⟨q, hb⟩ := ih fun a => hu (.step a e o)
    have hc := cl _ _ hb e
    exact ⟨.step q e ⟨o, hu, hc⟩, hc⟩
theorem Way.first {ok : Int → Prop} {a b : Int} (p : Way E ok a b) : ok a := by
  induction p with
  | refl h => exact h
  | step _ _ _ ih => exact ih
/-- one edge more -/
abbrev more (E : Int → Int → Prop) (a b : Int) : Int → Int → Prop := fun x y => E x y ∨ (x = a ∧ y = b)
theorem Avoid.split {a b w x : Int} (h : Avoid (more E a b) s w x) : Avoid E s w x ∨ (Avoid E s w a ∧ Way E (· ≠ w) b x) := by
  induction h with
  | start n => exact .inl (.start n)
  | step _ e n ih =>
    rcases ih with ih | ⟨i1, i2⟩
    · rcases e with e | ⟨rfl, rfl⟩
      · exact .inl (.step ih e n)
      · exact .inr ⟨ih, .refl n⟩
    · rcases e with e | ⟨rfl, rfl⟩
      · exact .inr ⟨i1, .step i2 e n⟩
      · exact .inr ⟨i1, .refl n⟩
theorem Avoid.join {a b w x : Int} (h1 : Avoid E s w a) (h2 : Way E (· ≠ w) b x) : Avoid (more E a b) s w x := by
  have h0 : Avoid (more E a b) s w b := .step (h1.mono fun _ _ => .inl) (.inr ⟨rfl, rfl⟩) h2.first
  induction h2 with
  | refl _ => exact h0
  | step _ e n ih => exact .step ih (.inl e) n
theorem avoid_R {w x : Int} (rs : R s) (cl : ∀ x y, R x → E x y → R y) (h : Avoid E s w x) : R x := by
  induction h with
  | start _ => exact rs
  | step _ e _ ih => exact cl _ _ ih e
/-- the edge starts where nothing is reached -/
theorem same_tree (rs : R s) (cl : ∀ x y, R x → E x y → R y) {a b : Int} (ha : ¬ R a) (h : IdomOk E s R t) (h' : IdomOk (more E a b) s R t') : look t' = look t := by
  have key : ∀ w x, Avoid (more E a b) s w x ↔ Avoid E s w x := fun w x => ⟨fun q => by
    rcases q.split with q | ⟨q, _⟩
    · exact q
    · exact absurd (avoid_R rs cl q) ha, fun q => q.mono fun _ _ => .inl⟩
  funext u
  by_cases hu : R u ∧ u ≠ s
  · obtain ⟨d, hd, hR⟩ := h.get hu.1 hu.2
    rw [hd]
    refine h'.uniq hu.1 hR ?_ ?_ ?_
    · intro q
      obtain ⟨num, hn⟩ := h.num
      have := hn _ _ hd
      rw [q] at this
      omega
    · rw [key]; exact (h.dom u d hu.1 hR).mp (.one hd)
    · intro w hw hv hne
      rw [key] at hv ⊢
      rcases ((h.dom u w hu.1 hw).mpr hv).cases_ne hd with q | q
      · exact absurd q hne
      · exact (h.dom d w hR hw).mp q
  · cases q : look t u with
    | some d => exact absurd (h.isR q) hu
    | none =>
      cases q' : look t' u with
      | some d => exact absurd (h'.isR q') hu
      | none => rfl
/-- the edge starts at a reached node: who moves, and where to -/
theorem moved_tree (rs : R s) (cl : ∀ x y, R x → E x y → R y) {a b z : Int} (ha : R a) (hb : R b) (h : IdomOk E s R t) (h' : IdomOk (more E a b) s R t')
    {dep : Int → Nat} (D1 : ∀ x d, R x → Up (look t) x d → x ≠ d → dep d < dep x) (D2 : ∀ x d, R x → look t x = some d → dep x = dep d + 1)
    (z1 : Up (look t) a z) (z2 : Up (look t) b z) (z3 : ∀ w, Up (look t) a w → Up (look t) b w → Up (look t) z w) {u : Int} (hu : R u) (hs : u ≠ s) :
    (dep z + 1 < dep u ∧ Way E (fun x => R x ∧ dep u ≤ dep x) b u → look t' u = some z) ∧ (¬ (dep z + 1 < dep u ∧ Way E (fun x => R x ∧ dep u ≤ dep x) b u) → look t' u = look t u) := by
  obtain ⟨d, hd, hR⟩ := h.get hu hs
  have hz := h.upR ha z1
  have hdu : d ≠ u := by
    intro q
    obtain ⟨num, hn⟩ := h.num
    have := hn _ _ hd
    rw [q] at this
    omega
  have eu := D2 u d hu hd
  have dle : ∀ x w, R x → Up (look t) x w → dep w ≤ dep x := fun x w hx q => by
    by_cases e : x = w
    · rw [e]; exact Nat.le_refl _
    · exact Nat.le_of_lt (D1 x w hx q e)
  have hdm : ¬ Avoid E s d u := (h.dom u d hu hR).mp (.one hd)
  constructor
  · rintro ⟨hlt, p⟩
    have nd : ∀ w, Up (look t) d w → Way E (· ≠ w) b u := fun w hw => p.mono fun x hx e => by
      have := dle d w hR hw
      have := hx.2
      rw [e] at this
      omega
    have hdb : Up (look t) b d := (h.dom b d hb hR).mpr fun q => hdm ((nd d (.refl d)).avoid q)
    have hda : ¬ Up (look t) a d := fun q => by
      have := dle z d hz (z3 d q hdb)
      omega
    have hdz : Up (look t) d z := by
      rcases hdb.lin z2 with q | q
      · exact q
      · exact absurd (z1.trans q) hda
    refine h'.uniq hu hz (fun e => by rw [e] at hlt; omega) (fun q => ?_) fun w hw hv hne q => ?_
    · rcases q.split with q | ⟨q, _⟩
      · exact (h.dom u z hu hz).mp (.step hd hdz) q
      · exact (h.dom a z ha hz).mp z1 q
    · have hwu : Up (look t) u w := (h.dom u w hu hw).mpr fun k => hv (k.mono fun _ _ => .inl)
      have hdw : Up (look t) d w := (hwu.cases_ne hd).resolve_left hne
      rcases hdw.lin hdz with k | k
      · -- w below z
        by_cases hwz : w = z
        · subst hwz; exact q.ne rfl
        · have hbw := hdb.trans hdw
          have haw : ¬ Up (look t) a w := fun k' => hwz (h.anti k (z3 w k' hbw))
          have hav : Avoid E s w a := Classical.byContradiction fun k' => haw ((h.dom a w ha hw).mpr k')
          exact hv (hav.join (nd w hdw))
      · rcases q.split with q | ⟨q, _⟩
        · exact (h.dom z w hz hw).mp k q
        · exact (h.dom a w ha hw).mp (z1.trans k) q
  · intro hc
    rw [hd]
    have hd' : ¬ Avoid (more E a b) s d u := fun q => by
      rcases q.split with q | ⟨q1, q2⟩
      · exact hdm q
      · refine hc ?_
        have hbk := (q2.back (R := R) hb cl hdm).1
        have hdb : Up (look t) b d := (h.dom b d hb hR).mpr hbk.first.2.1
        have hda : ¬ Up (look t) a d := fun k => (h.dom a d ha hR).mp k q1
        have hdz : Up (look t) d z := by
          rcases hdb.lin z2 with q | q
          · exact q
          · exact absurd (z1.trans q) hda
        have hne : d ≠ z := fun e => hda (by rw [e]; exact z1)
        have := D1 d z hR hdz hne
        refine ⟨by omega, hbk.mono fun x hx => ⟨hx.2.2, ?_⟩⟩
        have := D1 x d hx.2.2 ((h.dom x d hx.2.2 hR).mpr hx.2.1) hx.1
        omega
    refine h'.uniq hu hR hdu hd' fun w hw hv hne q => ?_
    have uw := (h'.dom u w hu hw).mpr hv
    have ud := (h'.dom u d hu hR).mpr hd'
    rcases ud.lin uw with k | k
    · exact (h'.dom d w hR hw).mp k q
    · have h1 : Up (look t) w d := (h.dom w d hw hR).mpr fun q' => (h'.dom w d hw hR).mp k (q'.mono fun _ _ => .inl)
      have h2 : Up (look t) u w := (h.dom u w hu hw).mpr fun k => hv (k.mono fun _ _ => .inl)
      have h3 : Up (look t) d w := (h2.cases_ne hd).resolve_left hne
      have := h.anti h1 h3
      subst this
      exact q.ne rfl
end
end Mine
end
section
set_option maxRecDepth 100000
set_option maxHeartbeats 4000000
open PySem PySem.Calls PyProof.Rows PySem.W PySem.Spec
namespace Mine
example : PySem.Challenge.rw_ci0025_01.prog = PySem.Challenge.rw_ci0025_01.prog ∧ hd.heap_39 = hd.heap_39 := by k_fill; exact ⟨rfl, rfl⟩
local macro_rules | `(tactic| k_mem) => `(tactic| first | apply List.Mem.head | exact Gr.memS (by assumption) | exact Gr.memP (by assumption) | exact Gr.memJ (by assumption) | (apply List.Mem.tail; k_mem))
local macro_rules | `(tactic| walk_at "has") => `(tactic| first | (apply Has.own; k_mem) | (apply Has.base; assumption))
local macro_rules | `(tactic| walk_at "upd") => `(tactic| first | apply Upd.head | exact Gr.updS (by assumption) (by assumption) | exact Gr.updP (by assumption) (by assumption) | (apply Upd.tail; walk_at "upd"))
local macro_rules | `(tactic| walk_at "setl") => `(tactic| first | apply SetL.nil | apply SetL.here | (apply SetL.next (by rfl); walk_at "setl"))
local macro_rules | `(tactic| walk_at "cells") => `(tactic| repeat' (first | refine Cells_nil ?_ | refine Cells_skip (by decide) ?_ | (refine Cells_cell ?_; intro _)))
local macro_rules | `(tactic| walk_at "pick") => `(tactic| first | apply PickR.head | (apply PickR.tail; walk_at "pick"))
local macro_rules | `(tactic| walk_at "weak") => `(tactic| first | exact fun _ h => h | exact AEmpty.toAD | (refine ANs.sub ?_; repeat' (first | exact List.forall_mem_nil _ | refine List.forall_mem_cons.mpr ⟨rfl, ?_⟩)))
local macro_rules | `(tactic| walk_at "subt") => `(tactic| first | exact Sub.refl _ | (refine Sub.skip ?_; walk_at "subt"))
local macro_rules | `(tactic| walk_at "sub") => `(tactic| first | apply Sub.nil | (refine' Sub.pick ?hp ?hw ?_; (case hp => walk_at "pick"); (case hw => walk_at "weak"); walk_at "sub") | walk_at "subt")
local macro_rules | `(tactic| walk_at "store") => `(tactic| first | (refine' Store_local ?hu ?hs ?_; (case hu => walk_at "upd"); (case hs => walk_at "setl")) | (refine' Store_cell ?hc ?hu ?_; (case hc => rfl); (case hu => walk_at "upd")))

local macro_rules | `(tactic| walk_at "name") => `(tactic| first
  | (refine' JV_local ?hn ?hv ?_; (case hn => walk_at "has"); (case hv => rfl))
  | (refine' JV_cell ?hc ?hn ?_; (case hc => rfl); (case hn => walk_at "has"))
  | (refine' JV_free ?hc ?hn ?_; (case hc => rfl); (case hn => walk_at "has")))
local macro_rules | `(tactic| walk_at "js") => `(tactic| first
  | with_reducible refine JF_cons ?_
  | with_reducible refine JF_nil ?_
  | refine JF_Assign ?_
  | with_reducible refine JF_If ?_
  | with_reducible refine JF_Return ?_
  | refine JF_Expr ?_
  | with_reducible refine JV_int ?_
  | with_reducible refine JV_bool ?_
  | with_reducible refine JV_none ?_
  | with_reducible refine JV_str ?_
  | with_reducible refine JV_BinOp ?_
  | refine JV_Compare ?_
  | with_reducible refine JV_IfExp ?_
  | refine Test_cmp ?_
  | with_reducible refine Test_not ?_
  | with_reducible refine Test_and ?_
  | with_reducible refine Test_and_nil ?_
  | with_reducible refine Test_or ?_
  | with_reducible refine Test_or_nil ?_
  | with_reducible refine Tru_bool ?_
  | refine JV_List ?_
  | refine JV_Tuple ?_
  | with_reducible refine Args_nil ?_
  | refine Args_cons ?_
  | with_reducible refine Bin_add ?_
  | with_reducible refine Cmp_eq ?_
  | with_reducible refine Cmp_ne ?_
  | with_reducible refine Cmp_lt ?_
  | with_reducible refine Cmp_le ?_
  | with_reducible refine Cmp_gt ?_
  | with_reducible refine Cmp_ge ?_
  | walk_at "name"
  | walk_at "store")
local macro_rules | `(tactic| walk_at "inst") => `(tactic| (refine' Inst.mk ?ix ?id; (case ix => walk_at "has"); (case id => walk_at "has")))
local macro_rules | `(tactic| walk_at "kfun") => `(tactic| (refine' Call_K (by assumption) (by assumption) ?k1 ?k2 ?k3 ?k4 ?_ ?k5 ?k6; (case k1 => k_is); (case k2 => rfl); (case k3 => rfl); (case k4 => k_is); (case k5 => rfl); (case k6 => rfl)))
local macro_rules | `(tactic| walk_at "kcode") => `(tactic| (refine' Code_K (by assumption) (by assumption) ?k1 ?k2 ?k3 ?k4 ?_ ?k5 ?k6; (case k1 => k_is); (case k2 => rfl); (case k3 => rfl); (case k4 => k_is); (case k5 => rfl); (case k6 => rfl)))
local macro_rules | `(tactic| walk_at "methk") => `(tactic| (refine' Meth_K (by assumption) ?mi ?mv ?_ ?g1 ?g2 ?g3 ?g4; (case mi => walk_at "inst"); (case mv => first | exact fields_none (by assumption) (by decide) | rfl); (case g1 => k_is); (case g2 => k_is); (case g3 => k_is); (case g4 => k_is)))
local macro_rules | `(tactic| walk_at "getown") => `(tactic| (refine' Get_own (by assumption) ?mi ?mv ?_ ?g1 ?g2 ?gh; (case mi => walk_at "inst"); (case mv => rfl); (case g1 => k_is); (case g2 => kernel_rfl); (case gh => rfl)))
local macro_rules | `(tactic| walk_at "setown") => `(tactic| (refine' SetAttr_inst (by assumption) ?sx ?sd ?sk ?_ ?se ?sl; (case sx => walk_at "has"); (case sd => walk_at "upd"); (case se => rfl); (case sl => exact Nat.le_of_ble_eq_true rfl); (case sk => kernel_rfl)))
local macro_rules | `(tactic| walk_at "keepk") => `(tactic| (exact Keep_K (by assumption) (by k_is)))
local macro_rules | `(tactic| walk_at "apart") => `(tactic| first | (apply Apart.left; k_mem; done) | (apply Apart.right; k_mem; done) | (apply Apart.tail; walk_at "apart"))
local macro_rules | `(tactic| walk_at "kgen") => `(tactic| (refine' Call_gen (by assumption) (by assumption) ?k1 ?k2 ?k3 ?k4 ?_ ?k5 ?k6; (case k1 => k_is); (case k2 => rfl); (case k3 => rfl); (case k4 => k_is); (case k5 => rfl); (case k6 => rfl)))
local macro_rules | `(tactic| walk_at "kcodec") => `(tactic| (refine' CodeC_K (by assumption) (by assumption) ?k1 ?k2 ?k3 ?k4 ?_ ?k5 ?k6; (case k1 => k_is); (case k2 => rfl); (case k3 => rfl); (case k4 => k_is); (case k5 => rfl); (case k6 => rfl)))
local macro_rules | `(tactic| walk_at "getk") => `(tactic| (refine' Get_K (by assumption) ?k1 ?k2 ?k3 ?k4 ?k5 ?g1 ?g2 ?g3 ?gh ?_; (case k1 => k_is); (case k2 => rfl); (case k3 => rfl); (case k4 => rfl); (case k5 => k_is); (case g1 => k_is); (case g2 => kernel_rfl); (case g3 => rfl); (case gh => rfl)))
def predIn (kvs : List (Str × Value)) (pr : Addr) : List (Str × Value) := if (valueAt kvs "pred").isSome then kvs else stored kvs "pred" (.ref pr)
theorem predIn_get {kvs : List (Str × Value)} {pr : Addr} (h : valueAt kvs "pred" = none ∨ valueAt kvs "pred" = some (.ref pr)) : valueAt (predIn kvs pr) "pred" = some (.ref pr) := by
  unfold predIn
  rcases h with h | h
  · rw [h]
    simp only [Option.isSome_none, Bool.false_eq_true, if_false]
    have : kvs.any (fun kv => decide (kv.1 = ("pred" : Str))) = false := by
      unfold valueAt at h
      rw [Option.map_eq_none_iff, List.find?_eq_none] at h
      rw [List.any_eq_false]
      exact h
    unfold stored valueAt
    rw [this]
    simp only [Bool.false_eq_true, if_false, List.find?_append]
    unfold valueAt at h
    rw [Option.map_eq_none_iff] at h
    rw [h]
    simp
  · rw [h]; simp only [Option.isSome_some, if_true]; exact h
theorem predIn_in {kvs : List (Str × Value)} {pr : Addr} (h : valueAt kvs "pred" = some (.ref pr)) : predIn kvs pr = kvs := by
  unfold predIn; rw [h]; rfl
theorem valueAt_stored_ne {kvs : List (Str × Value)} {x y : Str} {v : Value} (h : x ≠ y) : valueAt (stored kvs x v) y = valueAt kvs y := by
  unfold valueAt stored
  split
  · induction kvs with
    | nil => rfl
    | cons e kvs ih =>
      by_cases hk : kvs.any (fun kv => decide (kv.1 = x)) = true
      · simp only [List.map_cons, List.find?_cons]
        by_cases he : e.1 = x
        · have : ¬ (e.1 = y) := fun q => h (he.symm.trans q)
          simp only [he, if_true, decide_eq_true_eq]
          have h2 : ¬ (x = y) := h
          simp only [h2, decide_false]
          exact ih hk
        · simp only [he, if_false]
          by_cases hy : e.1 = y
          · simp [hy]
          · simp only [hy, decide_false]
            exact ih hk
      · have hid : kvs.map (fun kv => if kv.1 = x then (kv.1, v) else kv) = kvs := by
          conv => rhs; rw [← List.map_id kvs]
          refine List.map_congr_left fun q hq => ?_
          rw [if_neg (fun e => hk (List.any_eq_true.mpr ⟨q, hq, by simpa using e⟩))]; rfl
        simp only [List.map_cons, List.find?_cons, hid]
        by_cases he : e.1 = x
        · have h1 : ¬ (e.1 = y) := fun q => h (he.symm.trans q)
          have h2 : ¬ (x = y) := h
          simp [he, h2]
        · simp [he]
  · rw [List.find?_append]
    have h2 : ¬ (x = y) := h
    simp [h2]
theorem predIn_facts {G : Gr} (hml : G.more.length ≤ 10) (hpd : valueAt G.fields "pred" = none ∨ valueAt G.fields "pred" = some (.ref G.pr)) {kvs : List (Str × Value)} (hk : kvs = G.fields ∨ kvs = predIn G.fields G.pr) :
    kvs.length ≤ 999 ∧ valueAt kvs "_pred" = some (.ref G.pr) ∧ (valueAt kvs "pred" = none ∨ valueAt kvs "pred" = some (.ref G.pr)) ∧ predIn kvs G.pr = predIn G.fields G.pr := by
  have hlf : G.fields.length ≤ 15 := by simp [Gr.fields]; omega
  rcases hk with rfl | rfl
  · exact ⟨by omega, rfl, hpd, rfl⟩
  · refine ⟨?_, ?_, .inr (predIn_get hpd), predIn_in (predIn_get hpd)⟩
    · unfold predIn
      split
      · omega
      · have := stored_length_le G.fields ("pred" : Str) (.ref G.pr)
        omega
    · unfold predIn
      split
      · rfl
      · rw [valueAt_stored_ne (by decide)]; rfl
structure IBase (C : Addr) (prog : Program) (w : World) (B : Bs) (G : Gr) (ep epP : Int → Nat) : Prop where
  x : B.f G.x = some (AInst C G.dx)
  nd : B.f G.nd = some (AD prog w (Gr.outer G.names G.N))
  su : B.f G.su = some (AD prog w (Gr.outer G.names G.S))
  pr : B.f G.pr = some (AD prog w (Gr.outer G.names G.P))
  S : ∀ n ∈ G.names, B.f (G.S n) = some (ADict prog w (G.sk n) (ep n))
  P : ∀ n ∈ G.names, B.f (G.P n) = some (ADict prog w (G.pk n) (epP n))
theorem IBase.le {C : Addr} {prog : Program} {w : World} {B B' : Bs} {G : Gr} {ep epP : Int → Nat} (h : IBase C prog w B G ep epP) (l : B.le B') : IBase C prog w B' G ep epP :=
  ⟨l.1 _ _ h.x, l.1 _ _ h.nd, l.1 _ _ h.su, l.1 _ _ h.pr, fun n hn => l.1 _ _ (h.S n hn), fun n hn => l.1 _ _ (h.P n hn)⟩
section
variable {prog : Program} {w : World} {B : Bs} {A : Around} {own : Own} {gs : Array GenState} {p : Program} {loose : List Str} {mg mb : Str → Option Value} {Q : QV}
theorem GetJ.clean {ov : Value} {name : Str} (h : GetJ prog w B A ov name own gs Q) : GetC prog w B A ov name own gs Q := fun u hu => JV_clean (h u hu)
/-- `graph.pred` -/
theorem predRead (T : TopB (hd.heap_39 w.params) p loose mg mb B) (hA : AOk B A 6) {x dx pr : Addr} {kvs : List (Str × Value)} {ps : List (Int × Value)} (hx : Has B own x (AInst 873 dx)) (hpr : Has B own pr (AD prog w ps))
  (hne : (dx == sysModules) = false) (hl : kvs.length ≤ 999) (hk : valueAt kvs "_pred" = some (.ref pr)) (hp : valueAt kvs "pred" = none ∨ valueAt kvs "pred" = some (.ref pr))
  {own' : Own} (hu : Upd dx (AVars prog w kvs) (AVars prog w (predIn kvs pr)) own own') (h : Q (.ref pr) own' gs) : GetC prog w B A (.ref x) "pred" own gs Q := by
  rcases hp with hp | hp
  · refine' Get_bindC (g := .ref 350) (a := .ref 717) T ⟨hx, .own hu.mem⟩ hp ?_ ?g1 ?g2 ?g3
    case g1 => k_is
    case g2 => kernel_rfl
    case g3 => k_is
    refine CodeC.call (pred_get T (hA.in1.less) hx hpr hu.mem hne hl hk hp ?_ hu ⟨rfl, h⟩)
    unfold predIn; rw [hp]; rfl
  · rw [predIn_in hp] at hu
    have := hu.self
    subst this
    refine GetJ.clean ?_
    refine' Get_own T ⟨hx, .own hu.mem⟩ hp h ?g1 ?g2 rfl
    case g1 => k_is
    case g2 => kernel_rfl
end
theorem posts_eq : ∀ l : List DE, posts l = postsD l
  | [] => rfl
  | (_, _, .fwd) :: E => (posts_eq E : posts E = postsD E)
  | (_, _, .non) :: E => (posts_eq E : posts E = postsD E)
  | (_, v, .rev) :: E => congrArg (v :: ·) (posts_eq E : posts E = postsD E)
theorem postsD_app : ∀ l m : List DE, postsD (l ++ m) = postsD l ++ postsD m
  | [], _ => rfl
  | (_, _, .fwd) :: E, m => (postsD_app E m : postsD (E ++ m) = _)
  | (_, _, .non) :: E, m => (postsD_app E m : postsD (E ++ m) = _)
  | (_, v, .rev) :: E, m => congrArg (v :: ·) (postsD_app E m : postsD (E ++ m) = _)
theorem posts_all {s0 : Int} {E : List DE} : posts ((s0, s0, .fwd) :: (E ++ [(s0, s0, .rev)])) = postQ s0 E := by
  rw [posts_eq]
  show postsD (E ++ [(s0, s0, .rev)]) = _
  rw [postsD_app]; rfl
def dTab : Option (Addr × Option Addr) → List (Pos × Addr)
  | none => []
  | some (c, none) => [(⟨60, 4, 66, 16⟩, c)]
  | some (c, some g) => [(⟨60, 4, 66, 16⟩, c), (⟨71, 41, 71, 76⟩, g)]
def dOwn (tb : Option (Addr × Option Addr)) : Own := (84, ATab (dTab tb)) :: match tb with
  | none => []
  | some (c, _) => [(c, ACode "immediate_dominators.<locals>.intersect")]
section
variable {prog : Program} {w : World} {B : Bs} {A : Around} {own : Own} {gs : Array GenState} {K : Frag} {p : Program} {loose : List Str} {mg mb : Str → Option Value} {env : Env}
theorem Def_tab (T : TopB K p loose mg mb B) (BM : BMain mg B) {tb : Option (Addr × Option Addr)} {rest : Own} {name qual : Str} {params : Arguments} {body : List Stmt} {scope : Scope} {fl : Nat} {clos : List (Str × Addr)} {Q : Value → Own → Array GenState → Prop}
    (hcl : closureFor scope env = pure clos) (hge0 : env.globals = mainGlobals) (hc : env.code = .ref 86) (hC : ∀ h, B.sat h → CodeHd h 86 84) (hq : qual = "immediate_dominators.<locals>.intersect")
    (h : ∀ f c o, Q (.ref f) ((f, ADef name qual params body scope clos c) :: (dOwn (some (c, o)) ++ rest)) gs) :
    J prog w B A (makeFunction name qual params (.stmts body) scope env [] [] [] ⟨60, 4, 66, 16⟩ fl) (dOwn tb ++ rest) gs Q := by
  subst hq
  refine J_drop ?_
  match tb with
  | none => exact J_defMiss T BM hcl hge0 hc hC (.head _) rfl fun c' f => ⟨_, .head _, _, Sub.keep Sub.swap, h f c' none⟩
  | some (c, none) => exact J_defHit (c' := c) T BM hcl hge0 hc hC (.head _) rfl fun f => ⟨_, Sub.refl _, h f c none⟩
  | some (c, some g) => exact J_defHit (c' := c) T BM hcl hge0 hc hC (.head _) rfl fun f => ⟨_, Sub.refl _, h f c (some g)⟩
theorem Gen_tab2 {c : Addr} {o : Option Addr} {rest : Own} {qual : Str} {scope : Scope} {Q : Value → Own → Array GenState → Prop} (hc : env.code = .ref 86) (hC : ∀ h, B.sat h → CodeHd h 86 84)
    (h : ∀ code g', Q code ((84, ATab (dTab (some (c, some g')))) :: rest) gs) : J prog w B A (genexprCode env ⟨71, 41, 71, 76⟩ qual scope) ((84, ATab (dTab (some (c, o)))) :: rest) gs Q := by
  match o with
  | none => exact Gen_miss hc hC (.head _) rfl fun c' => ⟨_, .head _, h _ c'⟩
  | some g => exact Gen_hit (c' := g) hc hC (.head _) rfl (h _ g)
end
theorem rev_get {s0 : Int} {E : List DE} {succ : Int → List Int} (hE : DRun succ [s0] [(s0, 0)] E) {i : Nat} {u : Int} (h : (postsD E).reverse[i]? = some u) :
    i < (postsD E).length ∧ u ∈ postQ s0 E ∧ u ≠ s0 ∧ (postQ s0 E).idxOf u + 1 = (postsD E).length - i := by
  have hi : i < (postsD E).length := by have := (List.getElem?_eq_some_iff.mp h).1; simpa using this
  have hg : (postsD E)[(postsD E).length - 1 - i]? = some u := by rw [← h, List.getElem?_reverse hi]
  have hm : u ∈ postsD E := List.mem_of_getElem? hg
  have nd := postQ_nd hE
  have hq : (postQ s0 E)[(postsD E).length - 1 - i]? = some u := by
    rw [postQ, List.getElem?_append_left (by omega)]; exact hg
  have hq2 : (postQ s0 E)[(postQ s0 E).idxOf u]? = some u := idxOf_get (by rw [postQ]; exact List.mem_append_left _ hm)
  have : (postQ s0 E).idxOf u = (postsD E).length - 1 - i := by
    obtain ⟨h1, e1⟩ := List.getElem?_eq_some_iff.mp hq
    obtain ⟨h2, e2⟩ := List.getElem?_eq_some_iff.mp hq2
    exact (List.getElem_inj nd).mp (e2.trans e1.symm)
  refine ⟨hi, by rw [postQ]; exact List.mem_append_left _ hm, fun e => ?_, by omega⟩
  rw [postQ, List.nodup_append] at nd
  exact nd.2.2 u hm s0 (by simp) e
theorem idx_last {s0 : Int} {E : List DE} {succ : Int → List Int} (hE : DRun succ [s0] [(s0, 0)] E) : (postQ s0 E).idxOf s0 = (postsD E).length := by
  have nd := postQ_nd hE
  have hq : (postQ s0 E)[(postsD E).length]? = some s0 := by rw [postQ]; simp
  have hq2 : (postQ s0 E)[(postQ s0 E).idxOf s0]? = some s0 := idxOf_get (by simp [postQ])
  obtain ⟨h1, e1⟩ := List.getElem?_eq_some_iff.mp hq
  obtain ⟨h2, e2⟩ := List.getElem?_eq_some_iff.mp hq2
  exact (List.getElem_inj nd).mp (e2.trans e1.symm)
section
variable {prog : Program} {w : World} {B : Bs} {A : Around} {own : Own} {gs : Array GenState} {p : Program} {loose : List Str} {mg mb : Str → Option Value} {Q : QV}
theorem idom_spec (T : TopB (hd.heap_39 w.params) p loose mg mb B) (BM : BMain mg B) (hA : AOk B A 60) {G : Gr} {ep epP : Int → Nat} (hG : G.Ok) (hB : IBase 873 prog w B G ep epP) {s0 : Int} (hs0 : s0 ∈ G.names)
  {es : List (Pos × Addr)} (hes : es = [] ∨ ∃ c, es = [(⟨8, 11, 8, 53⟩, c)]) {tb : Option (Addr × Option Addr)} (hgs : AllFin gs) (hne : (G.dx == sysModules) = false) (hpd : valueAt G.fields "pred" = none ∨ valueAt G.fields "pred" = some (.ref G.pr)) (hml : G.more.length ≤ 10)
  (h : ∀ d t kvs es' tb' g', IdomOk (fun x y => y ∈ (G.sk x).map (·.1)) s0 (Reach (fun x => (G.sk x).map (·.1)) (· ∈ G.names) s0) t → (kvs = G.fields ∨ kvs = predIn G.fields G.pr) → (es' = [] ∨ ∃ c, es' = [(⟨8, 11, 8, 53⟩, c)]) → AllFin g' →
    Q (.ref d) ((d, AD prog w (treeKv t)) :: (G.dx, AVars prog w kvs) :: (43, ATab es') :: dOwn tb') g') :
  CodeC prog w B A (.ref 87) [.ref G.x, iv s0] ((G.dx, AVars prog w G.fields) :: (43, ATab es) :: dOwn tb) gs Q := by
  have hmo := hG.mo
  have hB' := hB
  obtain ⟨hx, hnd, hsu, hpr, hS, hP⟩ := hB'
  obtain ⟨E, hE⟩ := dfs_exist (succ := fun u => (G.sk u).map (·.1)) (names := G.names) (s := s0) (fun u hu c hc => by
    obtain ⟨e, he, rfl⟩ := List.mem_map.mp hc
    exact (hG.sk u hu e he).1) hs0
  have D := dfsOk hE
  walk_at "kcodec"
  intro us hus
  obtain ⟨u1, u2, rfl, h1, h2⟩ := er2 hus
  refine Bind_eq (by rfl) ?_
  dsimp only
  intro L
  walk_at "cells"
  dsimp only [newEnv]
  refine Stores_cons h1 ?_
  walk_at "store"
  refine Stores_cons h2 ?_
  walk_at "store"
  refine Stores_nil ?_
  intro A1 hA1
  dsimp only
  rename_i cd ci
  -- the start is there
  refine JCF_cons (JF_clean (JF_If (Test_cmp ?_)))
  walk_at "name"
  walk_at "name"
  refine' Cmp_notInInst (b := true) T ?n0 ?n1 ?n2 ?_
  case n0 => walk_at "inst"
  case n1 => k_is
  case n2 => k_is
  refine' contains_spec T (hA1.less) (.base hx) ?c1 (.base hnd) ?c2 ?_
  case c1 => walk_at "has"
  case c2 => rfl
  rw [show (valueAt (Gr.outer G.names G.N) s0).isSome = true by rw [valueAt_outer, if_pos hs0]; rfl]
  refine ⟨rfl, Tru_bool ?_⟩
  rw [if_neg (by decide)]
  refine JF_nil ?_
  dsimp only
  -- idom = {start: None}
  refine JCF_cons (JF_clean (JF_Assign (JV_Dict1 fun di => ?_)))
  walk_at "name"
  refine JV_none ⟨s0, _, rfl, .head _, ?_⟩
  walk_at "store"
  dsimp only
  -- order = list(dfs_postorder_nodes(G, start))
  refine JCF_cons (JF_clean (JF_Assign ?_))
  refine' JV_frame (give := [(43, ATab es)]) (fr := (L, ANs [(Str.ofString "G", .ref G.x), (Str.ofString "start", iv s0)]) :: (ci, ACell (some (.ref di))) :: (cd, ACell none) :: (di, AD prog w (idomKv s0 [])) :: (G.dx, AVars prog w G.fields) :: dOwn tb) ?sub ?_
  case sub =>
    dsimp only [List.cons_append, List.nil_append]
    walk_at "sub"
  intro B1 hl1 hfr1
  have hL := hfr1 _ (.head _)
  have hdx := hfr1 _ (.tail _ (.tail _ (.tail _ (.tail _ (.head _)))))
  have T1 := T.le hl1
  have hB1 := hB.le hl1
  have hG1 : GBase 873 prog w B1 G ep := ⟨hB1.x, hdx, hB1.nd, hB1.su, hB1.S⟩
  refine JV_Call (JV_builtin T1 (by k_is) rfl ⟨rfl, ?_⟩)
  refine Args_cons ?_
  refine JV_Call (JV_global T1 (by k_is) ⟨rfl, ?_⟩)
  refine Args_cons ?_
  walk_at "name"
  refine Args_cons ?_
  walk_at "name"
  refine Args_nil ⟨by walk_at "keepk", ?_⟩
  refine post_spec T1 (BM.le hl1) ((hA1.le hl1).less) hG hG1 hs0 hE hes fun a st1 st2 int es' hes' hY => ?_
  refine Args_nil ⟨Keep_type, ?_⟩
  rw [posts_all] at hY
  have hQl : (postQ s0 E).length ≤ 1000 := Nat.le_trans (nodup_le (postQ_nd hE) fun x hx => ((postQ_reach (fun u hu c hc => by
    obtain ⟨e, he, rfl⟩ := List.mem_map.mp hc
    exact (hG.sk u hu e he).1) hs0 hE).mp hx).ok) hG.len
  show CallJ prog w B1 A1 (.type "list") _ _ _ _
  refine CallJ_sub (o₂ := int ++ ((a, AGen (gs.size + 1)) :: [(43, ATab es')])) (Sub.of_perm List.perm_middle) (Call_listGY ((hA1.le hl1).less) (limit_of T1) (GRun.push2 hgs hY) (by omega) fun ol g1 hg1 => ?_)
  refine StoreJ_sub (o₂ := (ol, AList ((postQ s0 E).map iv)) :: (43, ATab es') :: (L, ANs [(Str.ofString "G", .ref G.x), (Str.ofString "start", iv s0)]) :: (ci, ACell (some (.ref di))) :: (cd, ACell none) :: (di, AD prog w (idomKv s0 [])) :: (G.dx, AVars prog w G.fields) :: dOwn tb) ?_ ?_
  · dsimp only [List.cons_append, List.nil_append]
    walk_at "sub"
  clear hY hes hL hdx T1 hB1 hG1 hfr1 hl1
  walk_at "store"
  dsimp only
  -- dfn = {u: i for i, u in enumerate(order)}
  refine JCF_cons (JF_clean (JF_Assign (JV_DictComp (JV_Call (JV_builtin T (by k_is) rfl ⟨rfl, ?_⟩)))))
  refine Args_cons ?_
  walk_at "name"
  refine Args_nil ⟨Keep_type, Call_enum (by walk_at "has") fun e it => IterJ_ref ?_⟩
  refine Iter_enum (by walk_at "has") fun acc C => ?_
  walk_at "cells"
  dsimp only [newEnv]
  refine CJ_start rfl rfl rfl (Iter_enum (by walk_at "has") ⟨rfl, rfl, rfl⟩) ?_
  have hQn := postQ_nd hE
  generalize hQe : postQ s0 E = ord at hQl hQn D ⊢
  obtain ⟨R0, hR0⟩ : ∃ R0, R0 = (ol, AList (ord.map iv)) :: (43, ATab es') :: (L, ANs [(Str.ofString "G", .ref G.x), (Str.ofString "start", iv s0), (Str.ofString "order", .ref ol)]) :: (ci, ACell (some (.ref di))) :: (cd, ACell none) :: (di, AD prog w (idomKv s0 [])) :: (G.dx, AVars prog w G.fields) :: dOwn tb := ⟨_, rfl⟩
  have hol : ∀ x y : Addr × Pd, Has B (x :: y :: R0) ol (AList (ord.map iv)) := fun x y => by rw [hR0]; walk_at "has"
  rw [← hR0]
  refine CJ_dict (fun n o g => ∃ i, i ≤ ord.length ∧ n = ord.length - i ∧ g = g1 ∧ ∃ o₂, Sub o₂ o ∧ o₂ = (e, AEnumI it i) :: (it, AListIter ol i) :: (C, ANs []) :: (acc, AD prog w (dfnKv (ord.take i))) :: R0) ?_ ord.length ⟨0, Nat.zero_le _, rfl, rfl, _, ?_, rfl⟩
  · rintro n o g ⟨i, hi, rfl, rfl, o₂, hsub, rfl⟩
    refine NextJ_sub hsub (Next_enum hA1 (hol _ _) ?_)
    cases hx : ord[i]? with
    | some x =>
      have hlt : i < ord.length := (List.getElem?_eq_some_iff.mp hx).1
      rw [show (ord.map iv)[i]? = some (iv x) by rw [List.getElem?_map, hx]; rfl]
      intro t u hu
      refine' LetGo_enum ?hu hu ?_
      case hu => walk_at "upd"
      refine' Assign_tup (xs := [iv i, iv x]) hA1 ?ht (Assign_name ?_)
      case ht => walk_at "has"
      walk_at "store"
      refine Assign_name ?_
      walk_at "store"
      dsimp only [EachJ]
      refine Ifs_nil ?_
      rw [if_pos rfl]
      walk_at "name"
      walk_at "name"
      refine ⟨x, dfnKv (ord.take i), _, rfl, by walk_at "upd", ?_, ord.length - (i + 1), by omega, i + 1, hlt, rfl, rfl, _, ?_, rfl⟩
      · simp [dfnKv]; omega
      · rw [dfnKv_take hQn hx]
        rw [show (((i + 1 : Nat) : Int)) = (i : Int) + 1 by omega]
        walk_at "sub"
    | none =>
      have hle := List.getElem?_eq_none_iff.mp hx
      rw [show (ord.map iv)[i]? = none by rw [List.getElem?_map, hx]; rfl]
      refine ⟨_, _, PickR.head _, ?_⟩
      rw [List.take_of_length_le hle, hR0]
      walk_at "store"
      have hpq : ord.map iv = (postsD E).map iv ++ [iv s0] := by rw [← hQe, postQ, List.map_append]; rfl
      rw [hpq]
      -- order.pop()
      refine JCF_cons (JF_clean (JF_Expr (JV_MCall ?_)))
      walk_at "name"
      refine Meth_builtin F.plainAttrs_list F.slot_list_pop F.type_list_pop ⟨ol, _, rfl, by walk_at "has", AList.plain⟩ (Args_nil ⟨Keep_builtin, ?_⟩)
      refine' Call_pop ?hu ?hs ?_
      case hu => walk_at "upd"
      case hs => rw [← hQe, postQ] at hQl; simp at hQl ⊢; omega
      dsimp only
      -- order.reverse()
      refine JCF_cons (JF_clean (JF_Expr (JV_MCall ?_)))
      walk_at "name"
      refine Meth_builtin F.plainAttrs_list F.slot_list_reverse F.type_list_reverse ⟨ol, _, rfl, by walk_at "has", AList.plain⟩ (Args_nil ⟨Keep_builtin, ?_⟩)
      refine' Call_reverse ?hu ?hs ?_
      case hu => walk_at "upd"
      case hs => rw [← hQe, postQ] at hQl; simp at hQl ⊢; omega
      dsimp only
      -- def intersect
      have hC : ∀ h, B.sat h → CodeHd h 86 84 := fun h hs => codeHd_of (T h hs).1 (by k_is) rfl rfl rfl rfl rfl rfl rfl (by decide)
      refine JCF_cons (JF_clean (JF_Def ?_))
      refine J_sub (o₂ := dOwn tb ++ ((L, ANs [(Str.ofString "G", .ref G.x), (Str.ofString "start", iv s0), (Str.ofString "order", .ref ol)]) :: (ci, ACell (some (.ref di))) :: (cd, ACell (some (.ref acc))) :: (acc, AD prog w (dfnKv ord)) :: (di, AD prog w (idomKv s0 [])) :: (ol, AList ((postsD E).map iv).reverse) :: (43, ATab es') :: [(G.dx, AVars prog w G.fields)])) ?_ ?_
      · refine Sub.trans (b := ((L, ANs [(Str.ofString "G", .ref G.x), (Str.ofString "start", iv s0), (Str.ofString "order", .ref ol)]) :: (ci, ACell (some (.ref di))) :: (cd, ACell (some (.ref acc))) :: (acc, AD prog w (dfnKv ord)) :: (di, AD prog w (idomKv s0 [])) :: (ol, AList ((postsD E).map iv).reverse) :: (43, ATab es') :: [(G.dx, AVars prog w G.fields)]) ++ dOwn tb) (Sub.of_perm List.perm_append_comm) ?_
        dsimp only [List.cons_append, List.nil_append]
        walk_at "sub"
      refine' Def_tab T BM ?d1 ?d2 ?d3 hC ?d4 ?_
      case d1 => rfl
      case d2 => rfl
      case d3 => rfl
      case d4 => rfl
      intro f c0 ob
      generalize efp : ADef _ _ _ _ _ _ c0 = fp
      have hfp : IsIsect [("idom", ci), ("dfn", cd)] c0 fp := by
        refine' ⟨_, _, _, _, _, ?e1, ?e2, ?e3⟩
        case e1 => exact efp.symm
        case e2 => rfl
        case e3 => rfl
      clear efp
      refine StoreJ_sub (o₂ := (L, ANs [(Str.ofString "G", .ref G.x), (Str.ofString "start", iv s0), (Str.ofString "order", .ref ol)]) :: (G.dx, AVars prog w G.fields) :: (di, AD prog w (idomKv s0 [])) :: (84, ATab (dTab (some (c0, ob)))) :: (c0, ACode "immediate_dominators.<locals>.intersect") :: (ci, ACell (some (.ref di))) :: (cd, ACell (some (.ref acc))) :: (acc, AD prog w (dfnKv ord)) :: (f, fp) :: (ol, AList ((postsD E).map iv).reverse) :: [(43, ATab es')]) ?_ ?_
      · dsimp only [dOwn, List.cons_append, List.nil_append]
        walk_at "sub"
      walk_at "store"
      dsimp only
      refine JCF_cons (JF_clean (JF_Assign (JV_bool ?_)))
      walk_at "store"
      dsimp only
      clear hol hsub hR0 hx hle
      refine JCF_cons (JCF_While' (fun n o g => ∃ (ch : Bool) (t : List (Int × Int)) (kvs : List (Str × Value)) (ob : Option Addr),
        o = (L, ANs [(Str.ofString "G", .ref G.x), (Str.ofString "start", iv s0), (Str.ofString "order", .ref ol), (Str.ofString "intersect", .ref f), (Str.ofString "changed", .bool ch)]) :: (G.dx, AVars prog w kvs) :: (di, AD prog w (idomKv s0 t)) :: (84, ATab (dTab (some (c0, ob)))) :: (c0, ACode "immediate_dominators.<locals>.intersect") :: (ci, ACell (some (.ref di))) :: (cd, ACell (some (.ref acc))) :: (acc, AD prog w (dfnKv ord)) :: (f, fp) :: (ol, AList ((postsD E).map iv).reverse) :: [(43, ATab es')] ∧
        AllFin g ∧ (kvs = G.fields ∨ kvs = predIn G.fields G.pr) ∧ Inv (fun x y => y ∈ (G.sk x).map (·.1)) s0 (· ∈ ord) (ord.idxOf ·) (parD E) (look t) ∧ (t.map (·.1)).Nodup ∧
        (ch = false → ∀ u, u ∈ ord → u ≠ s0 → ∃ d, look t u = some d ∧ Meets (fun x y => y ∈ (G.sk x).map (·.1)) s0 (look t) u d) ∧
        n = mu (ord.idxOf ·) (postsD E).length (look t) (postsD E) + (if ch = true then 1 else 0)) ?turn _ _ ?hs ⟨true, [], G.fields, ob, rfl, hg1, .inl rfl, ?hinv, List.nodup_nil, ?hch, rfl⟩)
      case hs => exact Sub.refl _
      case hinv => exact Inv.init D
      case hch => intro h; cases h
      case turn =>
        rintro n o g ⟨ch, t, kvs, ob, rfl, hg, hk, I, ndt, hfix, rfl⟩
        refine Test_plain ?_
        walk_at "name"
        refine Tru_bool ?_
        cases ch with
        | false =>
          rw [if_neg Bool.false_ne_true]
          refine JF_clean (JF_nil ?_)
          dsimp only
          refine JCF_cons (JF_clean ?_)
          refine JF_sub (o₂ := (di, AD prog w (idomKv s0 t)) :: (L, ANs [(Str.ofString "G", .ref G.x), (Str.ofString "start", iv s0), (Str.ofString "order", .ref ol), (Str.ofString "intersect", .ref f), (Str.ofString "changed", .bool false)]) :: (G.dx, AVars prog w kvs) :: (84, ATab (dTab (some (c0, ob)))) :: (c0, ACode "immediate_dominators.<locals>.intersect") :: (ci, ACell (some (.ref di))) :: [(43, ATab es')]) (by walk_at "sub") ?_
          refine JF_openHead (f := fun ep => ADict prog w (idomKv s0 t) ep) (fun o ho => ho) fun epd => ?_
          refine JF_DelDict ?_
          walk_at "name"
          walk_at "name"
          have hts : look t s0 = none := I.root
          have hlen : t.length ≤ 1000 := by
            have := nodup_le (l := t.map (·.1)) (r := ord) ndt fun x hx => I.isR D (.inr (look_isSome.mpr hx))
            simp at this
            omega
          refine ⟨di, s0, idomKv s0 t, epd, _, rfl, rfl, Upd.head _, ?_, ?_, ?_⟩
          · simp [idomKv, treeKv]; omega
          · rw [valueAt_idomKv, if_pos rfl]; rfl
          dsimp only
          rw [without_idomKv hts]
          refine JF_clean (JF_cons (JF_Return ?_))
          walk_at "name"
          have hRch : ∀ {x}, x ∈ ord ↔ Reach (fun x => (G.sk x).map (·.1)) (· ∈ G.names) s0 x := by
            intro x
            rw [← hQe]
            exact postQ_reach (fun u hu c hc => by
              obtain ⟨e, he, rfl⟩ := List.mem_map.mp hc
              exact (hG.sk u hu e he).1) hs0 hE
          have hfx := hfix rfl
          refine ⟨_, ?_, h di t kvs es' (some (c0, ob)) g ⟨ndt, fun x => ⟨fun hx => ?_, fun hx => ?_⟩, fun x w hx hw => fix_dom D I hfx (hRch.mpr hx) (hRch.mpr hw), ⟨_, I.nlt⟩, fun x y e => ?_⟩ hk hes' hg⟩
          · dsimp only [dOwn]
            walk_at "sub"
          · have hd : InD s0 (look t) x := .inr (look_isSome.mpr hx)
            exact ⟨hRch.mp (I.isR D hd), fun e => by rw [← look_isSome, e, hts] at hx; cases hx⟩
          · obtain ⟨d, hd, _⟩ := hfx x (hRch.mpr hx.1) hx.2
            exact look_isSome.mp (by rw [hd]; rfl)
          · exact hRch.mp (I.isR D (I.up x y e).2.2.1)
        | true =>
          rw [if_pos rfl]
          refine JCF_cons (JF_clean (JF_Assign (JV_bool ?_)))
          walk_at "store"
          dsimp only
          have hlast : ord.idxOf s0 = (postsD E).length := by rw [← hQe]; exact idx_last hE
          refine JCF_cons (JCF_ForList (l := ol) (xs := ((postsD E).map iv).reverse) hA1 (fun i o g => ∃ (ch : Bool) (t' : List (Int × Int)) (kvs : List (Str × Value)) (ob : Option Addr),
            o = (L, ANs [(Str.ofString "G", .ref G.x), (Str.ofString "start", iv s0), (Str.ofString "order", .ref ol), (Str.ofString "intersect", .ref f), (Str.ofString "changed", .bool ch)]) :: (G.dx, AVars prog w kvs) :: (di, AD prog w (idomKv s0 t')) :: (84, ATab (dTab (some (c0, ob)))) :: (c0, ACode "immediate_dominators.<locals>.intersect") :: (ci, ACell (some (.ref di))) :: (cd, ACell (some (.ref acc))) :: (acc, AD prog w (dfnKv ord)) :: (f, fp) :: (ol, AList ((postsD E).map iv).reverse) :: [(43, ATab es')] ∧
            AllFin g ∧ (kvs = G.fields ∨ kvs = predIn G.fields G.pr) ∧ Inv (fun x y => y ∈ (G.sk x).map (·.1)) s0 (· ∈ ord) (ord.idxOf ·) (parD E) (look t') ∧ (t'.map (·.1)).Nodup ∧
            Mp s0 (· ∈ ord) (ord.idxOf ·) (parD E) (look t') ((postsD E).length - i) ∧
            (ch = false → mu (ord.idxOf ·) (postsD E).length (look t') (postsD E) = mu (ord.idxOf ·) (postsD E).length (look t) (postsD E) ∧ ∀ u, u ∈ ord → u ≠ s0 → (postsD E).length - i ≤ ord.idxOf u → ∃ d, look t' u = some d ∧ Meets (fun x y => y ∈ (G.sk x).map (·.1)) s0 (look t') u d) ∧
            (ch = true → mu (ord.idxOf ·) (postsD E).length (look t') (postsD E) < mu (ord.idxOf ·) (postsD E).length (look t) (postsD E))) ?fh ?fl ?fturn ?fdone)
          case fh =>
            walk_at "name"
            refine ⟨rfl, by walk_at "has", _, Sub.refl _, false, t, kvs, ob, rfl, hg, hk, I, ndt, ?_, fun _ => ⟨rfl, fun u hu hus hle => ?_⟩, fun h => by cases h⟩
            · rw [Nat.sub_zero, ← hlast]; exact Mp.init D
            · exact absurd (D.inj u s0 hu D.rs (by have := D.max u hu; rw [hlast] at this ⊢; omega)) hus
          case fl =>
            rintro i o g ⟨ch, t', kvs, ob, rfl, _⟩
            walk_at "has"
          case fdone =>
            rintro o g ⟨ch, t', kvs, ob, rfl, hg, hk, I, ndt, hM, hf0, hf1⟩
            have hlen0 : (postsD E).length - (((postsD E).map iv).reverse).length = 0 := by simp
            rw [hlen0] at hf0
            refine JF_clean (JF_nil ⟨_, ?_, _, Sub.refl _, ch, t', kvs, ob, rfl, hg, hk, I, ndt, fun hc u hu hus => (hf0 hc).2 u hu hus (Nat.zero_le _), rfl⟩)
            cases ch with
            | false => have := (hf0 rfl).1; simp; omega
            | true => have := hf1 rfl; simp; omega
          case fturn =>
            rintro it i x o g hx ⟨ch, t', kvs, ob, rfl, hg, hk, I, ndt, hM, hf0, hf1⟩
            obtain ⟨u, hu, rfl⟩ : ∃ u, (postsD E).reverse[i]? = some u ∧ x = iv u := by
              rw [← List.map_reverse, List.getElem?_map, Option.map_eq_some_iff] at hx
              obtain ⟨u, h1, h2⟩ := hx
              exact ⟨u, h1, h2.symm⟩
            obtain ⟨hil, hur, hus, hnum⟩ := rev_get hE hu
            rw [hQe] at hur hnum
            refine Assign_name ?_
            walk_at "store"
            dsimp only
            have hun : u ∈ G.names := by
              have := (postQ_reach (fun u hu c hc => by
                obtain ⟨e, he, rfl⟩ := List.mem_map.mp hc
                exact (hG.sk u hu e he).1) hs0 hE).mp (show u ∈ postQ s0 E by rw [hQe]; exact hur)
              exact this.ok
            have hbnd : ∀ a, a ∈ ord → ord.idxOf u < ord.idxOf a → (postsD E).length - i ≤ ord.idxOf a := fun a _ h => by omega
            have hmem : ∀ v, v ∈ ((G.pk u).map (·.1)).filter (inDb s0 t') ↔ u ∈ (G.sk v).map (·.1) ∧ InD s0 (look t') v := by
              intro v
              rw [List.mem_filter, inDb_iff, hG.ps u hun v]
              constructor
              · rintro ⟨⟨_, h1⟩, h2⟩; exact ⟨h1, h2⟩
              · rintro ⟨h1, h2⟩
                have hv := I.isR D h2
                rw [← hQe] at hv
                exact ⟨⟨((postQ_reach (fun u hu c hc => by
                  obtain ⟨e, he, rfl⟩ := List.mem_map.mp hc
                  exact (hG.sk u hu e he).1) hs0 hE).mp hv).ok, h1⟩, h2⟩
            obtain ⟨v0, vs, hvs⟩ : ∃ v0 vs, ((G.pk u).map (·.1)).filter (inDb s0 t') = v0 :: vs := by
              have := (hmem (parD E u)).mpr ⟨(D.par u hur hus).2.1, Inv.parD D hM hbnd hur hus⟩
              cases q : ((G.pk u).map (·.1)).filter (inDb s0 t') with
              | nil => rw [q] at this; cases this
              | cons a b => exact ⟨a, b, rfl⟩
            obtain ⟨hk1, hk2, hk3, hk4⟩ := predIn_facts hml hpd hk
            refine JCF_cons (JCF_Assign ?_)
            refine' JCV_frame (give := (G.dx, AVars prog w kvs) :: [(84, ATab (dTab (some (c0, ob))))]) (fr := (L, ANs [(Str.ofString "G", .ref G.x), (Str.ofString "start", iv s0), (Str.ofString "order", .ref ol), (Str.ofString "intersect", .ref f), (Str.ofString "changed", .bool ch), (Str.ofString "u", iv u)]) :: (it, AListIter ol (i + 1)) :: (di, AD prog w (idomKv s0 t')) :: (c0, ACode "immediate_dominators.<locals>.intersect") :: (ci, ACell (some (.ref di))) :: (cd, ACell (some (.ref acc))) :: (acc, AD prog w (dfnKv ord)) :: (f, fp) :: (ol, AList ((postsD E).map iv).reverse) :: [(43, ATab es')]) ?sub ?_
            case sub =>
              dsimp only [List.cons_append, List.nil_append]
              walk_at "sub"
            intro B2 hl2 hfr2
            have T2 := T.le hl2
            have hB2 := hB.le hl2
            have hA2 := hA1.le hl2
            have hC2 : ∀ h, B2.sat h → CodeHd h 86 84 := fun h hs => codeHd_of (T2 h hs).1 (by k_is) rfl rfl rfl rfl rfl rfl rfl (by decide)
            have hLb := hfr2 _ (.head _)
            have hdi2 := hfr2 _ (.tail _ (.tail _ (.head _)))
            have hc2 := hfr2 _ (.tail _ (.tail _ (.tail _ (.head _))))
            have hci2 := hfr2 _ (.tail _ (.tail _ (.tail _ (.tail _ (.head _)))))
            have hcd2 := hfr2 _ (.tail _ (.tail _ (.tail _ (.tail _ (.tail _ (.head _))))))
            have hdd2 := hfr2 _ (.tail _ (.tail _ (.tail _ (.tail _ (.tail _ (.tail _ (.head _)))))))
            have hf2 := hfr2 _ (.tail _ (.tail _ (.tail _ (.tail _ (.tail _ (.tail _ (.tail _ (.head _))))))))
            dsimp only at hLb hdi2 hc2 hci2 hcd2 hdd2 hf2
            refine JCV_Call (JV_global T2 (by k_is) ⟨rfl, ?_⟩)
            refine ArgsC_cons (JV_clean ?_)
            walk_at "name"
            refine ArgsC_cons (JCV_GenExp T2 (BM.le hl2) hA2 ?_)
            refine JCV_Subscript (JCV_Attr ?_)
            walk_at "name"
            refine' predRead T2 (hA2.less) (.base hB2.x) (.base hB2.pr) hne hk1 hk2 hk3 ?p4 ?_
            case p4 => walk_at "upd"
            walk_at "name"
            refine Item_AD (x := .ref (G.P u)) (.base hB2.pr) (by rw [valueAt_outer, if_pos hun]) ?_
            refine Iter_dict T2 (.base (hB2.P u hun)) fun itp => ?_
            refine J_sub (o₂ := (84, ATab (dTab (some (c0, ob)))) :: (itp, AKeyIter (G.P u) 0 (G.pk u).length (epP u)) :: [(G.dx, AVars prog w (predIn kvs G.pr))]) (by walk_at "sub") (Gen_tab2 rfl hC2 fun code g' => ?_)
            intro C
            walk_at "cells"
            dsimp only [newEnv]
            refine Stores_cons (x := .ref itp) rfl ?_
            walk_at "store"
            refine Stores_nil ?_
            intro a
            refine ArgsC_nil ⟨Keep_builtin, CallJ.clean ?_⟩
            refine CallJ_sub (o₂ := [(C, ANs [(Str.ofString ".0", .ref itp)]), (itp, AKeyIter (G.P u) 0 (G.pk u).length (epP u))] ++ ((a, AGen g.size) :: (84, ATab (dTab (some (c0, some g')))) :: [(G.dx, AVars prog w (predIn kvs G.pr))])) ?_ ?_
            · dsimp only [List.cons_append, List.nil_append]
              walk_at "sub"
            refine' Call_reduceGY' (n := 12) (hA2.less) (limit_of T2) (GRun.push1 hg ?gy) hvs (fun d rem => InD s0 (look t') d ∧ ∃ pre, v0 :: vs = pre ++ rem ∧ ∀ z, Up (look t') d z ↔ ∀ v ∈ pre, Up (look t') v z) ?h0 ?hstep ?hfin
            case gy => exact predGen_GY T2 rfl hci2 hdi2 (hB2.P u hun)
            case h0 => exact ⟨((hmem v0).mp (by rw [hvs]; exact .head _)).2, [v0], rfl, fun z => by simp⟩
            case hstep =>
              rintro A3 d y ys o g3 hA3 ⟨hdD, pre, hpre, hall⟩
              refine isect_spec T2 (hA3.less) hfp (.base hf2) (.base hc2) (.base hcd2) (.base hci2) (.base hdd2) (.base hdi2) D I hdD ((hmem y).mp (by rw [hvs, hpre]; simp)).2 fun d' hd' hall' => ?_
              refine ⟨d', rfl, Sub.refl _, rfl, hd', pre ++ [y], by rw [hpre]; simp, fun z => ?_⟩
              rw [hall' z, hall z]
              constructor
              · rintro ⟨h1, h2⟩ v hv
                rcases List.mem_append.mp hv with hv | hv
                · exact h1 v hv
                · rw [List.mem_singleton.mp hv]; exact h2
              · intro h1
                exact ⟨fun v hv => h1 v (List.mem_append_left _ hv), h1 y (by simp)⟩
            case hfin =>
              rintro d g3 ⟨hdD, pre, hpre, hall⟩ hg3
              rw [List.append_nil] at hpre
              subst hpre
              have hmt : Meets (fun x y => y ∈ (G.sk x).map (·.1)) s0 (look t') u d := ⟨hdD, fun z => by
                rw [hall z, ← hvs]
                exact ⟨fun h1 v hv1 hv2 => h1 v ((hmem v).mpr ⟨hv1, hv2⟩), fun h1 v hv => h1 v ((hmem v).mp hv).1 ((hmem v).mp hv).2⟩⟩
              refine StoreJ_sub (o₂ := (L, ANs [(Str.ofString "G", .ref G.x), (Str.ofString "start", iv s0), (Str.ofString "order", .ref ol), (Str.ofString "intersect", .ref f), (Str.ofString "changed", .bool ch), (Str.ofString "u", iv u)]) :: (it, AListIter ol (i + 1)) :: (G.dx, AVars prog w (predIn kvs G.pr)) :: (di, AD prog w (idomKv s0 t')) :: (84, ATab (dTab (some (c0, some g')))) :: (c0, ACode "immediate_dominators.<locals>.intersect") :: (ci, ACell (some (.ref di))) :: (cd, ACell (some (.ref acc))) :: (acc, AD prog w (dfnKv ord)) :: (f, fp) :: (ol, AList ((postsD E).map iv).reverse) :: [(43, ATab es')]) ?_ ?_
              · dsimp only [List.cons_append, List.nil_append]
                walk_at "sub"
              clear hLb hdi2 hc2 hci2 hcd2 hdd2 hf2 hfr2 hC2 hB2 hA2 T2 hl2
              walk_at "store"
              dsimp only
              have hnb : (postsD E).length - (i + 1) = ord.idxOf u := by omega
              refine JCF_cons (JF_clean (JF_If (Test_det (!decide (look t' u = some d)) ?test ?cont)))
              case test =>
                refine Test_or (Test_cmp ?_)
                walk_at "name"
                walk_at "name"
                refine Cmp_notInAD T (by walk_at "has") (Tru_bool ?_)
                rw [inDb_val]
                cases hlu : look t' u with
                | none =>
                  have : inDb s0 t' u = false := by simp [inDb, hus, hlu]
                  rw [this]
                  exact ⟨rfl, rfl, rfl⟩
                | some d₀ =>
                  have : inDb s0 t' u = true := by simp [inDb, hlu]
                  rw [this, if_neg (by simp)]
                  refine Test_or (Test_cmp (JV_Subscript ?_))
                  walk_at "name"
                  walk_at "name"
                  refine Item_AD (x := iv d₀) (by walk_at "has") (by rw [valueAt_idomKv, if_neg hus, hlu]; rfl) ?_
                  walk_at "name"
                  refine Cmp_ne (Tru_bool ?_)
                  by_cases hdd : d₀ = d
                  · subst hdd
                    rw [if_neg (by simp)]
                    exact Test_or_nil ⟨by simp, rfl, rfl⟩
                  · rw [if_pos (by simpa using hdd)]
                    exact ⟨by simp [hdd], rfl, rfl⟩
              case cont =>
                by_cases hsame : look t' u = some d
                · rw [if_neg (by simp [hsame])]
                  refine JF_nil ?_
                  dsimp only
                  have hst : setF (look t') u d = look t' := setF_same hsame
                  have hM' := Mp.set D I hM hbnd hur hus hmt
                  rw [hst] at hM'
                  refine JF_clean (JF_nil ⟨_, ?_, ch, t', predIn kvs G.pr, some g', rfl, hg3, .inr hk4, I, ndt, by rw [hnb]; exact hM', fun hc => ⟨(hf0 hc).1, fun a ha has hab => ?_⟩, hf1⟩)
                  · walk_at "sub"
                  · by_cases hau : a = u
                    · subst hau; exact ⟨d, hsame, hmt⟩
                    · refine (hf0 hc).2 a ha has ?_
                      have : ord.idxOf a ≠ ord.idxOf u := fun e => hau (D.inj a u ha hur e)
                      omega
                · rw [if_pos (by simp [hsame])]
                  refine JF_cons (JF_AssignSub ?_)
                  walk_at "name"
                  walk_at "name"
                  walk_at "name"
                  have hlen : t'.length ≤ 1000 := by
                    have := nodup_le (l := t'.map (·.1)) (r := ord) ndt fun x hx => I.isR D (.inr (look_isSome.mpr hx))
                    simp at this
                    omega
                  refine' Set_AD ?hu ?hs ?_
                  case hu => walk_at "upd"
                  case hs => simp [idomKv, treeKv]; omega
                  dsimp only
                  rw [stored_idomKv hus]
                  refine JF_cons (JF_Assign (JV_bool ?_))
                  walk_at "store"
                  dsimp only
                  refine JF_nil ?_
                  dsimp only
                  have hM' := Mp.set D I hM hbnd hur hus hmt
                  have I' := I.set D hM hbnd hur hus hmt
                  rw [← look_setT] at hM' I'
                  have hup : u ∈ postsD E := by
                    rw [← hQe, postQ] at hur
                    rcases List.mem_append.mp hur with h1 | h1
                    · exact h1
                    · exact absurd (List.mem_singleton.mp h1) hus
                  have hdmax := D.max d (I.isR D hdD)
                  have hlt : mu (ord.idxOf ·) (postsD E).length (look (setT t' u d)) (postsD E) < mu (ord.idxOf ·) (postsD E).length (look t') (postsD E) := by
                    rw [look_setT]
                    refine mu_lt hup (by rw [← hQe, postQ, List.nodup_append] at hQn; exact hQn.1) ?_
                    cases hlu : look t' u with
                    | none => simp only [gap]; omega
                    | some d₀ =>
                      have := step_gain D I hM hbnd hur hus hmt hlu (fun e => hsame (by rw [hlu, e]))
                      simp only [gap]
                      rw [hlast] at hdmax
                      omega
                  refine JF_clean (JF_nil ⟨_, ?_, true, setT t' u d, predIn kvs G.pr, some g', rfl, hg3, .inr hk4, I', setT_keys ndt, by rw [hnb]; exact hM', fun hc => (by cases hc), fun _ => ?_⟩)
                  · walk_at "sub"
                  · cases ch with
                    | false => have := (hf0 rfl).1; omega
                    | true => have := hf1 rfl; omega
  · rw [hR0]
    walk_at "sub"
end
end Mine
end
section
set_option maxRecDepth 100000
set_option maxHeartbeats 4000000
open PySem PySem.Calls PyProof.Rows PySem.W PySem.Spec
namespace Mine
example : PySem.Challenge.rw_ci0025_01.prog = PySem.Challenge.rw_ci0025_01.prog ∧ hd.heap_39 = hd.heap_39 := by k_fill; exact ⟨rfl, rfl⟩
local macro_rules | `(tactic| k_mem) => `(tactic| first | apply List.Mem.head | exact Gr.memS (by assumption) | exact Gr.memP (by assumption) | exact Gr.memJ (by assumption) | (apply List.Mem.tail; k_mem))
local macro_rules | `(tactic| walk_at "has") => `(tactic| first | (apply Has.own; k_mem) | (apply Has.base; assumption))
local macro_rules | `(tactic| walk_at "upd") => `(tactic| first | apply Upd.head | exact Gr.updS (by assumption) (by assumption) | exact Gr.updP (by assumption) (by assumption) | (apply Upd.tail; walk_at "upd"))
local macro_rules | `(tactic| walk_at "setl") => `(tactic| first | apply SetL.nil | apply SetL.here | (apply SetL.next (by rfl); walk_at "setl"))
local macro_rules | `(tactic| walk_at "cells") => `(tactic| repeat' (first | refine Cells_nil ?_ | refine Cells_skip (by decide) ?_ | (refine Cells_cell ?_; intro _)))
local macro_rules | `(tactic| walk_at "pick") => `(tactic| first | apply PickR.head | (apply PickR.tail; walk_at "pick"))
local macro_rules | `(tactic| walk_at "weak") => `(tactic| first | exact fun _ h => h | exact AEmpty.toAD | (refine ANs.sub ?_; repeat' (first | exact List.forall_mem_nil _ | refine List.forall_mem_cons.mpr ⟨rfl, ?_⟩)))
local macro_rules | `(tactic| walk_at "subt") => `(tactic| first | exact Sub.refl _ | (refine Sub.skip ?_; walk_at "subt"))
local macro_rules | `(tactic| walk_at "sub") => `(tactic| first | apply Sub.nil | (refine' Sub.pick ?hp ?hw ?_; (case hp => walk_at "pick"); (case hw => walk_at "weak"); walk_at "sub") | walk_at "subt")
local macro_rules | `(tactic| walk_at "store") => `(tactic| first | (refine' Store_local ?hu ?hs ?_; (case hu => walk_at "upd"); (case hs => walk_at "setl")) | (refine' Store_cell ?hc ?hu ?_; (case hc => rfl); (case hu => walk_at "upd")))

local macro_rules | `(tactic| walk_at "name") => `(tactic| first
  | (refine' JV_local ?hn ?hv ?_; (case hn => walk_at "has"); (case hv => rfl))
  | (refine' JV_cell ?hc ?hn ?_; (case hc => rfl); (case hn => walk_at "has"))
  | (refine' JV_free ?hc ?hn ?_; (case hc => rfl); (case hn => walk_at "has")))
local macro_rules | `(tactic| walk_at "js") => `(tactic| first
  | with_reducible refine JF_cons ?_
  | with_reducible refine JF_nil ?_
  | refine JF_Assign ?_
  | with_reducible refine JF_If ?_
  | with_reducible refine JF_Return ?_
  | refine JF_Expr ?_
  | with_reducible refine JV_int ?_
  | with_reducible refine JV_bool ?_
  | with_reducible refine JV_none ?_
  | with_reducible refine JV_str ?_
  | with_reducible refine JV_BinOp ?_
  | refine JV_Compare ?_
  | with_reducible refine JV_IfExp ?_
  | refine Test_cmp ?_
  | with_reducible refine Test_not ?_
  | with_reducible refine Test_and ?_
  | with_reducible refine Test_and_nil ?_
  | with_reducible refine Test_or ?_
  | with_reducible refine Test_or_nil ?_
  | with_reducible refine Tru_bool ?_
  | refine JV_List ?_
  | refine JV_Tuple ?_
  | with_reducible refine Args_nil ?_
  | refine Args_cons ?_
  | with_reducible refine Bin_add ?_
  | with_reducible refine Cmp_eq ?_
  | with_reducible refine Cmp_ne ?_
  | with_reducible refine Cmp_lt ?_
  | with_reducible refine Cmp_le ?_
  | with_reducible refine Cmp_gt ?_
  | with_reducible refine Cmp_ge ?_
  | walk_at "name"
  | walk_at "store")
local macro_rules | `(tactic| walk_at "inst") => `(tactic| (refine' Inst.mk ?ix ?id; (case ix => walk_at "has"); (case id => walk_at "has")))
local macro_rules | `(tactic| walk_at "kfun") => `(tactic| (refine' Call_K (by assumption) (by assumption) ?k1 ?k2 ?k3 ?k4 ?_ ?k5 ?k6; (case k1 => k_is); (case k2 => rfl); (case k3 => rfl); (case k4 => k_is); (case k5 => rfl); (case k6 => rfl)))
local macro_rules | `(tactic| walk_at "kcode") => `(tactic| (refine' Code_K (by assumption) (by assumption) ?k1 ?k2 ?k3 ?k4 ?_ ?k5 ?k6; (case k1 => k_is); (case k2 => rfl); (case k3 => rfl); (case k4 => k_is); (case k5 => rfl); (case k6 => rfl)))
local macro_rules | `(tactic| walk_at "methk") => `(tactic| (refine' Meth_K (by assumption) ?mi ?mv ?_ ?g1 ?g2 ?g3 ?g4; (case mi => walk_at "inst"); (case mv => first | exact fields_none (by assumption) (by decide) | rfl); (case g1 => k_is); (case g2 => k_is); (case g3 => k_is); (case g4 => k_is)))
local macro_rules | `(tactic| walk_at "getown") => `(tactic| (refine' Get_own (by assumption) ?mi ?mv ?_ ?g1 ?g2 ?gh; (case mi => walk_at "inst"); (case mv => rfl); (case g1 => k_is); (case g2 => kernel_rfl); (case gh => rfl)))
local macro_rules | `(tactic| walk_at "setown") => `(tactic| (refine' SetAttr_inst (by assumption) ?sx ?sd ?sk ?_ ?se ?sl; (case sx => walk_at "has"); (case sd => walk_at "upd"); (case se => rfl); (case sl => exact Nat.le_of_ble_eq_true rfl); (case sk => kernel_rfl)))
local macro_rules | `(tactic| walk_at "keepk") => `(tactic| (exact Keep_K (by assumption) (by k_is)))
local macro_rules | `(tactic| walk_at "apart") => `(tactic| first | (apply Apart.left; k_mem; done) | (apply Apart.right; k_mem; done) | (apply Apart.tail; walk_at "apart"))
local macro_rules | `(tactic| walk_at "kgen") => `(tactic| (refine' Call_gen (by assumption) (by assumption) ?k1 ?k2 ?k3 ?k4 ?_ ?k5 ?k6; (case k1 => k_is); (case k2 => rfl); (case k3 => rfl); (case k4 => k_is); (case k5 => rfl); (case k6 => rfl)))
local macro_rules | `(tactic| walk_at "kcodec") => `(tactic| (refine' CodeC_K (by assumption) (by assumption) ?k1 ?k2 ?k3 ?k4 ?_ ?k5 ?k6; (case k1 => k_is); (case k2 => rfl); (case k3 => rfl); (case k4 => k_is); (case k5 => rfl); (case k6 => rfl)))
local macro_rules | `(tactic| walk_at "getk") => `(tactic| (refine' Get_K (by assumption) ?k1 ?k2 ?k3 ?k4 ?k5 ?g1 ?g2 ?g3 ?gh ?_; (case k1 => k_is); (case k2 => rfl); (case k3 => rfl); (case k4 => rfl); (case k5 => k_is); (case g1 => k_is); (case g2 => kernel_rfl); (case g3 => rfl); (case gh => rfl)))
section
variable {prog : Program} {w : World} {B : Bs} {A : Around} {own : Own} {gs : Array GenState} {p : Program} {loose : List Str} {mg mb : Str → Option Value} {X : QX}
/-- a start that is not in the graph is refused -/
theorem idom_raises (T : TopB (hd.heap_39 w.params) p loose mg mb B) (hA : AOk B A 10) {env0 : Env} {L0 : Addr} {al0 : List (Str × Value)} (hfr : A.frames = some [env0]) (hh : A.handled = none) (hk0 : env0.scope.kind ≠ .module) (hL0 : env0.frame = some L0) (hm0 : (L0, ANs al0) ∈ own)
  {x dx nd : Addr} {kvs : List (Str × Value)} {ns : List (Int × Value)} (hx : Has B own x (AInst 873 dx)) (hdx : Has B own dx (AVars prog w kvs)) (hnd : Has B own nd (AD prog w ns))
  (hk : valueAt kvs "_node" = some (.ref nd)) {n : Int} (hn : valueAt ns n = none)
  (h : ∀ ea T' ex, X ea ((ea, AExcF 80 (.ref T')) :: (T', ATb .none) :: (ex ++ own)) gs) : ∀ us, us.map er = [.ref x, iv n] → JX prog w B A (call (.ref 87) us []) own gs X := by
  refine' CallX_K (C := 80) (n := 9) T hA hfr ?k1 ?k2 ?k3 ?k4 ?_ ?k5 ?k6
  case k1 => k_is
  case k2 => rfl
  case k3 => rfl
  case k4 => k_is
  case k5 => rfl
  case k6 => rfl
  intro us hus
  obtain ⟨u1, u2, rfl, h1, h2⟩ := er2 hus
  refine Bind_eq (by rfl) ?_
  dsimp only
  intro L
  walk_at "cells"
  rename_i cd ci
  dsimp only [newEnv]
  refine Stores_cons h1 ?_
  walk_at "store"
  refine Stores_cons h2 ?_
  walk_at "store"
  refine Stores_nil ?_
  intro A1 hA1 hh1
  dsimp only
  refine JX_first (JX_If (Test_cmp ?_))
  walk_at "name"
  walk_at "name"
  have hs : ∀ {o : Own} {a : Addr × Pd} {d : Addr} {q : Pd}, Has B o d q → Has B (a :: o) d q := fun h => Has.skip h
  refine' Cmp_notInInst (b := false) T ⟨hs (hs (hs hx)), hs (hs (hs hdx))⟩ ?n1 ?n2 ?_
  case n1 => k_is
  case n2 => k_is
  refine' contains_spec T (hA1.less) (hs (hs (hs hx))) (hs (hs (hs hdx))) (hs (hs (hs hnd))) hk ?_
  rw [hn]
  refine ⟨rfl, Tru_bool ⟨rfl, JX_first ?_⟩⟩
  refine' JX_Raise (C := 80) (N := 79) (bm := [.ref 67, .type "Exception", .type "BaseException", .type "object"]) T (hh1.trans hh) ?e1 ?e2 ?e3 ?e4 ?e5 ?e6 ?e7 ?e8 ?_
  case e1 => k_is
  case e2 => rfl
  case e3 => k_is
  case e4 => kernel_rfl
  case e5 => k_is
  case e6 => kernel_rfl
  case e7 => decide
  case e8 => exact JV_global T (by k_is) ⟨rfl, rfl, rfl⟩
  intro e
  refine ⟨_, Sub.refl _, ?_, fun T' => h e T' [(ci, ACell none), (cd, ACell none), (L, ANs [(Str.ofString "G", .ref x), (Str.ofString "start", iv n)])]⟩
  intro env he
  rcases List.mem_cons.mp he with rfl | he
  · exact ⟨(by decide : ScopeKind.function ≠ ScopeKind.module), L, _, rfl, .tail _ (.tail _ (.head _))⟩
  · rw [List.mem_singleton.mp he]
    exact ⟨hk0, L0, al0, hL0, .tail _ (.tail _ (.tail _ hm0))⟩
end
end Mine
end
section
set_option maxRecDepth 100000
open PySem PySem.Calls PyProof.Rows PySem.W PySem.Spec
namespace Mine
section
variable {prog : Program} {w : World} {B : Bs} {A : Around} {own : Own} {gs : Array GenState} {env : Env}
/-- a comprehension whose value is stored ahead of its names' going -/
theorem J_comprUse {e target iter : Expr} {ifs : List Expr} {scope : Scope} {pos : Pos} {newAcc first : Sem Value} {cl : List (Str × Addr)} {u : Value → Sem Unit} {Q : QU}
    (h : JV prog w B A first own gs fun x o g => IterJ prog w B A x o g fun it o g => J prog w B A newAcc o g fun acc o g => ∀ C, CellsJ scope.names cl ((C, ANs []) :: o) fun cells o =>
      CJ prog w B A (.compStart e 0 it acc { newEnv scope C env.globals cells env.qual none .none (some env) builtinsNs with scope := { scope with names := compNames scope env } }) o g fun o g => J prog w B A (u acc) o g fun _ o g => ∃ al rest, PickR C (ANs al) o rest ∧ Q rest g)
    (hcl : closureFor scope env = pure cl) (hc : clausesOf e = [⟨target, iter, ifs, 0⟩]) (hs : ∀ x, foldedSetIterable iter env x = pure x) (hkind : scope.kind = .function)
    (hnames : ∀ x ∈ scope.names, x.2 = .local → (compNames scope env).lookup x.1 = some .local) :
    J prog w B A (comprehension e scope env pos newAcc false first (some u)) own gs fun _ => Q := fun s R => by
  unfold comprehension
  refine wpAny_bind (J.any h R fun x s₁ o g R₁ h₁ => wpAny_bind (wpAny_standAt ?_))
  rw [hc]
  refine wpAny_bind (wpAny_of_eq (hs x) ?_)
  refine wpAny_bind (wpAny_holding (J.any (h₁ x rfl) R₁ fun it s₂ o g R₂ h₂ => wpAny_standIf ?_))
  refine wpAny_bind (J.any h₂ R₂ fun acc s₃ o g R₃ h₃ => ?_)
  rw [hcl]
  refine wpAny_bind (wpAny_pure (wpAny_bind ?_))
  refine J.any (J_newEnv (Q := fun cenv o g => cenv.scope = scope ∧ CJ prog w B A (.compStart e 0 it acc { cenv with scope := { scope with names := compNames scope env } }) o g fun o g => J prog w B A (u acc) o g fun _ o g => ∃ al rest, PickR cenv.locals (ANs al) o rest ∧ Q rest g)
    fun C => CellsJ_mono (fun cells o hh => ⟨rfl, hh⟩) _ _ _ (h₃ C)) R₃ fun cenv s₄ o g R₄ ⟨hsc, h₄⟩ => ?_
  dsimp only
  refine wpAny_holding (wpAny_bind (wpAny_attempt (wpAny_holding (wpAny_run (codeAny_mono (h₄ s₄ R₄) fun r s₅ ⟨e, o, g, R₅, hu⟩ => ?_)))))
  subst e
  refine wpAny_bind (wpAny_rule (wpAny_bind (wpAny_holding (J.any hu R₅ fun _ s' o g R' ⟨al, rest, hp, hq⟩ => ?_))))
  obtain ⟨ob, hob, hns⟩ := R'.o _ _ hp.mem
  obtain ⟨m, hm, _⟩ := ANs.ns hob hns
  refine wpAny_bind (wpAny_comp_letGo (cenv := { cenv with scope := { scope with names := compNames scope env } }) hkind _ s' m (fun x hx hl => ?_) hm fun h' m' _ hs' => wpAny_pure ?_)
  · have hx' : x ∈ scope.names := by
      rcases List.mem_append.mp hx with h1 | h1
      · exact (List.mem_filter.mp (List.mem_reverse.mp (List.mem_of_mem_drop h1))).1
      · exact (List.mem_filter.mp (List.mem_reverse.mp (List.mem_of_mem_take h1))).1
    exact hnames x hx' hl
  · have R'' := R'.sub (Sub.of_perm hp.perm.symm)
    have hnm := hp.not_mem R'.nd
    refine ⟨rest, g, ?_, hq⟩
    have R3 := R'.sub ((Sub.skip (Sub.refl rest)).trans (Sub.of_perm hp.perm.symm))
    refine ⟨fun b q e => ?_, fun b q e => ?_, R3.dis, R3.nd, R3.gens, R3.os⟩
    · obtain ⟨o, ho, hq⟩ := R'.b b q e
      exact ⟨o, hs'.extBut b o (fun z => by have := R'.dis _ _ hp.mem; rw [← z, e] at this; cases this) ho, hq⟩
    · obtain ⟨o, ho, hq⟩ := R3.o b q e
      exact ⟨o, hs'.extBut b o (fun z => hnm q (z ▸ e)) ho, hq⟩
/-- x = [.. for ..], the names of the comprehension going last -/
theorem JF_AssignListComp {x : Str} {elt target iter : Expr} {ifs : List Expr} {scope : Scope} {pos pos' spos : Pos} {cl : List (Str × Addr)} {Q : QF}
    (h : JV prog w B A (eval iter env) own gs fun v o g => IterJ prog w B A v o g fun it o g => ∀ acc C, CellsJ scope.names cl ((C, ANs []) :: (acc, AList []) :: o) fun cells o =>
      CJ prog w B A (.compStart (.ListComp elt [⟨target, iter, ifs, 0⟩] scope pos) 0 it (.ref acc) { newEnv scope C env.globals cells env.qual none .none (some env) builtinsNs with scope := { scope with names := compNames scope env } }) o g fun o g => StoreJ prog w B A env x (.ref acc) o g fun o g => ∃ al rest, PickR C (ANs al) o rest ∧ Q .next rest g)
    (hcl : closureFor scope env = pure cl := by rfl) (hs : ∀ x, foldedSetIterable iter env x = pure x := by intro _; rfl) (hkind : scope.kind = .function := by rfl)
    (hnames : (scope.names.all fun x => !(x.2 == .local) || (compNames scope env).lookup x.1 == some .local) = true := by rfl)
    (hsw : swapsWith (.ListComp elt [⟨target, iter, ifs, 0⟩] scope pos) (some (.Name x pos')) spos.line env = pure true := by rfl) :
    JF prog w B A (exec (.Assign [.Name x pos'] (.ListComp elt [⟨target, iter, ifs, 0⟩] scope pos) spos) env) own gs Q := by
  unfold JF
  rw [exec_Assign_Name_used _ _ _ _ hsw]
  refine J_bind (fun s R => wpAny_standAt ⟨own, gs, R, ?_⟩)
  refine J_bind ?_
  show J prog w B A (do let _ ← comprehension (.ListComp elt [⟨target, iter, ifs, 0⟩] scope pos) scope env _ (newList []) false (eval iter env) (some (assign (.Name x pos') env))) own gs _
  refine J_bind (J_mono (J_comprUse (Q := fun o g => Q .next o g) (J_mono h fun v o g h' => fun u hu => J_mono (h' u hu) fun it o g h'' => ?_) hcl rfl hs hkind (names_ok hnames)) fun _ o g hq => J_pure (J_pure hq))
  exact J_newList0 fun acc C => CellsJ_mono (fun cells o hc s R => codeAny_mono (hc s R) fun r s' ⟨e, o', g', R', hst⟩ => ⟨e, o', g', R', Assign_name hst (.ref acc) rfl⟩) _ _ _ (h'' acc C)
theorem JF_AssignDictComp {x : Str} {kx vx target iter : Expr} {ifs : List Expr} {scope : Scope} {pos pos' spos : Pos} {cl : List (Str × Addr)} {Q : QF}
    (h : JV prog w B A (eval iter env) own gs fun v o g => IterJ prog w B A v o g fun it o g => ∀ acc C, CellsJ scope.names cl ((C, ANs []) :: (acc, AEmpty) :: o) fun cells o =>
      CJ prog w B A (.compStart (.DictComp kx vx [⟨target, iter, ifs, 0⟩] scope pos) 0 it (.ref acc) { newEnv scope C env.globals cells env.qual none .none (some env) builtinsNs with scope := { scope with names := compNames scope env } }) o g fun o g => StoreJ prog w B A env x (.ref acc) o g fun o g => ∃ al rest, PickR C (ANs al) o rest ∧ Q .next rest g)
    (hcl : closureFor scope env = pure cl := by rfl) (hs : ∀ x, foldedSetIterable iter env x = pure x := by intro _; rfl) (hkind : scope.kind = .function := by rfl)
    (hnames : (scope.names.all fun x => !(x.2 == .local) || (compNames scope env).lookup x.1 == some .local) = true := by rfl)
    (hsw : swapsWith (.DictComp kx vx [⟨target, iter, ifs, 0⟩] scope pos) (some (.Name x pos')) spos.line env = pure true := by rfl) :
    JF prog w B A (exec (.Assign [.Name x pos'] (.DictComp kx vx [⟨target, iter, ifs, 0⟩] scope pos) spos) env) own gs Q := by
  unfold JF
  rw [exec_Assign_Name_used _ _ _ _ hsw]
  refine J_bind (fun s R => wpAny_standAt ⟨own, gs, R, ?_⟩)
  refine J_bind ?_
  show J prog w B A (do let _ ← comprehension (.DictComp kx vx [⟨target, iter, ifs, 0⟩] scope pos) scope env _ newDict false (eval iter env) (some (assign (.Name x pos') env))) own gs _
  refine J_bind (J_mono (J_comprUse (Q := fun o g => Q .next o g) (J_mono h fun v o g h' => fun u hu => J_mono (h' u hu) fun it o g h'' => ?_) hcl rfl hs hkind (names_ok hnames)) fun _ o g hq => J_pure (J_pure hq))
  exact J_newDict0 fun acc C => CellsJ_mono (fun cells o hc s R => codeAny_mono (hc s R) fun r s' ⟨e, o', g', R', hst⟩ => ⟨e, o', g', R', Assign_name hst (.ref acc) rfl⟩) _ _ _ (h'' acc C)
/-- y = [x for x in l if cond] -/
theorem JF_filterList {n : Nat} {x y : Str} {p1 p2 pos pos' spos : Pos} {iter cond : Expr} {scope : Scope} {cl : List (Str × Addr)} {l : Addr} {ns : List Int} {Q : QF} (pr : Int → Bool) (hA : AOk B A n)
    (hiter : JV prog w B A (eval iter env) own gs fun v o g => v = .ref l ∧ o = own ∧ g = gs) (hl : Has B own l (AList (ns.map iv))) (hlen : ns.length ≤ 1000)
    (hcond : ∀ acc C i k out it, ns[i]? = some k → TestJ prog w B A (cenv scope env cl C) cond ((C, ANs [(x, iv k)]) :: (it, AListIter l (i + 1)) :: (acc, AList out) :: own) gs fun b o g => b = pr k ∧ o = (C, ANs [(x, iv k)]) :: (it, AListIter l (i + 1)) :: (acc, AList out) :: own ∧ g = gs)
    (h : ∀ acc C, StoreJ prog w B A env y (.ref acc) ((C, ANs []) :: (acc, AList ((ns.filter pr).map iv)) :: own) gs fun o g => ∃ al rest, PickR C (ANs al) o rest ∧ Q .next rest g)
    (hcl : closureFor scope env = pure cl := by rfl) (hs : ∀ x, foldedSetIterable iter env x = pure x := by intro _; rfl) (hkind : scope.kind = .function := by rfl)
    (hnames : (scope.names.all fun x => !(x.2 == .local) || (compNames scope env).lookup x.1 == some .local) = true := by rfl) (hnc : (scope.names.all fun p => p.2 != .cell) = true := by rfl)
    (hk : ∀ C, (cenv scope env cl C).kindOf x = some .local := by intro _; rfl) (hd : (x == ("__debug__" : Str)) = false := by decide) (ht : ∀ it v, letOwnedTupleGo (.Name x p2) it v = pure () := by intro _ _; rfl)
    (hsw : swapsWith (.ListComp (.Name x p1) [⟨.Name x p2, iter, [cond], 0⟩] scope pos) (some (.Name y pos')) spos.line env = pure true := by rfl) :
    JF prog w B A (exec (.Assign [.Name y pos'] (.ListComp (.Name x p1) [⟨.Name x p2, iter, [cond], 0⟩] scope pos) spos) env) own gs Q := by
  refine JF_AssignListComp (cl := cl) (J_mono hiter fun v o g ⟨e1, e2, e3⟩ => ?_) hcl hs hkind hnames hsw
  subst e2 e3
  rw [e1]
  exact Iter_list hl fun it acc C => cells_none hnc (CJ_filterList pr hA hl hlen (fun i k out hx => hcond acc C i k out it hx) (h acc C) hkind (hk C) hd ht)
theorem JCF_openHead {t : Sem Flow} {Q : QF} {d : Addr} {ι : Type} {f : ι → Pd} {p₀ : Pd} {rest : Own} (hp : ∀ o, p₀ o → ∃ i, f i o) (h : ∀ i, JCF prog w B A t ((d, f i) :: rest) gs Q) : JCF prog w B A t ((d, p₀) :: rest) gs Q := fun s R => by
  obtain ⟨o, ho, x⟩ := R.o d p₀ (.head _)
  obtain ⟨i, hi⟩ := hp o x
  exact h i s (R.upd (p' := f i) (tk := s.toks) (Upd.head _) (fun b o _ e => e) ⟨o, ho, hi⟩)
theorem CallC_sub {f : Value} {args : List Value} {o₂ : Own} {Q : QV} (hs : Sub o₂ own) (h : CallC prog w B A f args o₂ gs Q) : CallC prog w B A f args own gs Q := fun us hus => JC_sub hs (h us hus)
end
end Mine
end
section
/- plain law: the ways up as lists -/
set_option autoImplicit false
set_option linter.unusedVariables false
namespace Mine
section
variable {f : Int → Option Int}
theorem chain_head (n : Nat) (x : Int) : ∃ r, chain f n x = x :: r := by
  cases n with
  | zero => exact ⟨[], rfl⟩
  | succ n =>
    cases h : f x with
    | none => exact ⟨[], by simp [chain, h]⟩
    | some y => exact ⟨chain f n y, by simp [chain, h]⟩
theorem chain_up : ∀ (n : Nat) (x w : Int), w ∈ chain f n x → Up f x w
  | 0, x, w, h => by
    simp [chain] at h; rw [h]; exact .refl x
  | n + 1, x, w, h => by
    cases e : f x with
    | none =>
      simp [chain, e] at h; rw [h]; exact .refl x
    | some y =>
      simp only [chain, e, List.mem_cons] at h
      rcases h with rfl | h
      · exact .refl _
      · exact .step e (chain_up n y w h)
theorem chain_full {num : Int → Nat} (hn : ∀ x y, f x = some y → num x < num y) : ∀ (n : Nat) (K : List Int) (x : Int), K.length ≤ n → (∀ y, Up f x y → (f y).isSome = true → y ∈ K) →
    (∀ w, Up f x w → w ∈ chain f n x) ∧ ∀ m, K.length ≤ m → chain f m x = chain f n x := by
  intro n
  induction n with
  | zero =>
    intro K x hK hc
    have : K = [] := List.length_eq_zero_iff.mp (Nat.le_zero.mp hK)
    subst this
    have e : f x = none := by
      cases h : f x with
      | none => rfl
      | some y => have := hc x (.refl x) (by rw [h]; rfl); cases this
    refine ⟨fun w h => ?_, fun m _ => ?_⟩
    · rw [h.none e]; simp [chain]
    · cases m with
      | zero => rfl
      | succ m => simp [chain, e]
  | succ n ih =>
    intro K x hK hc
    cases e : f x with
    | none =>
      refine ⟨fun w h => ?_, fun m _ => ?_⟩
      · rw [h.none e]; simp [chain, e]
      · cases m with
        | zero => simp [chain, e]
        | succ m => simp [chain, e]
    | some y =>
      have hx : x ∈ K := hc x (.refl x) (by rw [e]; rfl)
      have hl : (K.erase x).length = K.length - 1 := List.length_erase_of_mem hx
      have hpos : 0 < K.length := List.length_pos_of_mem hx
      have := ih (K.erase x) y (by omega) fun z hz hs => by
        have hzx : z ≠ x := by
          intro q
          subst q
          have h1 := hn _ _ e
          have h2 := hz.numle hn
          omega
        exact (List.mem_erase_of_ne hzx).mpr (hc z (.step e hz) hs)
      refine ⟨fun w h => ?_, fun m hm => ?_⟩
      · simp only [chain, e, List.mem_cons]
        rcases h.cases_ne e with q | q
        · exact .inl q
        · exact .inr (this.1 w q)
      · cases m with
        | zero => omega
        | succ m =>
          simp only [chain, e]
          rw [this.2 m (by omega)]
theorem chain_after : ∀ (n : Nat) (x z : Int) (pre post : List Int), chain f n x = pre ++ z :: post → ∀ w ∈ post, Up f z w
  | 0, x, z, pre, post, h, w, hw => by
    have h' : [x] = pre ++ z :: post := h
    have := congrArg List.length h'
    simp at this
    have : post = [] := List.length_eq_zero_iff.mp (by omega)
    rw [this] at hw; cases hw
  | n + 1, x, z, pre, post, h, w, hw => by
    cases e : f x with
    | none =>
      have h' : [x] = pre ++ z :: post := by rw [← h]; simp [chain, e]
      have := congrArg List.length h'
      simp at this
      have : post = [] := List.length_eq_zero_iff.mp (by omega)
      rw [this] at hw; cases hw
    | some y =>
      have h' : x :: chain f n y = pre ++ z :: post := by rw [← h]; simp [chain, e]
      cases pre with
      | nil =>
        simp only [List.nil_append, List.cons.injEq] at h'
        obtain ⟨rfl, rfl⟩ := h'
        exact .step e (chain_up n y w hw)
      | cons a pre =>
        simp only [List.cons_append, List.cons.injEq] at h'
        exact chain_after n y z pre post h'.2 w hw
end
section
variable {E : Int → Int → Prop} {s : Int} {R : Int → Prop} {t : List (Int × Int)}
abbrev above (t : List (Int × Int)) (x : Int) : List Int := chain (look t) t.length x
theorem IdomOk.full (h : IdomOk E s R t) (x : Int) : (∀ w, Up (look t) x w → w ∈ above t x) ∧ ∀ m, t.length ≤ m → chain (look t) m x = above t x := by
  obtain ⟨num, hn⟩ := h.num
  have := chain_full hn t.length (t.map (·.1)) x (by simp) fun y _ hs => look_isSome.mp hs
  exact ⟨this.1, fun m hm => this.2 m (by simpa using hm)⟩
theorem IdomOk.mem_above (h : IdomOk E s R t) {x w : Int} : w ∈ above t x ↔ Up (look t) x w := ⟨chain_up _ _ _, (h.full x).1 w⟩
theorem IdomOk.len_step (h : IdomOk E s R t) {x d : Int} (e : look t x = some d) : (above t x).length = (above t d).length + 1 := by
  have h1 : chain (look t) (t.length + 1) x = above t x := (h.full x).2 _ (Nat.le_succ _)
  rw [← h1]
  simp only [chain, e]
  simp
theorem IdomOk.len_up (h : IdomOk E s R t) {x d : Int} (u : Up (look t) x d) (hne : x ≠ d) : (above t d).length < (above t x).length := by
  induction u with
  | refl x => exact absurd rfl hne
  | @step x y z e u ih =>
    have := h.len_step e
    by_cases hyz : y = z
    · subst hyz; omega
    · have := ih hyz; omega
theorem IdomOk.root (h : IdomOk E s R t) {x : Int} (hs : R s) (hx : R x) : Up (look t) x s := (h.dom x s hx hs).mpr fun a => by
  induction a with
  | start h => exact h rfl
  | step a _ _ ih =>
    clear hx
    exact (show False from by
      have : ∀ {y}, ¬ Avoid E s s y := fun {y} b => by
        induction b with
        | start h => exact h rfl
        | step _ _ _ ih => exact ih
      exact this a)
/-- the nearest that both ways up meet -/
theorem IdomOk.place (h : IdomOk E s R t) {a b z : Int} {r : List Int} (e : (above t a).filter (fun x => decide (x ∈ above t b)) = z :: r) :
    Up (look t) a z ∧ Up (look t) b z ∧ ∀ w, Up (look t) a w → Up (look t) b w → Up (look t) z w := by
  obtain ⟨l1, l2, hl, hp, hz, hr⟩ := List.filter_eq_cons_iff.mp e
  have hza : z ∈ above t a := by rw [hl]; simp
  refine ⟨chain_up _ _ _ hza, chain_up _ _ _ (by simpa using hz), fun w h1 h2 => ?_⟩
  have hw1 := h.mem_above.mpr h1
  have hw2 := h.mem_above.mpr h2
  rw [hl, List.mem_append] at hw1
  rcases hw1 with hw1 | hw1
  · exact absurd (by simpa using hw2) (hp w hw1)
  · rcases List.mem_cons.mp hw1 with rfl | hw1
    · exact .refl _
    · exact chain_after _ _ _ _ _ hl w hw1
end
/-- the two searches: a walk that shuns gone, and the ways on which gone does not lie -/
theorem reach_avoid {succ : Int → List Int} {names : List Int} {s gone : Int} (hs : s ∈ names) (hcl : ∀ u ∈ names, ∀ c ∈ succ u, c ∈ names) {x : Int} :
    Reach succ (· ∈ names.filter fun y => decide (y ≠ gone)) s x ↔ Avoid (fun a b => b ∈ succ a) s gone x := by
  constructor
  · intro h
    induction h with
    | refl h => simp at h; exact .start h.2
    | step _ e ok ih => simp at ok; exact .step ih e ok.2
  · intro h
    have key : Reach succ (· ∈ names.filter fun y => decide (y ≠ gone)) s x ∧ x ∈ names := by
      induction h with
      | start h => exact ⟨.refl (by simp [hs, h]), hs⟩
      | step _ e n ih =>
        have hm := hcl _ ih.2 _ e
        exact ⟨.step ih.1 e (by simp [hm, n]), hm⟩
    exact key.1
theorem reach_way {succ : Int → List Int} {a b : Int} {ok : Int → Prop} : Reach succ ok a b ↔ Way (fun a b => b ∈ succ a) ok a b := by
  constructor
  · intro h
    induction h with
    | refl h => exact .refl h
    | step _ e o ih => exact .step ih e o
  · intro h
    induction h with
    | refl h => exact .refl h
    | step _ e o ih => exact .step ih e o
theorem sorted_eq {l m : List Int} (h1 : l.Pairwise (· ≤ ·)) (h2 : m.Pairwise (· ≤ ·)) (h : l.Perm m) : l = m :=
  h.eq_of_pairwise (fun a b _ _ => Int.le_antisymm) h1 h2
theorem nodup_perm {l m : List Int} (h1 : l.Nodup) (h2 : m.Nodup) (h : ∀ x, x ∈ l ↔ x ∈ m) : l.Perm m := by
  induction l generalizing m with
  | nil =>
    cases m with
    | nil => exact .nil
    | cons a m => have := (h a).mpr (.head _); cases this
  | cons a l ih =>
    rw [List.nodup_cons] at h1
    have ha : a ∈ m := (h a).mp (.head _)
    refine (List.Perm.cons a (ih h1.2 (h2.erase a) fun x => ?_)).trans (List.perm_cons_erase ha).symm
    rw [h2.mem_erase_iff]
    constructor
    · intro hx
      exact ⟨fun e => h1.1 (e ▸ hx), (h x).mp (.tail _ hx)⟩
    · rintro ⟨hne, hx⟩
      exact (List.mem_cons.mp ((h x).mpr hx)).resolve_left hne
end Mine
end
section
set_option maxRecDepth 100000
set_option maxHeartbeats 4000000
open PySem PySem.Calls PyProof.Rows PySem.W PySem.Spec
namespace Mine
example : PySem.Challenge.rw_ci0025_01.prog = PySem.Challenge.rw_ci0025_01.prog ∧ hd.heap_39 = hd.heap_39 := by k_fill; exact ⟨rfl, rfl⟩
local macro_rules | `(tactic| k_mem) => `(tactic| first | apply List.Mem.head | exact Gr.memS (by assumption) | exact Gr.memP (by assumption) | exact Gr.memJ (by assumption) | (apply List.Mem.tail; k_mem))
local macro_rules | `(tactic| walk_at "has") => `(tactic| first | (apply Has.own; k_mem) | (apply Has.base; assumption))
local macro_rules | `(tactic| walk_at "upd") => `(tactic| first | apply Upd.head | exact Gr.updS (by assumption) (by assumption) | exact Gr.updP (by assumption) (by assumption) | (apply Upd.tail; walk_at "upd"))
local macro_rules | `(tactic| walk_at "setl") => `(tactic| first | apply SetL.nil | apply SetL.here | (apply SetL.next (by rfl); walk_at "setl"))
local macro_rules | `(tactic| walk_at "cells") => `(tactic| repeat' (first | refine Cells_nil ?_ | refine Cells_skip (by decide) ?_ | (refine Cells_cell ?_; intro _)))
local macro_rules | `(tactic| walk_at "pick") => `(tactic| first | apply PickR.head | (apply PickR.tail; walk_at "pick"))
local macro_rules | `(tactic| walk_at "weak") => `(tactic| first | exact fun _ h => h | exact AEmpty.toAD | (refine ANs.sub ?_; repeat' (first | exact List.forall_mem_nil _ | refine List.forall_mem_cons.mpr ⟨rfl, ?_⟩)))
local macro_rules | `(tactic| walk_at "subt") => `(tactic| first | exact Sub.refl _ | (refine Sub.skip ?_; walk_at "subt"))
local macro_rules | `(tactic| walk_at "sub") => `(tactic| first | apply Sub.nil | (refine' Sub.pick ?hp ?hw ?_; (case hp => walk_at "pick"); (case hw => walk_at "weak"); walk_at "sub") | walk_at "subt")
local macro_rules | `(tactic| walk_at "store") => `(tactic| first | (refine' Store_local ?hu ?hs ?_; (case hu => walk_at "upd"); (case hs => walk_at "setl")) | (refine' Store_cell ?hc ?hu ?_; (case hc => rfl); (case hu => walk_at "upd")))

local macro_rules | `(tactic| walk_at "name") => `(tactic| first
  | (refine' JV_local ?hn ?hv ?_; (case hn => walk_at "has"); (case hv => rfl))
  | (refine' JV_cell ?hc ?hn ?_; (case hc => rfl); (case hn => walk_at "has"))
  | (refine' JV_free ?hc ?hn ?_; (case hc => rfl); (case hn => walk_at "has")))
local macro_rules | `(tactic| walk_at "js") => `(tactic| first
  | with_reducible refine JF_cons ?_
  | with_reducible refine JF_nil ?_
  | refine JF_Assign ?_
  | with_reducible refine JF_If ?_
  | with_reducible refine JF_Return ?_
  | refine JF_Expr ?_
  | with_reducible refine JV_int ?_
  | with_reducible refine JV_bool ?_
  | with_reducible refine JV_none ?_
  | with_reducible refine JV_str ?_
  | with_reducible refine JV_BinOp ?_
  | refine JV_Compare ?_
  | with_reducible refine JV_IfExp ?_
  | refine Test_cmp ?_
  | with_reducible refine Test_not ?_
  | with_reducible refine Test_and ?_
  | with_reducible refine Test_and_nil ?_
  | with_reducible refine Test_or ?_
  | with_reducible refine Test_or_nil ?_
  | with_reducible refine Tru_bool ?_
  | refine JV_List ?_
  | refine JV_Tuple ?_
  | with_reducible refine Args_nil ?_
  | refine Args_cons ?_
  | with_reducible refine Bin_add ?_
  | with_reducible refine Cmp_eq ?_
  | with_reducible refine Cmp_ne ?_
  | with_reducible refine Cmp_lt ?_
  | with_reducible refine Cmp_le ?_
  | with_reducible refine Cmp_gt ?_
  | with_reducible refine Cmp_ge ?_
  | walk_at "name"
  | walk_at "store")
local macro_rules | `(tactic| walk_at "inst") => `(tactic| (refine' Inst.mk ?ix ?id; (case ix => walk_at "has"); (case id => walk_at "has")))
local macro_rules | `(tactic| walk_at "kfun") => `(tactic| (refine' Call_K (by assumption) (by assumption) ?k1 ?k2 ?k3 ?k4 ?_ ?k5 ?k6; (case k1 => k_is); (case k2 => rfl); (case k3 => rfl); (case k4 => k_is); (case k5 => rfl); (case k6 => rfl)))
local macro_rules | `(tactic| walk_at "kcode") => `(tactic| (refine' Code_K (by assumption) (by assumption) ?k1 ?k2 ?k3 ?k4 ?_ ?k5 ?k6; (case k1 => k_is); (case k2 => rfl); (case k3 => rfl); (case k4 => k_is); (case k5 => rfl); (case k6 => rfl)))
local macro_rules | `(tactic| walk_at "methk") => `(tactic| (refine' Meth_K (by assumption) ?mi ?mv ?_ ?g1 ?g2 ?g3 ?g4; (case mi => walk_at "inst"); (case mv => first | exact fields_none (by assumption) (by decide) | rfl); (case g1 => k_is); (case g2 => k_is); (case g3 => k_is); (case g4 => k_is)))
local macro_rules | `(tactic| walk_at "getown") => `(tactic| (refine' Get_own (by assumption) ?mi ?mv ?_ ?g1 ?g2 ?gh; (case mi => walk_at "inst"); (case mv => rfl); (case g1 => k_is); (case g2 => kernel_rfl); (case gh => rfl)))
local macro_rules | `(tactic| walk_at "setown") => `(tactic| (refine' SetAttr_inst (by assumption) ?sx ?sd ?sk ?_ ?se ?sl; (case sx => walk_at "has"); (case sd => walk_at "upd"); (case se => rfl); (case sl => exact Nat.le_of_ble_eq_true rfl); (case sk => kernel_rfl)))
local macro_rules | `(tactic| walk_at "keepk") => `(tactic| (exact Keep_K (by assumption) (by k_is)))
local macro_rules | `(tactic| walk_at "apart") => `(tactic| first | (apply Apart.left; k_mem; done) | (apply Apart.right; k_mem; done) | (apply Apart.tail; walk_at "apart"))
local macro_rules | `(tactic| walk_at "kgen") => `(tactic| (refine' Call_gen (by assumption) (by assumption) ?k1 ?k2 ?k3 ?k4 ?_ ?k5 ?k6; (case k1 => k_is); (case k2 => rfl); (case k3 => rfl); (case k4 => k_is); (case k5 => rfl); (case k6 => rfl)))
local macro_rules | `(tactic| walk_at "kcodec") => `(tactic| (refine' CodeC_K (by assumption) (by assumption) ?k1 ?k2 ?k3 ?k4 ?_ ?k5 ?k6; (case k1 => k_is); (case k2 => rfl); (case k3 => rfl); (case k4 => k_is); (case k5 => rfl); (case k6 => rfl)))
local macro_rules | `(tactic| walk_at "getk") => `(tactic| (refine' Get_K (by assumption) ?k1 ?k2 ?k3 ?k4 ?k5 ?g1 ?g2 ?g3 ?gh ?_; (case k1 => k_is); (case k2 => rfl); (case k3 => rfl); (case k4 => rfl); (case k5 => k_is); (case g1 => k_is); (case g2 => kernel_rfl); (case g3 => rfl); (case gh => rfl)))
section
variable {prog : Program} {w : World} {B : Bs} {A : Around} {own : Own} {gs : Array GenState} {p : Program} {loose : List Str} {mg mb : Str → Option Value}
theorem fmod_nat {a : Int} {n : Nat} (hn : 0 < n) : ∃ i : Nat, i < n ∧ a.fmod (n : Int) = i := by
  have h0 : 0 ≤ a.emod n := Int.emod_nonneg a (by omega)
  have h1 : a.emod n < n := Int.emod_lt_of_pos a (by omega)
  refine ⟨(a.emod n).toNat, by omega, ?_⟩
  rw [Int.fmod_eq_emod_of_nonneg _ (by omega)]
  exact (Int.toNat_of_nonneg h0).symm
def lawNames (N : List Int) (m : Nat) : List Int := (List.range m).map fun k => 8 * N.getD (5 + k) 0 + k
theorem lawNames_get {N : List Int} {m i : Nat} (h : i < m) : (lawNames N m)[i]? = some (8 * N.getD (5 + i) 0 + i) := by
  unfold lawNames; rw [List.getElem?_map, List.getElem?_range h]; rfl
theorem lawNames_len {N : List Int} {m : Nat} : (lawNames N m).length = m := by simp [lawNames]
theorem lawNames_mod {N : List Int} {m : Nat} (hm : m ≤ 7) {x : Int} (h : x ∈ lawNames N m) : ∃ k : Nat, k < m ∧ x % 8 = k := by
  obtain ⟨k, hk, rfl⟩ := List.mem_map.mp h
  have := List.mem_range.mp hk
  exact ⟨k, this, by omega⟩
theorem lawNames_nodup {N : List Int} {m : Nat} (hm : m ≤ 7) : (lawNames N m).Nodup := by
  unfold lawNames
  rw [List.nodup_iff_pairwise_ne, List.pairwise_map]
  refine List.Pairwise.imp_of_mem ?_ List.nodup_range
  intro a b ha hb hne e
  have := List.mem_range.mp ha
  have := List.mem_range.mp hb
  exact hne (by omega)
theorem getD_at {N : List Int} {j : Nat} (h : j < N.length) : (N.map iv)[((j : Nat) : Int).toNat]? = some (iv (N.getD j 0)) := by
  rw [Int.toNat_natCast, List.getElem?_map, List.getD_eq_getElem?_getD, List.getElem?_eq_getElem h]; rfl
theorem get_at {l : List Int} {i : Nat} {x : Int} (h : l[i]? = some x) : (l.map iv)[((i : Nat) : Int).toNat]? = some (iv x) := by
  rw [Int.toNat_natCast, List.getElem?_map, h]; rfl
theorem Gr.mem_x {C : Addr} {G : Gr} : (G.x, AInst C G.dx) ∈ G.res C prog w := .head _
theorem Gr.mem_dx {C : Addr} {G : Gr} : (G.dx, AVars prog w G.fields) ∈ G.res C prog w := .tail _ (.head _)
theorem Sub.rot {pre W R : Own} : Sub (R ++ (pre ++ W)) (pre ++ (W ++ R)) := Sub.of_perm ((List.perm_append_comm (l₁ := R) (l₂ := pre ++ W)).trans (by rw [List.append_assoc]))
theorem Sub.rot' {pre W R : Own} : Sub (pre ++ (W ++ R)) (R ++ (pre ++ W)) := Sub.of_perm ((List.perm_append_comm (l₁ := R) (l₂ := pre ++ W)).trans (by rw [List.append_assoc])).symm
local macro_rules | `(tactic| k_mem) => `(tactic| first | exact List.mem_append_right _ Gr.mem_x | exact List.mem_append_right _ Gr.mem_dx | exact List.mem_append_left _ (waysOwn.mem (by assumption)))
local macro_rules | `(tactic| walk_at "upd") => `(tactic| exact Upd.appL (waysOwn.upd (by assumption) (by assumption)))
def Gr0 (x dx gr nd su pr : Addr) : Gr := { x, dx, gr, nd, su, pr, more := [], names := [], S := fun _ => 0, P := fun _ => 0, N := fun _ => 0, sk := fun _ => [], pk := fun _ => [], junk := [] }
theorem Gr0.ok {x dx gr nd su pr : Addr} : (Gr0 x dx gr nd su pr).Ok where
  nd := List.nodup_nil
  N := fun _ h => by cases h
  sk := fun _ h => by cases h
  sn := fun _ h => by cases h
  pn := fun _ h => by cases h
  ps := fun _ h => by cases h
  len := Nat.zero_le _
  mo := rfl
def dropS : Nat → List Stmt → Option (List Stmt)
  | 0, l => some l
  | n + 1, _ :: l => dropS n l
  | _ + 1, [] => none
/-- the law's own block from its n-th statement on, and its names -/
def lawAt (n : Nat) : Option (Scope × List Stmt) := match (show List Stmt from PySem.Challenge.pw_ci0025_01.main.body)[27]? with
  | some (Stmt.FunctionDef _ _ b _ _ _ s ..) => match dropS n (show List Stmt from b) with
    | some r => some (s, r)
    | none => none
  | _ => none
abbrev lawEnv (sc : Scope) (L cnode chead ckept cgone cabove ctree cstart cnum : Addr) : Env :=
  newEnv sc L mainGlobals [(Str.ofString "node", cnode), (Str.ofString "head", chead), (Str.ofString "kept", ckept), (Str.ofString "gone", cgone), (Str.ofString "above", cabove), (Str.ofString "tree", ctree), (Str.ofString "start", cstart), (Str.ofString "numbers", cnum)] (Str.ofString "law" ++ Str.ofString ".<locals>.") (some 906) (.ref 905) none builtinsNs
structure LawSt (N : List Int) (i : Nat) (st : Int) (names : List Int) (succ : Int → List Int) (G : Gr) : Prop where
  Nl : N.length = 24
  nl : names.length = i
  i3 : 3 ≤ i
  i7 : i ≤ 7
  nd : names.Nodup
  mod : ∀ {x : Int}, x ∈ names → ∃ k : Nat, k < i ∧ x % 8 = k
  st : st ∈ names
  ok : G.Ok
  gn : G.names = names
  more : G.more = []
  sk : ∀ u ∈ names, ∀ y, y ∈ succ u ↔ y ∈ (G.sk u).map (·.1)
  sl : ∀ u, (succ u).length ≤ 100
abbrev LawEnd : Flow → Own → Array GenState → Prop := fun fl o g => ∃ o₂, Sub o₂ o ∧ retOf fl = .bool true ∧ AllFin g ∧ ∃ es tb, (43, ATab es) ∈ o₂ ∧ (84, ATab (dTab tb)) ∈ o₂
theorem law_build (T : TopB (hd.heap_39 w.params) p loose mg mb B) (BM : BMain mg B) (hA : AOk B A 300) (hfr : A.frames = some []) (hh : A.handled = none) {sc : Addr} {script : List Int} {P : Pd} (hs : B.f sc = some P) (hP : ∀ o, P o → AList (script.map iv) o) (hlen : script.length ≤ 63)
  (H : ∀ (sco : Scope) (rest : List Stmt), lawAt 8 = some (sco, rest) → ∀ A1, AOk B A1 299 → ∀ {envs}, A1.frames = some [envs] → A1.handled = none → ∀ (L cnode chead ckept cgone cabove ctree cstart cnum numl nl W : Addr) (wl : Int → Addr) {N : List Int} {i : Nat} {st : Int} {names : List Int} {succ : Int → List Int} {G : Gr}, LawSt N i st names succ G →
    envs = lawEnv sco L cnode chead ckept cgone cabove ctree cstart cnum →
    JCF prog w B A1 (execs rest (lawEnv sco L cnode chead ckept cgone cabove ctree cstart cnum)) ((L, ANs [(Str.ofString "size", iv i), (Str.ofString "names", .ref nl), (Str.ofString "graph", .ref G.x), (Str.ofString "ways", .ref W)]) :: (cnode, ACell none) :: (chead, ACell none) :: (ckept, ACell none) :: (cgone, ACell none) :: (cabove, ACell none) :: (ctree, ACell none) :: (cstart, ACell (some (iv st))) :: (cnum, ACell (some (.ref numl))) :: (numl, AList (N.map iv)) :: (nl, AList (names.map iv)) :: (W, AD prog w (Gr.outer names wl)) :: (43, ATab []) :: (84, ATab []) :: (waysOwn names wl succ ++ G.res 873 prog w)) #[] LawEnd) :
  CodeC prog w B A (.ref 906) [.ref sc] [(43, ATab []), (84, ATab [])] #[] fun v o g => v = .bool true ∧ AllFin g ∧ ∃ es tb, (43, ATab es) ∈ o ∧ (84, ATab (dTab tb)) ∈ o := by
  refine' CodeC_KA (n := 299) T hA ?k1 ?k2 ?k3 ?k4 ?_ ?k5 ?k6
  case k1 => k_is
  case k2 => rfl
  case k3 => rfl
  case k4 => k_is
  case k5 => rfl
  case k6 => rfl
  intro us hus
  obtain ⟨u1, rfl, h1⟩ := er1 hus
  refine Bind_eq (by rfl) ?_
  dsimp only
  intro L
  walk_at "cells"
  rename_i cnum cstart ctree cabove cgone ckept chead cnode
  dsimp only [newEnv]
  refine Stores_cons h1 ?_
  walk_at "store"
  refine Stores_nil ?_
  dsimp only
  have hA1' : ∀ e, AOk B (A.deeper e) 299 := fun e => hA.deeper e
  have hfr1' : ∀ e, (A.deeper e).frames = some [e] := fun e => by show A.frames.map _ = _; rw [hfr]; rfl
  have hh1' : ∀ e, (A.deeper e).handled = none := fun _ => hh
  generalize hAe : A.deeper _ = A1
  have hA1 : AOk B A1 299 := hAe ▸ hA1' _
  have hfr1 := hfr1' _ |>.symm.trans (congrArg Around.frames hAe)
  have hh1 : A1.handled = none := hAe ▸ hh1' _
  clear hAe hA1' hfr1' hh1'
  -- numbers = _law_numbers(script, 24)
  refine JCF_cons (JF_clean (JF_Assign (JV_Call (JV_global T (by k_is) ⟨rfl, ?_⟩))))
  refine Args_cons ?_
  walk_at "name"
  refine Args_cons (JV_int (Args_nil ⟨by walk_at "keepk", ?_⟩))
  refine numbers_spec T (hA1.less) hs hP (by omega) (count := 24) (by omega) fun numl => ?_
  walk_at "store"
  dsimp only
  have hNl : (lawNumbers script 24).length = 24 := by simp [lawNumbers]
  generalize lawNumbers script 24 = N at hNl ⊢
  -- size = 3 + numbers[0] % 5
  refine JCF_cons (JF_clean (JF_Assign (JV_BinOp (JV_int (JV_BinOp (JV_Subscript ?_))))))
  walk_at "name"
  refine JV_int ?_
  refine Item_list (x := iv (N.getD 0 0)) (by walk_at "has") (by omega) (by omega) (by simp [hNl, List.getD_eq_getElem?_getD]) ?_
  refine JV_int (Bin_mod (by omega) (Bin_add ?_))
  obtain ⟨z0, hz0, e0⟩ := fmod_nat (a := N.getD 0 0) (n := 5) (by omega)
  rw [show ((N.getD 0 0).fmod 5) = (z0 : Int) from e0]
  obtain ⟨m, hm, hm3, hm7⟩ : ∃ m : Nat, (3 : Int) + z0 = m ∧ 3 ≤ m ∧ m ≤ 7 := ⟨3 + z0, by omega, by omega, by omega⟩
  rw [hm]
  walk_at "store"
  dsimp only
  -- names
  refine JCF_cons (JF_clean (JF_AssignListComp (JV_Call (JV_builtin T (by k_is) boot_range ⟨rfl, Args_cons ?_⟩))))
  walk_at "name"
  refine Args_nil ⟨Keep_type, Call_range1 fun r => Iter_range (by walk_at "has") (by omega) (by omega) fun it => ?_⟩
  intro acc C
  dsimp only
  walk_at "cells"
  dsimp only [newEnv]
  refine CJ_start rfl rfl rfl (Iter_rangeIter (by walk_at "has") ⟨rfl, rfl, rfl⟩) ?_
  refine CJ_list (fun n o g => ∃ i, i ≤ m ∧ n = m - i ∧ g = #[] ∧ ∃ o₂, Sub o₂ o ∧ o₂ = (it, ARangeIter i ((m : Int) - i)) :: (C, ANs []) :: (acc, AList ((lawNames N m).take i |>.map iv)) :: (cnode, ACell none) :: (chead, ACell none) :: (ckept, ACell none) :: (cgone, ACell none) :: (cabove, ACell none) :: (ctree, ACell none) :: (cstart, ACell none) :: (cnum, ACell (some (.ref numl))) :: (numl, AList (N.map iv)) :: (L, ANs [(Str.ofString "script", .ref sc), (Str.ofString "size", iv m)]) :: (43, ATab []) :: [(84, ATab [])]) ?_ m ⟨0, Nat.zero_le _, rfl, rfl, _, ?_, rfl⟩
  · rintro n o g ⟨i, hi, rfl, rfl, o₂, hsub, rfl⟩
    refine NextJ_sub hsub (Next_range hA1 ?_)
    by_cases hlt : i < m
    · rw [if_pos (by omega)]
      intro u hu
      refine J_pure ?_
      refine Assign_name ?_
      walk_at "store"
      refine Ifs_nil ?_
      rw [if_pos rfl]
      have htk : (lawNames N m).take (i + 1) = (lawNames N m).take i ++ [8 * N.getD (5 + i) 0 + i] := by
        rw [List.take_add_one, lawNames_get hlt]; rfl
      refine JV_BinOp (JV_BinOp (JV_int (JV_Subscript ?_)))
      walk_at "name"
      refine JV_BinOp (JV_int ?_)
      walk_at "name"
      refine Bin_add ?_
      rw [show ((5 : Int) + (i : Int)) = ((5 + i : Nat) : Int) by omega]
      refine Item_list (x := iv (N.getD (5 + i) 0)) (by walk_at "has") (by omega) (by omega) (by rw [Int.toNat_natCast, List.getElem?_map, List.getD_eq_getElem?_getD, List.getElem?_eq_getElem (by omega)]; rfl) ?_
      refine Bin_mul ?_ (IntMulOk.of_left (by decide))
      walk_at "name"
      refine Bin_add ?_
      refine' Call_append ?hu ?hl ⟨_, ?_, i + 1, hlt, rfl, rfl, _, ?_, rfl⟩
      case hu => walk_at "upd"
      case hl => simp [lawNames_len]; omega
      · omega
      · rw [show ((m : Int) - ((i + 1 : Nat) : Int)) = (m : Int) - i - 1 by omega, show (((i + 1 : Nat) : Int)) = (i : Int) + 1 by omega, htk, List.map_append]
        walk_at "sub"
    · rw [if_neg (by omega)]
      have him : i = m := by omega
      subst him
      rw [List.take_of_length_le (by rw [lawNames_len]; exact Nat.le_refl _)]
      walk_at "store"
      refine ⟨_, _, PickR.head _, ?_⟩
      dsimp only
      have hnl := lawNames_len (N := N) (m := i)
      have hnd := lawNames_nodup (N := N) hm7
      have hmod := @lawNames_mod N i hm7
      generalize hnames : lawNames N i = names at hnl hnd hmod ⊢
      -- start
      refine JCF_cons (JF_clean (JF_Assign (JV_Subscript ?_)))
      walk_at "name"
      refine JV_BinOp (JV_Subscript ?_)
      walk_at "name"
      refine JV_int ?_
      refine Item_list (k := ((1 : Nat) : Int)) (by walk_at "has") (by omega) (by omega) (getD_at (by omega)) ?_
      walk_at "name"
      refine Bin_mod (by omega) ?_
      obtain ⟨i1, hi1, e1⟩ := fmod_nat (a := N.getD 1 0) (n := i) (by omega)
      rw [e1]
      obtain ⟨st, hst⟩ : ∃ st, names[i1]? = some st := ⟨names[i1], List.getElem?_eq_getElem (by omega)⟩
      refine Item_list (x := iv st) (by walk_at "has") (by omega) (by omega) (get_at hst) ?_
      walk_at "store"
      dsimp only
      -- graph
      refine JCF_cons (JF_clean (JF_Assign (JV_Call (JV_global T (by k_is) ⟨rfl, Args_nil ⟨by walk_at "keepk", CodeJ.call ?_⟩⟩))))
      refine' Code_make (n := 290) T (hA1.less) ?m1 ?m2 ?m3 ?_
      case m1 => kernel_rfl
      case m2 => k_is
      case m3 => k_is
      intro x dx A2 hA2
      refine init_spec T (hA2.less) fun gr nd su pr => ⟨rfl, ?_⟩
      walk_at "store"
      dsimp only
      -- graph.add_nodes_from(names)
      refine JCF_cons (JF_clean (JF_Expr (JV_MCall ?_)))
      walk_at "name"
      walk_at "methk"
      refine Args_cons ?_
      walk_at "name"
      refine Args_nil ⟨by walk_at "keepk", ?_⟩
      refine' CallJ_frame (give := Gr.res 873 prog w (Gr0 x dx gr nd su pr)) (fr := (L, ANs [(Str.ofString "script", .ref sc), (Str.ofString "size", iv i), (Str.ofString "names", .ref acc), (Str.ofString "graph", .ref x)]) :: (cnode, ACell none) :: (chead, ACell none) :: (ckept, ACell none) :: (cgone, ACell none) :: (cabove, ACell none) :: (ctree, ACell none) :: (cstart, ACell (some (iv st))) :: (cnum, ACell (some (.ref numl))) :: (numl, AList (N.map iv)) :: (acc, AList (names.map iv)) :: (43, ATab []) :: [(84, ATab [])]) ?sub ?_
      case sub =>
        show Sub ((x, AInst 873 dx) :: (dx, AVars prog w (Gr0 x dx gr nd su pr).fields) :: (gr, AEmpty) :: (nd, AD prog w []) :: (su, AD prog w []) :: (pr, AD prog w []) :: (L, ANs [(Str.ofString "script", .ref sc), (Str.ofString "size", iv i), (Str.ofString "names", .ref acc), (Str.ofString "graph", .ref x)]) :: (cnode, ACell none) :: (chead, ACell none) :: (ckept, ACell none) :: (cgone, ACell none) :: (cabove, ACell none) :: (ctree, ACell none) :: (cstart, ACell (some (iv st))) :: (cnum, ACell (some (.ref numl))) :: (numl, AList (N.map iv)) :: (acc, AList (names.map iv)) :: (43, ATab []) :: [(84, ATab [])]) _
        walk_at "sub"
      intro B2 hl2 hfr2
      have hnlb : B2.f acc = some (AList (names.map iv)) := hfr2 (acc, AList (names.map iv)) (by k_mem)
      refine add_nodes_spec (G := Gr0 x dx gr nd su pr) (T.le hl2) ((hA1.le hl2).less) Gr0.ok rfl hnd (by omega) hnlb fun G hG hGn hGk hGx hGd hGm => ?_
      dsimp only
      clear hfr2 hnlb hl2
      have hGx : G.x = x := hGx
      rw [← hGx]
      clear hGd hGx
      -- ways
      refine JCF_sub (Sub.of_perm List.perm_append_comm) ?_
      dsimp only [List.cons_append, List.nil_append]
      generalize hGr : G.res 873 prog w = GR
      refine JCF_cons (JF_clean (JF_AssignDictComp ?_))
      walk_at "name"
      refine Iter_list (by walk_at "has") fun it acc2 C2 => ?_
      walk_at "cells"
      dsimp only [newEnv]
      refine CJ_start rfl rfl rfl (Iter_listIter (i := 0) (by walk_at "has") ⟨rfl, rfl, rfl⟩) ?_
      refine CJ_dict (fun n o g => ∃ k, k ≤ names.length ∧ n = names.length - k ∧ g = #[] ∧ ∃ wl WO o₂, WO.Perm (waysOwn (names.take k) wl (fun _ => [])) ∧ Sub o₂ o ∧ o₂ = (it, AListIter acc k) :: (C2, ANs []) :: (acc2, AD prog w (Gr.outer (names.take k) wl)) :: (acc, AList (names.map iv)) :: (L, ANs [(Str.ofString "script", .ref sc), (Str.ofString "size", iv i), (Str.ofString "names", .ref acc), (Str.ofString "graph", .ref G.x)]) :: (cnode, ACell none) :: (chead, ACell none) :: (ckept, ACell none) :: (cgone, ACell none) :: (cabove, ACell none) :: (ctree, ACell none) :: (cstart, ACell (some (iv st))) :: (cnum, ACell (some (.ref numl))) :: (numl, AList (N.map iv)) :: (43, ATab []) :: (84, ATab []) :: (WO ++ GR)) ?_ names.length ⟨0, Nat.zero_le _, rfl, rfl, fun _ => 0, [], _, List.Perm.nil, ?_, rfl⟩
      · rintro n o g ⟨k, hk, rfl, rfl, wl, WO, o₂, hWO, hsub, rfl⟩
        refine NextJ_sub hsub (Next_list' hA1 (by walk_at "has") ?_)
        cases hx : names[k]? with
        | some one =>
          have hlt : k < names.length := (List.getElem?_eq_some_iff.mp hx).1
          rw [show (names.map iv)[k]? = some (iv one) by rw [List.getElem?_map, hx]; rfl]
          have htk : names.take (k + 1) = names.take k ++ [one] := by rw [List.take_add_one, hx]; rfl
          have hnot : one ∉ names.take k := by
            intro hm
            obtain ⟨j, hj, e⟩ := List.mem_iff_getElem.mp hm
            rw [List.getElem_take] at e
            have hjk : j < k := by rw [List.length_take] at hj; omega
            exact absurd ((List.getElem_inj hnd).mp (e.trans (List.getElem?_eq_some_iff.mp hx).2.symm)) (by omega)
          intro u hu
          refine J_pure ?_
          refine Assign_name ?_
          walk_at "store"
          refine Ifs_nil ?_
          rw [if_pos rfl]
          walk_at "name"
          refine JV_List (Args_nil ⟨by simp, fun l => ?_⟩)
          refine ⟨one, Gr.outer (names.take k) wl, _, rfl, by walk_at "upd", ?_, names.length - (k + 1), by omega, k + 1, hlt, rfl, rfl, fun m => if m = one then l else wl m, (l, AList []) :: WO, _, ?_, ?_, rfl⟩
          · simp [Gr.outer]; omega
          · rw [htk, waysOwn.snoc hnot]
            exact (List.Perm.cons _ hWO).trans (List.perm_append_singleton _ _).symm
          · rw [htk, outer.snoc hnot]
            dsimp only [List.cons_append]
            walk_at "sub"
        | none =>
          have hle := List.getElem?_eq_none_iff.mp hx
          have hkl : k = names.length := by omega
          subst hkl
          rw [show (names.map iv)[names.length]? = none by rw [List.getElem?_map, hx]; rfl]
          walk_at "store"
          refine ⟨_, _, PickR.head _, ?_⟩
          rw [List.take_length]
          dsimp only
          -- for k in range(..)
          have hWO' : Sub (waysOwn names wl (fun _ => []) ++ GR) (WO ++ GR) := by
            rw [List.take_length] at hWO
            exact Sub.of_perm (List.Perm.append_right _ hWO.symm)
          clear hWO hsub hle
          refine JCF_sub (o₂ := (L, ANs [(Str.ofString "size", iv i), (Str.ofString "names", .ref acc), (Str.ofString "graph", .ref G.x), (Str.ofString "ways", .ref acc2)]) :: (cnode, ACell none) :: (chead, ACell none) :: (ckept, ACell none) :: (cgone, ACell none) :: (cabove, ACell none) :: (ctree, ACell none) :: (cstart, ACell (some (iv st))) :: (cnum, ACell (some (.ref numl))) :: (numl, AList (N.map iv)) :: (acc, AList (names.map iv)) :: (acc2, AD prog w (Gr.outer names wl)) :: (43, ATab []) :: (84, ATab []) :: (waysOwn names wl (fun _ => []) ++ GR)) ?_ ?_
          · refine Sub.trans (b := (L, ANs [(Str.ofString "size", iv i), (Str.ofString "names", .ref acc), (Str.ofString "graph", .ref G.x), (Str.ofString "ways", .ref acc2)]) :: (cnode, ACell none) :: (chead, ACell none) :: (ckept, ACell none) :: (cgone, ACell none) :: (cabove, ACell none) :: (ctree, ACell none) :: (cstart, ACell (some (iv st))) :: (cnum, ACell (some (.ref numl))) :: (numl, AList (N.map iv)) :: (acc, AList (names.map iv)) :: (acc2, AD prog w (Gr.outer names wl)) :: (43, ATab []) :: (84, ATab []) :: (WO ++ GR)) ?_ ?_
            · repeat (first | exact hWO' | apply Sub.keep)
            · walk_at "sub"
          rw [← hGr]
          clear hWO' hGr
          obtain ⟨cnt, hcnt, ecnt⟩ := fmod_nat (a := N.getD 2 0) (n := 13) (by omega)
          refine JCF_cons (JF_clean (JF_ForRange (m := cnt) hA1 (fun k o g => ∃ (G : Gr) (succ : Int → List Int), o = (L, ANs [(Str.ofString "size", iv i), (Str.ofString "names", .ref acc), (Str.ofString "graph", .ref G.x), (Str.ofString "ways", .ref acc2)]) :: (cnode, ACell none) :: (chead, ACell none) :: (ckept, ACell none) :: (cgone, ACell none) :: (cabove, ACell none) :: (ctree, ACell none) :: (cstart, ACell (some (iv st))) :: (cnum, ACell (some (.ref numl))) :: (numl, AList (N.map iv)) :: (acc, AList (names.map iv)) :: (acc2, AD prog w (Gr.outer names wl)) :: (43, ATab []) :: (84, ATab []) :: (waysOwn names wl succ ++ G.res 873 prog w) ∧ g = #[] ∧ G.Ok ∧ G.names = names ∧ G.more = [] ∧
            (∀ u ∈ names, ∀ y, y ∈ succ u ↔ y ∈ (G.sk u).map (·.1)) ∧ (∀ u, (succ u).length ≤ k)) ?fh ?fturn ?fdone))
          case fh =>
            refine JV_Call (JV_builtin T (by k_is) boot_range ⟨rfl, ?_⟩)
            refine Args_cons (JV_BinOp (JV_Subscript ?_))
            walk_at "name"
            refine JV_int ?_
            refine Item_list (k := ((2 : Nat) : Int)) (by walk_at "has") (by omega) (by omega) (getD_at (by omega)) ?_
            refine JV_int (Bin_mod (by omega) ?_)
            rw [show ((N.getD 2 0).fmod 13) = (cnt : Int) from ecnt]
            refine Args_nil ⟨Keep_type, Call_range1 fun r => Iter_range (by walk_at "has") (by omega) (by omega) fun it => ?_⟩
            exact ⟨it, _, rfl, by walk_at "sub", G, fun _ => [], rfl, rfl, hG, hGn, hGm, fun u hu y => by rw [(hGk u hu).1]; simp, fun _ => Nat.le_refl _⟩
          case fdone =>
            rintro o g ⟨G, succ, rfl, rfl, hG, hGn, hGm, hsk, hsl⟩
            dsimp only
            exact H _ _ rfl A1 hA1 hfr1.symm hh1 L cnode chead ckept cgone cabove ctree cstart cnum numl acc acc2 wl ⟨hNl, hnl, hm3, hm7, hnd, hmod, List.mem_of_getElem? hst, hG, hGn, hGm, hsk, fun u => Nat.le_trans (hsl u) (by omega)⟩ rfl
          case fturn =>
            rintro it k o g hk ⟨G, succ, rfl, rfl, hG, hGn, hGm, hsk, hsl⟩
            have hmo := hG.mo
            refine Assign_name ?_
            walk_at "store"
            refine JF_cons (JF_Assign (JV_Subscript ?_))
            walk_at "name"
            refine JV_BinOp (JV_int ?_)
            walk_at "name"
            refine Bin_add ?_
            rw [show ((12 : Int) + (k : Int)) = ((12 + k : Nat) : Int) by omega]
            refine Item_list (by walk_at "has") (by omega) (by omega) (getD_at (by omega)) ?_
            generalize N.getD (12 + k) 0 = nk
            walk_at "store"
            dsimp only
            -- one, other = ..
            refine JF_cons (JF_Swap2 hA1 (by rfl) (JV_Tuple (Args_cons (JV_Subscript ?_))))
            walk_at "name"
            refine JV_BinOp (JV_BinOp ?_)
            walk_at "name"
            walk_at "name"
            refine Bin_add ?_
            walk_at "name"
            refine Bin_mod (by omega) ?_
            obtain ⟨j1, hj1, ej1⟩ := fmod_nat (a := nk + k) (n := i) (by omega)
            rw [ej1]
            obtain ⟨one, hone⟩ : ∃ one, names[j1]? = some one := ⟨names[j1], List.getElem?_eq_getElem (by omega)⟩
            refine Item_list (x := iv one) (by walk_at "has") (by omega) (by omega) (get_at hone) ?_
            refine Args_cons (JV_Subscript ?_)
            walk_at "name"
            refine JV_BinOp (JV_BinOp (JV_BinOp ?_))
            walk_at "name"
            refine JV_int (Bin_div (by omega) (by decide) ?_)
            refine JV_BinOp (JV_int ?_)
            walk_at "name"
            refine Bin_mul ?_ (IntMulOk.of_left (by decide))
            refine Bin_add ?_
            walk_at "name"
            refine Bin_mod (by omega) ?_
            obtain ⟨j2, hj2, ej2⟩ := fmod_nat (a := nk.fdiv 7 + 2 * k) (n := i) (by omega)
            rw [ej2]
            obtain ⟨other, hother⟩ : ∃ other, names[j2]? = some other := ⟨names[j2], List.getElem?_eq_getElem (by omega)⟩
            refine Item_list (x := iv other) (by walk_at "has") (by omega) (by omega) (get_at hother) ?_
            refine Args_nil ⟨by simp, fun t => ⟨t, _, _, rfl, by walk_at "has", ?_⟩⟩
            walk_at "store"
            walk_at "store"
            dsimp only
            have hone' : one ∈ names := List.mem_of_getElem? hone
            have hother' : other ∈ names := List.mem_of_getElem? hother
            -- ways[one].append(other)
            refine JF_cons (JF_Expr (JV_MCall (JV_Subscript ?_)))
            walk_at "name"
            walk_at "name"
            refine Item_AD (x := .ref (wl one)) (by walk_at "has") (by rw [valueAt_outer, if_pos hone']) ?_
            refine Meth_builtin F.plainAttrs_list F.slot_list_append F.type_list_append ⟨wl one, AList ((succ one).map iv), rfl, by walk_at "has", AList.plain⟩ ?_
            refine Args_cons ?_
            walk_at "name"
            refine Args_nil ⟨Keep_builtin, ?_⟩
            have esn : (succ one).map iv ++ [iv other] = (succ one ++ [other]).map iv := by simp
            refine' Call_append (xs := (succ one).map iv) ?hu ?hl ?_
            case hu => rw [esn]; walk_at "upd"
            case hl => have := hsl one; simp; omega
            dsimp only
            -- graph.add_edge(one, other)
            refine JF_cons (JF_Expr (JV_MCall ?_))
            walk_at "name"
            walk_at "methk"
            refine Args_cons ?_
            walk_at "name"
            refine Args_cons ?_
            walk_at "name"
            refine Args_nil ⟨by walk_at "keepk", ?_⟩
            refine' CallJ_frame (give := G.res 873 prog w) (fr := [(t, ATup [iv one, iv other]), (it, ARangeIter ((k : Int) + 1) ((cnt : Int) - k - 1)), (L, ANs [(Str.ofString "size", iv i), (Str.ofString "names", .ref acc), (Str.ofString "graph", .ref G.x), (Str.ofString "ways", .ref acc2), (Str.ofString "k", iv k), (Str.ofString "n", iv nk), (Str.ofString "other", iv other), (Str.ofString "one", iv one)]), (cnode, ACell none), (chead, ACell none), (ckept, ACell none), (cgone, ACell none), (cabove, ACell none), (ctree, ACell none), (cstart, ACell (some (iv st))), (cnum, ACell (some (.ref numl))), (numl, AList (N.map iv)), (acc, AList (names.map iv)), (acc2, AD prog w (Gr.outer names wl)), (43, ATab []), (84, ATab [])] ++ waysOwn names wl (fun m => if m = one then succ one ++ [other] else succ m)) ?sub ?_
            case sub => exact Sub.rot
            intro B2 hl2 hfr2
            refine add_edge_spec (T.le hl2) ((hA1.le hl2).less) hG (by rw [hGn]; exact hone') (by rw [hGn]; exact hother') fun dd dn hdd => ?_
            dsimp only
            refine JF_nil ?_
            dsimp only
            refine ⟨_, ?_, G.addEdge one other dd dn, fun m => if m = one then succ one ++ [other] else succ m, rfl, rfl, hG.addEdge (by rw [hGn]; exact hone') (by rw [hGn]; exact hother') hdd, hGn, hGm, fun u hu y => ?_, fun u => ?_⟩
            · refine Sub.trans ?_ Sub.rot'
              dsimp only [List.cons_append, List.nil_append]
              walk_at "sub"
            · rw [addEdge_keys, ← hsk u hu y]
              by_cases e : u = one
              · subst e; simp
              · simp [e]
            · dsimp only
              split
              · have := hsl one; simp; omega
              · have := hsl u; omega
      · dsimp only [List.nil_append]
        walk_at "sub"
  · simp only [List.take_zero, List.map_nil]
    walk_at "sub"
end
end Mine
end
section
set_option maxRecDepth 100000
set_option maxHeartbeats 4000000
open PySem PySem.Calls PyProof.Rows PySem.W PySem.Spec
namespace Mine
example : PySem.Challenge.rw_ci0025_01.prog = PySem.Challenge.rw_ci0025_01.prog ∧ hd.heap_39 = hd.heap_39 := by k_fill; exact ⟨rfl, rfl⟩
local macro_rules | `(tactic| k_mem) => `(tactic| first | apply List.Mem.head | exact Gr.memS (by assumption) | exact Gr.memP (by assumption) | exact Gr.memJ (by assumption) | (apply List.Mem.tail; k_mem))
local macro_rules | `(tactic| walk_at "has") => `(tactic| first | (apply Has.own; k_mem) | (apply Has.base; assumption))
local macro_rules | `(tactic| walk_at "upd") => `(tactic| first | apply Upd.head | exact Gr.updS (by assumption) (by assumption) | exact Gr.updP (by assumption) (by assumption) | (apply Upd.tail; walk_at "upd"))
local macro_rules | `(tactic| walk_at "setl") => `(tactic| first | apply SetL.nil | apply SetL.here | (apply SetL.next (by rfl); walk_at "setl"))
local macro_rules | `(tactic| walk_at "cells") => `(tactic| repeat' (first | refine Cells_nil ?_ | refine Cells_skip (by decide) ?_ | (refine Cells_cell ?_; intro _)))
local macro_rules | `(tactic| walk_at "pick") => `(tactic| first | apply PickR.head | (apply PickR.tail; walk_at "pick"))
local macro_rules | `(tactic| walk_at "weak") => `(tactic| first | exact fun _ h => h | exact AEmpty.toAD | (refine ANs.sub ?_; repeat' (first | exact List.forall_mem_nil _ | refine List.forall_mem_cons.mpr ⟨rfl, ?_⟩)))
local macro_rules | `(tactic| walk_at "subt") => `(tactic| first | exact Sub.refl _ | (refine Sub.skip ?_; walk_at "subt"))
local macro_rules | `(tactic| walk_at "sub") => `(tactic| first | apply Sub.nil | (refine' Sub.pick ?hp ?hw ?_; (case hp => walk_at "pick"); (case hw => walk_at "weak"); walk_at "sub") | walk_at "subt")
local macro_rules | `(tactic| walk_at "store") => `(tactic| first | (refine' Store_local ?hu ?hs ?_; (case hu => walk_at "upd"); (case hs => walk_at "setl")) | (refine' Store_cell ?hc ?hu ?_; (case hc => rfl); (case hu => walk_at "upd")))

local macro_rules | `(tactic| walk_at "name") => `(tactic| first
  | (refine' JV_local ?hn ?hv ?_; (case hn => walk_at "has"); (case hv => rfl))
  | (refine' JV_cell ?hc ?hn ?_; (case hc => rfl); (case hn => walk_at "has"))
  | (refine' JV_free ?hc ?hn ?_; (case hc => rfl); (case hn => walk_at "has")))
local macro_rules | `(tactic| walk_at "js") => `(tactic| first
  | with_reducible refine JF_cons ?_
  | with_reducible refine JF_nil ?_
  | refine JF_Assign ?_
  | with_reducible refine JF_If ?_
  | with_reducible refine JF_Return ?_
  | refine JF_Expr ?_
  | with_reducible refine JV_int ?_
  | with_reducible refine JV_bool ?_
  | with_reducible refine JV_none ?_
  | with_reducible refine JV_str ?_
  | with_reducible refine JV_BinOp ?_
  | refine JV_Compare ?_
  | with_reducible refine JV_IfExp ?_
  | refine Test_cmp ?_
  | with_reducible refine Test_not ?_
  | with_reducible refine Test_and ?_
  | with_reducible refine Test_and_nil ?_
  | with_reducible refine Test_or ?_
  | with_reducible refine Test_or_nil ?_
  | with_reducible refine Tru_bool ?_
  | refine JV_List ?_
  | refine JV_Tuple ?_
  | with_reducible refine Args_nil ?_
  | refine Args_cons ?_
  | with_reducible refine Bin_add ?_
  | with_reducible refine Cmp_eq ?_
  | with_reducible refine Cmp_ne ?_
  | with_reducible refine Cmp_lt ?_
  | with_reducible refine Cmp_le ?_
  | with_reducible refine Cmp_gt ?_
  | with_reducible refine Cmp_ge ?_
  | walk_at "name"
  | walk_at "store")
local macro_rules | `(tactic| walk_at "inst") => `(tactic| (refine' Inst.mk ?ix ?id; (case ix => walk_at "has"); (case id => walk_at "has")))
local macro_rules | `(tactic| walk_at "kfun") => `(tactic| (refine' Call_K (by assumption) (by assumption) ?k1 ?k2 ?k3 ?k4 ?_ ?k5 ?k6; (case k1 => k_is); (case k2 => rfl); (case k3 => rfl); (case k4 => k_is); (case k5 => rfl); (case k6 => rfl)))
local macro_rules | `(tactic| walk_at "kcode") => `(tactic| (refine' Code_K (by assumption) (by assumption) ?k1 ?k2 ?k3 ?k4 ?_ ?k5 ?k6; (case k1 => k_is); (case k2 => rfl); (case k3 => rfl); (case k4 => k_is); (case k5 => rfl); (case k6 => rfl)))
local macro_rules | `(tactic| walk_at "methk") => `(tactic| (refine' Meth_K (by assumption) ?mi ?mv ?_ ?g1 ?g2 ?g3 ?g4; (case mi => walk_at "inst"); (case mv => first | exact fields_none (by assumption) (by decide) | rfl); (case g1 => k_is); (case g2 => k_is); (case g3 => k_is); (case g4 => k_is)))
local macro_rules | `(tactic| walk_at "getown") => `(tactic| (refine' Get_own (by assumption) ?mi ?mv ?_ ?g1 ?g2 ?gh; (case mi => walk_at "inst"); (case mv => rfl); (case g1 => k_is); (case g2 => kernel_rfl); (case gh => rfl)))
local macro_rules | `(tactic| walk_at "setown") => `(tactic| (refine' SetAttr_inst (by assumption) ?sx ?sd ?sk ?_ ?se ?sl; (case sx => walk_at "has"); (case sd => walk_at "upd"); (case se => rfl); (case sl => exact Nat.le_of_ble_eq_true rfl); (case sk => kernel_rfl)))
local macro_rules | `(tactic| walk_at "keepk") => `(tactic| (exact Keep_K (by assumption) (by k_is)))
local macro_rules | `(tactic| walk_at "apart") => `(tactic| first | (apply Apart.left; k_mem; done) | (apply Apart.right; k_mem; done) | (apply Apart.tail; walk_at "apart"))
local macro_rules | `(tactic| walk_at "kgen") => `(tactic| (refine' Call_gen (by assumption) (by assumption) ?k1 ?k2 ?k3 ?k4 ?_ ?k5 ?k6; (case k1 => k_is); (case k2 => rfl); (case k3 => rfl); (case k4 => k_is); (case k5 => rfl); (case k6 => rfl)))
local macro_rules | `(tactic| walk_at "kcodec") => `(tactic| (refine' CodeC_K (by assumption) (by assumption) ?k1 ?k2 ?k3 ?k4 ?_ ?k5 ?k6; (case k1 => k_is); (case k2 => rfl); (case k3 => rfl); (case k4 => k_is); (case k5 => rfl); (case k6 => rfl)))
local macro_rules | `(tactic| walk_at "getk") => `(tactic| (refine' Get_K (by assumption) ?k1 ?k2 ?k3 ?k4 ?k5 ?g1 ?g2 ?g3 ?gh ?_; (case k1 => k_is); (case k2 => rfl); (case k3 => rfl); (case k4 => rfl); (case k5 => k_is); (case g1 => k_is); (case g2 => kernel_rfl); (case g3 => rfl); (case gh => rfl)))
theorem Sub.app {a a' b b' : Own} (h1 : ∀ x p, (x, p) ∈ a → ∃ q, (x, q) ∈ a' ∧ ∀ o, q o → p o) (k1 : a.map (·.1) = a'.map (·.1)) (h2 : ∀ x p, (x, p) ∈ b → ∃ q, (x, q) ∈ b' ∧ ∀ o, q o → p o) (k2 : b.map (·.1) = b'.map (·.1)) : Sub (a ++ b) (a' ++ b') where
  mem := fun x p h => by
    rcases List.mem_append.mp h with h | h
    · obtain ⟨q, m, w⟩ := h1 x p h; exact ⟨q, List.mem_append_left _ m, w⟩
    · obtain ⟨q, m, w⟩ := h2 x p h; exact ⟨q, List.mem_append_right _ m, w⟩
  nd := fun h => by rw [List.map_append, k1, k2, ← List.map_append]; exact h
/-- the inner dicts, each with its epoch -/
def innerE (prog : Program) (w : World) (l : List Int) (f : Int → Addr) (k : Int → List (Int × Value)) (ep : Int → Nat) : Own := l.map fun n => (f n, ADict prog w (k n) (ep n))
def Gr.tailE (prog : Program) (w : World) (G : Gr) (ep epP : Int → Nat) : Own := innerE prog w G.names G.S G.sk ep ++ (innerE prog w G.names G.P G.pk epP ++ junkOwn G.junk)
section
variable {prog : Program} {w : World} {B : Bs} {A : Around} {own : Own} {gs : Array GenState} {p : Program} {loose : List Str} {mg mb : Str → Option Value} {Q : QV}
theorem innerE.keys {l : List Int} {f : Int → Addr} {k : Int → List (Int × Value)} {ep : Int → Nat} : (innerE prog w l f k ep).map (·.1) = (innerOwn prog w l f k).map (·.1) := by
  unfold innerE innerOwn; rw [List.map_map, List.map_map]; rfl
theorem Gr.tailE_keys {G : Gr} {ep epP : Int → Nat} : (G.tailE prog w ep epP).map (·.1) = (G.tail prog w).map (·.1) := by
  unfold Gr.tailE Gr.tail
  simp only [List.map_append, innerE.keys]
theorem Gr.tailE_sub {G : Gr} {ep epP : Int → Nat} {pre : Own} : Sub (pre ++ G.tail prog w) (pre ++ G.tailE prog w ep epP) := by
  refine Sub.app (fun x p h => ⟨p, h, fun _ z => z⟩) rfl (fun x p h => ?_) Gr.tailE_keys.symm
  rcases List.mem_append.mp h with h | h
  · obtain ⟨n, hn, e⟩ := List.mem_map.mp h
    cases e
    exact ⟨_, List.mem_append_left _ (List.mem_map_of_mem (f := fun n => (G.S n, ADict prog w (G.sk n) (ep n))) hn), fun o ho => ⟨_, ho⟩⟩
  · rcases List.mem_append.mp h with h | h
    · obtain ⟨n, hn, e⟩ := List.mem_map.mp h
      cases e
      exact ⟨_, List.mem_append_right _ (List.mem_append_left _ (List.mem_map_of_mem (f := fun n => (G.P n, ADict prog w (G.pk n) (epP n))) hn)), fun o ho => ⟨_, ho⟩⟩
    · exact ⟨p, List.mem_append_right _ (List.mem_append_right _ h), fun _ z => z⟩
theorem Rep.openTail {G : Gr} {pre : Own} {s : Shared} (R : Rep B (pre ++ G.tail prog w) gs s) : ∃ ep epP, Rep B (pre ++ G.tailE prog w ep epP) gs s := by
  have hS : ∀ n, ∃ ep, n ∈ G.names → ∃ o, s.heap.get? (G.S n) = some o ∧ ADict prog w (G.sk n) ep o := fun n => by
    by_cases hn : n ∈ G.names
    · obtain ⟨o, ho, ep, hp⟩ := R.o _ _ (List.mem_append_right _ (Gr.memS hn))
      exact ⟨ep, fun _ => ⟨o, ho, hp⟩⟩
    · exact ⟨0, fun h => absurd h hn⟩
  have hP : ∀ n, ∃ ep, n ∈ G.names → ∃ o, s.heap.get? (G.P n) = some o ∧ ADict prog w (G.pk n) ep o := fun n => by
    by_cases hn : n ∈ G.names
    · obtain ⟨o, ho, ep, hp⟩ := R.o _ _ (List.mem_append_right _ (Gr.memP hn))
      exact ⟨ep, fun _ => ⟨o, ho, hp⟩⟩
    · exact ⟨0, fun h => absurd h hn⟩
  refine ⟨fun n => (hS n).choose, fun n => (hP n).choose, R.b, fun a q h => ?_, fun a q h => ?_, ?_, R.gens, R.os⟩
  · rcases List.mem_append.mp h with h | h
    · exact R.o a q (List.mem_append_left _ h)
    · rcases List.mem_append.mp h with h | h
      · obtain ⟨n, hn, e⟩ := List.mem_map.mp h
        cases e
        exact (hS n).choose_spec hn
      · rcases List.mem_append.mp h with h | h
        · obtain ⟨n, hn, e⟩ := List.mem_map.mp h
          cases e
          exact (hP n).choose_spec hn
        · exact R.o a q (List.mem_append_right _ (List.mem_append_right _ (List.mem_append_right _ h)))
  · have hk : a ∈ (pre ++ G.tail prog w).map (·.1) := by
      have : a ∈ (pre ++ G.tailE prog w (fun n => (hS n).choose) fun n => (hP n).choose).map (·.1) := List.mem_map_of_mem (f := (·.1)) h
      rw [List.map_append, Gr.tailE_keys, ← List.map_append] at this
      exact this
    obtain ⟨⟨a', q'⟩, hm, rfl⟩ := List.mem_map.mp hk
    exact R.dis _ _ hm
  · rw [List.map_append, Gr.tailE_keys, ← List.map_append]
    exact R.nd
theorem perm_idom {α : Type} {a b x : α} {D Y rest T : List α} : (a :: b :: (D ++ (x :: (Y ++ (rest ++ T))))).Perm (b :: (D ++ (rest ++ (x :: a :: (Y ++ T))))) := by
  have h1 : (rest ++ ((x :: a :: Y) ++ T)).Perm ((x :: a :: Y) ++ (rest ++ T)) := List.perm_append_comm_assoc _ _ _
  refine List.Perm.symm (((h1.append_left D).cons b).trans ?_)
  refine List.Perm.trans (List.Perm.cons _ ((List.Perm.append_left D (List.Perm.swap _ _ _)).trans List.perm_middle)) ?_
  exact List.Perm.swap _ _ _
theorem predIn_more {G : Gr} (h : G.more = []) : predIn G.fields G.pr = Gr.fields { G with more := [(Str.ofString "pred", Value.ref G.pr)] } := by
  unfold predIn Gr.fields
  rw [h]
  rfl
def predMore (G : Gr) (m : List (Str × Value)) : Prop := m = [] ∨ m = [(Str.ofString "pred", Value.ref G.pr)]
/-- a call of the claim's function, whatever else stands around -/
theorem idom_call (T : TopB (hd.heap_39 w.params) p loose mg mb B) (BM : BMain mg B) (hA : AOk B A 70) (hsys : B.f sysModules ≠ none) {G : Gr} (hG : G.Ok) (hmore : predMore G G.more) {s0 : Int} (hs0 : s0 ∈ G.names)
  {es : List (Pos × Addr)} (hes : es = [] ∨ ∃ c, es = [(⟨8, 11, 8, 53⟩, c)]) {tb : Option (Addr × Option Addr)} (hgs : AllFin gs) {rest : Own}
  (h : ∀ d t m es' tb' g', IdomOk (fun x y => y ∈ (G.sk x).map (·.1)) s0 (Reach (fun x => (G.sk x).map (·.1)) (· ∈ G.names) s0) t → predMore G m → (es' = [] ∨ ∃ c, es' = [(⟨8, 11, 8, 53⟩, c)]) → AllFin g' →
    Q (.ref d) ((d, AD prog w (treeKv t)) :: (43, ATab es') :: (dOwn tb' ++ (rest ++ Gr.res 873 prog w { G with more := m }))) g') :
  CallC prog w B A (.ref 87) [.ref G.x, iv s0] ((43, ATab es) :: (dOwn tb ++ (rest ++ G.res 873 prog w))) gs Q := by
  intro us hus s R
  have hml : G.more.length ≤ 10 := by rcases hmore with h | h <;> rw [h] <;> simp
  have hpd : valueAt G.fields "pred" = none ∨ valueAt G.fields "pred" = some (.ref G.pr) := by
    rcases hmore with h | h
    · left; unfold Gr.fields; rw [h]; rfl
    · right; unfold Gr.fields; rw [h]; rfl
  have hne : (G.dx == sysModules) = false := by
    rw [beq_eq_false_iff_ne]
    intro e
    have := R.dis G.dx (AVars prog w G.fields) (by
      refine .tail _ (List.mem_append_right _ (List.mem_append_right _ ?_))
      exact .tail _ (.head _))
    rw [e] at this
    exact hsys this
  have R1 : Rep B ((((43, ATab es) :: (dOwn tb ++ rest)) ++ [(G.x, AInst 873 G.dx), (G.dx, AVars prog w G.fields), (G.gr, AEmpty), (G.nd, AD prog w (Gr.outer G.names G.N)), (G.su, AD prog w (Gr.outer G.names G.S)), (G.pr, AD prog w (Gr.outer G.names G.P))]) ++ G.tail prog w) gs s := by
    have e : (43, ATab es) :: (dOwn tb ++ (rest ++ G.res 873 prog w)) = (((43, ATab es) :: (dOwn tb ++ rest)) ++ [(G.x, AInst 873 G.dx), (G.dx, AVars prog w G.fields), (G.gr, AEmpty), (G.nd, AD prog w (Gr.outer G.names G.N)), (G.su, AD prog w (Gr.outer G.names G.S)), (G.pr, AD prog w (Gr.outer G.names G.P))]) ++ G.tail prog w := by
      simp [Gr.res]
    rw [← e]; exact R
  obtain ⟨ep, epP, R2⟩ := R1.openTail
  refine JC_drop (CallC_frame (B := B) (A := A) (gs := gs) (f := .ref 87) (args := [.ref G.x, iv s0]) (Q := fun v o g => ∃ o₂, Sub o₂ o ∧ Q v o₂ g) (give := (G.dx, AVars prog w G.fields) :: (43, ATab es) :: dOwn tb)
    (fr := (G.x, AInst 873 G.dx) :: (G.gr, AEmpty) :: (G.nd, AD prog w (Gr.outer G.names G.N)) :: (G.su, AD prog w (Gr.outer G.names G.S)) :: (G.pr, AD prog w (Gr.outer G.names G.P)) :: (rest ++ G.tailE prog w ep epP)) ?_ (fun B2 hl2 hfr2 => ?_) us hus) s R2
  · refine Sub.of_perm ?_
    have e : (((43, ATab es) :: (dOwn tb ++ rest)) ++ [(G.x, AInst 873 G.dx), (G.dx, AVars prog w G.fields), (G.gr, AEmpty), (G.nd, AD prog w (Gr.outer G.names G.N)), (G.su, AD prog w (Gr.outer G.names G.S)), (G.pr, AD prog w (Gr.outer G.names G.P))]) ++ G.tailE prog w ep epP =
      (43, ATab es) :: (dOwn tb ++ (rest ++ ((G.x, AInst 873 G.dx) :: (G.dx, AVars prog w G.fields) :: ([(G.gr, AEmpty), (G.nd, AD prog w (Gr.outer G.names G.N)), (G.su, AD prog w (Gr.outer G.names G.S)), (G.pr, AD prog w (Gr.outer G.names G.P))] ++ G.tailE prog w ep epP)))) := by simp
    rw [e]
    exact perm_idom (a := (G.dx, AVars prog w G.fields)) (b := (43, ATab es)) (x := (G.x, AInst 873 G.dx)) (D := dOwn tb) (Y := [(G.gr, AEmpty), (G.nd, AD prog w (Gr.outer G.names G.N)), (G.su, AD prog w (Gr.outer G.names G.S)), (G.pr, AD prog w (Gr.outer G.names G.P))]) (rest := rest) (T := G.tailE prog w ep epP)
  · have T2 := T.le hl2
    have hIB : IBase 873 prog w B2 G ep epP := by
      refine ⟨hfr2 _ (.head _), hfr2 _ (.tail _ (.tail _ (.head _))), hfr2 _ (.tail _ (.tail _ (.tail _ (.head _)))), hfr2 _ (.tail _ (.tail _ (.tail _ (.tail _ (.head _))))), fun n hn => ?_, fun n hn => ?_⟩
      · exact hfr2 (G.S n, ADict prog w (G.sk n) (ep n)) (.tail _ (.tail _ (.tail _ (.tail _ (.tail _ (List.mem_append_right _ (List.mem_append_left _ (List.mem_map_of_mem (f := fun n => (G.S n, ADict prog w (G.sk n) (ep n))) hn))))))))
      · exact hfr2 (G.P n, ADict prog w (G.pk n) (epP n)) (.tail _ (.tail _ (.tail _ (.tail _ (.tail _ (List.mem_append_right _ (List.mem_append_right _ (List.mem_append_left _ (List.mem_map_of_mem (f := fun n => (G.P n, ADict prog w (G.pk n) (epP n))) hn)))))))))
    refine CodeC.call (idom_spec T2 (BM.le hl2) ((hA.le hl2).less) hG hIB hs0 hes hgs hne hpd hml fun d t kvs es' tb' g' hid hk hes' hg' => ?_)
    obtain ⟨m, hm, hkm⟩ : ∃ m, predMore G m ∧ kvs = Gr.fields { G with more := m } := by
      rcases hk with rfl | rfl
      · exact ⟨G.more, hmore, rfl⟩
      · rcases hmore with h | h
        · exact ⟨_, .inr rfl, predIn_more h⟩
        · refine ⟨G.more, .inr h, predIn_in ?_⟩
          unfold Gr.fields; rw [h]; rfl
    subst hkm
    refine ⟨_, ?_, h d t m es' tb' g' hid hm hes' hg'⟩
    have e2 : ((d, AD prog w (treeKv t)) :: (G.dx, AVars prog w (Gr.fields { G with more := m })) :: (43, ATab es') :: dOwn tb') ++ ((G.x, AInst 873 G.dx) :: (G.gr, AEmpty) :: (G.nd, AD prog w (Gr.outer G.names G.N)) :: (G.su, AD prog w (Gr.outer G.names G.S)) :: (G.pr, AD prog w (Gr.outer G.names G.P)) :: (rest ++ G.tailE prog w ep epP)) =
      ((d, AD prog w (treeKv t)) :: (G.dx, AVars prog w (Gr.fields { G with more := m })) :: (43, ATab es') :: (dOwn tb' ++ ((G.x, AInst 873 G.dx) :: ([(G.gr, AEmpty), (G.nd, AD prog w (Gr.outer G.names G.N)), (G.su, AD prog w (Gr.outer G.names G.S)), (G.pr, AD prog w (Gr.outer G.names G.P))] ++ rest)))) ++ G.tailE prog w ep epP := by simp
    rw [e2]
    refine Sub.trans ?_ Gr.tailE_sub
    refine Sub.of_perm ?_
    have e3 : ((d, AD prog w (treeKv t)) :: (G.dx, AVars prog w (Gr.fields { G with more := m })) :: (43, ATab es') :: (dOwn tb' ++ ((G.x, AInst 873 G.dx) :: ([(G.gr, AEmpty), (G.nd, AD prog w (Gr.outer G.names G.N)), (G.su, AD prog w (Gr.outer G.names G.S)), (G.pr, AD prog w (Gr.outer G.names G.P))] ++ rest)))) ++ G.tail prog w =
      (d, AD prog w (treeKv t)) :: (G.dx, AVars prog w (Gr.fields { G with more := m })) :: (43, ATab es') :: (dOwn tb' ++ ((G.x, AInst 873 G.dx) :: ([(G.gr, AEmpty), (G.nd, AD prog w (Gr.outer G.names G.N)), (G.su, AD prog w (Gr.outer G.names G.S)), (G.pr, AD prog w (Gr.outer G.names G.P))] ++ (rest ++ G.tail prog w)))) := by simp
    rw [e3]
    exact ((perm_idom (a := (G.dx, AVars prog w (Gr.fields { G with more := m }))) (b := (43, ATab es')) (x := (G.x, AInst 873 G.dx)) (D := dOwn tb') (Y := [(G.gr, AEmpty), (G.nd, AD prog w (Gr.outer G.names G.N)), (G.su, AD prog w (Gr.outer G.names G.S)), (G.pr, AD prog w (Gr.outer G.names G.P))]) (rest := rest) (T := G.tail prog w)).cons _).symm
/-- a call of the law's own search, whatever else stands around -/
theorem walk_call (T : TopB (hd.heap_39 w.params) p loose mg mb B) (hA : AOk B A 3) {W al : Addr} {names allowed : List Int} {wl : Int → Addr} {succ : Int → List Int} {ep : Nat} {first : Int}
  (hW : (W, ADict prog w (Gr.outer names wl) ep) ∈ own) (hal : (al, AList (allowed.map iv)) ∈ own) (hsub : ∀ k ∈ allowed, k ∈ names) (hw : ∀ k ∈ names, (wl k, AList ((succ k).map iv)) ∈ own) (hlen : allowed.length ≤ 1000)
  (h : ∀ (l : Addr) (res : List Int), res.Nodup → (∀ x, x ∈ res ↔ Reach succ (· ∈ allowed) first x) → Q (.ref l) ((l, AList (res.map iv)) :: own) gs) : CallJ prog w B A (.ref 894) [.ref W, iv first, .ref al] own gs Q := by
  refine CallJ_frame (give := []) (fr := own) (Sub.refl _) fun B2 hl2 hfr2 => ?_
  intro us hus
  refine J_mono (walk_spec (T.le hl2) (hA.le hl2) (hfr2 _ hW) (hfr2 _ hal) hlen (fun k hk => ⟨wl k, by rw [valueAt_outer, if_pos (hsub k hk)], hfr2 _ (hw k (hsub k hk))⟩) us hus) fun v o g ⟨l, res, e1, e2, e3, h1, h2⟩ => ?_
  rw [e1, e2, e3]
  exact h l res h1 h2
end
end Mine
end
section
set_option autoImplicit false
set_option linter.unusedVariables false
namespace Mine
section
variable {E E' : Int → Int → Prop} {s : Int} {R R' : Int → Prop} {t : List (Int × Int)}
theorem avoid_congr {names : List Int} (hs : s ∈ names) (hE : ∀ x ∈ names, ∀ y, E x y ↔ E' x y) (hcl : ∀ x ∈ names, ∀ y, E x y → y ∈ names) {w x : Int} : Avoid E s w x ↔ Avoid E' s w x := by
  constructor
  · intro h
    have : Avoid E' s w x ∧ x ∈ names := by
      induction h with
      | start h => exact ⟨.start h, hs⟩
      | step _ e n ih => exact ⟨.step ih.1 ((hE _ ih.2 _).mp e) n, hcl _ ih.2 _ e⟩
    exact this.1
  · intro h
    have : Avoid E s w x ∧ x ∈ names := by
      induction h with
      | start h => exact ⟨.start h, hs⟩
      | step _ e n ih =>
        have e' := (hE _ ih.2 _).mpr e
        exact ⟨.step ih.1 e' n, hcl _ ih.2 _ e'⟩
    exact this.1
theorem IdomOk.congr (h : IdomOk E s R t) (hR : ∀ x, R x ↔ R' x) (hE : ∀ w x, Avoid E s w x ↔ Avoid E' s w x) : IdomOk E' s R' t where
  nd := h.nd
  keys := fun x => by rw [h.keys x, hR x]
  dom := fun x w hx hw => by rw [h.dom x w ((hR x).mpr hx) ((hR w).mpr hw), hE]
  num := h.num
  up := fun x y e => (hR y).mp (h.up x y e)
theorem reach_congr {f g : Int → List Int} {names : List Int} (h : ∀ x ∈ names, ∀ y, y ∈ f x ↔ y ∈ g x) {a b : Int} : Reach f (· ∈ names) a b ↔ Reach g (· ∈ names) a b := by
  constructor
  · intro q
    induction q with
    | refl h => exact .refl h
    | step r e o ih => exact .step ih ((h _ r.ok _).mp e) o
  · intro q
    induction q with
    | refl h => exact .refl h
    | step r e o ih => exact .step ih ((h _ r.ok _).mpr e) o
end
end Mine
end
section
set_option maxRecDepth 100000
set_option maxHeartbeats 4000000
open PySem PySem.Calls PyProof.Rows PySem.W PySem.Spec
namespace Mine
example : PySem.Challenge.rw_ci0025_01.prog = PySem.Challenge.rw_ci0025_01.prog ∧ hd.heap_39 = hd.heap_39 := by k_fill; exact ⟨rfl, rfl⟩
local macro_rules | `(tactic| k_mem) => `(tactic| first | apply List.Mem.head | exact Gr.memS (by assumption) | exact Gr.memP (by assumption) | exact Gr.memJ (by assumption) | (apply List.Mem.tail; k_mem))
local macro_rules | `(tactic| walk_at "has") => `(tactic| first | (apply Has.own; k_mem) | (apply Has.base; assumption))
local macro_rules | `(tactic| walk_at "upd") => `(tactic| first | apply Upd.head | exact Gr.updS (by assumption) (by assumption) | exact Gr.updP (by assumption) (by assumption) | (apply Upd.tail; walk_at "upd"))
local macro_rules | `(tactic| walk_at "setl") => `(tactic| first | apply SetL.nil | apply SetL.here | (apply SetL.next (by rfl); walk_at "setl"))
local macro_rules | `(tactic| walk_at "cells") => `(tactic| repeat' (first | refine Cells_nil ?_ | refine Cells_skip (by decide) ?_ | (refine Cells_cell ?_; intro _)))
local macro_rules | `(tactic| walk_at "pick") => `(tactic| first | apply PickR.head | (apply PickR.tail; walk_at "pick"))
local macro_rules | `(tactic| walk_at "weak") => `(tactic| first | exact fun _ h => h | exact AEmpty.toAD | (refine ANs.sub ?_; repeat' (first | exact List.forall_mem_nil _ | refine List.forall_mem_cons.mpr ⟨rfl, ?_⟩)))
local macro_rules | `(tactic| walk_at "subt") => `(tactic| first | exact Sub.refl _ | (refine Sub.skip ?_; walk_at "subt"))
local macro_rules | `(tactic| walk_at "sub") => `(tactic| first | apply Sub.nil | (refine' Sub.pick ?hp ?hw ?_; (case hp => walk_at "pick"); (case hw => walk_at "weak"); walk_at "sub") | walk_at "subt")
local macro_rules | `(tactic| walk_at "store") => `(tactic| first | (refine' Store_local ?hu ?hs ?_; (case hu => walk_at "upd"); (case hs => walk_at "setl")) | (refine' Store_cell ?hc ?hu ?_; (case hc => rfl); (case hu => walk_at "upd")))

local macro_rules | `(tactic| walk_at "name") => `(tactic| first
  | (refine' JV_local ?hn ?hv ?_; (case hn => walk_at "has"); (case hv => rfl))
  | (refine' JV_cell ?hc ?hn ?_; (case hc => rfl); (case hn => walk_at "has"))
  | (refine' JV_free ?hc ?hn ?_; (case hc => rfl); (case hn => walk_at "has")))
local macro_rules | `(tactic| walk_at "js") => `(tactic| first
  | with_reducible refine JF_cons ?_
  | with_reducible refine JF_nil ?_
  | refine JF_Assign ?_
  | with_reducible refine JF_If ?_
  | with_reducible refine JF_Return ?_
  | refine JF_Expr ?_
  | with_reducible refine JV_int ?_
  | with_reducible refine JV_bool ?_
  | with_reducible refine JV_none ?_
  | with_reducible refine JV_str ?_
  | with_reducible refine JV_BinOp ?_
  | refine JV_Compare ?_
  | with_reducible refine JV_IfExp ?_
  | refine Test_cmp ?_
  | with_reducible refine Test_not ?_
  | with_reducible refine Test_and ?_
  | with_reducible refine Test_and_nil ?_
  | with_reducible refine Test_or ?_
  | with_reducible refine Test_or_nil ?_
  | with_reducible refine Tru_bool ?_
  | refine JV_List ?_
  | refine JV_Tuple ?_
  | with_reducible refine Args_nil ?_
  | refine Args_cons ?_
  | with_reducible refine Bin_add ?_
  | with_reducible refine Cmp_eq ?_
  | with_reducible refine Cmp_ne ?_
  | with_reducible refine Cmp_lt ?_
  | with_reducible refine Cmp_le ?_
  | with_reducible refine Cmp_gt ?_
  | with_reducible refine Cmp_ge ?_
  | walk_at "name"
  | walk_at "store")
local macro_rules | `(tactic| walk_at "inst") => `(tactic| (refine' Inst.mk ?ix ?id; (case ix => walk_at "has"); (case id => walk_at "has")))
local macro_rules | `(tactic| walk_at "kfun") => `(tactic| (refine' Call_K (by assumption) (by assumption) ?k1 ?k2 ?k3 ?k4 ?_ ?k5 ?k6; (case k1 => k_is); (case k2 => rfl); (case k3 => rfl); (case k4 => k_is); (case k5 => rfl); (case k6 => rfl)))
local macro_rules | `(tactic| walk_at "kcode") => `(tactic| (refine' Code_K (by assumption) (by assumption) ?k1 ?k2 ?k3 ?k4 ?_ ?k5 ?k6; (case k1 => k_is); (case k2 => rfl); (case k3 => rfl); (case k4 => k_is); (case k5 => rfl); (case k6 => rfl)))
local macro_rules | `(tactic| walk_at "methk") => `(tactic| (refine' Meth_K (by assumption) ?mi ?mv ?_ ?g1 ?g2 ?g3 ?g4; (case mi => walk_at "inst"); (case mv => first | exact fields_none (by assumption) (by decide) | rfl); (case g1 => k_is); (case g2 => k_is); (case g3 => k_is); (case g4 => k_is)))
local macro_rules | `(tactic| walk_at "getown") => `(tactic| (refine' Get_own (by assumption) ?mi ?mv ?_ ?g1 ?g2 ?gh; (case mi => walk_at "inst"); (case mv => rfl); (case g1 => k_is); (case g2 => kernel_rfl); (case gh => rfl)))
local macro_rules | `(tactic| walk_at "setown") => `(tactic| (refine' SetAttr_inst (by assumption) ?sx ?sd ?sk ?_ ?se ?sl; (case sx => walk_at "has"); (case sd => walk_at "upd"); (case se => rfl); (case sl => exact Nat.le_of_ble_eq_true rfl); (case sk => kernel_rfl)))
local macro_rules | `(tactic| walk_at "keepk") => `(tactic| (exact Keep_K (by assumption) (by k_is)))
local macro_rules | `(tactic| walk_at "apart") => `(tactic| first | (apply Apart.left; k_mem; done) | (apply Apart.right; k_mem; done) | (apply Apart.tail; walk_at "apart"))
local macro_rules | `(tactic| walk_at "kgen") => `(tactic| (refine' Call_gen (by assumption) (by assumption) ?k1 ?k2 ?k3 ?k4 ?_ ?k5 ?k6; (case k1 => k_is); (case k2 => rfl); (case k3 => rfl); (case k4 => k_is); (case k5 => rfl); (case k6 => rfl)))
local macro_rules | `(tactic| walk_at "kcodec") => `(tactic| (refine' CodeC_K (by assumption) (by assumption) ?k1 ?k2 ?k3 ?k4 ?_ ?k5 ?k6; (case k1 => k_is); (case k2 => rfl); (case k3 => rfl); (case k4 => k_is); (case k5 => rfl); (case k6 => rfl)))
local macro_rules | `(tactic| walk_at "getk") => `(tactic| (refine' Get_K (by assumption) ?k1 ?k2 ?k3 ?k4 ?k5 ?g1 ?g2 ?g3 ?gh ?_; (case k1 => k_is); (case k2 => rfl); (case k3 => rfl); (case k4 => rfl); (case k5 => k_is); (case g1 => k_is); (case g2 => kernel_rfl); (case g3 => rfl); (case gh => rfl)))

section
variable {prog : Program} {w : World} {B : Bs} {A : Around} {own : Own} {gs : Array GenState} {p : Program} {loose : List Str} {mg mb : Str → Option Value}
/-- what stands when the tree is told -/
structure LawS2 (st : Int) (names : List Int) (succ : Int → List Int) (reached : List Int) (t : List (Int × Int)) : Prop where
  rnd : reached.Nodup
  rr : ∀ x, x ∈ reached ↔ Reach succ (· ∈ names) st x
  id : IdomOk (fun x y => y ∈ succ x) st (· ∈ reached) t
theorem LawSt.cl {N : List Int} {i : Nat} {st : Int} {names : List Int} {succ : Int → List Int} {G : Gr} (S : LawSt N i st names succ G) : ∀ u ∈ names, ∀ c ∈ succ u, c ∈ names := fun u hu c hc => by
  rw [S.sk u hu] at hc
  obtain ⟨e, he, rfl⟩ := List.mem_map.mp hc
  rw [← S.gn]
  exact (S.ok.sk u (by rw [S.gn]; exact hu) e he).1
theorem perm_out {α : Type} {D P W : List α} {R : List α} : (P ++ (D ++ (W ++ R))).Perm (D ++ ((P ++ W) ++ R)) := by
  have h : (P ++ (D ++ (W ++ R))).Perm (D ++ (P ++ (W ++ R))) := List.perm_append_comm_assoc _ _ _
  rw [List.append_assoc P W R]
  exact h
abbrev own12 (prog : Program) (w : World) (L cnode chead ckept cgone cabove ctree cstart cnum numl nl W td rl abv : Addr) (wl al : Int → Addr) (N : List Int) (i : Nat) (st : Int) (names : List Int) (succ : Int → List Int) (G : Gr) (reached : List Int) (t : List (Int × Int)) (ep : Nat) (es : List (Pos × Addr)) (tb : Option (Addr × Option Addr)) : Own :=
  (abv, AD prog w (Gr.outer reached al)) :: (td, AD prog w (treeKv t)) :: (rl, AList (reached.map iv)) :: (W, ADict prog w (Gr.outer names wl) ep) :: (L, ANs [(Str.ofString "size", iv i), (Str.ofString "names", .ref nl), (Str.ofString "graph", .ref G.x), (Str.ofString "ways", .ref W), (Str.ofString "reached", .ref rl)]) :: (cnode, ACell none) :: (chead, ACell none) :: (ckept, ACell none) :: (cgone, ACell none) :: (cabove, ACell (some (.ref abv))) :: (ctree, ACell (some (.ref td))) :: (cstart, ACell (some (iv st))) :: (cnum, ACell (some (.ref numl))) :: (numl, AList (N.map iv)) :: (nl, AList (names.map iv)) :: (43, ATab es) :: (waysOwn reached al (above t) ++ (dOwn tb ++ (waysOwn names wl succ ++ G.res 873 prog w)))
theorem law_two (T : TopB (hd.heap_39 w.params) p loose mg mb B) (BM : BMain mg B) (hsys : B.f sysModules ≠ none) {sco : Scope} {rest : List Stmt} (hat : lawAt 8 = some (sco, rest)) {A1 : Around} (hA1 : AOk B A1 299) {envs : Env} (hfr1 : A1.frames = some [envs]) (hh1 : A1.handled = none)
  (L cnode chead ckept cgone cabove ctree cstart cnum numl nl W : Addr) (wl : Int → Addr) {N : List Int} {i : Nat} {st : Int} {names : List Int} {succ : Int → List Int} {G : Gr} (S : LawSt N i st names succ G)
  (he : envs = lawEnv sco L cnode chead ckept cgone cabove ctree cstart cnum)
  (H2 : ∀ (sco : Scope) (rest : List Stmt), lawAt 12 = some (sco, rest) → envs = lawEnv sco L cnode chead ckept cgone cabove ctree cstart cnum → ∀ (td rl abv : Addr) (al : Int → Addr) (reached : List Int) (t : List (Int × Int)) (ep : Nat) (m : List (Str × Value)) (es : List (Pos × Addr)) (tb : Option (Addr × Option Addr)) (g : Array GenState), LawS2 st names succ reached t → predMore G m → (es = [] ∨ ∃ c, es = [(⟨8, 11, 8, 53⟩, c)]) → AllFin g →
    JCF prog w B A1 (execs rest (lawEnv sco L cnode chead ckept cgone cabove ctree cstart cnum)) (own12 prog w L cnode chead ckept cgone cabove ctree cstart cnum numl nl W td rl abv wl al N i st names succ { G with more := m } reached t ep es tb) g LawEnd) :
    JCF prog w B A1 (execs rest (lawEnv sco L cnode chead ckept cgone cabove ctree cstart cnum)) ((L, ANs [(Str.ofString "size", iv i), (Str.ofString "names", .ref nl), (Str.ofString "graph", .ref G.x), (Str.ofString "ways", .ref W)]) :: (cnode, ACell none) :: (chead, ACell none) :: (ckept, ACell none) :: (cgone, ACell none) :: (cabove, ACell none) :: (ctree, ACell none) :: (cstart, ACell (some (iv st))) :: (cnum, ACell (some (.ref numl))) :: (numl, AList (N.map iv)) :: (nl, AList (names.map iv)) :: (W, AD prog w (Gr.outer names wl)) :: (43, ATab []) :: (84, ATab []) :: (waysOwn names wl succ ++ G.res 873 prog w)) #[] LawEnd := by
  cases (show some (_, _) = some (sco, rest) from hat)
  clear hat
  dsimp only [lawEnv, newEnv]
  refine JCF_sub (o₂ := (W, AD prog w (Gr.outer names wl)) :: (L, ANs [(Str.ofString "size", iv i), (Str.ofString "names", .ref nl), (Str.ofString "graph", .ref G.x), (Str.ofString "ways", .ref W)]) :: (cnode, ACell none) :: (chead, ACell none) :: (ckept, ACell none) :: (cgone, ACell none) :: (cabove, ACell none) :: (ctree, ACell none) :: (cstart, ACell (some (iv st))) :: (cnum, ACell (some (.ref numl))) :: (numl, AList (N.map iv)) :: (nl, AList (names.map iv)) :: (43, ATab []) :: (84, ATab []) :: (waysOwn names wl succ ++ G.res 873 prog w)) (by walk_at "sub") ?_
  refine JCF_openHead (f := fun ep => ADict prog w (Gr.outer names wl) ep) (fun o ho => ho) fun ep => ?_
  have hle : names.length ≤ 1000 := by have := S.nl; have := S.i7; omega
  -- reached
  refine JCF_cons (JF_clean (JF_Assign (JV_Call (JV_global T (by k_is) ⟨rfl, ?_⟩))))
  refine Args_cons ?_
  walk_at "name"
  refine Args_cons ?_
  walk_at "name"
  refine Args_cons ?_
  walk_at "name"
  refine Args_nil ⟨by walk_at "keepk", ?_⟩
  refine walk_call T (hA1.less) (names := names) (allowed := names) (by k_mem) (by k_mem) (fun _ h => h) (fun k hk => by
    repeat (first | exact List.mem_append_left _ (waysOwn.mem hk) | apply List.Mem.tail)) hle fun rl reached hrn hrr => ?_
  walk_at "store"
  dsimp only
  -- tree
  refine JCF_cons (JCF_Assign (JCV_Call (JV_global T (by k_is) ⟨rfl, ?_⟩)))
  refine ArgsC_cons (JV_clean ?_)
  walk_at "name"
  refine ArgsC_cons (JV_clean ?_)
  walk_at "name"
  refine ArgsC_nil ⟨by walk_at "keepk", ?_⟩
  refine CallC_sub (o₂ := (43, ATab []) :: (dOwn none ++ (([(rl, AList (reached.map iv)), (W, ADict prog w (Gr.outer names wl) ep), (L, ANs [(Str.ofString "size", iv i), (Str.ofString "names", .ref nl), (Str.ofString "graph", .ref G.x), (Str.ofString "ways", .ref W), (Str.ofString "reached", .ref rl)]), (cnode, ACell none), (chead, ACell none), (ckept, ACell none), (cgone, ACell none), (cabove, ACell none), (ctree, ACell none), (cstart, ACell (some (iv st))), (cnum, ACell (some (.ref numl))), (numl, AList (N.map iv)), (nl, AList (names.map iv))] ++ waysOwn names wl succ) ++ G.res 873 prog w))) ?_ ?_
  · dsimp only [dOwn, dTab, List.cons_append, List.nil_append]
    walk_at "sub"
  refine idom_call T BM (hA1.less) hsys S.ok (.inl S.more) (by rw [S.gn]; exact S.st) (.inl rfl) AllFin.nil fun td t m es tb g' hid hm hes hg' => ?_
  have hid2 : IdomOk (fun x y => y ∈ succ x) st (· ∈ reached) t := by
    refine hid.congr (fun x => ?_) fun w x => ?_
    · rw [hrr x, S.gn]
      exact reach_congr (fun x hx y => (S.sk x hx y).symm)
    · exact avoid_congr S.st (fun x hx y => (S.sk x hx y).symm) (fun x hx y hy => S.cl x hx y ((S.sk x hx y).mpr hy))
  have S2 : LawS2 st names succ reached t := ⟨hrn, hrr, hid2⟩
  refine StoreJ_sub (o₂ := (td, AD prog w (treeKv t)) :: (43, ATab es) :: (rl, AList (reached.map iv)) :: (W, ADict prog w (Gr.outer names wl) ep) :: (L, ANs [(Str.ofString "size", iv i), (Str.ofString "names", .ref nl), (Str.ofString "graph", .ref G.x), (Str.ofString "ways", .ref W), (Str.ofString "reached", .ref rl)]) :: (cnode, ACell none) :: (chead, ACell none) :: (ckept, ACell none) :: (cgone, ACell none) :: (cabove, ACell none) :: (ctree, ACell none) :: (cstart, ACell (some (iv st))) :: (cnum, ACell (some (.ref numl))) :: (numl, AList (N.map iv)) :: (nl, AList (names.map iv)) :: (dOwn tb ++ (waysOwn names wl succ ++ Gr.res 873 prog w { G with more := m }))) ?_ ?_
  · exact Sub.keep (Sub.keep (Sub.of_perm (perm_out (P := [(rl, AList (reached.map iv)), (W, ADict prog w (Gr.outer names wl) ep), (L, ANs [(Str.ofString "size", iv i), (Str.ofString "names", .ref nl), (Str.ofString "graph", .ref G.x), (Str.ofString "ways", .ref W), (Str.ofString "reached", .ref rl)]), (cnode, ACell none), (chead, ACell none), (ckept, ACell none), (cgone, ACell none), (cabove, ACell none), (ctree, ACell none), (cstart, ACell (some (iv st))), (cnum, ACell (some (.ref numl))), (numl, AList (N.map iv)), (nl, AList (names.map iv))]) (D := dOwn tb) (W := waysOwn names wl succ) (R := Gr.res 873 prog w { G with more := m }))))
  walk_at "store"
  dsimp only
  have hrsub : ∀ x ∈ reached, x ∈ names := fun x hx => ((hrr x).mp hx).ok
  have hr7 : reached.length ≤ 7 := by have := nodup_le hrn hrsub; have := S.nl; have := S.i7; omega
  have ht7 : t.length ≤ 7 := by
    have := nodup_le hid2.nd fun x hx => ((hid2.keys x).mp hx).1
    simp at this; omega
  -- if sorted(tree) != sorted(..)
  refine JCF_cons (JF_clean (JF_If (Test_cmp (JV_Call (JV_builtin T (by k_is) boot_sorted ⟨rfl, ?_⟩)))))
  refine Args_cons ?_
  walk_at "name"
  refine Args_nil ⟨Keep_builtin, Call_sortedDict T hh1 (by walk_at "has") (by simp [treeKv]; omega) fun a1 ms1 hp1 hs1 => ?_⟩
  refine JV_Call (JV_builtin T (by k_is) boot_sorted ⟨rfl, ?_⟩)
  refine Args_cons ?_
  refine' JV_filterList (l := rl) (ns := reached) (fun k => decide (k ≠ st)) hA1 ?c1 ?c2 ?c3 ?c4 ?_
  case c1 => walk_at "name"; exact ⟨rfl, rfl, rfl⟩
  case c2 => walk_at "has"
  case c3 => omega
  case c4 =>
    intro acc C k one out it hx
    dsimp only [cenv, newEnv]
    refine Test_cmp ?_
    walk_at "name"
    walk_at "name"
    refine Cmp_ne (Tru_bool ⟨?_, rfl, rfl⟩)
    by_cases e : one = st <;> simp [e]
  intro acc
  refine Args_nil ⟨Keep_builtin, Call_sortedList (by walk_at "has") (Nat.lt_of_le_of_lt (List.length_filter_le _ _) (by omega)) fun a2 ms2 hp2 hs2 => ?_⟩
  refine Cmp_neLists hA1 (by walk_at "has") (by walk_at "has") (Tru_bool ?_)
  have hms : ms1 = ms2 := by
    refine sorted_eq hs1 hs2 ((hp1.trans ?_).trans hp2.symm)
    have : (treeKv t).map (·.1) = t.map (·.1) := by unfold treeKv; rw [List.map_map]; rfl
    rw [this]
    refine nodup_perm hid2.nd (hrn.filter _) fun x => ?_
    rw [hid2.keys x, List.mem_filter]
    simp
  rw [hms, if_neg (by simp)]
  refine JF_nil ?_
  dsimp only
  -- above
  refine JCF_cons (JF_clean (JF_Assign (JV_DictComp ?_)))
  walk_at "name"
  refine Iter_list (by walk_at "has") fun it acc2 C2 => ?_
  walk_at "cells"
  dsimp only [newEnv]
  refine CJ_start rfl rfl rfl (Iter_listIter (i := 0) (by walk_at "has") ⟨rfl, rfl, rfl⟩) ?_
  generalize hTL : dOwn tb ++ (waysOwn names wl succ ++ Gr.res 873 prog w { G with more := m }) = TL
  refine CJ_dict (fun n o g => ∃ k, k ≤ reached.length ∧ n = reached.length - k ∧ g = g' ∧ ∃ al AO o₂, AO.Perm (waysOwn (reached.take k) al (above t)) ∧ Sub o₂ o ∧ o₂ = (it, AListIter rl k) :: (C2, ANs []) :: (acc2, AD prog w (Gr.outer (reached.take k) al)) :: (td, AD prog w (treeKv t)) :: (rl, AList (reached.map iv)) :: (W, ADict prog w (Gr.outer names wl) ep) :: (L, ANs [(Str.ofString "size", iv i), (Str.ofString "names", .ref nl), (Str.ofString "graph", .ref G.x), (Str.ofString "ways", .ref W), (Str.ofString "reached", .ref rl)]) :: (cnode, ACell none) :: (chead, ACell none) :: (ckept, ACell none) :: (cgone, ACell none) :: (cabove, ACell none) :: (ctree, ACell (some (.ref td))) :: (cstart, ACell (some (iv st))) :: (cnum, ACell (some (.ref numl))) :: (numl, AList (N.map iv)) :: (nl, AList (names.map iv)) :: (43, ATab es) :: (AO ++ TL)) ?_ reached.length ⟨0, Nat.zero_le _, rfl, rfl, fun _ => 0, [], _, List.Perm.nil, ?_, rfl⟩
  · rintro n o g ⟨k, hk, rfl, rfl, al, AO, o₂, hAO, hsub, rfl⟩
    refine NextJ_sub hsub (Next_list' hA1 (by walk_at "has") ?_)
    cases hx : reached[k]? with
    | some one =>
      have hlt : k < reached.length := (List.getElem?_eq_some_iff.mp hx).1
      rw [show (reached.map iv)[k]? = some (iv one) by rw [List.getElem?_map, hx]; rfl]
      have htk : reached.take (k + 1) = reached.take k ++ [one] := by rw [List.take_add_one, hx]; rfl
      have hnot : one ∉ reached.take k := by
        intro hm
        obtain ⟨j, hj, e⟩ := List.mem_iff_getElem.mp hm
        rw [List.getElem_take] at e
        have hjk : j < k := by rw [List.length_take] at hj; omega
        exact absurd ((List.getElem_inj hrn).mp (e.trans (List.getElem?_eq_some_iff.mp hx).2.symm)) (by omega)
      intro u hu
      refine J_pure ?_
      refine Assign_name ?_
      walk_at "store"
      refine Ifs_nil ?_
      rw [if_pos rfl]
      walk_at "name"
      refine JV_Call (JV_global T (by k_is) ⟨rfl, ?_⟩)
      refine Args_cons ?_
      walk_at "name"
      refine Args_cons ?_
      walk_at "name"
      refine Args_nil ⟨by walk_at "keepk", ?_⟩
      refine above_spec T (hA1.less) (t := t) (by walk_at "has") (by omega) fun l => ?_
      refine ⟨one, Gr.outer (reached.take k) al, _, rfl, by walk_at "upd", ?_, reached.length - (k + 1), by omega, k + 1, hlt, rfl, rfl, fun m => if m = one then l else al m, (l, AList ((above t one).map iv)) :: AO, _, ?_, ?_, rfl⟩
      · simp [Gr.outer]; omega
      · rw [htk, waysOwn.snoc' hnot]
        exact (List.Perm.cons _ hAO).trans (List.perm_append_singleton _ _).symm
      · rw [htk, outer.snoc hnot]
        dsimp only [List.cons_append]
        walk_at "sub"
    | none =>
      have hle := List.getElem?_eq_none_iff.mp hx
      have hkl : k = reached.length := by omega
      subst hkl
      rw [show (reached.map iv)[reached.length]? = none by rw [List.getElem?_map, hx]; rfl]
      refine ⟨_, _, PickR.head _, ?_⟩
      rw [List.take_length]
      walk_at "store"
      rw [List.take_length] at hAO
      refine JCF_sub ?_ (H2 _ _ rfl he td rl acc2 al reached t ep m es tb g S2 hm hes hg')
      dsimp only [own12]
      rw [hTL]
      refine Sub.trans (b := (acc2, AD prog w (Gr.outer reached al)) :: (td, AD prog w (treeKv t)) :: (rl, AList (reached.map iv)) :: (W, ADict prog w (Gr.outer names wl) ep) :: (L, ANs [(Str.ofString "size", iv i), (Str.ofString "names", .ref nl), (Str.ofString "graph", .ref G.x), (Str.ofString "ways", .ref W), (Str.ofString "reached", .ref rl)]) :: (cnode, ACell none) :: (chead, ACell none) :: (ckept, ACell none) :: (cgone, ACell none) :: (cabove, ACell (some (.ref acc2))) :: (ctree, ACell (some (.ref td))) :: (cstart, ACell (some (iv st))) :: (cnum, ACell (some (.ref numl))) :: (numl, AList (N.map iv)) :: (nl, AList (names.map iv)) :: (43, ATab es) :: (AO ++ TL)) ?_ ?_
      · repeat (first | exact Sub.of_perm (List.Perm.append_right _ hAO.symm) | apply Sub.keep)
      · walk_at "sub"
  · dsimp only [List.nil_append]
    walk_at "sub"
end
end Mine
end
section
set_option maxRecDepth 100000
set_option maxHeartbeats 4000000
open PySem PySem.Calls PyProof.Rows PySem.W PySem.Spec
namespace Mine
example : PySem.Challenge.rw_ci0025_01.prog = PySem.Challenge.rw_ci0025_01.prog ∧ hd.heap_39 = hd.heap_39 := by k_fill; exact ⟨rfl, rfl⟩
local macro_rules | `(tactic| k_mem) => `(tactic| first | apply List.Mem.head | exact Gr.memS (by assumption) | exact Gr.memP (by assumption) | exact Gr.memJ (by assumption) | (apply List.Mem.tail; k_mem))
local macro_rules | `(tactic| walk_at "has") => `(tactic| first | (apply Has.own; k_mem) | (apply Has.base; assumption))
local macro_rules | `(tactic| walk_at "upd") => `(tactic| first | apply Upd.head | exact Gr.updS (by assumption) (by assumption) | exact Gr.updP (by assumption) (by assumption) | (apply Upd.tail; walk_at "upd"))
local macro_rules | `(tactic| walk_at "setl") => `(tactic| first | apply SetL.nil | apply SetL.here | (apply SetL.next (by rfl); walk_at "setl"))
local macro_rules | `(tactic| walk_at "cells") => `(tactic| repeat' (first | refine Cells_nil ?_ | refine Cells_skip (by decide) ?_ | (refine Cells_cell ?_; intro _)))
local macro_rules | `(tactic| walk_at "pick") => `(tactic| first | apply PickR.head | (apply PickR.tail; walk_at "pick"))
local macro_rules | `(tactic| walk_at "weak") => `(tactic| first | exact fun _ h => h | exact AEmpty.toAD | (refine ANs.sub ?_; repeat' (first | exact List.forall_mem_nil _ | refine List.forall_mem_cons.mpr ⟨rfl, ?_⟩)))
local macro_rules | `(tactic| walk_at "subt") => `(tactic| first | exact Sub.refl _ | (refine Sub.skip ?_; walk_at "subt"))
local macro_rules | `(tactic| walk_at "sub") => `(tactic| first | apply Sub.nil | (refine' Sub.pick ?hp ?hw ?_; (case hp => walk_at "pick"); (case hw => walk_at "weak"); walk_at "sub") | walk_at "subt")
local macro_rules | `(tactic| walk_at "store") => `(tactic| first | (refine' Store_local ?hu ?hs ?_; (case hu => walk_at "upd"); (case hs => walk_at "setl")) | (refine' Store_cell ?hc ?hu ?_; (case hc => rfl); (case hu => walk_at "upd")))

local macro_rules | `(tactic| walk_at "name") => `(tactic| first
  | (refine' JV_local ?hn ?hv ?_; (case hn => walk_at "has"); (case hv => rfl))
  | (refine' JV_cell ?hc ?hn ?_; (case hc => rfl); (case hn => walk_at "has"))
  | (refine' JV_free ?hc ?hn ?_; (case hc => rfl); (case hn => walk_at "has")))
local macro_rules | `(tactic| walk_at "js") => `(tactic| first
  | with_reducible refine JF_cons ?_
  | with_reducible refine JF_nil ?_
  | refine JF_Assign ?_
  | with_reducible refine JF_If ?_
  | with_reducible refine JF_Return ?_
  | refine JF_Expr ?_
  | with_reducible refine JV_int ?_
  | with_reducible refine JV_bool ?_
  | with_reducible refine JV_none ?_
  | with_reducible refine JV_str ?_
  | with_reducible refine JV_BinOp ?_
  | refine JV_Compare ?_
  | with_reducible refine JV_IfExp ?_
  | refine Test_cmp ?_
  | with_reducible refine Test_not ?_
  | with_reducible refine Test_and ?_
  | with_reducible refine Test_and_nil ?_
  | with_reducible refine Test_or ?_
  | with_reducible refine Test_or_nil ?_
  | with_reducible refine Tru_bool ?_
  | refine JV_List ?_
  | refine JV_Tuple ?_
  | with_reducible refine Args_nil ?_
  | refine Args_cons ?_
  | with_reducible refine Bin_add ?_
  | with_reducible refine Cmp_eq ?_
  | with_reducible refine Cmp_ne ?_
  | with_reducible refine Cmp_lt ?_
  | with_reducible refine Cmp_le ?_
  | with_reducible refine Cmp_gt ?_
  | with_reducible refine Cmp_ge ?_
  | walk_at "name"
  | walk_at "store")
local macro_rules | `(tactic| walk_at "inst") => `(tactic| (refine' Inst.mk ?ix ?id; (case ix => walk_at "has"); (case id => walk_at "has")))
local macro_rules | `(tactic| walk_at "kfun") => `(tactic| (refine' Call_K (by assumption) (by assumption) ?k1 ?k2 ?k3 ?k4 ?_ ?k5 ?k6; (case k1 => k_is); (case k2 => rfl); (case k3 => rfl); (case k4 => k_is); (case k5 => rfl); (case k6 => rfl)))
local macro_rules | `(tactic| walk_at "kcode") => `(tactic| (refine' Code_K (by assumption) (by assumption) ?k1 ?k2 ?k3 ?k4 ?_ ?k5 ?k6; (case k1 => k_is); (case k2 => rfl); (case k3 => rfl); (case k4 => k_is); (case k5 => rfl); (case k6 => rfl)))
local macro_rules | `(tactic| walk_at "methk") => `(tactic| (refine' Meth_K (by assumption) ?mi ?mv ?_ ?g1 ?g2 ?g3 ?g4; (case mi => walk_at "inst"); (case mv => first | exact fields_none (by assumption) (by decide) | rfl); (case g1 => k_is); (case g2 => k_is); (case g3 => k_is); (case g4 => k_is)))
local macro_rules | `(tactic| walk_at "getown") => `(tactic| (refine' Get_own (by assumption) ?mi ?mv ?_ ?g1 ?g2 ?gh; (case mi => walk_at "inst"); (case mv => rfl); (case g1 => k_is); (case g2 => kernel_rfl); (case gh => rfl)))
local macro_rules | `(tactic| walk_at "setown") => `(tactic| (refine' SetAttr_inst (by assumption) ?sx ?sd ?sk ?_ ?se ?sl; (case sx => walk_at "has"); (case sd => walk_at "upd"); (case se => rfl); (case sl => exact Nat.le_of_ble_eq_true rfl); (case sk => kernel_rfl)))
local macro_rules | `(tactic| walk_at "keepk") => `(tactic| (exact Keep_K (by assumption) (by k_is)))
local macro_rules | `(tactic| walk_at "apart") => `(tactic| first | (apply Apart.left; k_mem; done) | (apply Apart.right; k_mem; done) | (apply Apart.tail; walk_at "apart"))
local macro_rules | `(tactic| walk_at "kgen") => `(tactic| (refine' Call_gen (by assumption) (by assumption) ?k1 ?k2 ?k3 ?k4 ?_ ?k5 ?k6; (case k1 => k_is); (case k2 => rfl); (case k3 => rfl); (case k4 => k_is); (case k5 => rfl); (case k6 => rfl)))
local macro_rules | `(tactic| walk_at "kcodec") => `(tactic| (refine' CodeC_K (by assumption) (by assumption) ?k1 ?k2 ?k3 ?k4 ?_ ?k5 ?k6; (case k1 => k_is); (case k2 => rfl); (case k3 => rfl); (case k4 => k_is); (case k5 => rfl); (case k6 => rfl)))
local macro_rules | `(tactic| walk_at "getk") => `(tactic| (refine' Get_K (by assumption) ?k1 ?k2 ?k3 ?k4 ?k5 ?g1 ?g2 ?g3 ?gh ?_; (case k1 => k_is); (case k2 => rfl); (case k3 => rfl); (case k4 => rfl); (case k5 => k_is); (case g1 => k_is); (case g2 => kernel_rfl); (case g3 => rfl); (case gh => rfl)))
section
variable {prog : Program} {w : World} {B : Bs} {A : Around} {own : Own} {gs : Array GenState} {p : Program} {loose : List Str} {mg mb : Str → Option Value}
local macro_rules | `(tactic| k_mem) => `(tactic| exact List.mem_append_left _ (waysOwn.mem (by assumption)))
abbrev own13 (prog : Program) (w : World) (L cnode chead ckept cgone cabove ctree cstart cnum numl nl W td rl abv : Addr) (wl al : Int → Addr) (N : List Int) (i : Nat) (st : Int) (names : List Int) (succ : Int → List Int) (G : Gr) (reached : List Int) (t : List (Int × Int)) (ep : Nat) (es : List (Pos × Addr)) (tb : Option (Addr × Option Addr)) (vk vg : Option Value) : Own :=
  (abv, AD prog w (Gr.outer reached al)) :: (td, AD prog w (treeKv t)) :: (rl, AList (reached.map iv)) :: (W, ADict prog w (Gr.outer names wl) ep) :: (L, ANs [(Str.ofString "size", iv i), (Str.ofString "names", .ref nl), (Str.ofString "graph", .ref G.x), (Str.ofString "ways", .ref W), (Str.ofString "reached", .ref rl)]) :: (cnode, ACell none) :: (chead, ACell none) :: (ckept, ACell vk) :: (cgone, ACell vg) :: (cabove, ACell (some (.ref abv))) :: (ctree, ACell (some (.ref td))) :: (cstart, ACell (some (iv st))) :: (cnum, ACell (some (.ref numl))) :: (numl, AList (N.map iv)) :: (nl, AList (names.map iv)) :: (43, ATab es) :: (waysOwn reached al (above t) ++ (dOwn tb ++ (waysOwn names wl succ ++ G.res 873 prog w)))
theorem law_three (T : TopB (hd.heap_39 w.params) p loose mg mb B) (BM : BMain mg B) {sco : Scope} {rest : List Stmt} (hat : lawAt 12 = some (sco, rest)) {A1 : Around} (hA1 : AOk B A1 299) {envs : Env} (hfr1 : A1.frames = some [envs]) (hh1 : A1.handled = none)
  (L cnode chead ckept cgone cabove ctree cstart cnum numl nl W : Addr) (wl : Int → Addr) {N : List Int} {i : Nat} {st : Int} {names : List Int} {succ : Int → List Int} {G : Gr} (S : LawSt N i st names succ G)
  (he : envs = lawEnv sco L cnode chead ckept cgone cabove ctree cstart cnum) {td rl abv : Addr} {al : Int → Addr} {reached : List Int} {t : List (Int × Int)} {ep : Nat} {m : List (Str × Value)} {es : List (Pos × Addr)} {tb : Option (Addr × Option Addr)} {g : Array GenState} (S2 : LawS2 st names succ reached t) (hm : predMore G m) (hes : es = [] ∨ ∃ c, es = [(⟨8, 11, 8, 53⟩, c)]) (hg : AllFin g)
  (H3 : ∀ (sco : Scope) (rest : List Stmt), lawAt 13 = some (sco, rest) → envs = lawEnv sco L cnode chead ckept cgone cabove ctree cstart cnum → ∀ (vk vg : Option Value), JCF prog w B A1 (execs rest (lawEnv sco L cnode chead ckept cgone cabove ctree cstart cnum)) (own13 prog w L cnode chead ckept cgone cabove ctree cstart cnum numl nl W td rl abv wl al N i st names succ { G with more := m } reached t ep es tb vk vg) g LawEnd) :
    JCF prog w B A1 (execs rest (lawEnv sco L cnode chead ckept cgone cabove ctree cstart cnum)) (own12 prog w L cnode chead ckept cgone cabove ctree cstart cnum numl nl W td rl abv wl al N i st names succ { G with more := m } reached t ep es tb) g LawEnd := by
  cases (show some (_, _) = some (sco, rest) from hat)
  clear hat
  dsimp only [lawEnv, newEnv]
  unfold own12
  generalize hTL : dOwn tb ++ (waysOwn names wl succ ++ Gr.res 873 prog w { G with more := m }) = TL
  have hmw : ∀ k ∈ names, (wl k, AList ((succ k).map iv)) ∈ TL := fun k hk => by rw [← hTL]; exact List.mem_append_right _ (List.mem_append_left _ (waysOwn.mem hk))
  have hrsub : ∀ x ∈ reached, x ∈ names := fun x hx => ((S2.rr x).mp hx).ok
  have hn7 : names.length ≤ 7 := by have := S.nl; have := S.i7; omega
  have hr7 : reached.length ≤ 7 := by have := nodup_le S2.rnd hrsub; omega
  -- for gone in reached
  refine JCF_cons (JCF_ForList (l := rl) (xs := reached.map iv) hA1 (fun k o g' => g' = g ∧ ∃ vk vg : Option Value, o = (abv, AD prog w (Gr.outer reached al)) :: (td, AD prog w (treeKv t)) :: (rl, AList (reached.map iv)) :: (W, ADict prog w (Gr.outer names wl) ep) :: (L, ANs [(Str.ofString "size", iv i), (Str.ofString "names", .ref nl), (Str.ofString "graph", .ref G.x), (Str.ofString "ways", .ref W), (Str.ofString "reached", .ref rl)]) :: (cnode, ACell none) :: (chead, ACell none) :: (ckept, ACell vk) :: (cgone, ACell vg) :: (cabove, ACell (some (.ref abv))) :: (ctree, ACell (some (.ref td))) :: (cstart, ACell (some (iv st))) :: (cnum, ACell (some (.ref numl))) :: (numl, AList (N.map iv)) :: (nl, AList (names.map iv)) :: (43, ATab es) :: (waysOwn reached al (above t) ++ TL)) ?fh ?fl ?fturn ?fdone)
  case fh =>
    walk_at "name"
    exact ⟨rfl, by walk_at "has", _, Sub.refl _, rfl, none, none, rfl⟩
  case fl =>
    rintro k o g' ⟨_, vk, vg, rfl⟩
    walk_at "has"
  case fturn =>
    rintro it k x o g' hx ⟨rfl, vk, vg, rfl⟩
    obtain ⟨gone, hgone, rfl⟩ : ∃ gone, reached[k]? = some gone ∧ x = iv gone := by
      rw [List.getElem?_map, Option.map_eq_some_iff] at hx
      obtain ⟨u, h1, h2⟩ := hx
      exact ⟨u, h1, h2.symm⟩
    refine Assign_name ?_
    walk_at "store"
    -- kept
    refine JF_clean (JF_cons (JF_Assign (JV_Call (JV_global T (by k_is) ⟨rfl, ?_⟩))))
    refine Args_cons ?_
    walk_at "name"
    refine Args_cons ?_
    walk_at "name"
    refine Args_cons ?_
    refine' JV_filterList (l := nl) (ns := names) (fun k => decide (k ≠ gone)) hA1 ?c1 ?c2 ?c3 ?c4 ?_
    case c1 => walk_at "name"; exact ⟨rfl, rfl, rfl⟩
    case c2 => walk_at "has"
    case c3 => omega
    case c4 =>
      intro acc C k one out it hx
      dsimp only [cenv, newEnv]
      refine Test_cmp ?_
      walk_at "name"
      walk_at "name"
      refine Cmp_ne (Tru_bool ⟨?_, rfl, rfl⟩)
      by_cases e : one = gone <;> simp [e]
    intro acl
    refine Args_nil ⟨by walk_at "keepk", ?_⟩
    refine walk_call T (hA1.less) (names := names) (allowed := names.filter fun k => decide (k ≠ gone)) (by k_mem) (by k_mem) (fun _ h => (List.mem_filter.mp h).1) (fun k hk => by
      repeat (first | exact List.mem_append_right _ (hmw k hk) | apply List.Mem.tail)) (Nat.le_trans (List.length_filter_le _ _) (by omega)) fun kl kept hkn hkr => ?_
    walk_at "store"
    dsimp only
    -- the two lists
    refine JF_cons (JF_If (Test_cmp ?_))
    refine' JV_filterList (l := rl) (ns := reached) (fun k => !decide (k ∈ kept)) hA1 ?c1 ?c2 ?c3 ?c4 ?_
    case c1 => walk_at "name"; exact ⟨rfl, rfl, rfl⟩
    case c2 => walk_at "has"
    case c3 => omega
    case c4 =>
      intro acc C k one out it hx
      dsimp only [cenv, newEnv]
      refine Test_cmp ?_
      walk_at "name"
      walk_at "name"
      exact Cmp_notInList (by walk_at "has") (Tru_bool ⟨rfl, rfl, rfl⟩)
    intro f1
    refine' JV_filterList (l := rl) (ns := reached) (fun k => decide (gone ∈ above t k)) hA1 ?d1 ?d2 ?d3 ?d4 ?_
    case d1 => walk_at "name"; exact ⟨rfl, rfl, rfl⟩
    case d2 => walk_at "has"
    case d3 => omega
    case d4 =>
      intro acc C k one out it hx
      have hone := List.mem_of_getElem? hx
      dsimp only [cenv, newEnv]
      refine Test_cmp ?_
      walk_at "name"
      refine JV_Subscript ?_
      walk_at "name"
      walk_at "name"
      refine Item_AD (x := .ref (al one)) (by walk_at "has") (by rw [valueAt_outer, if_pos hone]) ?_
      exact Cmp_inList (ns := above t one) (by walk_at "has") (Tru_bool ⟨rfl, rfl, rfl⟩)
    intro f2
    refine Cmp_neLists hA1 (by walk_at "has") (by walk_at "has") (Tru_bool ?_)
    have hff : reached.filter (fun k => !decide (k ∈ kept)) = reached.filter (fun k => decide (gone ∈ above t k)) := by
      refine List.filter_congr fun x hx => ?_
      have h1 : x ∈ kept ↔ Avoid (fun a b => b ∈ succ a) st gone x := by rw [hkr x]; exact reach_avoid S.st S.cl
      have h2 := S2.id.dom x gone hx (List.mem_of_getElem? hgone)
      rw [← S2.id.mem_above] at h2
      by_cases hk : x ∈ kept
      · have h3 : gone ∉ above t x := fun q => h2.mp q (h1.mp hk)
        simp only [hk, h3, decide_true, decide_false]; rfl
      · have h3 : gone ∈ above t x := h2.mpr fun q => hk (h1.mpr q)
        simp only [hk, h3, decide_true, decide_false]; rfl
    rw [hff, if_neg (by simp)]
    refine JF_nil (JF_nil ⟨_, ?_, rfl, some (.ref kl), some (iv gone), rfl⟩)
    walk_at "sub"
  case fdone =>
    rintro o g' ⟨rfl, vk, vg, rfl⟩
    dsimp only
    have h := H3 _ _ rfl he vk vg
    unfold own13 at h
    rw [hTL] at h
    exact h
end
end Mine
end
section
set_option maxRecDepth 100000
set_option maxHeartbeats 4000000
open PySem PySem.Calls PyProof.Rows PySem.W PySem.Spec
namespace Mine
example : PySem.Challenge.rw_ci0025_01.prog = PySem.Challenge.rw_ci0025_01.prog ∧ hd.heap_39 = hd.heap_39 := by k_fill; exact ⟨rfl, rfl⟩
local macro_rules | `(tactic| k_mem) => `(tactic| first | apply List.Mem.head | exact Gr.memS (by assumption) | exact Gr.memP (by assumption) | exact Gr.memJ (by assumption) | (apply List.Mem.tail; k_mem))
local macro_rules | `(tactic| walk_at "has") => `(tactic| first | (apply Has.own; k_mem) | (apply Has.base; assumption))
local macro_rules | `(tactic| walk_at "upd") => `(tactic| first | apply Upd.head | exact Gr.updS (by assumption) (by assumption) | exact Gr.updP (by assumption) (by assumption) | (apply Upd.tail; walk_at "upd"))
local macro_rules | `(tactic| walk_at "setl") => `(tactic| first | apply SetL.nil | apply SetL.here | (apply SetL.next (by rfl); walk_at "setl"))
local macro_rules | `(tactic| walk_at "cells") => `(tactic| repeat' (first | refine Cells_nil ?_ | refine Cells_skip (by decide) ?_ | (refine Cells_cell ?_; intro _)))
local macro_rules | `(tactic| walk_at "pick") => `(tactic| first | apply PickR.head | (apply PickR.tail; walk_at "pick"))
local macro_rules | `(tactic| walk_at "weak") => `(tactic| first | exact fun _ h => h | exact AEmpty.toAD | (refine ANs.sub ?_; repeat' (first | exact List.forall_mem_nil _ | refine List.forall_mem_cons.mpr ⟨rfl, ?_⟩)))
local macro_rules | `(tactic| walk_at "subt") => `(tactic| first | exact Sub.refl _ | (refine Sub.skip ?_; walk_at "subt"))
local macro_rules | `(tactic| walk_at "sub") => `(tactic| first | apply Sub.nil | (refine' Sub.pick ?hp ?hw ?_; (case hp => walk_at "pick"); (case hw => walk_at "weak"); walk_at "sub") | walk_at "subt")
local macro_rules | `(tactic| walk_at "store") => `(tactic| first | (refine' Store_local ?hu ?hs ?_; (case hu => walk_at "upd"); (case hs => walk_at "setl")) | (refine' Store_cell ?hc ?hu ?_; (case hc => rfl); (case hu => walk_at "upd")))

local macro_rules | `(tactic| walk_at "name") => `(tactic| first
  | (refine' JV_local ?hn ?hv ?_; (case hn => walk_at "has"); (case hv => rfl))
  | (refine' JV_cell ?hc ?hn ?_; (case hc => rfl); (case hn => walk_at "has"))
  | (refine' JV_free ?hc ?hn ?_; (case hc => rfl); (case hn => walk_at "has")))
local macro_rules | `(tactic| walk_at "js") => `(tactic| first
  | with_reducible refine JF_cons ?_
  | with_reducible refine JF_nil ?_
  | refine JF_Assign ?_
  | with_reducible refine JF_If ?_
  | with_reducible refine JF_Return ?_
  | refine JF_Expr ?_
  | with_reducible refine JV_int ?_
  | with_reducible refine JV_bool ?_
  | with_reducible refine JV_none ?_
  | with_reducible refine JV_str ?_
  | with_reducible refine JV_BinOp ?_
  | refine JV_Compare ?_
  | with_reducible refine JV_IfExp ?_
  | refine Test_cmp ?_
  | with_reducible refine Test_not ?_
  | with_reducible refine Test_and ?_
  | with_reducible refine Test_and_nil ?_
  | with_reducible refine Test_or ?_
  | with_reducible refine Test_or_nil ?_
  | with_reducible refine Tru_bool ?_
  | refine JV_List ?_
  | refine JV_Tuple ?_
  | with_reducible refine Args_nil ?_
  | refine Args_cons ?_
  | with_reducible refine Bin_add ?_
  | with_reducible refine Cmp_eq ?_
  | with_reducible refine Cmp_ne ?_
  | with_reducible refine Cmp_lt ?_
  | with_reducible refine Cmp_le ?_
  | with_reducible refine Cmp_gt ?_
  | with_reducible refine Cmp_ge ?_
  | walk_at "name"
  | walk_at "store")
local macro_rules | `(tactic| walk_at "inst") => `(tactic| (refine' Inst.mk ?ix ?id; (case ix => walk_at "has"); (case id => walk_at "has")))
local macro_rules | `(tactic| walk_at "kfun") => `(tactic| (refine' Call_K (by assumption) (by assumption) ?k1 ?k2 ?k3 ?k4 ?_ ?k5 ?k6; (case k1 => k_is); (case k2 => rfl); (case k3 => rfl); (case k4 => k_is); (case k5 => rfl); (case k6 => rfl)))
local macro_rules | `(tactic| walk_at "kcode") => `(tactic| (refine' Code_K (by assumption) (by assumption) ?k1 ?k2 ?k3 ?k4 ?_ ?k5 ?k6; (case k1 => k_is); (case k2 => rfl); (case k3 => rfl); (case k4 => k_is); (case k5 => rfl); (case k6 => rfl)))
local macro_rules | `(tactic| walk_at "methk") => `(tactic| (refine' Meth_K (by assumption) ?mi ?mv ?_ ?g1 ?g2 ?g3 ?g4; (case mi => walk_at "inst"); (case mv => first | exact fields_none (by assumption) (by decide) | rfl); (case g1 => k_is); (case g2 => k_is); (case g3 => k_is); (case g4 => k_is)))
local macro_rules | `(tactic| walk_at "getown") => `(tactic| (refine' Get_own (by assumption) ?mi ?mv ?_ ?g1 ?g2 ?gh; (case mi => walk_at "inst"); (case mv => rfl); (case g1 => k_is); (case g2 => kernel_rfl); (case gh => rfl)))
local macro_rules | `(tactic| walk_at "setown") => `(tactic| (refine' SetAttr_inst (by assumption) ?sx ?sd ?sk ?_ ?se ?sl; (case sx => walk_at "has"); (case sd => walk_at "upd"); (case se => rfl); (case sl => exact Nat.le_of_ble_eq_true rfl); (case sk => kernel_rfl)))
local macro_rules | `(tactic| walk_at "keepk") => `(tactic| (exact Keep_K (by assumption) (by k_is)))
local macro_rules | `(tactic| walk_at "apart") => `(tactic| first | (apply Apart.left; k_mem; done) | (apply Apart.right; k_mem; done) | (apply Apart.tail; walk_at "apart"))
local macro_rules | `(tactic| walk_at "kgen") => `(tactic| (refine' Call_gen (by assumption) (by assumption) ?k1 ?k2 ?k3 ?k4 ?_ ?k5 ?k6; (case k1 => k_is); (case k2 => rfl); (case k3 => rfl); (case k4 => k_is); (case k5 => rfl); (case k6 => rfl)))
local macro_rules | `(tactic| walk_at "kcodec") => `(tactic| (refine' CodeC_K (by assumption) (by assumption) ?k1 ?k2 ?k3 ?k4 ?_ ?k5 ?k6; (case k1 => k_is); (case k2 => rfl); (case k3 => rfl); (case k4 => k_is); (case k5 => rfl); (case k6 => rfl)))
local macro_rules | `(tactic| walk_at "getk") => `(tactic| (refine' Get_K (by assumption) ?k1 ?k2 ?k3 ?k4 ?k5 ?g1 ?g2 ?g3 ?gh ?_; (case k1 => k_is); (case k2 => rfl); (case k3 => rfl); (case k4 => rfl); (case k5 => k_is); (case g1 => k_is); (case g2 => kernel_rfl); (case g3 => rfl); (case gh => rfl)))
theorem treeKv_setT {t : List (Int × Int)} {u d : Int} : stored (treeKv t) u (iv d) = treeKv (setT t u d) := by
  unfold stored setT
  have e1 : (treeKv t).any (fun kv => decide (kv.1 = u)) = t.any (fun p => decide (p.1 = u)) := by
    unfold treeKv; rw [List.any_map]; rfl
  rw [e1]
  split
  · unfold treeKv
    rw [List.map_map, List.map_map]
    refine List.map_congr_left fun p _ => ?_
    simp only [Function.comp]
    split <;> rfl
  · simp [treeKv]
theorem setT_keep {t : List (Int × Int)} {u d : Int} (h : u ∈ t.map (·.1)) : (setT t u d).map (·.1) = t.map (·.1) := by
  unfold setT
  rw [if_pos (by obtain ⟨p, hp, rfl⟩ := List.mem_map.mp h; exact List.any_eq_true.mpr ⟨p, hp, by simp⟩), List.map_map]
  refine List.map_congr_left fun p _ => ?_
  simp only [Function.comp]
  split <;> rfl
/-- who moves -/
def Moves (succ : Int → List Int) (t : List (Int × Int)) (reached : List Int) (z b u : Int) : Prop := (above t z).length + 1 < (above t u).length ∧ Reach succ (· ∈ reached.filter fun x => decide ((above t u).length ≤ (above t x).length)) b u
structure MovedTo (succ : Int → List Int) (t : List (Int × Int)) (reached : List Int) (z b : Int) (i : Nat) (t' : List (Int × Int)) : Prop where
  keys : t'.map (·.1) = t.map (·.1)
  yes : ∀ u ∈ (t.map (·.1)).take i, Moves succ t reached z b u → look t' u = some z
  no : ∀ u, ¬ (u ∈ (t.map (·.1)).take i ∧ Moves succ t reached z b u) → look t' u = look t u
theorem MovedTo.zero {succ : Int → List Int} {t : List (Int × Int)} {reached : List Int} {z b : Int} : MovedTo succ t reached z b 0 t := ⟨rfl, fun _ h => by simp at h, fun _ _ => rfl⟩
theorem mem_take_succ {α : Type} {l : List α} {i : Nat} {x u : α} (hx : l[i]? = some x) : u ∈ l.take (i + 1) ↔ u ∈ l.take i ∨ u = x := by
  rw [List.take_add_one, hx]; simp
theorem MovedTo.skip {succ : Int → List Int} {t t' : List (Int × Int)} {reached : List Int} {z b x : Int} {i : Nat} (h : MovedTo succ t reached z b i t') (hx : (t.map (·.1))[i]? = some x) (hn : ¬ Moves succ t reached z b x) : MovedTo succ t reached z b (i + 1) t' where
  keys := h.keys
  yes := fun u hu hm => by
    rcases (mem_take_succ hx).mp hu with hu | rfl
    · exact h.yes u hu hm
    · exact absurd hm hn
  no := fun u hu => h.no u fun ⟨q1, q2⟩ => hu ⟨(mem_take_succ hx).mpr (.inl q1), q2⟩
theorem MovedTo.move {succ : Int → List Int} {t t' : List (Int × Int)} {reached : List Int} {z b x : Int} {i : Nat} (h : MovedTo succ t reached z b i t') (hx : (t.map (·.1))[i]? = some x) (hm : Moves succ t reached z b x) : MovedTo succ t reached z b (i + 1) (setT t' x z) where
  keys := by rw [setT_keep (by rw [h.keys]; exact List.mem_of_getElem? hx), h.keys]
  yes := fun u hu hm => by
    rw [look_setT]
    unfold setF
    by_cases e : u = x
    · rw [if_pos e]
    · rw [if_neg e]
      exact h.yes u (((mem_take_succ hx).mp hu).resolve_right e) hm
  no := fun u hu => by
    rw [look_setT]
    unfold setF
    by_cases e : u = x
    · exact absurd ⟨(mem_take_succ hx).mpr (.inr e), e ▸ hm⟩ hu
    · rw [if_neg e]
      exact h.no u fun ⟨q1, q2⟩ => hu ⟨(mem_take_succ hx).mpr (.inl q1), q2⟩
theorem Sub.dropL : ∀ {a b : Own}, Sub b (a ++ b)
  | [], _ => Sub.refl _
  | _ :: _, _ => Sub.skip Sub.dropL
theorem Sub.dropM {a b c : Own} : Sub (a ++ c) (a ++ (b ++ c)) := Sub.dropL.trans (Sub.of_perm (List.perm_append_comm_assoc b a c))
theorem chain_len (f : Int → Option Int) : ∀ (n : Nat) (x : Int), (chain f n x).length ≤ n + 1
  | 0, x => by simp [chain]
  | n + 1, x => by
    unfold chain
    split
    · simp
    · next y _ => have := chain_len f n y; simp; omega
structure LawS3 (st : Int) (succ : Int → List Int) (reached : List Int) (t : List (Int × Int)) (a b : Int) (t2 : List (Int × Int)) : Prop where
  keys : t2.map (·.1) = t.map (·.1)
  ans : ∀ t', IdomOk (more (fun x y => y ∈ succ x) a b) st (· ∈ reached) t' → look t' = look t2
theorem LawS3.same {st : Int} {names : List Int} {succ : Int → List Int} {reached : List Int} {t : List (Int × Int)} {a b : Int} (S2 : LawS2 st names succ reached t) (hs : st ∈ reached) (cl : ∀ x y, x ∈ reached → y ∈ succ x → y ∈ reached) (ha : a ∉ reached) : LawS3 st succ reached t a b t :=
  ⟨rfl, fun _ h => same_tree hs cl ha S2.id h⟩
theorem LawS3.moved {st : Int} {names : List Int} {succ : Int → List Int} {reached : List Int} {t t2 : List (Int × Int)} {a b z : Int} (S2 : LawS2 st names succ reached t) (hs : st ∈ reached) (cl : ∀ x y, x ∈ reached → y ∈ succ x → y ∈ reached) (ha : a ∈ reached) (hb : b ∈ reached)
    (z1 : Up (look t) a z) (z2 : Up (look t) b z) (z3 : ∀ w, Up (look t) a w → Up (look t) b w → Up (look t) z w) (hM : MovedTo succ t reached z b t.length t2) : LawS3 st succ reached t a b t2 where
  keys := hM.keys
  ans := fun t' h' => by
    funext u
    by_cases hu : u ∈ reached ∧ u ≠ st
    · have hk : u ∈ (t.map (·.1)).take t.length := by
        rw [show t.length = (t.map (·.1)).length by simp, List.take_length]
        exact (S2.id.keys u).mpr hu
      have h := moved_tree hs cl ha hb S2.id h' (dep := fun x => (above t x).length) (fun x d _ q hne => S2.id.len_up q hne) (fun x d _ q => S2.id.len_step q) z1 z2 z3 hu.1 hu.2
      have e : Reach succ (· ∈ reached.filter fun x => decide ((above t u).length ≤ (above t x).length)) b u ↔ Way (fun x y => y ∈ succ x) (fun x => x ∈ reached ∧ (above t u).length ≤ (above t x).length) b u := by
        rw [reach_way]
        exact ⟨fun p => p.mono fun x hx => by simpa using hx, fun p => p.mono fun x hx => by simpa using hx⟩
      by_cases hm : Moves succ t reached z b u
      · rw [hM.yes u hk hm]
        exact h.1 ⟨hm.1, e.mp hm.2⟩
      · rw [hM.no u fun q => hm q.2]
        exact h.2 fun q => hm ⟨q.1, e.mpr q.2⟩
    · have e1 : look t u = none := by
        cases q : look t u with
        | none => rfl
        | some d => exact absurd (S2.id.isR q) hu
      have e2 : look t' u = none := by
        cases q : look t' u with
        | none => rfl
        | some d => exact absurd (h'.isR q) hu
      rw [e2, hM.no u, e1]
      rintro ⟨q, _⟩
      exact hu ((S2.id.keys u).mp (List.mem_of_mem_take q))
section
variable {prog : Program} {w : World} {B : Bs} {A : Around} {own : Own} {gs : Array GenState} {p : Program} {loose : List Str} {mg mb : Str → Option Value}
local macro_rules | `(tactic| k_mem) => `(tactic| exact List.mem_append_left _ (waysOwn.mem (by assumption)))
theorem JF_mono {t : Sem Flow} {Q Q' : QF} (h : JF prog w B A t own gs Q) (hq : ∀ f o g, Q f o g → Q' f o g) : JF prog w B A t own gs Q' := J_mono h fun _ _ _ => hq _ _ _
abbrev own16 (prog : Program) (w : World) (L cnode chead ckept cgone cabove ctree cstart cnum numl : Addr) (N : List Int) (st : Int) (names : List Int) (G : Gr) (a b : Int) (t2 : List (Int × Int)) (dd : Addr) (es : List (Pos × Addr)) (tb : Option (Addr × Option Addr)) (vn vk vg va vt : Option Value) : Own :=
  (L, ANs [(Str.ofString "graph", .ref G.x), (Str.ofString "tail", iv a), (Str.ofString "due", .ref dd)]) :: (dd, AD prog w (treeKv t2)) :: (cnode, ACell vn) :: (chead, ACell (some (iv b))) :: (ckept, ACell vk) :: (cgone, ACell vg) :: (cabove, ACell va) :: (ctree, ACell vt) :: (cstart, ACell (some (iv st))) :: (cnum, ACell (some (.ref numl))) :: (numl, AList (N.map iv)) :: (43, ATab es) :: (dOwn tb ++ G.res 873 prog w)
theorem law_four (T : TopB (hd.heap_39 w.params) p loose mg mb B) (BM : BMain mg B) {sco : Scope} {rest : List Stmt} (hat : lawAt 13 = some (sco, rest)) {A1 : Around} (hA1 : AOk B A1 299) {envs : Env} (hfr1 : A1.frames = some [envs]) (hh1 : A1.handled = none)
  (L cnode chead ckept cgone cabove ctree cstart cnum numl nl W : Addr) (wl : Int → Addr) {N : List Int} {i : Nat} {st : Int} {names : List Int} {succ : Int → List Int} {G : Gr} (S : LawSt N i st names succ G)
  (he : envs = lawEnv sco L cnode chead ckept cgone cabove ctree cstart cnum) {td rl abv : Addr} {al : Int → Addr} {reached : List Int} {t : List (Int × Int)} {ep : Nat} {m : List (Str × Value)} {es : List (Pos × Addr)} {tb : Option (Addr × Option Addr)} {g : Array GenState} (S2 : LawS2 st names succ reached t) (hm : predMore G m) (hg : AllFin g) {vk vg : Option Value}
  (H4 : ∀ (sco : Scope) (rest : List Stmt), lawAt 16 = some (sco, rest) → envs = lawEnv sco L cnode chead ckept cgone cabove ctree cstart cnum → ∀ (a b : Int) (t2 : List (Int × Int)) (dd : Addr) (vn vk vg va vt : Option Value), a ∈ names → b ∈ reached → LawS3 st succ reached t a b t2 → JCF prog w B A1 (execs rest (lawEnv sco L cnode chead ckept cgone cabove ctree cstart cnum)) (own16 prog w L cnode chead ckept cgone cabove ctree cstart cnum numl N st names { G with more := m } a b t2 dd es tb vn vk vg va vt) g LawEnd) :
    JCF prog w B A1 (execs rest (lawEnv sco L cnode chead ckept cgone cabove ctree cstart cnum)) (own13 prog w L cnode chead ckept cgone cabove ctree cstart cnum numl nl W td rl abv wl al N i st names succ { G with more := m } reached t ep es tb vk vg) g LawEnd := by
  cases (show some (_, _) = some (sco, rest) from hat)
  clear hat
  dsimp only [lawEnv, newEnv]
  unfold own13
  have hst : st ∈ reached := (S2.rr st).mpr (.refl S.st)
  have hcl : ∀ x y, x ∈ reached → y ∈ succ x → y ∈ reached := fun x y hx hy => (S2.rr y).mpr (.step ((S2.rr x).mp hx) hy (S.cl x ((S2.rr x).mp hx).ok y hy))
  generalize hTL : dOwn tb ++ (waysOwn names wl succ ++ Gr.res 873 prog w { G with more := m }) = TL
  have hsubTL : Sub (dOwn tb ++ Gr.res 873 prog w { G with more := m }) TL := by
    rw [← hTL]
    exact Sub.dropM
  have hmw : ∀ k ∈ names, (wl k, AList ((succ k).map iv)) ∈ TL := fun k hk => by rw [← hTL]; exact List.mem_append_right _ (List.mem_append_left _ (waysOwn.mem hk))
  have hrsub : ∀ x ∈ reached, x ∈ names := fun x hx => ((S2.rr x).mp hx).ok
  have hn7 : names.length ≤ 7 := by have := S.nl; have := S.i7; omega
  have hr7 : reached.length ≤ 7 := by have := nodup_le S2.rnd hrsub; omega
  have hr0 : 0 < reached.length := List.length_pos_of_mem hst
  have ht7 : t.length ≤ 7 := by
    have := nodup_le S2.id.nd fun x hx => ((S2.id.keys x).mp hx).1
    simp at this; omega
  have hNl := S.Nl
  have hnl := S.nl
  have hi3 := S.i3
  -- tail, head
  obtain ⟨i1, hi1, e1⟩ := fmod_nat (a := N.getD 3 0) (n := i) (by omega)
  obtain ⟨i2, hi2, e2⟩ := fmod_nat (a := N.getD 4 0) (n := reached.length) hr0
  obtain ⟨a, ha⟩ : ∃ a, names[i1]? = some a := ⟨_, List.getElem?_eq_getElem (by omega)⟩
  obtain ⟨b, hb⟩ : ∃ b, reached[i2]? = some b := ⟨_, List.getElem?_eq_getElem (by omega)⟩
  have han := List.mem_of_getElem? ha
  have hbr := List.mem_of_getElem? hb
  refine JCF_cons (JF_clean (JF_Assign1 (JV_Tuple (Args_cons (JV_Subscript ?_)))))
  walk_at "name"
  refine JV_BinOp (JV_Subscript ?_)
  walk_at "name"
  refine JV_int ?_
  refine Item_list (k := ((3 : Nat) : Int)) (by walk_at "has") (by omega) (by omega) (getD_at (by omega)) ?_
  walk_at "name"
  refine Bin_mod (by omega) ?_
  rw [e1]
  refine Item_list (by walk_at "has") (by omega) (by omega) (get_at ha) ?_
  refine Args_cons (JV_Subscript ?_)
  walk_at "name"
  refine JV_BinOp (JV_Subscript ?_)
  walk_at "name"
  refine JV_int ?_
  refine Item_list (k := ((4 : Nat) : Int)) (by walk_at "has") (by omega) (by omega) (getD_at (by omega)) ?_
  refine JV_Call (JV_builtin T (by k_is) boot_len ⟨rfl, ?_⟩)
  refine Args_cons ?_
  walk_at "name"
  refine Args_nil ⟨Keep_builtin, Call_lenList (by walk_at "has") (by simp; omega) ?_⟩
  rw [List.length_map]
  refine Bin_mod (by omega) ?_
  rw [e2]
  refine Item_list (by walk_at "has") (by omega) (by omega) (get_at hb) ?_
  refine Args_nil ⟨by simp, fun tl => ?_⟩
  refine' Assign_tup (xs := [iv a, iv b]) hA1 ?ht (Assign_name ?_)
  case ht => walk_at "has"
  walk_at "store"
  refine Assign_name ?_
  walk_at "store"
  dsimp only
  -- due = dict(tree)
  refine JCF_cons (JF_clean (JF_Assign (JV_Call (JV_builtin T (by k_is) (show bootBuiltins "dict" = some (.type "dict") by decide +kernel) ⟨rfl, ?_⟩))))
  refine Args_cons ?_
  walk_at "name"
  refine Args_nil ⟨Keep_type, Call_dictCopy T (kvs := treeKv t) (by walk_at "has") (by simp [treeKv]; omega) fun dd => ?_⟩
  walk_at "store"
  dsimp only
  refine JCF_sub (o₂ := (td, AD prog w (treeKv t)) :: (dd, AD prog w (treeKv t)) :: (abv, AD prog w (Gr.outer reached al)) :: (rl, AList (reached.map iv)) :: (W, ADict prog w (Gr.outer names wl) ep) :: (L, ANs [(Str.ofString "size", iv i), (Str.ofString "names", .ref nl), (Str.ofString "graph", .ref G.x), (Str.ofString "ways", .ref W), (Str.ofString "reached", .ref rl), (Str.ofString "tail", iv a), (Str.ofString "due", .ref dd)]) :: (cnode, ACell none) :: (chead, ACell (some (iv b))) :: (ckept, ACell vk) :: (cgone, ACell vg) :: (cabove, ACell (some (.ref abv))) :: (ctree, ACell (some (.ref td))) :: (cstart, ACell (some (iv st))) :: (cnum, ACell (some (.ref numl))) :: (numl, AList (N.map iv)) :: (nl, AList (names.map iv)) :: (43, ATab es) :: (waysOwn reached al (above t) ++ TL)) (by walk_at "sub") ?_
  refine JCF_openHead (f := fun ep => ADict prog w (treeKv t) ep) (fun o ho => ho) fun ep2 => ?_
  refine JCF_cons ?_
  refine JF_clean ?_
  refine (JF_mono (Q := fun f o g' => f = .next ∧ g' = g ∧ ∃ t2 vn, LawS3 st succ reached t a b t2 ∧ Sub ((td, ADict prog w (treeKv t) ep2) :: (dd, AD prog w (treeKv t2)) :: (abv, AD prog w (Gr.outer reached al)) :: (rl, AList (reached.map iv)) :: (W, ADict prog w (Gr.outer names wl) ep) :: (L, ANs [(Str.ofString "graph", .ref G.x), (Str.ofString "tail", iv a), (Str.ofString "due", .ref dd)]) :: (cnode, ACell vn) :: (chead, ACell (some (iv b))) :: (ckept, ACell vk) :: (cgone, ACell vg) :: (cabove, ACell (some (.ref abv))) :: (ctree, ACell (some (.ref td))) :: (cstart, ACell (some (iv st))) :: (cnum, ACell (some (.ref numl))) :: (numl, AList (N.map iv)) :: (nl, AList (names.map iv)) :: (43, ATab es) :: (waysOwn reached al (above t) ++ TL)) o) ?_ ?_)
  case refine_2 =>
    rintro _ o _ ⟨rfl, rfl, t2, vn, h3, hs⟩
    refine JCF_sub (Sub.trans ?_ hs) (H4 _ _ rfl he a b t2 dd vn vk vg (some (.ref abv)) (some (.ref td)) han hbr h3)
    unfold own16
    refine Sub.trans (b := (L, ANs [(Str.ofString "graph", .ref G.x), (Str.ofString "tail", iv a), (Str.ofString "due", .ref dd)]) :: (dd, AD prog w (treeKv t2)) :: (cnode, ACell vn) :: (chead, ACell (some (iv b))) :: (ckept, ACell vk) :: (cgone, ACell vg) :: (cabove, ACell (some (.ref abv))) :: (ctree, ACell (some (.ref td))) :: (cstart, ACell (some (iv st))) :: (cnum, ACell (some (.ref numl))) :: (numl, AList (N.map iv)) :: (43, ATab es) :: (waysOwn reached al (above t) ++ TL)) ?_ ?_
    · repeat (first | exact hsubTL.trans Sub.dropL | apply Sub.keep)
    · walk_at "sub"
  case refine_1 =>
  refine JF_If (Test_cmp ?_)
  walk_at "name"
  walk_at "name"
  refine Cmp_inList (ns := reached) (by walk_at "has") (Tru_bool ?_)
  by_cases har : a ∈ reached
  · rw [if_pos (by simpa using har)]
    have hlen : ∀ x ∈ reached, (above t x).length ≤ 9 := fun x hx => Nat.le_trans (chain_len _ _ _) (by omega)
    refine JF_cons (JF_Assign (JV_Subscript ?_))
    refine' JV_filterList (l := al a) (ns := above t a) (fun k => decide (k ∈ above t b)) hA1 ?c1 ?c2 ?c3 ?c4 ?_
    case c1 => 
      refine JV_Subscript ?_
      walk_at "name"
      walk_at "name"
      refine Item_AD (x := .ref (al a)) (by walk_at "has") (by rw [valueAt_outer, if_pos har]) ⟨rfl, rfl, rfl⟩
    case c2 => walk_at "has"
    case c3 => exact Nat.le_trans (hlen a har) (by omega)
    case c4 =>
      intro acc C k one out it hx
      dsimp only [cenv, newEnv]
      refine Test_cmp ?_
      walk_at "name"
      refine JV_Subscript ?_
      walk_at "name"
      walk_at "name"
      refine Item_AD (x := .ref (al b)) (by walk_at "has") (by rw [valueAt_outer, if_pos hbr]) ?_
      exact Cmp_inList (ns := above t b) (by walk_at "has") (Tru_bool ⟨rfl, rfl, rfl⟩)
    intro f1
    obtain ⟨z, r, hz⟩ : ∃ z r, (above t a).filter (fun k => decide (k ∈ above t b)) = z :: r := by
      have h1 : st ∈ (above t a).filter (fun k => decide (k ∈ above t b)) := by
        rw [List.mem_filter]
        exact ⟨S2.id.mem_above.mpr (S2.id.root hst har), by simpa using S2.id.mem_above.mpr (S2.id.root hst hbr)⟩
      cases q : (above t a).filter (fun k => decide (k ∈ above t b)) with
      | nil => rw [q] at h1; cases h1
      | cons z r => exact ⟨z, r, rfl⟩
    obtain ⟨z1, z2, z3⟩ := S2.id.place hz
    have hzr : z ∈ reached := S2.id.upR har z1
    rw [hz]
    refine JV_int ?_
    refine Item_list (k := ((0 : Nat) : Int)) (by walk_at "has") (by omega) (by omega) rfl ?_
    walk_at "store"
    dsimp only
    refine JF_cons (JF_ForDict T (d := td) (kvs := treeKv t) (ep := ep2) hA1 (fun k o g' => g' = g ∧ ∃ (t2 : List (Int × Int)) (vn : Option Value), MovedTo succ t reached z b k t2 ∧ o = (td, ADict prog w (treeKv t) ep2) :: (dd, AD prog w (treeKv t2)) :: (abv, AD prog w (Gr.outer reached al)) :: (rl, AList (reached.map iv)) :: (W, ADict prog w (Gr.outer names wl) ep) :: (L, ANs [(Str.ofString "size", iv i), (Str.ofString "names", .ref nl), (Str.ofString "graph", .ref G.x), (Str.ofString "ways", .ref W), (Str.ofString "reached", .ref rl), (Str.ofString "tail", iv a), (Str.ofString "due", .ref dd), (Str.ofString "place", iv z)]) :: (cnode, ACell vn) :: (chead, ACell (some (iv b))) :: (ckept, ACell vk) :: (cgone, ACell vg) :: (cabove, ACell (some (.ref abv))) :: (ctree, ACell (some (.ref td))) :: (cstart, ACell (some (iv st))) :: (cnum, ACell (some (.ref numl))) :: (numl, AList (N.map iv)) :: (nl, AList (names.map iv)) :: (43, ATab es) :: (waysOwn reached al (above t) ++ TL)) ?fh ?fl ?fturn ?fdone)
    case fh =>
      walk_at "name"
      exact ⟨rfl, by walk_at "has", _, by walk_at "sub", rfl, t, none, MovedTo.zero, rfl⟩
    case fl =>
      rintro k o g' ⟨_, t2, vn, _, rfl⟩
      walk_at "has"
    case fdone =>
      rintro o g' ⟨rfl, t2, vn, hM, rfl⟩
      refine JF_nil ⟨rfl, rfl, t2, vn, LawS3.moved S2 hst hcl har hbr z1 z2 z3 (by simpa [treeKv] using hM), ?_⟩
      walk_at "sub"
    case fturn =>
      rintro it k x o g' hx ⟨rfl, t2, vn, hM, rfl⟩
      have hxk : (t.map (·.1))[k]? = some x := by simpa [treeKv] using hx
      have hxr : x ∈ reached := ((S2.id.keys x).mp (List.mem_of_getElem? hxk)).1
      refine Assign_name ?_
      walk_at "store"
      dsimp only
      refine JF_cons ?_
      refine' JF_filterList (l := rl) (ns := reached) (fun k => decide ((above t x).length ≤ (above t k).length)) hA1 ?c1 ?c2 ?c3 ?c4 ?_
      case c1 => walk_at "name"; exact ⟨rfl, rfl, rfl⟩
      case c2 => walk_at "has"
      case c3 => omega
      case c4 =>
        intro acc C j one out it hx
        have hone := List.mem_of_getElem? hx
        dsimp only [cenv, newEnv]
        refine Test_cmp (JV_Call (JV_builtin T (by k_is) boot_len ⟨rfl, Args_cons (JV_Subscript ?_)⟩))
        walk_at "name"
        walk_at "name"
        refine Item_AD (x := .ref (al one)) (by walk_at "has") (by rw [valueAt_outer, if_pos hone]) ?_
        refine Args_nil ⟨Keep_builtin, Call_lenList (xs := (above t one).map iv) (by walk_at "has") (by rw [List.length_map]; exact Nat.le_trans (hlen one hone) (by omega)) ?_⟩
        refine JV_Call (JV_builtin T (by k_is) boot_len ⟨rfl, Args_cons (JV_Subscript ?_)⟩)
        walk_at "name"
        walk_at "name"
        refine Item_AD (x := .ref (al x)) (by walk_at "has") (by rw [valueAt_outer, if_pos hxr]) ?_
        refine Args_nil ⟨Keep_builtin, Call_lenList (xs := (above t x).map iv) (by walk_at "has") (by rw [List.length_map]; exact Nat.le_trans (hlen x hxr) (by omega)) ?_⟩
        refine Cmp_ge (Tru_bool ⟨?_, rfl, rfl⟩)
        simp
      intro acc C
      walk_at "store"
      refine ⟨_, _, PickR.head _, ?_⟩
      have hzl := hlen z hzr
      refine JF_cons (JF_If (Test_and (Test_cmp (JV_Call (JV_builtin T (by k_is) boot_len ⟨rfl, Args_cons (JV_Subscript ?_)⟩)))))
      walk_at "name"
      walk_at "name"
      refine Item_AD (x := .ref (al x)) (by walk_at "has") (by rw [valueAt_outer, if_pos hxr]) ?_
      refine Args_nil ⟨Keep_builtin, Call_lenList (xs := (above t x).map iv) (by walk_at "has") (by rw [List.length_map]; exact Nat.le_trans (hlen x hxr) (by omega)) ?_⟩
      refine JV_BinOp (JV_Call (JV_builtin T (by k_is) boot_len ⟨rfl, Args_cons (JV_Subscript ?_)⟩))
      walk_at "name"
      walk_at "name"
      refine Item_AD (x := .ref (al z)) (by walk_at "has") (by rw [valueAt_outer, if_pos hzr]) ?_
      refine Args_nil ⟨Keep_builtin, Call_lenList (xs := (above t z).map iv) (by walk_at "has") (by rw [List.length_map]; omega) ?_⟩
      refine JV_int (Bin_add ?_)
      refine Cmp_gt (Tru_bool ?_)
      rw [List.length_map, List.length_map]
      -- the end of the turn
      have hskip : ¬ Moves succ t reached z b x → MovedTo succ t reached z b (k + 1) t2 := fun h => hM.skip hxk h
      by_cases hlt : (above t z).length + 1 < (above t x).length
      · rw [if_pos (by simp only [decide_eq_true_eq]; omega)]
        refine Test_and (Test_cmp ?_)
        walk_at "name"
        refine JV_Call (JV_global T (by k_is) ⟨rfl, ?_⟩)
        refine Args_cons ?_
        walk_at "name"
        refine Args_cons ?_
        walk_at "name"
        refine Args_cons ?_
        walk_at "name"
        refine Args_nil ⟨by walk_at "keepk", ?_⟩
        refine walk_call T (hA1.less) (names := names) (allowed := reached.filter fun k => decide ((above t x).length ≤ (above t k).length)) (by k_mem) (by k_mem) (fun _ h => hrsub _ (List.mem_filter.mp h).1) (fun k hk => by
          repeat (first | exact List.mem_append_right _ (hmw k hk) | apply List.Mem.tail)) (Nat.le_trans (List.length_filter_le _ _) (by omega)) fun kl kept hkn hkr => ?_
        refine Cmp_inList (ns := kept) (by walk_at "has") (Tru_bool ?_)
        have hmv : x ∈ kept ↔ Moves succ t reached z b x := by rw [hkr x]; exact ⟨fun h => ⟨hlt, h⟩, fun h => h.2⟩
        by_cases hk : x ∈ kept
        · rw [if_pos (by simpa using hk)]
          refine Test_and_nil ?_
          rw [if_pos rfl]
          refine JF_cons (JF_AssignSub ?_)
          walk_at "name"
          walk_at "name"
          walk_at "name"
          refine Set_AD (by walk_at "upd") (by have := congrArg List.length hM.keys; simp [treeKv] at this ⊢; omega) ?_
          rw [treeKv_setT]
          refine JF_nil (JF_nil ⟨_, ?_, rfl, setT t2 x z, some (iv x), hM.move hxk (hmv.mp hk), rfl⟩)
          walk_at "sub"
        · rw [if_neg (by simpa using hk)]
          rw [if_neg (by simp)]
          refine JF_nil (JF_nil ⟨_, ?_, rfl, t2, some (iv x), hskip (fun h => hk (hmv.mpr h)), rfl⟩)
          walk_at "sub"
      · rw [if_neg (by simp only [decide_eq_true_eq]; omega)]
        rw [if_neg (by simp)]
        refine JF_nil (JF_nil ⟨_, ?_, rfl, t2, some (iv x), hskip (fun h => hlt h.1), rfl⟩)
        walk_at "sub"
  · rw [if_neg (by simpa using har)]
    refine JF_nil ⟨rfl, rfl, t, none, LawS3.same S2 hst hcl har, ?_⟩
    walk_at "sub"
end
end Mine
end
section
set_option maxRecDepth 100000
set_option maxHeartbeats 4000000
open PySem PySem.Calls PyProof.Rows PySem.W PySem.Spec
namespace Mine
example : PySem.Challenge.rw_ci0025_01.prog = PySem.Challenge.rw_ci0025_01.prog ∧ hd.heap_39 = hd.heap_39 := by k_fill; exact ⟨rfl, rfl⟩
local macro_rules | `(tactic| k_mem) => `(tactic| first | apply List.Mem.head | exact Gr.memS (by assumption) | exact Gr.memP (by assumption) | exact Gr.memJ (by assumption) | (apply List.Mem.tail; k_mem))
local macro_rules | `(tactic| walk_at "has") => `(tactic| first | (apply Has.own; k_mem) | (apply Has.base; assumption))
local macro_rules | `(tactic| walk_at "upd") => `(tactic| first | apply Upd.head | exact Gr.updS (by assumption) (by assumption) | exact Gr.updP (by assumption) (by assumption) | (apply Upd.tail; walk_at "upd"))
local macro_rules | `(tactic| walk_at "setl") => `(tactic| first | apply SetL.nil | apply SetL.here | (apply SetL.next (by rfl); walk_at "setl"))
local macro_rules | `(tactic| walk_at "cells") => `(tactic| repeat' (first | refine Cells_nil ?_ | refine Cells_skip (by decide) ?_ | (refine Cells_cell ?_; intro _)))
local macro_rules | `(tactic| walk_at "pick") => `(tactic| first | apply PickR.head | (apply PickR.tail; walk_at "pick"))
local macro_rules | `(tactic| walk_at "weak") => `(tactic| first | exact fun _ h => h | exact AEmpty.toAD | (refine ANs.sub ?_; repeat' (first | exact List.forall_mem_nil _ | refine List.forall_mem_cons.mpr ⟨rfl, ?_⟩)))
local macro_rules | `(tactic| walk_at "subt") => `(tactic| first | exact Sub.refl _ | (refine Sub.skip ?_; walk_at "subt"))
local macro_rules | `(tactic| walk_at "sub") => `(tactic| first | apply Sub.nil | (refine' Sub.pick ?hp ?hw ?_; (case hp => walk_at "pick"); (case hw => walk_at "weak"); walk_at "sub") | walk_at "subt")
local macro_rules | `(tactic| walk_at "store") => `(tactic| first | (refine' Store_local ?hu ?hs ?_; (case hu => walk_at "upd"); (case hs => walk_at "setl")) | (refine' Store_cell ?hc ?hu ?_; (case hc => rfl); (case hu => walk_at "upd")))

local macro_rules | `(tactic| walk_at "name") => `(tactic| first
  | (refine' JV_local ?hn ?hv ?_; (case hn => walk_at "has"); (case hv => rfl))
  | (refine' JV_cell ?hc ?hn ?_; (case hc => rfl); (case hn => walk_at "has"))
  | (refine' JV_free ?hc ?hn ?_; (case hc => rfl); (case hn => walk_at "has")))
local macro_rules | `(tactic| walk_at "js") => `(tactic| first
  | with_reducible refine JF_cons ?_
  | with_reducible refine JF_nil ?_
  | refine JF_Assign ?_
  | with_reducible refine JF_If ?_
  | with_reducible refine JF_Return ?_
  | refine JF_Expr ?_
  | with_reducible refine JV_int ?_
  | with_reducible refine JV_bool ?_
  | with_reducible refine JV_none ?_
  | with_reducible refine JV_str ?_
  | with_reducible refine JV_BinOp ?_
  | refine JV_Compare ?_
  | with_reducible refine JV_IfExp ?_
  | refine Test_cmp ?_
  | with_reducible refine Test_not ?_
  | with_reducible refine Test_and ?_
  | with_reducible refine Test_and_nil ?_
  | with_reducible refine Test_or ?_
  | with_reducible refine Test_or_nil ?_
  | with_reducible refine Tru_bool ?_
  | refine JV_List ?_
  | refine JV_Tuple ?_
  | with_reducible refine Args_nil ?_
  | refine Args_cons ?_
  | with_reducible refine Bin_add ?_
  | with_reducible refine Cmp_eq ?_
  | with_reducible refine Cmp_ne ?_
  | with_reducible refine Cmp_lt ?_
  | with_reducible refine Cmp_le ?_
  | with_reducible refine Cmp_gt ?_
  | with_reducible refine Cmp_ge ?_
  | walk_at "name"
  | walk_at "store")
local macro_rules | `(tactic| walk_at "inst") => `(tactic| (refine' Inst.mk ?ix ?id; (case ix => walk_at "has"); (case id => walk_at "has")))
local macro_rules | `(tactic| walk_at "kfun") => `(tactic| (refine' Call_K (by assumption) (by assumption) ?k1 ?k2 ?k3 ?k4 ?_ ?k5 ?k6; (case k1 => k_is); (case k2 => rfl); (case k3 => rfl); (case k4 => k_is); (case k5 => rfl); (case k6 => rfl)))
local macro_rules | `(tactic| walk_at "kcode") => `(tactic| (refine' Code_K (by assumption) (by assumption) ?k1 ?k2 ?k3 ?k4 ?_ ?k5 ?k6; (case k1 => k_is); (case k2 => rfl); (case k3 => rfl); (case k4 => k_is); (case k5 => rfl); (case k6 => rfl)))
local macro_rules | `(tactic| walk_at "methk") => `(tactic| (refine' Meth_K (by assumption) ?mi ?mv ?_ ?g1 ?g2 ?g3 ?g4; (case mi => walk_at "inst"); (case mv => first | exact fields_none (by assumption) (by decide) | rfl); (case g1 => k_is); (case g2 => k_is); (case g3 => k_is); (case g4 => k_is)))
local macro_rules | `(tactic| walk_at "getown") => `(tactic| (refine' Get_own (by assumption) ?mi ?mv ?_ ?g1 ?g2 ?gh; (case mi => walk_at "inst"); (case mv => rfl); (case g1 => k_is); (case g2 => kernel_rfl); (case gh => rfl)))
local macro_rules | `(tactic| walk_at "setown") => `(tactic| (refine' SetAttr_inst (by assumption) ?sx ?sd ?sk ?_ ?se ?sl; (case sx => walk_at "has"); (case sd => walk_at "upd"); (case se => rfl); (case sl => exact Nat.le_of_ble_eq_true rfl); (case sk => kernel_rfl)))
local macro_rules | `(tactic| walk_at "keepk") => `(tactic| (exact Keep_K (by assumption) (by k_is)))
local macro_rules | `(tactic| walk_at "apart") => `(tactic| first | (apply Apart.left; k_mem; done) | (apply Apart.right; k_mem; done) | (apply Apart.tail; walk_at "apart"))
local macro_rules | `(tactic| walk_at "kgen") => `(tactic| (refine' Call_gen (by assumption) (by assumption) ?k1 ?k2 ?k3 ?k4 ?_ ?k5 ?k6; (case k1 => k_is); (case k2 => rfl); (case k3 => rfl); (case k4 => k_is); (case k5 => rfl); (case k6 => rfl)))
local macro_rules | `(tactic| walk_at "kcodec") => `(tactic| (refine' CodeC_K (by assumption) (by assumption) ?k1 ?k2 ?k3 ?k4 ?_ ?k5 ?k6; (case k1 => k_is); (case k2 => rfl); (case k3 => rfl); (case k4 => k_is); (case k5 => rfl); (case k6 => rfl)))
local macro_rules | `(tactic| walk_at "getk") => `(tactic| (refine' Get_K (by assumption) ?k1 ?k2 ?k3 ?k4 ?k5 ?g1 ?g2 ?g3 ?gh ?_; (case k1 => k_is); (case k2 => rfl); (case k3 => rfl); (case k4 => rfl); (case k5 => k_is); (case g1 => k_is); (case g2 => kernel_rfl); (case g3 => rfl); (case gh => rfl)))
theorem look_of_mem {t : List (Int × Int)} (h : (t.map (·.1)).Nodup) {p : Int × Int} (hp : p ∈ t) : look t p.1 = some p.2 := by
  induction t with
  | nil => cases hp
  | cons q t ih =>
    rw [List.map_cons, List.nodup_cons] at h
    unfold look
    rw [List.find?_cons]
    rcases List.mem_cons.mp hp with rfl | hp
    · simp
    · have : ¬ (q.1 = p.1) := fun e => h.1 (e ▸ List.mem_map_of_mem (f := (·.1)) hp)
      simp only [this, decide_false]
      exact ih h.2 hp
/-- what the tree of the graph with one edge more looks like -/
theorem LawS3.close {st : Int} {names : List Int} {succ succ2 : Int → List Int} {reached : List Int} {t t2 t' : List (Int × Int)} {a b : Int} (S2 : LawS2 st names succ reached t) (hst : st ∈ names) (cl : ∀ u ∈ names, ∀ c ∈ succ u, c ∈ names) (hb : b ∈ reached)
    (h3 : LawS3 st succ reached t a b t2) (h2 : ∀ u ∈ names, ∀ y, y ∈ succ2 u ↔ y ∈ succ u ∨ (u = a ∧ y = b)) (hid : IdomOk (fun x y => y ∈ succ2 x) st (Reach succ2 (· ∈ names) st) t') :
    (t'.length == t2.length && t'.all fun p => look t2 p.1 == some p.2) = true := by
  have hrsub : ∀ x ∈ reached, x ∈ names := fun x hx => ((S2.rr x).mp hx).ok
  have hR : ∀ x, Reach succ2 (· ∈ names) st x ↔ x ∈ reached := fun x => by
    constructor
    · intro q
      induction q with
      | refl h => exact (S2.rr _).mpr (.refl h)
      | step r e o ih =>
        rcases (h2 _ r.ok _).mp e with e | ⟨_, rfl⟩
        · exact (S2.rr _).mpr (.step ((S2.rr _).mp ih) e o)
        · exact hb
    · intro q0
      have q := (S2.rr x).mp q0
      clear q0
      induction q with
      | refl h => exact .refl h
      | step r e o ih => exact .step ih ((h2 _ r.ok _).mpr (.inl e)) o
  have hid' : IdomOk (more (fun x y => y ∈ succ x) a b) st (· ∈ reached) t' := hid.congr hR fun w x =>
    avoid_congr hst (fun x hx y => h2 x hx y) fun x hx y hy => by
      rcases (h2 x hx y).mp hy with e | ⟨_, rfl⟩
      · exact cl x hx y e
      · exact hrsub _ hb
  have hl := h3.ans t' hid'
  have hk2 : (t2.map (·.1)).Nodup := by rw [h3.keys]; exact S2.id.nd
  have hp : (t'.map (·.1)).Perm (t2.map (·.1)) := nodup_perm hid'.nd hk2 fun x => by rw [hid'.keys x, h3.keys, S2.id.keys x]
  have hlen := hp.length_eq
  rw [List.length_map, List.length_map] at hlen
  rw [Bool.and_eq_true, beq_iff_eq, List.all_eq_true]
  refine ⟨hlen, fun p hp => ?_⟩
  rw [← hl, look_of_mem hid'.nd hp]
  simp
section
variable {prog : Program} {w : World} {B : Bs} {A : Around} {own : Own} {gs : Array GenState} {p : Program} {loose : List Str} {mg mb : Str → Option Value}
theorem wpC_operate {vs : List Value} {t : Sem Value} {Q : Value → Shared → Prop} {E : Value → Shared → Prop} {s : Shared} (h : wpC (model prog w) A t Q E s) : wpC (model prog w) A (operate vs t) Q E s := fun Γ p hΓ hc => by
  rw [Sem.wp_operate]; exact h Γ p hΓ hc
theorem JCV_Compare {env : Env} {l r : Expr} {op : CmpOp} {pos : Pos} {Q : QV}
    (h : JCV prog w B A (eval l env) own gs fun a o g => JV prog w B A (eval r env) o g fun b o' g' => CmpJ prog w B A op a b o' g' Q)
    (hm : behindInMarks op r = false := by with_unfolding_all rfl) :
    JCV prog w B A (eval (.Compare l [op] [r] pos) env) own gs Q := fun s R => by
  rw [eval_Compare1, markedBehindIn_of_false hm]
  exact wpC_bind (JC.any h R fun a s₁ o g R₁ h₁ => wpC_bind (wpC_holding (wpC_of (J.any h₁ R₁ fun b s₂ o g R₂ h₂ => wpC_bind (wpC_standAt (wpC_operate (wpC_of (h₂ a b rfl rfl _ R₂))))))))
theorem AOk.mark {n : Nat} {e : Addr} (h : AOk B A n) (he : B.f e = some AExc0) : AOk B (A.mark (some (.ref e))) n := ⟨h.d, h.u, .inr ⟨e, rfl, he⟩⟩
local macro_rules | `(tactic| k_mem) => `(tactic| first | exact List.mem_append_right _ Gr.mem_x | exact List.mem_append_right _ Gr.mem_dx)
theorem law_five (T : TopB (hd.heap_39 w.params) p loose mg mb B) (BM : BMain mg B) (hsys : B.f sysModules ≠ none) {sco : Scope} {rest : List Stmt} (hat : lawAt 16 = some (sco, rest)) {A1 : Around} (hA1 : AOk B A1 299) {envs : Env} (hfr1 : A1.frames = some [envs]) (hh1 : A1.handled = none)
  (L cnode chead ckept cgone cabove ctree cstart cnum numl : Addr) {N : List Int} {i : Nat} {st : Int} {names : List Int} {succ : Int → List Int} {G0 : Gr} (S : LawSt N i st names succ G0)
  (he : envs = lawEnv sco L cnode chead ckept cgone cabove ctree cstart cnum) {reached : List Int} {t : List (Int × Int)} {m : List (Str × Value)} {es : List (Pos × Addr)} {tb : Option (Addr × Option Addr)} {g : Array GenState} (S2 : LawS2 st names succ reached t) (hm : predMore G0 m) (hes : es = [] ∨ ∃ c, es = [(⟨8, 11, 8, 53⟩, c)]) (hg : AllFin g)
  {a b : Int} {t2 : List (Int × Int)} {dd : Addr} {vn vk vg va vt : Option Value} (ha : a ∈ names) (hb : b ∈ reached) (h3 : LawS3 st succ reached t a b t2) :
    JCF prog w B A1 (execs rest (lawEnv sco L cnode chead ckept cgone cabove ctree cstart cnum)) (own16 prog w L cnode chead ckept cgone cabove ctree cstart cnum numl N st names { G0 with more := m } a b t2 dd es tb vn vk vg va vt) g LawEnd := by
  cases (show some (_, _) = some (sco, rest) from hat)
  clear hat
  subst he
  dsimp only [lawEnv, newEnv] at hfr1 ⊢
  unfold own16
  obtain ⟨G, hGe⟩ : ∃ G, G = { G0 with more := m } := ⟨_, rfl⟩
  have hG : G.Ok := by
    rw [hGe]
    refine { S.ok with mo := ?_ }
    rcases hm with rfl | rfl <;> rfl
  have hgn : G.names = names := by rw [hGe]; exact S.gn
  have hmore : predMore G G.more := by rw [hGe]; exact hm
  have hsk : ∀ u ∈ names, ∀ y, y ∈ succ u ↔ y ∈ (G.sk u).map (·.1) := by rw [hGe]; exact S.sk
  rw [← hGe]
  have hrsub : ∀ x ∈ reached, x ∈ names := fun x hx => ((S2.rr x).mp hx).ok
  have hmo := hG.mo
  have hNl := S.Nl
  -- graph.add_edge(tail, head)
  refine JCF_cons (JF_clean (JF_Expr (JV_MCall ?_)))
  walk_at "name"
  walk_at "methk"
  refine Args_cons ?_
  walk_at "name"
  refine Args_cons ?_
  walk_at "name"
  refine Args_nil ⟨by walk_at "keepk", ?_⟩
  refine' CallJ_frame (give := G.res 873 prog w) (fr := (L, ANs [(Str.ofString "graph", .ref G.x), (Str.ofString "tail", iv a), (Str.ofString "due", .ref dd)]) :: (dd, AD prog w (treeKv t2)) :: (cnode, ACell vn) :: (chead, ACell (some (iv b))) :: (ckept, ACell vk) :: (cgone, ACell vg) :: (cabove, ACell va) :: (ctree, ACell vt) :: (cstart, ACell (some (iv st))) :: (cnum, ACell (some (.ref numl))) :: (numl, AList (N.map iv)) :: (43, ATab es) :: dOwn tb) ?sub ?_
  case sub => exact Sub.of_perm List.perm_append_comm
  intro B2 hl2 hfr2
  refine add_edge_spec (T.le hl2) ((hA1.le hl2).less) hG (by rw [hgn]; exact ha) (by rw [hgn]; exact hrsub _ hb) fun d1 dn hdd => ?_
  have hG2 := hG.addEdge (by rw [hgn]; exact ha) (by rw [hgn]; exact hrsub _ hb) hdd
  have hgn2 : (G.addEdge a b d1 dn).names = names := hgn
  have hmore2 : predMore (G.addEdge a b d1 dn) (G.addEdge a b d1 dn).more := hmore
  have hsk2 : ∀ u ∈ names, ∀ y, y ∈ ((G.addEdge a b d1 dn).sk u).map (·.1) ↔ y ∈ succ u ∨ (u = a ∧ y = b) := fun u hu y => by rw [addEdge_keys, hsk u hu y]
  have hxx : G.x = (G.addEdge a b d1 dn).x := rfl
  rw [hxx]
  clear hxx hsk hmore hG
  revert hG2 hgn2 hmore2 hsk2
  generalize G.addEdge a b d1 dn = G2
  intro hG2 hgn2 hmore2 hsk2
  refine JCF_sub (o₂ := (L, ANs [(Str.ofString "graph", .ref G2.x), (Str.ofString "tail", iv a), (Str.ofString "due", .ref dd)]) :: (dd, AD prog w (treeKv t2)) :: (cnode, ACell vn) :: (chead, ACell (some (iv b))) :: (ckept, ACell vk) :: (cgone, ACell vg) :: (cabove, ACell va) :: (ctree, ACell vt) :: (cstart, ACell (some (iv st))) :: (cnum, ACell (some (.ref numl))) :: (numl, AList (N.map iv)) :: (43, ATab es) :: (dOwn tb ++ G2.res 873 prog w)) (Sub.of_perm (List.perm_append_comm (l₁ := (L, ANs [(Str.ofString "graph", .ref G2.x), (Str.ofString "tail", iv a), (Str.ofString "due", .ref dd)]) :: (dd, AD prog w (treeKv t2)) :: (cnode, ACell vn) :: (chead, ACell (some (iv b))) :: (ckept, ACell vk) :: (cgone, ACell vg) :: (cabove, ACell va) :: (ctree, ACell vt) :: (cstart, ACell (some (iv st))) :: (cnum, ACell (some (.ref numl))) :: (numl, AList (N.map iv)) :: (43, ATab es) :: dOwn tb) (l₂ := G2.res 873 prog w))) ?_
  -- the start that is not there
  refine JCF_cons ?_
  refine' (JCF_TryX (C := 80) (bs := [.ref 67]) (bm := [.ref 67, .type "Exception", .type "BaseException", .type "object"]) T hA1 hfr1 rfl (by k_is) ?ex ?eb ?hx ?_)
  case ex => rfl
  case eb => rfl
  case hx =>
    intro ea o g
    exact JV_global T (by k_is) ⟨rfl, rfl, rfl⟩
  refine JX_first (JX_Expr (JX_Call (JV_global T (by k_is) ⟨rfl, ?_⟩)))
  refine Args_cons ?_
  walk_at "name"
  refine Args_cons (JV_BinOp (JV_BinOp (JV_int (JV_Subscript ?_))))
  walk_at "name"
  refine JV_int ?_
  refine Item_list (k := ((5 : Nat) : Int)) (by walk_at "has") (by omega) (by omega) (getD_at (by omega)) ?_
  refine Bin_mul ?_ (IntMulOk.of_left (by decide))
  refine JV_int (Bin_add ?_)
  have hne : 8 * N.getD 5 0 + 7 ∉ G2.names := fun h => by
    rw [hgn2] at h
    obtain ⟨k, hk, e⟩ := S.mod h
    have := S.i7
    omega
  refine Args_nil ⟨by walk_at "keepk", ?_⟩
  refine idom_raises T (hA1.less) hfr1 hh1 (al0 := [(Str.ofString "graph", .ref G2.x), (Str.ofString "tail", iv a), (Str.ofString "due", .ref dd)]) ?kind rfl (.head _) (x := G2.x) (dx := G2.dx) (nd := G2.nd) (kvs := G2.fields) (ns := Gr.outer G2.names G2.N) (by walk_at "has") (by walk_at "has") (Has.own ?hnd) (by rfl) (by rw [valueAt_outer, if_neg hne]) fun ea T' ex => ?_
  case kind => intro h; cases h
  case hnd =>
    iterate 12 apply List.Mem.tail
    exact List.mem_append_right _ (.tail _ (.tail _ (.tail _ (.head _))))
  refine ⟨_, T', Sub.keep (Sub.keep Sub.dropL), ?_, fun T2 => ?_⟩
  · intro env henv
    rw [List.mem_singleton] at henv
    subst henv
    exact ⟨(by intro h; cases h), _, _, rfl, .head _⟩
  -- the answer
  refine JCF_sub (o₂ := (ea, AExc0) :: _) (Sub.weak AExcF.exc0 (Sub.refl _)) ?_
  refine JCF_frame (give := _) (fr := [(ea, AExc0)]) (Sub.of_perm (List.perm_append_singleton _ _)) fun B2 hl2 hfr2 => ?_
  have T3 := T.le hl2
  have BM2 := BM.le hl2
  have hA2 := (hA1.le hl2).mark (hfr2 _ (.head _))
  have hsys2 : B2.f sysModules ≠ none := fun e => by
    cases q : B.f sysModules with
    | none => exact hsys q
    | some P => have := hl2.1 _ _ q; rw [e] at this; cases this
  refine JCF_cons (JCF_Return (JCV_Compare (JCV_Call (JV_global T3 (by k_is) ⟨rfl, ?_⟩))))
  refine ArgsC_cons (JV_clean ?_)
  walk_at "name"
  refine ArgsC_cons (JV_clean ?_)
  walk_at "name"
  refine ArgsC_nil ⟨by walk_at "keepk", ?_⟩
  refine CallC_sub (o₂ := (43, ATab es) :: (dOwn tb ++ ([(L, ANs [(Str.ofString "graph", .ref G2.x), (Str.ofString "tail", iv a), (Str.ofString "due", .ref dd)]), (dd, AD prog w (treeKv t2)), (cnode, ACell vn), (chead, ACell (some (iv b))), (ckept, ACell vk), (cgone, ACell vg), (cabove, ACell va), (ctree, ACell vt), (cstart, ACell (some (iv st))), (cnum, ACell (some (.ref numl))), (numl, AList (N.map iv))] ++ G2.res 873 prog w))) (Sub.of_perm ?_) ?_
  · exact (List.Perm.cons _ (List.perm_append_comm_assoc (dOwn tb) [(L, ANs [(Str.ofString "graph", .ref G2.x), (Str.ofString "tail", iv a), (Str.ofString "due", .ref dd)]), (dd, AD prog w (treeKv t2)), (cnode, ACell vn), (chead, ACell (some (iv b))), (ckept, ACell vk), (cgone, ACell vg), (cabove, ACell va), (ctree, ACell vt), (cstart, ACell (some (iv st))), (cnum, ACell (some (.ref numl))), (numl, AList (N.map iv))] (G2.res 873 prog w))).trans (List.perm_middle (a := (43, ATab es)) (l₁ := [(L, ANs [(Str.ofString "graph", .ref G2.x), (Str.ofString "tail", iv a), (Str.ofString "due", .ref dd)]), (dd, AD prog w (treeKv t2)), (cnode, ACell vn), (chead, ACell (some (iv b))), (ckept, ACell vk), (cgone, ACell vg), (cabove, ACell va), (ctree, ACell vt), (cstart, ACell (some (iv st))), (cnum, ACell (some (.ref numl))), (numl, AList (N.map iv))]) (l₂ := dOwn tb ++ G2.res 873 prog w)).symm
  refine idom_call T3 BM2 (hA2.less) hsys2 hG2 hmore2 (by rw [hgn2]; exact S.st) hes hg fun d t' m' es' tb' g' hid _ _ hg' => ?_
  refine JV_sub (o₂ := (d, AD prog w (treeKv t')) :: (43, ATab es') :: ([(L, ANs [(Str.ofString "graph", .ref G2.x), (Str.ofString "tail", iv a), (Str.ofString "due", .ref dd)]), (dd, AD prog w (treeKv t2)), (cnode, ACell vn), (chead, ACell (some (iv b))), (ckept, ACell vk), (cgone, ACell vg), (cabove, ACell va), (ctree, ACell vt), (cstart, ACell (some (iv st))), (cnum, ACell (some (.ref numl))), (numl, AList (N.map iv))] ++ (dOwn tb' ++ Gr.res 873 prog w { G2 with more := m' }))) (Sub.keep (Sub.keep (Sub.of_perm (List.perm_append_comm_assoc _ _ _)))) ?_
  dsimp only [List.cons_append, List.nil_append]
  walk_at "name"
  refine Cmp_eqDicts T3 hA2 (by walk_at "has") (by walk_at "has") ?_
  rw [hgn2] at hid
  rw [LawS3.close S2 S.st S.cl hb h3 hsk2 hid]
  refine ⟨_, Sub.refl _, rfl, hg', es', tb', .tail _ (.head _), ?_⟩
  refine List.mem_append_left _ ?_
  iterate 13 apply List.Mem.tail
  exact List.mem_append_left _ (.head _)
end
end Mine
end
section
set_option maxRecDepth 100000
set_option maxHeartbeats 4000000
open PySem PySem.Calls PyProof.Rows PySem.W PySem.Spec
namespace Mine
example : PySem.Challenge.rw_ci0025_01.prog = PySem.Challenge.rw_ci0025_01.prog ∧ hd.heap_39 = hd.heap_39 := by k_fill; exact ⟨rfl, rfl⟩
local macro_rules | `(tactic| k_mem) => `(tactic| first | apply List.Mem.head | exact Gr.memS (by assumption) | exact Gr.memP (by assumption) | exact Gr.memJ (by assumption) | (apply List.Mem.tail; k_mem))
local macro_rules | `(tactic| walk_at "has") => `(tactic| first | (apply Has.own; k_mem) | (apply Has.base; assumption))
local macro_rules | `(tactic| walk_at "upd") => `(tactic| first | apply Upd.head | exact Gr.updS (by assumption) (by assumption) | exact Gr.updP (by assumption) (by assumption) | (apply Upd.tail; walk_at "upd"))
local macro_rules | `(tactic| walk_at "setl") => `(tactic| first | apply SetL.nil | apply SetL.here | (apply SetL.next (by rfl); walk_at "setl"))
local macro_rules | `(tactic| walk_at "cells") => `(tactic| repeat' (first | refine Cells_nil ?_ | refine Cells_skip (by decide) ?_ | (refine Cells_cell ?_; intro _)))
local macro_rules | `(tactic| walk_at "pick") => `(tactic| first | apply PickR.head | (apply PickR.tail; walk_at "pick"))
local macro_rules | `(tactic| walk_at "weak") => `(tactic| first | exact fun _ h => h | exact AEmpty.toAD | (refine ANs.sub ?_; repeat' (first | exact List.forall_mem_nil _ | refine List.forall_mem_cons.mpr ⟨rfl, ?_⟩)))
local macro_rules | `(tactic| walk_at "subt") => `(tactic| first | exact Sub.refl _ | (refine Sub.skip ?_; walk_at "subt"))
local macro_rules | `(tactic| walk_at "sub") => `(tactic| first | apply Sub.nil | (refine' Sub.pick ?hp ?hw ?_; (case hp => walk_at "pick"); (case hw => walk_at "weak"); walk_at "sub") | walk_at "subt")
local macro_rules | `(tactic| walk_at "store") => `(tactic| first | (refine' Store_local ?hu ?hs ?_; (case hu => walk_at "upd"); (case hs => walk_at "setl")) | (refine' Store_cell ?hc ?hu ?_; (case hc => rfl); (case hu => walk_at "upd")))

local macro_rules | `(tactic| walk_at "name") => `(tactic| first
  | (refine' JV_local ?hn ?hv ?_; (case hn => walk_at "has"); (case hv => rfl))
  | (refine' JV_cell ?hc ?hn ?_; (case hc => rfl); (case hn => walk_at "has"))
  | (refine' JV_free ?hc ?hn ?_; (case hc => rfl); (case hn => walk_at "has")))
local macro_rules | `(tactic| walk_at "js") => `(tactic| first
  | with_reducible refine JF_cons ?_
  | with_reducible refine JF_nil ?_
  | refine JF_Assign ?_
  | with_reducible refine JF_If ?_
  | with_reducible refine JF_Return ?_
  | refine JF_Expr ?_
  | with_reducible refine JV_int ?_
  | with_reducible refine JV_bool ?_
  | with_reducible refine JV_none ?_
  | with_reducible refine JV_str ?_
  | with_reducible refine JV_BinOp ?_
  | refine JV_Compare ?_
  | with_reducible refine JV_IfExp ?_
  | refine Test_cmp ?_
  | with_reducible refine Test_not ?_
  | with_reducible refine Test_and ?_
  | with_reducible refine Test_and_nil ?_
  | with_reducible refine Test_or ?_
  | with_reducible refine Test_or_nil ?_
  | with_reducible refine Tru_bool ?_
  | refine JV_List ?_
  | refine JV_Tuple ?_
  | with_reducible refine Args_nil ?_
  | refine Args_cons ?_
  | with_reducible refine Bin_add ?_
  | with_reducible refine Cmp_eq ?_
  | with_reducible refine Cmp_ne ?_
  | with_reducible refine Cmp_lt ?_
  | with_reducible refine Cmp_le ?_
  | with_reducible refine Cmp_gt ?_
  | with_reducible refine Cmp_ge ?_
  | walk_at "name"
  | walk_at "store")
local macro_rules | `(tactic| walk_at "inst") => `(tactic| (refine' Inst.mk ?ix ?id; (case ix => walk_at "has"); (case id => walk_at "has")))
local macro_rules | `(tactic| walk_at "kfun") => `(tactic| (refine' Call_K (by assumption) (by assumption) ?k1 ?k2 ?k3 ?k4 ?_ ?k5 ?k6; (case k1 => k_is); (case k2 => rfl); (case k3 => rfl); (case k4 => k_is); (case k5 => rfl); (case k6 => rfl)))
local macro_rules | `(tactic| walk_at "kcode") => `(tactic| (refine' Code_K (by assumption) (by assumption) ?k1 ?k2 ?k3 ?k4 ?_ ?k5 ?k6; (case k1 => k_is); (case k2 => rfl); (case k3 => rfl); (case k4 => k_is); (case k5 => rfl); (case k6 => rfl)))
local macro_rules | `(tactic| walk_at "methk") => `(tactic| (refine' Meth_K (by assumption) ?mi ?mv ?_ ?g1 ?g2 ?g3 ?g4; (case mi => walk_at "inst"); (case mv => first | exact fields_none (by assumption) (by decide) | rfl); (case g1 => k_is); (case g2 => k_is); (case g3 => k_is); (case g4 => k_is)))
local macro_rules | `(tactic| walk_at "getown") => `(tactic| (refine' Get_own (by assumption) ?mi ?mv ?_ ?g1 ?g2 ?gh; (case mi => walk_at "inst"); (case mv => rfl); (case g1 => k_is); (case g2 => kernel_rfl); (case gh => rfl)))
local macro_rules | `(tactic| walk_at "setown") => `(tactic| (refine' SetAttr_inst (by assumption) ?sx ?sd ?sk ?_ ?se ?sl; (case sx => walk_at "has"); (case sd => walk_at "upd"); (case se => rfl); (case sl => exact Nat.le_of_ble_eq_true rfl); (case sk => kernel_rfl)))
local macro_rules | `(tactic| walk_at "keepk") => `(tactic| (exact Keep_K (by assumption) (by k_is)))
local macro_rules | `(tactic| walk_at "apart") => `(tactic| first | (apply Apart.left; k_mem; done) | (apply Apart.right; k_mem; done) | (apply Apart.tail; walk_at "apart"))
local macro_rules | `(tactic| walk_at "kgen") => `(tactic| (refine' Call_gen (by assumption) (by assumption) ?k1 ?k2 ?k3 ?k4 ?_ ?k5 ?k6; (case k1 => k_is); (case k2 => rfl); (case k3 => rfl); (case k4 => k_is); (case k5 => rfl); (case k6 => rfl)))
local macro_rules | `(tactic| walk_at "kcodec") => `(tactic| (refine' CodeC_K (by assumption) (by assumption) ?k1 ?k2 ?k3 ?k4 ?_ ?k5 ?k6; (case k1 => k_is); (case k2 => rfl); (case k3 => rfl); (case k4 => k_is); (case k5 => rfl); (case k6 => rfl)))
local macro_rules | `(tactic| walk_at "getk") => `(tactic| (refine' Get_K (by assumption) ?k1 ?k2 ?k3 ?k4 ?k5 ?g1 ?g2 ?g3 ?gh ?_; (case k1 => k_is); (case k2 => rfl); (case k3 => rfl); (case k4 => rfl); (case k5 => k_is); (case g1 => k_is); (case g2 => kernel_rfl); (case g3 => rfl); (case gh => rfl)))
section
variable {prog : Program} {w : World} {B : Bs} {A : Around} {p : Program} {loose : List Str} {mg mb : Str → Option Value}
/-- the law answers True -/
theorem law_spec (T : TopB (hd.heap_39 w.params) p loose mg mb B) (BM : BMain mg B) (hsys : B.f sysModules ≠ none) (hA : AOk B A 300) (hfr : A.frames = some []) (hh : A.handled = none) {sc : Addr} {script : List Int} {P : Pd} (hs : B.f sc = some P) (hP : ∀ o, P o → AList (script.map iv) o) (hlen : script.length ≤ 63) :
    CodeC prog w B A (.ref 906) [.ref sc] [(43, ATab []), (84, ATab [])] #[] fun v o g => v = .bool true ∧ AllFin g ∧ ∃ es tb, (43, ATab es) ∈ o ∧ (84, ATab (dTab tb)) ∈ o :=
  law_build T BM hA hfr hh hs hP hlen fun sco rest hat A1 hA1 envs hfr1 hh1 L cnode chead ckept cgone cabove ctree cstart cnum numl nl W wl N i st names succ G S he =>
    law_two T BM hsys hat hA1 hfr1 hh1 L cnode chead ckept cgone cabove ctree cstart cnum numl nl W wl S he fun sco rest hat he td rl abv al reached t ep m es tb g S2 hm hes hg =>
      law_three T BM hat hA1 hfr1 hh1 L cnode chead ckept cgone cabove ctree cstart cnum numl nl W wl S he S2 hm hes hg fun sco rest hat he vk vg =>
        law_four T BM hat hA1 hfr1 hh1 L cnode chead ckept cgone cabove ctree cstart cnum numl nl W wl S he S2 hm hg fun sco rest hat he a b t2 dd vn vk vg va vt ha hb h3 =>
          law_five T BM hsys hat hA1 hfr1 hh1 L cnode chead ckept cgone cabove ctree cstart cnum numl S he S2 hm hes hg ha hb h3
end
end Mine
end
section
set_option maxRecDepth 100000
set_option maxHeartbeats 4000000
open PySem PySem.Calls PyProof.Rows PySem.W PySem.Spec
namespace Mine
example : PySem.Challenge.rw_ci0025_01.prog = PySem.Challenge.rw_ci0025_01.prog ∧ hd.heap_39 = hd.heap_39 := by k_fill; exact ⟨rfl, rfl⟩
local macro_rules | `(tactic| k_mem) => `(tactic| first | apply List.Mem.head | exact Gr.memS (by assumption) | exact Gr.memP (by assumption) | exact Gr.memJ (by assumption) | (apply List.Mem.tail; k_mem))
local macro_rules | `(tactic| walk_at "has") => `(tactic| first | (apply Has.own; k_mem) | (apply Has.base; assumption))
local macro_rules | `(tactic| walk_at "upd") => `(tactic| first | apply Upd.head | exact Gr.updS (by assumption) (by assumption) | exact Gr.updP (by assumption) (by assumption) | (apply Upd.tail; walk_at "upd"))
local macro_rules | `(tactic| walk_at "setl") => `(tactic| first | apply SetL.nil | apply SetL.here | (apply SetL.next (by rfl); walk_at "setl"))
local macro_rules | `(tactic| walk_at "cells") => `(tactic| repeat' (first | refine Cells_nil ?_ | refine Cells_skip (by decide) ?_ | (refine Cells_cell ?_; intro _)))
local macro_rules | `(tactic| walk_at "pick") => `(tactic| first | apply PickR.head | (apply PickR.tail; walk_at "pick"))
local macro_rules | `(tactic| walk_at "weak") => `(tactic| first | exact fun _ h => h | exact AEmpty.toAD | (refine ANs.sub ?_; repeat' (first | exact List.forall_mem_nil _ | refine List.forall_mem_cons.mpr ⟨rfl, ?_⟩)))
local macro_rules | `(tactic| walk_at "subt") => `(tactic| first | exact Sub.refl _ | (refine Sub.skip ?_; walk_at "subt"))
local macro_rules | `(tactic| walk_at "sub") => `(tactic| first | apply Sub.nil | (refine' Sub.pick ?hp ?hw ?_; (case hp => walk_at "pick"); (case hw => walk_at "weak"); walk_at "sub") | walk_at "subt")
local macro_rules | `(tactic| walk_at "store") => `(tactic| first | (refine' Store_local ?hu ?hs ?_; (case hu => walk_at "upd"); (case hs => walk_at "setl")) | (refine' Store_cell ?hc ?hu ?_; (case hc => rfl); (case hu => walk_at "upd")))

local macro_rules | `(tactic| walk_at "name") => `(tactic| first
  | (refine' JV_local ?hn ?hv ?_; (case hn => walk_at "has"); (case hv => rfl))
  | (refine' JV_cell ?hc ?hn ?_; (case hc => rfl); (case hn => walk_at "has"))
  | (refine' JV_free ?hc ?hn ?_; (case hc => rfl); (case hn => walk_at "has")))
local macro_rules | `(tactic| walk_at "js") => `(tactic| first
  | with_reducible refine JF_cons ?_
  | with_reducible refine JF_nil ?_
  | refine JF_Assign ?_
  | with_reducible refine JF_If ?_
  | with_reducible refine JF_Return ?_
  | refine JF_Expr ?_
  | with_reducible refine JV_int ?_
  | with_reducible refine JV_bool ?_
  | with_reducible refine JV_none ?_
  | with_reducible refine JV_str ?_
  | with_reducible refine JV_BinOp ?_
  | refine JV_Compare ?_
  | with_reducible refine JV_IfExp ?_
  | refine Test_cmp ?_
  | with_reducible refine Test_not ?_
  | with_reducible refine Test_and ?_
  | with_reducible refine Test_and_nil ?_
  | with_reducible refine Test_or ?_
  | with_reducible refine Test_or_nil ?_
  | with_reducible refine Tru_bool ?_
  | refine JV_List ?_
  | refine JV_Tuple ?_
  | with_reducible refine Args_nil ?_
  | refine Args_cons ?_
  | with_reducible refine Bin_add ?_
  | with_reducible refine Cmp_eq ?_
  | with_reducible refine Cmp_ne ?_
  | with_reducible refine Cmp_lt ?_
  | with_reducible refine Cmp_le ?_
  | with_reducible refine Cmp_gt ?_
  | with_reducible refine Cmp_ge ?_
  | walk_at "name"
  | walk_at "store")
local macro_rules | `(tactic| walk_at "inst") => `(tactic| (refine' Inst.mk ?ix ?id; (case ix => walk_at "has"); (case id => walk_at "has")))
local macro_rules | `(tactic| walk_at "kfun") => `(tactic| (refine' Call_K (by assumption) (by assumption) ?k1 ?k2 ?k3 ?k4 ?_ ?k5 ?k6; (case k1 => k_is); (case k2 => rfl); (case k3 => rfl); (case k4 => k_is); (case k5 => rfl); (case k6 => rfl)))
local macro_rules | `(tactic| walk_at "kcode") => `(tactic| (refine' Code_K (by assumption) (by assumption) ?k1 ?k2 ?k3 ?k4 ?_ ?k5 ?k6; (case k1 => k_is); (case k2 => rfl); (case k3 => rfl); (case k4 => k_is); (case k5 => rfl); (case k6 => rfl)))
local macro_rules | `(tactic| walk_at "methk") => `(tactic| (refine' Meth_K (by assumption) ?mi ?mv ?_ ?g1 ?g2 ?g3 ?g4; (case mi => walk_at "inst"); (case mv => first | exact fields_none (by assumption) (by decide) | rfl); (case g1 => k_is); (case g2 => k_is); (case g3 => k_is); (case g4 => k_is)))
local macro_rules | `(tactic| walk_at "getown") => `(tactic| (refine' Get_own (by assumption) ?mi ?mv ?_ ?g1 ?g2 ?gh; (case mi => walk_at "inst"); (case mv => rfl); (case g1 => k_is); (case g2 => kernel_rfl); (case gh => rfl)))
local macro_rules | `(tactic| walk_at "setown") => `(tactic| (refine' SetAttr_inst (by assumption) ?sx ?sd ?sk ?_ ?se ?sl; (case sx => walk_at "has"); (case sd => walk_at "upd"); (case se => rfl); (case sl => exact Nat.le_of_ble_eq_true rfl); (case sk => kernel_rfl)))
local macro_rules | `(tactic| walk_at "keepk") => `(tactic| (exact Keep_K (by assumption) (by k_is)))
local macro_rules | `(tactic| walk_at "apart") => `(tactic| first | (apply Apart.left; k_mem; done) | (apply Apart.right; k_mem; done) | (apply Apart.tail; walk_at "apart"))
local macro_rules | `(tactic| walk_at "kgen") => `(tactic| (refine' Call_gen (by assumption) (by assumption) ?k1 ?k2 ?k3 ?k4 ?_ ?k5 ?k6; (case k1 => k_is); (case k2 => rfl); (case k3 => rfl); (case k4 => k_is); (case k5 => rfl); (case k6 => rfl)))
local macro_rules | `(tactic| walk_at "kcodec") => `(tactic| (refine' CodeC_K (by assumption) (by assumption) ?k1 ?k2 ?k3 ?k4 ?_ ?k5 ?k6; (case k1 => k_is); (case k2 => rfl); (case k3 => rfl); (case k4 => k_is); (case k5 => rfl); (case k6 => rfl)))
local macro_rules | `(tactic| walk_at "getk") => `(tactic| (refine' Get_K (by assumption) ?k1 ?k2 ?k3 ?k4 ?k5 ?g1 ?g2 ?g3 ?gh ?_; (case k1 => k_is); (case k2 => rfl); (case k3 => rfl); (case k4 => rfl); (case k5 => k_is); (case g1 => k_is); (case g2 => kernel_rfl); (case g3 => rfl); (case gh => rfl)))
def B0 (s : Shared) : Bs := ⟨fun a => if a = 43 ∨ a = 84 then none else (s.heap.get? a).map ARaw, s.os⟩
theorem B0.at {s : Shared} {a : Addr} {o : Obj} (h : s.heap.get? a = some o) (n : a ≠ 43 ∧ a ≠ 84) : (B0 s).f a = some (ARaw o) := by
  show (if a = 43 ∨ a = 84 then none else (s.heap.get? a).map ARaw) = _
  rw [if_neg (fun q => q.elim n.1 n.2), h]; rfl
theorem B0.keep {s : Shared} {h : Heap} (x : (B0 s).sat h) {a : Addr} {o : Obj} (e : s.heap.get? a = some o) (n : a ≠ 43 ∧ a ≠ 84) : h.get? a = some o := by
  obtain ⟨o', h1, h2⟩ := x _ _ (B0.at e n)
  rw [h1, show o' = o from h2]
theorem B0.sat {s : Shared} : (B0 s).sat s.heap := fun a p e => by
  have e : (if a = 43 ∨ a = 84 then none else (s.heap.get? a).map ARaw) = some p := e
  split at e
  · cases e
  · cases q : s.heap.get? a with
    | none => rw [q] at e; cases e
    | some o => rw [q] at e; cases e; exact ⟨o, rfl, rfl⟩
theorem Ns.keep0 {s : Shared} {h : Heap} (x : (B0 s).sat h) {a : Addr} {m : Str → Option Value} (n : s.heap.Ns a m) (ha : a ≠ 43 ∧ a ≠ 84) : h.Ns a m := by
  obtain ⟨o, es, ep, ho, r⟩ := n
  exact ⟨o, es, ep, B0.keep x ho ha, r⟩
theorem B0.top {p : Program} {loose : List Str} {mg mb : Str → Option Value} {s : Shared} {K : Frag} (hK : K.In s.heap) (hk : K.lookup 43 = none ∧ K.lookup 84 = none) (T : TopRead p loose mg mb s.heap) (hS : sysObs s.heap = true) : TopB K p loose mg mb (B0 s) := fun h x => by
  refine ⟨fun a o e => B0.keep x (hK a o e) ⟨fun q => ?_, fun q => ?_⟩, ?_, ?_⟩
  · rw [q, hk.1] at e; cases e
  · rw [q, hk.2] at e; cases e
  · refine ⟨Ns.keep0 x T.g (by decide), Ns.keep0 x T.b (by decide), ?_, T.builtins, T.free⟩
    obtain ⟨mc, h1, h2⟩ := T.nolimit
    exact ⟨mc, Ns.keep0 x h1 (by decide), h2⟩
  · have x0 := sysObs_0 hS
    have x1 := sysObs_stat hS
    refine Bool.and_eq_true_iff.mpr ⟨?_, ?_⟩
    · unfold sysObs0 at x0 ⊢
      cases q : s.heap.get? 1 with
      | none => rw [q] at x0; cases x0
      | some o => rw [q] at x0; rw [B0.keep x q (by decide)]; exact x0
    · unfold statObs at x1 ⊢
      cases q : s.heap.get? cStatics with
      | none => rw [q] at x1; cases x1
      | some o => rw [q] at x1; rw [B0.keep x q (by decide)]; exact x1
theorem B0.main {p : Program} {loose : List Str} {mean : ExcName → Option Value} {mg mb : Str → Option Value} {s : Shared} (T : Top p loose mean mg mb s.heap) (t1 : s.heap.get? 43 = some (tabObj #[])) (t2 : s.heap.get? 84 = some (tabObj #[])) : BMain mg (B0 s) := by
  obtain ⟨bm, ob, h1, h2, h3, h4, h5, h6⟩ := T.bmain
  refine ⟨bm, ob, h1, h2, fun q => ?_, B0.at h3 ⟨fun q => ?_, fun q => ?_⟩, h4, h5, h6⟩
  · obtain ⟨o, es, ep, ho, hd, _⟩ := T.g
    rw [← q, h3] at ho
    cases ho
    rw [h6] at hd; cases hd
  · rw [q, t1] at h3; cases h3; cases h4
  · rw [q, t2] at h3; cases h3; cases h4
theorem well_ints {P : Params} {h : Heap} : ∀ {ns : List Int} {vs : List Value}, WellAll P h vs (ofPys (ns.map PyData.int)) → vs.map er = ns.map iv
  | [], vs, x => by cases x; rfl
  | n :: ns, vs, x => by
    cases x with
    | cons a b =>
      cases a
      rw [List.map_cons, List.map_cons, well_ints b]
      rfl
theorem tables_grown {s : Shared} {own : Own} {g : Array GenState} {s' : Shared} (R : Rep (B0 s) own g s') (t1 : s.heap.get? 43 = some (tabObj #[])) (t2 : s.heap.get? 84 = some (tabObj #[])) (c1 : isCodeTable s.heap 43) (c2 : isCodeTable s.heap 84)
  {es es' : List (Pos × Addr)} (h1 : (43, ATab es) ∈ own) (h2 : (84, ATab es') ∈ own) : OldK s.heap s'.heap where
  old := fun b o e => by
    obtain ⟨o1, e1, p1⟩ := R.o _ _ h1
    obtain ⟨o2, e2, p2⟩ := R.o _ _ h2
    by_cases q1 : b = 43
    · subst q1
      rw [t1] at e; cases e
      rw [show o1 = tabObj (tabArr es) from p1] at e1
      exact .inr (.inl ⟨c1, rfl, #[], tabArr es, rfl, by rw [Array.empty_append]; exact e1⟩)
    · by_cases q2 : b = 84
      · subst q2
        rw [t2] at e; cases e
        rw [show o2 = tabObj (tabArr es') from p2] at e2
        exact .inr (.inl ⟨c2, rfl, #[], tabArr es', rfl, by rw [Array.empty_append]; exact e2⟩)
      · exact .inl (B0.keep R.b e ⟨q1, q2⟩)
  there := fun b o e => by
    by_cases q1 : b = 43
    · subst q1; obtain ⟨o1, e1, _⟩ := R.o _ _ h1; exact ⟨o1, e1⟩
    · by_cases q2 : b = 84
      · subst q2; obtain ⟨o1, e1, _⟩ := R.o _ _ h2; exact ⟨o1, e1⟩
      · exact ⟨o, B0.keep R.b e ⟨q1, q2⟩⟩
theorem the_run {w : World} {s₁ : Shared} {mg mb : Str → Option Value} {p : Program} {loose : List Str} {ns : List Int} {sc : Addr} {P : Params} (T : TopB (hd.heap_39 w.params) p loose mg mb (B0 s₁)) (BM : BMain mg (B0 s₁)) (hS : sysObs s₁.heap = true) (t1 : s₁.heap.get? 43 = some (tabObj #[])) (t2 : s₁.heap.get? 84 = some (tabObj #[]))
    (c1 : isCodeTable s₁.heap 43) (c2 : isCodeTable s₁.heap 84) (hgens : s₁.gens = #[]) (hw : WellAll P s₁.heap [.ref sc] [ofPy (.list (ns.map .int))]) (hl : ns.length ≤ 63) {prog : Program} :
    wpC (model prog w) callerA (PySem.call (.ref 906) [.ref sc]) (fun v s' => v = .bool true ∧ OldK s₁.heap s'.heap ∧ s'.os = s₁.os ∧ AllBare s'.gens) (fun _ _ => False) s₁ := by
  have hL : ∃ vs : List Value, s₁.heap.get? sc = some { cls := .type "list", data := .seq vs.toArray } ∧ vs.map er = ns.map iv := by
    cases hw with
    | cons a _ =>
      have a : Well P s₁.heap (.ref sc) (.list (ofPys (ns.map PyData.int))) := a
      cases a with
      | list h1 h2 => exact ⟨_, h1, well_ints h2⟩
  obtain ⟨vs, hsc, hvs⟩ := hL
  have hne : sc ≠ 43 ∧ sc ≠ 84 := ⟨fun q => by (rw [q, t1] at hsc; cases hsc), fun q => by (rw [q, t2] at hsc; cases hsc)⟩
  have hsys : (B0 s₁).f sysModules ≠ none := by
    have x := sysObs_0 hS
    unfold sysObs0 at x
    cases q : s₁.heap.get? 1 with
    | none => rw [q] at x; cases x
    | some o =>
      rw [show (B0 s₁).f sysModules = some (ARaw o) from B0.at q (by decide)]
      exact fun h => by cases h
  have hA : AOk (B0 s₁) callerA 300 := ⟨by decide, by decide, .inl rfl⟩
  have R : Rep (B0 s₁) [(43, ATab []), (84, ATab [])] #[] s₁ := by
    refine ⟨B0.sat, fun a q h => ?_, fun a q h => ?_, by decide, hgens, rfl⟩
    · rcases List.mem_cons.mp h with h | h
      · cases h; exact ⟨_, t1, rfl⟩
      · cases List.mem_singleton.mp h; exact ⟨_, t2, rfl⟩
    · rcases List.mem_cons.mp h with h | h
      · cases h; rfl
      · cases List.mem_singleton.mp h; rfl
  have h := (law_spec (prog := prog) T BM hsys hA rfl rfl (script := ns) (B0.at hsc hne) (fun o h => ⟨vs.toArray, _, h, by simpa using hvs⟩) hl).call [.ref sc] rfl s₁ R
  refine wpC_mono h (fun v s' h => ?_) fun _ _ h => h
  obtain ⟨o, g, R', hv, hg, es, tb, h1, h2⟩ := h
  refine ⟨?_, tables_grown R' t1 t2 c1 c2 h1 h2, R'.os, ?_⟩
  · exact er_eq_bool hv
  · rw [R'.gens]; exact hg.bare
set_option maxHeartbeats 8000000 in
theorem the_law : PySem.Challenge.rw_ci0025_01.Holds := by
  refine hd ?_
  intro w s₀ s₁ mg mb G Y a o pm cd doc dV kV ho hod hcd hD hmg hgens args vals as hpre hlay hrd hwl hlo
  obtain ⟨hK, hT, hS⟩ := Y
  have t1 := hT 43 (by decide)
  have t2 := hT 84 (by decide)
  have T := B0.top hK ⟨by kernel_rfl, by kernel_rfl⟩ (topRead_of G.T) hS
  have BM := B0.main G.T t1 t2
  have ha : a = 906 := by
    have h := mg_of hK G.T.g (n := "law") (v := .ref 906) (by k_is)
    have hmg' : mg "law" = some (.ref a) := hmg
    rw [h] at hmg'
    cases hmg'; rfl
  subst ha
  have c1 : isCodeTable s₁.heap 43 := by
    obtain ⟨o, vs, _, _, _, _, _, _, _, q1, q2, q3, q4, _⟩ := codeHd_of (c := 47) (P := 43) hK (by k_is) rfl rfl rfl rfl rfl rfl rfl (by decide)
    exact ⟨47, o, vs, q1, q2, q3, q4⟩
  have c2 : isCodeTable s₁.heap 84 := by
    obtain ⟨o, vs, _, _, _, _, _, _, _, q1, q2, q3, q4, _⟩ := codeHd_of (c := 86) (P := 84) hK (by k_is) rfl rfl rfl rfl rfl rfl rfl (by decide)
    exact ⟨86, o, vs, q1, q2, q3, q4⟩
  clear ho hod hcd hD hmg hT
  have hwl2 := hwl
  wrow_args hpre hlay hrd hwl hlo
  refine wpC_mono (the_run T BM hS t1 t2 c1 c2 hgens hwl2 (by omega)) (fun v s' h => ?_) (fun _ _ h => h.elim)
  obtain ⟨rfl, hk, hos, hg⟩ := h
  exact ⟨.inl ⟨.bool true, .bool true, [], rfl, fun _ => rfl, ReadsW.bool true, by wrow_post, fun _ => ⟨List.nodup_nil, fun _ h => by cases h⟩⟩, hk, hos, hg⟩
end Mine
end
theorem PySem.Challenge.cw_ci0025_01_holds : PySem.Challenge.rw_ci0025_01.Holds :=
  Mine.the_law
