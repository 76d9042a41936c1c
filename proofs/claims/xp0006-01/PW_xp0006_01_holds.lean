import PyProof.Rows.All
import Wide.All
import OpenK.AllK
import Wide.FinOn
import PySem.Challenge.RW_xp0006_01
open PySem PySem.W PyProof.Rows PySem.Calls
open Sem (wp)
set_option Elab.async false
set_option maxRecDepth 100000
set_option maxHeartbeats 4000000
namespace Mine
/-- codes that the model takes for a hold on their first argument's buffer -/
noncomputable def okIds : List String := ["claim.caller", "type.__call__", "bytearray.__init__", "bytearray.__new__", "object.__new__", "object.__init__"]
noncomputable def noDec : Code → Bool
  | .builtin id _ => okIds.contains id
  | _ => true
/-- no such code is under way -/
noncomputable def Cl (Γ : Ctx) : Prop := noDec Γ.code = true ∧ ∀ x ∈ Γ.below, noDec x.1 = true
noncomputable def wpCl {α : Type} (M : Model) (A : Around) (t : Sem α) (Q : α → Shared → Prop) (E : Value → Shared → Prop) (s : Shared) : Prop :=
  ∀ Γ p, Γ.In A → Cl Γ → wp M Γ t (fun a _ s' => Q a s') (fun e _ s' => E e s') p s
noncomputable def codeCl (M : Model) (A : Around) (c : Code) (R : Result → Shared → Prop) (s : Shared) : Prop :=
  ∀ Γ p, Γ.code = c → Γ.Below A → Cl Γ → wpCode M Γ R p s
section
variable {α β : Type} {M : Model} {A : Around} {E : Value → Shared → Prop} {s : Shared}
theorem wpCl_of {t : Sem α} {Q : α → Shared → Prop} (h : wpAny M A t Q E s) : wpCl M A t Q E s := fun Γ p hΓ _ => h Γ p hΓ
theorem codeCl_of {c : Code} {R : Result → Shared → Prop} (h : codeAny M A c R s) : codeCl M A c R s := fun Γ p hc hΓ _ => h Γ p hc hΓ
theorem wpCl_mono {t : Sem α} {Q Q' : α → Shared → Prop} {E' : Value → Shared → Prop} (h : wpCl M A t Q E s) (hQ : ∀ a s, Q a s → Q' a s) (hE : ∀ e s, E e s → E' e s) : wpCl M A t Q' E' s :=
  fun Γ p hΓ hc => Sem.wp_mono M Γ t (fun a _ s => hQ a s) (fun e _ s => hE e s) p s (h Γ p hΓ hc)
theorem wpCl_bind {m : Sem α} {f : α → Sem β} {Q : β → Shared → Prop} (h : wpCl M A m (fun a s' => wpCl M A (f a) Q E s') E s) : wpCl M A (m >>= f) Q E s := fun Γ p hΓ hc => by
  rw [Sem.wp_bind']
  exact Sem.wp_mono M Γ m (fun a p' s' h' => h' Γ p' hΓ hc) (fun _ _ _ h' => h') p s (h Γ p hΓ hc)
theorem wpCl_bindA {m : Sem α} {f : α → Sem β} {Q : β → Shared → Prop} (h : wpAny M A m (fun a s' => wpCl M A (f a) Q E s') E s) : wpCl M A (m >>= f) Q E s := wpCl_bind (wpCl_of h)
theorem wpCl_pure {a : α} {Q : α → Shared → Prop} (h : Q a s) : wpCl M A (pure a) Q E s := fun _ _ _ _ => h
theorem wpCl_onRaise {m : Sem α} {k : Value → Sem Unit} {Q : α → Shared → Prop} (h : wpCl M A m Q (fun e s' => wpAny M A (k e) (fun _ s'' => E e s'') E s') s) : wpCl M A (m.onRaise k) Q E s := fun Γ p hΓ hc => by
  rw [Sem.wp_onRaise]
  exact Sem.wp_mono M Γ m (fun _ _ _ h' => h') (fun e p' s' h' => h' Γ p' hΓ) p s (h Γ p hΓ hc)
theorem wpCl_holding {vs : List Value} {m : Sem α} {Q : α → Shared → Prop} (h : wpCl M A m Q E s) : wpCl M A (holding vs m) Q E s :=
  fun Γ p hΓ hc => by rw [Sem.wp_holding]; exact h Γ p hΓ hc
theorem Cl.enter {Γ : Ctx} (h : Cl Γ) {c : Code} {hd : Option Value} {p : Pos} (hc : noDec c = true) : Cl (Γ.enter c hd p) :=
  ⟨hc, fun x hx => by
    rcases List.mem_cons.mp hx with rfl | hx
    · exact h.1
    · exact h.2 x hx⟩
theorem wpCl_call {f : Value} {pos : List Value} {kw : List (Str × Value)} {Q : Value → Shared → Prop}
    (h : codeCl M A (.call f ⟨pos, kw⟩) (fun r s' => match r with | .ok (.ret v) => Q v s' | .ok _ => False | .error e => E e s') s) : wpCl M A (call f pos kw) Q E s := fun Γ p hΓ hc => by
  unfold call
  rw [Sem.wp_runValue]
  exact h _ p rfl (hΓ.enter _ none p (by intro x; cases x)) (hc.enter rfl)
theorem codeCl_tree {c : Code} {R : Result → Shared → Prop}
    (h : wpCl M (A.under c) (M.den c) (fun fin s' => match fin with | .done f => R (.ok f) s' | .again c' => c'.quiet = true ∧ noDec c' = true ∧ codeCl M A c' R s') (fun e s' => R (.error e) s') s) : codeCl M A c R s := fun Γ p hc hΓ hl => by
  rw [wpCode_iff_wp, hc]
  refine Sem.wp_mono M Γ _ (fun fin p' s' h' => ?_) (fun _ _ _ h' => h') p s (h Γ p (hc ▸ hΓ.in) hl)
  cases fin with
  | done f => exact h'
  | again c' => exact ⟨h'.1, h'.2.2 (Γ.goto c') p' rfl (hΓ.goto c') ⟨h'.2.1, hl.2⟩⟩
theorem codeCl_mono {c : Code} {R R' : Result → Shared → Prop} (h : codeCl M A c R s) (hR : ∀ r s, R r s → R' r s) : codeCl M A c R' s := fun Γ p hc hΓ hl => wpCode_mono hR (h Γ p hc hΓ hl)
theorem wpCl_exported {a : Addr} {Q : Bool → Shared → Prop} (h : Q false s) : wpCl M A (Builtin.Bytes.exported (.ref a)) Q E s := fun Γ p hΓ hc => by
  have hall : ∀ x ∈ ((Γ.code, p) :: Γ.below), noDec x.1 = true := fun x hx => by
    rcases List.mem_cons.mp hx with rfl | hx
    · exact hc.1
    · exact hc.2 x hx
  unfold Builtin.Bytes.exported
  rw [Sem.wp_bind']
  show Q (List.any ((Γ.code, p) :: Γ.below) _) s
  rw [List.any_eq_false.mpr ?_]
  · exact h
  · rintro ⟨c, pp⟩ hx
    have hn := hall _ hx
    clear hx
    cases c with
    | builtin id args =>
      have hm : id ∈ okIds := List.contains_iff_mem.mp hn
      obtain ⟨pos, kw⟩ := args
      simp only [okIds, List.mem_cons, List.not_mem_nil, or_false] at hm
      rcases hm with rfl | rfl | rfl | rfl | rfl | rfl <;> (cases pos with
        | nil => exact Bool.false_ne_true
        | cons v vs =>
          show ¬ (Builtin.Bytes.sameRef v (.ref a) && Builtin.Bytes.decodersThatHold.contains _) = true
          rw [show Builtin.Bytes.decodersThatHold.contains _ = false from by decide +kernel, Bool.and_false]
          exact Bool.false_ne_true)
    | _ => exact Bool.false_ne_true
end
theorem Cl_caller : Cl ⟨.builtin "claim.caller" {}, none, none, [], none⟩ := ⟨by decide +kernel, fun _ hx => nomatch hx⟩
/-- the thread of a call ends, shown for the caller's own context alone -/
theorem thread_cl {prog : Program} {w : World} {t : Sem Fin} {s : Shared} {R : Result → Shared → Prop} (hz : s.asleep)
    (h : wpCl (model prog w) callerA t (fun fin s' => ∃ f, fin = .done f ∧ R (.ok f) s' ∧ leftWithCleanup s'.gens = false) (fun e s' => R (.error e) s' ∧ leftWithCleanup s'.gens = false) s) :
    ∃ n r s' s'', runN (denote table) prog w n s ⟨t, .builtin "claim.caller" {}, default, []⟩ = .halted (outcomeOf r) s' ∧ schedN (denote table) prog w n (.single s ⟨t, .builtin "claim.caller" {}, default, []⟩) = .halted (outcomeOf r) s' ∧ s'.forget = s''.forget ∧ R r s'' := by
  have hw : wp (model prog w) ⟨.builtin "claim.caller" {}, none, none, [], none⟩ t (Sem.finPost (model prog w) ⟨.builtin "claim.caller" {}, none, none, [], none⟩ fun r s' => R r s' ∧ leftWithCleanup s'.gens = false) (fun e _ s' => R (.error e) s' ∧ leftWithCleanup s'.gens = false) default s := by
    refine Sem.wp_mono _ _ _ (fun fin p' s' hf => ?_) (fun _ _ _ he => he) _ _ (h _ default caller_in Cl_caller)
    obtain ⟨f, rfl, hR⟩ := hf
    exact hR
  obtain ⟨n, r, a, b, h1, h2, h3, h4⟩ := wp_halts_full (M := model prog w) (R := R) hz hw
  exact ⟨n, r, b, a, h2, h1, h3, h4⟩
abbrev WalkCl (q : Program) (loose : List Str) (XP : (Str → Option Value) → Heap → Prop) (YP : World → Heap → Prop) (r : RowW) (d : DefRec) (kwd : List (Str × Expr)) : Prop :=
  ∀ (w : World) (s₀ s₁ : Shared) (mg mb : Str → Option Value), Ground q loose r.records XP w s₀ mg mb s₁.heap → YP w s₁.heap → ∀ (a : Addr) (o : Obj) (pm cd doc dV kV : Value), s₁.heap.get? a = some o →
    o.data = .func { docDef d.name d.params d.body d.scope pm cd doc with defaults := dV, kwdefaults := kV } → s₁.heap.CodeRec cd d.name → Dflts mg s₁.heap d.params kwd dV kV → mg d.name = some (.ref a) → s₁.gens = #[] →
    ∀ (args : List WData) (vals : List Value) (as : List Addr), r.claim.pre args = true → WData.layableAll args = true → ReadsAllW r.records (classAt s₀.heap) s₁.heap vals args as → WellAll w.params s₁.heap vals args → (∀ a ∈ as, (a == sysModules) = false) →
      wpCl (model r.prog w) callerA (PySem.call (.ref a) vals) (fun v s' => GoodWG r.claim (classAt s₀.heap) (ExcName.means s₀.heap) args s₁ (.ok (.ret v)) s')
        (fun e s' => GoodWG r.claim (classAt s₀.heap) (ExcName.means s₀.heap) args s₁ (.error e) s') s₁
end Mine
/-- the head, with a walk that need only hold where no codec holds a buffer -/
theorem Mine.PySem.W.holds_open {r : OpenRow} {q : Program} {loose : List Str} {Xt : Shared → Bool} {XP : (Str → Option Value) → Heap → Prop} {α : Type} {Yf : Shared → α} {Ya : World → α} {YP : World → Heap → Prop} {d : DefRec} {kwd : List (Str × Expr)} {N : Nat}
    (left : ∀ w, (openEnds treeTable r.prog w N).map (fun s => (openSeen q loose (importedModules r.prog.main.body) Xt true s, Yf s)) = some (openGood q loose, Ya w)) (hY : ∀ w s, Yf s = Ya w → YP w s.heap) (hYk : ∀ w h h', YP w h → (∀ b o, h.get? b = some o → h'.get? b = some o) → YP w h')
    (hX : ∀ s, Xt s = true → XP (s.heap.nsMap mainGlobals) s.heap) (hXk : ∀ mg h h', XP mg h → (∀ b o, h.get? b = some o → h'.get? b = some o) → XP mg h')
    (hdef : defOf q r.name = some (d, kwd)) (hp : r.prog.theDef r.name = some (d.params, d.body, d.scope)) (hk : kwWritten? d.params.kwonlyargs d.params.kw_defaults = some kwd) (hRf : ∀ s, Xt s = true → RecFacts r.records s.heap) (hwr : (!r.writes || r.records.isEmpty) = true)
    (k1 : r.wellSaid = true) (ok : (chainsOk q && opensWell r.prog && (frees r.toRowW && r.within.isEmpty)) = true) (hb : r.prog.bare) (hw : r.toRowW.promised)
    (walk : WalkCl q loose XP YP r.toRowW d kwd) : r.Holds := by
  simp only [Bool.and_eq_true] at ok
  obtain ⟨⟨hch, hop⟩, hfr, hwi0⟩ := ok
  obtain ⟨hsame, hu, ha, hap, hmk⟩ := frees_parts hfr
  have hwi : r.toRowW.claim.within = [] := List.isEmpty_iff.mp hwi0
  refine ⟨k1, hw, ⟨hb, hop, by show r.makers.map _ = []; rw [hmk]; rfl⟩, hw.witness, fun w => ?_⟩
  have beh := LeftO.behind left (XP := fun mg h => XP mg h ∧ RecFacts r.records h) (fun s hs => ⟨hX s hs, hRf s hs⟩) hch w
  refine ⟨beh.1, fun s' hs' => ?_⟩
  obtain ⟨s₀, hf, hg0, s, hT, hz, hgens, hg, G2, y⟩ := beh.2 s' hs'
  have RF := G2.X.2
  have hgens : s.gens = #[] := Array.eq_empty_of_size_eq_zero (beq_iff_eq.mp hgens)
  have G0 : Ground q loose [] XP w s (s.heap.nsMap mainGlobals) (s.heap.nsMap builtinsNs) s.heap := ⟨G2.T, G2.B, G2.D, G2.TE, G2.TD, G2.W, G2.X.1, G2.cls, G2.has, G2.apart, G2.once, G2.K⟩
  have G : Ground q loose r.records XP w s _ _ s.heap := RF.ground G0
  refine ⟨s₀, hf, hg0, s, hT, fun n hn => ?_, RF.1, RF.2.1, fun args hpre hlay ord hord => ?_⟩
  · obtain rfl : n = r.name := by split at hn <;> simp_all
    exact pinned_of_view hg G0 hdef hp hk
  obtain ⟨⟨vs, s₁⟩, hlaid⟩ := Option.isSome_iff_exists.mp (layAllW_isSome (P := w.params) (ord := ord) G.has args r.args s (pre_splitW hpre).1)
  have keeps := layAllW_keeps _ _ _ hlaid
  have hal := layAllW_rest _ _ _ hlaid
  obtain ⟨as, hrd, hin, hold⟩ := reads_layAllW hord _ _ _ hlaid hlay s₁.heap (fun _ _ e => e)
  have L : Laid r.records w s s₁ args vs as := ⟨⟨ord, hord, hlaid⟩, hrd, hin, hold, keeps, hal.1.trans hgens, hal.2.2.1⟩
  have G₁ := G.keeps hXk keeps
  obtain ⟨a, o, pm, cd, doc, dV, kV, f1, f2, f3, f4, f5⟩ := G₁.fn hdef
  have hi := ident_freeW hu ha hap
  have hcall := walk w s s₁ _ _ G₁ (hYk _ _ _ (hY w s y) keeps) a o pm cd doc dV kV f2 f3 f4 f5 (defOf_name hdef ▸ f1) L.gens args vs as hpre hlay L.reads L.well (L.low G.low)
  have ends : ∀ (x : Result) (s' : Shared), GoodWG r.toRowW.claim (classAt s.heap) (ExcName.means s.heap) args s₁ x s' → (r.toRowW.claim.Ends s args vs s₁ x s' ∧ s'.os = s.os ∧ (r.writes = true → namesKept r.prog r.keeps s.heap s'.heap ∧ ∀ x ∈ r.records, ∀ a, classAt s.heap x.1 = some a → recordClass s'.heap a x.1 (x.2.map (·.1)) = true)) ∧ leftWithCleanup s'.gens = false := fun x s' g => by
    have z := g.laid (c := r.toRowW.claim) hsame hwi hi L
    exact ⟨⟨z.1, z.2.1, fun q => ⟨namesKept_of hT hg r.keeps keeps g.2.1.old, noTable hwr q⟩⟩, leftWithCleanup_false_of_bare z.2.2⟩
  obtain ⟨k, x, t', t'', hrun, hsched, hfo, hcase, hos, hkp⟩ := thread_cl (prog := r.prog) (w := w) (s := s₁) (R := fun x s' => r.toRowW.claim.Ends s args vs s₁ x s' ∧ s'.os = s.os ∧ (r.writes = true → namesKept r.prog r.keeps s.heap s'.heap ∧ ∀ x ∈ r.records, ∀ a, classAt s.heap x.1 = some a → recordClass s'.heap a x.1 (x.2.map (·.1)) = true))
    (t := do match ← nsGet mainNs r.name with
      | some f => do ret (← PySem.call f vs)
      | none => unsupported "claim.caller:no-such-global")
    (Shared.asleep_of_life hal.2.2.2 hz)
    (wpCl_bindA (wpAny_nsGet G₁.T.g (by
      rw [f1]
      refine wpCl_bind (wpCl_mono hcall (fun v s' g => wpCl_pure ⟨_, rfl, ends _ _ g⟩) fun e s' g => ends _ _ g))))
  obtain ⟨eh, _, _, eo, _⟩ := Shared.forget_eq hfo
  have hcase := hcase.congr eh
  have hlife : t'.heap.life = s.heap.life := (runN_life _ _ _ hrun).trans hal.2.2.2
  refine ⟨vs, s₁, hlaid, k, _, t', hsched, ?_, (fun _ i x hx => by rw [hgens] at hx; simp at hx), by rw [eh]; exact hkp, by rw [hlife], Shared.rest_eq (eo ▸ hos)⟩
  rcases hcase with ⟨v, rfl, d1, d2, d3, d4, d5⟩ | ⟨e, ob, cls, rfl, d1, d2, d3, d4, d5⟩
  · exact .inl ⟨v, rfl, d1, d2, d3, fun b o y _ => d4 b o y, d5⟩
  · exact .inr ⟨e, ob, cls, rfl, d1, d2, d3, d4, fun b o y _ => d5 b o y⟩
namespace Mine
set_option maxHeartbeats 0

open_top hd for PySem.Challenge.rw_xp0006_01
end Mine
open PySem PySem.W PyProof.Rows PySem.Calls
set_option Elab.async false
set_option maxRecDepth 100000
set_option maxHeartbeats 4000000
namespace Mine
noncomputable abbrev PR : Program := PySem.Challenge.rw_xp0006_01.row.prog
noncomputable abbrev LO : List Str := looseW hd.view_39 [Str.ofString "_Accumulator"]
/-- what the top's facts say of a heap -/
structure Gd (w : World) (h : Heap) : Prop where
  X : (hd.heap_39 w.params).In h
  T : ∃ mean mg mb, Top hd.view_39 LO mean mg mb h
theorem Gd.keeps {w : World} {h h' : Heap} (G : Gd w h) (k : ∀ b o, h.get? b = some o → h'.get? b = some o) : Gd w h' :=
  ⟨G.X.keeps k, let ⟨a, b, c, T⟩ := G.T; ⟨a, b, c, T.keeps k⟩⟩
/-- a call that leaves every object as it was -/
noncomputable def Call0 (w : World) (lv : Nat) (f : Addr) (vs : List Value) (R : Heap → Heap → Value → Prop) : Prop :=
  ∀ (dp un : Nat) (fr : Option (List Env)) (gd : Option (List Code)) (s : Shared) (Q E : Value → Shared → Prop), dp + 20 * lv < 600 → un + 100 * lv < 6000 → Gd w s.heap →
    (∀ v h' tk, (∀ b o, s.heap.get? b = some o → h'.get? b = some o) → R s.heap h' v → Q v { s with heap := h', toks := tk }) →
    wpAny (model PySem.Challenge.rw_xp0006_01.row.prog w) ⟨none, dp, fr, gd, un⟩ (call (.ref f) vs) Q E s
section
variable {prog : Program} {w : World} {A : Around} {s : Shared} {K : Frag}
theorem enter0 {Q E : Value → Shared → Prop} {name qual : Str} {params : Arguments} {body : List Stmt} {scope : Scope} {dV kV doc pm cdv ct oc : Value} {an od : Option Addr} {osl : Array (Option Value)} {f : Addr} {args : List Value} {binds : List (Str × Value)}
    (X : K.In s.heap) (hlim : s.heap.NoLimit)
    (ho : K.lookup f = some ⟨oc, od, .func (fnOf name qual params body scope dV kV doc pm an cdv ct), osl⟩) (hcd : codeIn K cdv qual = true) (hroom : A.depth < recursionLimit)
    (hbind : BindsTo s (fnOf name qual params body scope dV kV doc pm an cdv ct) ⟨args, []⟩ binds) (hloc : ∀ y ∈ binds, scope.names.lookup y.1 = some .local)
    (h : ∀ h₁ tk, Fr s.heap s.heap.objs.size h₁ (fun y => binds.reverse.lookup y) → News s.heap s.heap.objs.size h₁ [] →
      wpAny (model prog w) (A.deeper (envOf qual scope s.heap.objs.size f cdv)) (execs body (envOf qual scope s.heap.objs.size f cdv))
        (fun fl s' => Q (match fl with | .ret v => v | _ => .none) s') (fun _ _ => False) { s with heap := h₁, toks := tk })
    (hco : scope.isCoroutine = false := by rfl) (hgen : scope.isGenerator = false := by rfl) (hk : scope.kind = .function := by rfl)
    (hcell : ∀ x ∈ scope.names, x.2 ≠ .cell := by decide) : wpAny (model prog w) A (call (.ref f) args) Q E s := by
  refine wpAny_call (codeAny_call_def (fd := fnOf name qual params body scope dV kV doc pm an cdv ct) (body := body) (binds := binds) hroom (X _ _ ho) rfl hlim (codeRec_of X hcd) rfl hbind hcell hloc (fun h₁ hns hk₁ => ?_) hco hgen hk)
  refine wpAny_mono (h h₁ _ ⟨hns, hk₁, Nat.le_refl _⟩ News.nil) (fun fl s' q => q) (fun _ _ q => q.elim)
end
theorem frK {h₀ h : Heap} {L : Addr} {m : Str → Option Value} (ps : List (Str × Value)) (F : Fr h₀ L h m) (hp : ∀ p ∈ ps, m p.1 = some p.2) : Fr h₀ L h (kstB m ps) := by
  have e : kstB m ps = m := by
    funext z
    exact kstB_eq hp fun _ => rfl
  rw [e]; exact F
theorem frX {h₀ h h' : Heap} {L : Addr} {m : Str → Option Value} (F : Fr h₀ L h m) (k : ∀ b o, h.get? b = some o → h'.get? b = some o) : Fr h₀ L h' m :=
  ⟨F.ns.keeps k, fun b o e => k b o (F.keep b o e), F.above⟩
theorem newsX {h₀ h h' : Heap} {L : Addr} {news : List (Addr × Obj)} (N : News h₀ L h news) (k : ∀ b o, h.get? b = some o → h'.get? b = some o) : News h₀ L h' news :=
  fun p hp => ⟨k _ _ (N p hp).1, (N p hp).2⟩
theorem Call0.use {w : World} {lv : Nat} {f : Addr} {vs : List Value} {R : Heap → Heap → Value → Prop} (C : Call0 w lv f vs R) {A : Around} {s : Shared} {Q E : Value → Shared → Prop} {H : Heap} {L : Addr} {m : Str → Option Value} {news : List (Addr × Obj)}
    {mean : ExcName → Option Value} {mg mb : Str → Option Value} (F : Fr H L s.heap m) (N : News H L s.heap news) (X : (hd.heap_39 w.params).In H) (T : Top hd.view_39 LO mean mg mb H)
    (hd : A.depth + 20 * lv < 600) (hu : A.units + 100 * lv < 6000)
    (h : ∀ v h' tk, (∀ b o, s.heap.get? b = some o → h'.get? b = some o) → Fr H L h' m → News H L h' news → R s.heap h' v → Q v { s with heap := h', toks := tk })
    (hA : A.handled = none := by rfl) :
    wpAny (model PySem.Challenge.rw_xp0006_01.row.prog w) A (call (.ref f) vs) Q E s := by
  obtain ⟨hh, dp, fr, gd, un⟩ := A
  dsimp only at hA hd hu
  subst hA
  exact C dp un fr gd s Q E hd hu ⟨X.keeps F.keep, mean, mg, mb, T.keeps F.keep⟩ fun v h' tk k r => h v h' tk k (frX F k) (newsX N k) r
theorem comp_facts {H h₂ h₃ : Heap} {L C : Addr} {m m₃ : Str → Option Value} {wr : List Addr} (F : Fr H L h₂ m) (hC : h₂.objs.size ≤ C) (hn : h₃.Ns C m₃)
    (hk : ∀ b o, b ∉ wr → h₂.get? b = some o → h₃.get? b = some o) (hwr : ∀ b ∈ wr, H.get? b = none ∧ b ≠ L) :
    Fr H L h₃ m ∧ ∃ oC, News H L h₃ [(C, oC)] ∧ LCg.NsObj oC m₃ := by
  have hL := F.ns.lt
  have hH : ∀ b o, H.get? b = some o → h₃.get? b = some o := fun b o e => hk b o (fun hb => by rw [(hwr b hb).1] at e; cases e) (F.keep b o e)
  obtain ⟨oL, es, ep, ho, hd, hk', hf⟩ := F.ns
  refine ⟨⟨⟨oL, es, ep, hk _ _ (fun hb => (hwr _ hb).2 rfl) ho, hd, hk', hf⟩, hH, F.above⟩, ?_⟩
  obtain ⟨oC, hoC, hN⟩ := LCg.ns_obj hn
  refine ⟨oC, fun p hp => ?_, hN⟩
  rw [List.mem_singleton.mp hp]
  refine ⟨hoC, fun e => ?_, ?_⟩
  · exact absurd hL (Nat.not_lt.mpr (by rw [← show C = L from e]; exact hC))
  · cases q : H.get? C with
    | none => rfl
    | some o => exact absurd (Heap.lt_size (F.keep _ _ q)) (Nat.not_lt.mpr hC)
theorem paired_src {α : Type} {F : Value → Value → Prop} {Src : α → Value → Prop} {G : α → Value → Prop} (hFG : ∀ a v y, Src a v → F v y → G a y) :
    ∀ {vs ys : List Value} (as : List α), vs.length = as.length → (∀ (j : Nat) (v : Value), vs[j]? = some v → ∃ a, as[j]? = some a ∧ Src a v) → Paired F vs ys → Paired G as ys
  | _, _, [], hl, _, .nil => .nil
  | _, _, [], hl, _, .cons _ _ => by simp at hl
  | _, _, a :: as, hl, _, .nil => by simp at hl
  | v :: vs, y :: ys, a :: as, hl, hs, .cons h r => by
    obtain ⟨a', ha, hsrc⟩ := hs 0 v rfl
    cases ha
    exact .cons (hFG _ _ _ hsrc h) (paired_src hFG as (by simpa using hl) (fun j v' hj => hs (j + 1) v' hj) r)
theorem paired_strs {α : Type} {f : α → Str} : ∀ {as : List α} {ys : List Value}, Paired (fun a y => ∃ tk, y = Value.str (f a) tk) as ys → ∃ l, ys = strValues l ∧ l.map (·.1) = as.map f
  | _, _, .nil => ⟨[], rfl, rfl⟩
  | _, _, .cons ⟨tk, h⟩ r => by
    obtain ⟨l, h1, h2⟩ := paired_strs r
    exact ⟨(f _, tk) :: l, by rw [h, h1]; rfl, by simp [h2]⟩
theorem paired_ints {α : Type} {f : α → Int} : ∀ {as : List α} {ys : List Value}, Paired (fun a y => ∃ tk, y = Value.int (f a) tk) as ys → IntsAre ys (as.map f)
  | _, _, .nil => .nil
  | _, _, .cons ⟨tk, h⟩ r => by
    rw [h]
    exact .cons _ _ (paired_ints r)
theorem join_signs : ∀ cs : List Nat, Str.join (Str.ofString "") (cs.map fun c => (⟨#[c]⟩ : Str)) = ⟨cs.toArray⟩
  | [] => by decide +kernel
  | [c] => rfl
  | c :: d :: r => by
    have ih := join_signs (d :: r)
    show (⟨#[c]⟩ : Str) ++ Str.ofString "" ++ Str.join (Str.ofString "") ((d :: r).map fun c => (⟨#[c]⟩ : Str)) = _
    rw [ih]
    have e : Str.ofString "" = ⟨#[]⟩ := by decide +kernel
    rw [e]
    show (⟨#[c] ++ #[] ++ (d :: r).toArray⟩ : Str) = _
    simp
theorem newsAdd {H h h' : Heap} {L T : Addr} {m : Str → Option Value} {news : List (Addr × Obj)} {o : Obj} (F : Fr H L h m) (N : News H L h' news) (h0 : h.get? T = none) (hg : h'.get? T = some o) : News H L h' ((T, o) :: news) := fun p hp => by
  rcases List.mem_cons.mp hp with rfl | hp
  · refine ⟨hg, fun e => ?_, ?_⟩
    · obtain ⟨oL, _, _, ho, _⟩ := F.ns
      have e' : T = L := e
      rw [e', ho] at h0; cases h0
    · cases q : H.get? T with
      | none => rfl
      | some o => have z := F.keep _ _ q; cases h0.symm.trans z
  · exact N p hp
end Mine
open PySem PySem.W PyProof.Rows PySem.Calls
set_option Elab.async false
set_option maxRecDepth 100000
set_option maxHeartbeats 4000000
namespace Mine
section
theorem afresh_B1 : True := by
  w_top off
  trivial
namespace SB
theorem slot_wget : Slot "wrapper_descriptor" "__get__" "wrapper_descriptor.__get__" := .of (owner := "wrapper_descriptor") (n := "__get__") (by rw [typeLookup_type, builtinLookup_eq_fast]; kernel_rfl) (by decide +kernel) (by decide +kernel) (by decide +kernel)
  (by first | exact .inl (by decide +kernel) | exact .inr (by decide +kernel)) (by rw [isSubtype_type]; kernel_rfl)
theorem entry_wget : entryFor table "wrapper_descriptor.__get__" = some Builtin.«wrapper_descriptor.__get__» := entryFor_of_tree (by kernel_rfl)
theorem args_wget (a b c : Value) : argsOk "wrapper_descriptor.__get__" ⟨[a, b, c], []⟩ := by unfold argsOk; kernel_rfl
theorem slot_mget : Slot "method_descriptor" "__get__" "method_descriptor.__get__" := .of (owner := "method_descriptor") (n := "__get__") (by rw [typeLookup_type, builtinLookup_eq_fast]; kernel_rfl) (by decide +kernel) (by decide +kernel) (by decide +kernel)
  (by first | exact .inl (by decide +kernel) | exact .inr (by decide +kernel)) (by rw [isSubtype_type]; kernel_rfl)
theorem entry_mget : entryFor table "method_descriptor.__get__" = some Builtin.«method_descriptor.__get__» := entryFor_of_tree (by kernel_rfl)
theorem args_mget (a b c : Value) : argsOk "method_descriptor.__get__" ⟨[a, b, c], []⟩ := by unfold argsOk; kernel_rfl
theorem ty_len : typeOf (.builtin "list.__len__") = pure (.type "wrapper_descriptor") := by show builtinType _ = _; rw [builtinType_eq_fast]; kernel_rfl
theorem ty_init : typeOf (.builtin "list.__init__") = pure (.type "wrapper_descriptor") := by show builtinType _ = _; rw [builtinType_eq_fast]; kernel_rfl
theorem ty_pop : typeOf (.builtin "list.pop") = pure (.type "method_descriptor") := by show builtinType _ = _; rw [builtinType_eq_fast]; kernel_rfl
theorem ty_append : typeOf (.builtin "list.append") = pure (.type "method_descriptor") := by show builtinType _ = _; rw [builtinType_eq_fast]; kernel_rfl
section
variable {prog : Program} {w : World} {A : Around} {E : Value → Shared → Prop} {h : Heap} {g : Array GenState} {d : Drawn} {t : Nat} {os : OsState}
theorem cut_len : ".".intercalate ("list.__len__".cutAt '.').dropLast = "list" := by first | decide +kernel | kernel_rfl
theorem cut_init : ".".intercalate ("list.__init__".cutAt '.').dropLast = "list" := by first | decide +kernel | kernel_rfl
theorem cut_pop : ".".intercalate ("list.pop".cutAt '.').dropLast = "list" := by first | decide +kernel | kernel_rfl
theorem wget_tree {id : String} {x C : Addr} {ox : Obj} {Q : Fin → Shared → Prop} (hid : id = "list.__len__" ∨ id = "list.__init__") (hx : h.get? x = some ox) (hc : ox.cls = .ref C)
    (hm : Looks (model prog w) h (isSubtype (.ref C) (.type "list")) true)
    (hq : Q (.done (.ret (.ref h.objs.size))) ⟨h.push { cls := .type "method-wrapper", data := .fields #[.builtin id, .ref x] }, g, d, t, os⟩) :
    wpAny (model prog w) A (Builtin.«wrapper_descriptor.__get__» ⟨[.builtin id, .ref x, .ref C], []⟩) Q E ⟨h, g, d, t, os⟩ := by
  obtain ⟨oc, od, oda, osl⟩ := ox
  dsimp only at hc; subst hc
  rcases hid with rfl | rfl
  all_goals
    unfold Builtin.«wrapper_descriptor.__get__»
    repeat (first | (with_reducible refine wpAny_loadPart_at hx ?_) | (simp only [cut_len, cut_init, cut_pop]; with_reducible refine Looks.at hm ?_) | (with_reducible refine wpAny_newObj_type ?_ (by size_fits)) | wp_step | dsimp only)
  all_goals exact hq
theorem mget_tree {x C : Addr} {ox : Obj} {Q : Fin → Shared → Prop} (hx : h.get? x = some ox) (hc : ox.cls = .ref C)
    (hm : Looks (model prog w) h (isSubtype (.ref C) (.type "list")) true)
    (hq : Q (.done (.ret (.ref h.objs.size))) ⟨h.push { cls := .type "builtin_function_or_method", data := .fields #[.builtin "list.pop", .ref x] }, g, d, t, os⟩) :
    wpAny (model prog w) A (Builtin.«method_descriptor.__get__» ⟨[.builtin "list.pop", .ref x, .ref C], []⟩) Q E ⟨h, g, d, t, os⟩ := by
  obtain ⟨oc, od, oda, osl⟩ := ox
  dsimp only at hc; subst hc
  have e : Manifest.toldItsClass.contains "list.pop" = false := by decide +kernel
  unfold Builtin.«method_descriptor.__get__»
  repeat (first | (with_reducible refine wpAny_loadPart_at hx ?_) | (simp only [cut_len, cut_init, cut_pop]; with_reducible refine Looks.at hm ?_) | (with_reducible refine wpAny_newObj_type ?_ (by size_fits)) | (rw [e]) | wp_step | dsimp only)
  all_goals exact hq
end
end SB
end
section
theorem afresh_B2 : True := by
  w_top off
  trivial
namespace SB
section
variable {prog : Program} {w : World} {A : Around} {E : Value → Shared → Prop} {h : Heap} {g : Array GenState} {d : Drawn} {t : Nat} {os : OsState}
theorem sup_ga {so D x C : Addr} {ox : Obj} {l₀ l : List Value} {K : Frag} {name : Str} {id bt : String} {tk : Tok} {Q : Fin → Shared → Prop}
    (hid : (id = "list.__len__" ∧ bt = "method-wrapper") ∨ (id = "list.__init__" ∧ bt = "method-wrapper") ∨ (id = "list.pop" ∧ bt = "builtin_function_or_method"))
    (hso : h.get? so = some { cls := .type "super", dict := none, data := .fields #[.ref D, .ref x, .ref C], slots := #[] }) (hno : Looks (model prog w) h (opaqueClassAbove (.ref C)) none)
    (hC : Looks (model prog w) h (mroOf (.ref C)) l₀) (hl : (l₀.dropWhile (· != .ref D)).drop 1 = l) (X : K.In h)
    (hf : alongIn K name l = some (some (.builtin id))) (hx : h.get? x = some ox) (hc : ox.cls = .ref C) (hxC : x ≠ C) (hn : (name == ("__class__" : Str)) = false)
    (hm : Looks (model prog w) h (isSubtype (.ref C) (.type "list")) true)
    (hq : Q (.done (.ret (.ref h.objs.size))) ⟨h.push { cls := .type bt, data := .fields #[.builtin id, .ref x] }, g, d, t, os⟩) :
    wpAny (model prog w) A (Builtin.«super.__getattribute__» ⟨[.ref so, .str name tk], []⟩) Q E ⟨h, g, d, t, os⟩ := by
  have hne : (Value.ref x == Value.ref C) = false := by simp [hxC]
  have hdt : ({ cls := .type "super", dict := none, data := .fields #[.ref D, .ref x, .ref C], slots := #[] } : Obj).data = .fields #[.ref D, .ref x, .ref C] := rfl
  have f0 : (#[.ref D, .ref x, .ref C] : Array Value)[0]? = some (.ref D) := rfl
  have f1 : (#[.ref D, .ref x, .ref C] : Array Value)[1]? = some (.ref x) := rfl
  have f2 : (#[.ref D, .ref x, .ref C] : Array Value)[2]? = some (.ref C) := rfl
  have lw := slot_wget.lookup
  have lm := slot_mget.lookup
  have T1 : Looks (model prog w) h (typeOf (.builtin "list.__len__")) (.type "wrapper_descriptor") := Looks.of_pure ty_len
  have T2 : Looks (model prog w) h (typeOf (.builtin "list.__init__")) (.type "wrapper_descriptor") := Looks.of_pure ty_init
  have T3 : Looks (model prog w) h (typeOf (.builtin "list.pop")) (.type "method_descriptor") := Looks.of_pure ty_pop
  have U1 : ∀ n, (⟨h, g, d, n, os⟩ : Shared).TypeIs (.builtin "list.__len__") "wrapper_descriptor" := fun _ => ty_len
  have U2 : ∀ n, (⟨h, g, d, n, os⟩ : Shared).TypeIs (.builtin "list.__init__") "wrapper_descriptor" := fun _ => ty_init
  have U3 : ∀ n, (⟨h, g, d, n, os⟩ : Shared).TypeIs (.builtin "list.pop") "method_descriptor" := fun _ => ty_pop
  rcases hid with ⟨rfl, rfl⟩ | ⟨rfl, rfl⟩ | ⟨rfl, rfl⟩
  all_goals
    unfold Builtin.«super.__getattribute__»
    repeat (first
      | (with_reducible refine wpAny_field hso hdt f0 ?_) | (with_reducible refine wpAny_field hso hdt f1 ?_) | (with_reducible refine wpAny_field hso hdt f2 ?_)
      | (with_reducible refine ks_wpAny_notOpaque hno ?_)
      | (with_reducible refine Looks.at hC ?_; rw [hl])
      | (refine ks_forIn_along X (fun _ _ => rfl) rfl ?_ hf)
      | (with_reducible refine Looks.at T1 ?_) | (with_reducible refine Looks.at T2 ?_) | (with_reducible refine Looks.at T3 ?_)
      | (with_reducible refine wpAny_call_entry slot_wget (U1 _) entry_wget (wget_tree (.inl rfl) hx hc hm ?_) (args_wget _ _ _))
      | (with_reducible refine wpAny_call_entry slot_wget (U2 _) entry_wget (wget_tree (.inr rfl) hx hc hm ?_) (args_wget _ _ _))
      | (with_reducible refine wpAny_call_entry slot_mget (U3 _) entry_mget (mget_tree hx hc hm ?_) (args_mget _ _ _))
      | (with_reducible refine ⟨_, rfl, ?_⟩)
      | (simp only [hn, hne, Bool.or_false, Bool.false_eq_true, if_false])
      | wp_step
      | dsimp only)
  all_goals exact hq
theorem sup_getMethod {so D x C : Addr} {ox : Obj} {l₀ l : List Value} {K : Frag} {name : Str} {id bt : String} {pl : Sem Bool} {Q : Value × List Value → Shared → Prop}
    (hid : (id = "list.__len__" ∧ bt = "method-wrapper") ∨ (id = "list.__init__" ∧ bt = "method-wrapper") ∨ (id = "list.pop" ∧ bt = "builtin_function_or_method"))
    (hso : h.get? so = some { cls := .type "super", dict := none, data := .fields #[.ref D, .ref x, .ref C], slots := #[] }) (hno : Looks (model prog w) h (opaqueClassAbove (.ref C)) none)
    (hC : Looks (model prog w) h (mroOf (.ref C)) l₀) (hl : (l₀.dropWhile (· != .ref D)).drop 1 = l) (X : K.In h)
    (hf : alongIn K name l = some (some (.builtin id))) (hx : h.get? x = some ox) (hc : ox.cls = .ref C) (hxC : x ≠ C) (hn : (name == ("__class__" : Str)) = false)
    (hm : Looks (model prog w) h (isSubtype (.ref C) (.type "list")) true)
    (hq : Q (.ref h.objs.size, []) ⟨h.push { cls := .type bt, data := .fields #[.builtin id, .ref x] }, g, d, t + 1, os⟩) :
    wpAny (model prog w) A (getMethod (.ref so) name pl) Q E ⟨h, g, d, t, os⟩ := by
  have hlk := F.ks_slot_super_ga.lookup
  have hcan := F.ks_canon_super_ga
  have hT : ∀ t', (⟨h, g, d, t', os⟩ : Shared).TypeIs (.ref so) "super" := fun _ => ⟨_, hso, rfl⟩
  unfold getMethod
  refine wpAny_bind (wpAny_specialOf (hT _) hlk ?_)
  show wpAny _ _ (if (Manifest.canonical "super.__getattribute__" != "object.__getattribute__") = true then _ else _) _ _ _
  rw [if_pos hcan]
  unfold getAttr getAttrBy
  refine wpAny_bind (wpAny_bind (wpAny_mkText (wpAny_holding (wpAny_bind (wpAny_typeOf (hT _) (wpAny_bind (wpAny_of_eq hlk ?_)))))))
  show wpAny _ _ (getAttrByItsOwn (.ref so) (.str name t) (.type "super") (.builtin "super.__getattribute__") true false) _ _ _
  unfold getAttrByItsOwn hookBefore callGetattribute boundAndCalled
  refine wpAny_bind (wpAny_of_eq (show (if onTheHeap (.type "super") then typeLookup (.type "super") "__getattr__" else pure none) = pure none from rfl) ?_)
  refine wpAny_bind (wpAny_attempt (wpAny_holding ?_))
  show wpAny _ _ (bindSpecial (.builtin "super.__getattribute__") (.ref so) >>= _) _ _ _
  refine wpAny_bind (wpAny_of_eq (F.ks_slot_super_ga.bind _) ?_)
  refine wpAny_mono (Q := fun v s' => v = .ref h.objs.size ∧ s' = ⟨h.push { cls := .type bt, data := .fields #[.builtin id, .ref x] }, g, d, t + 1, os⟩) (E := fun _ _ => False)
    (wpAny_call_entry F.ks_slot_super_ga (hT _) F.ks_entry_super_ga (sup_ga hid hso hno hC hl X hf hx hc hxC hn hm ⟨_, rfl, rfl, rfl⟩) (F.ks_gaArgs_super _ _)) (fun v s' hv => ?_) fun _ _ z => z.elim
  obtain ⟨rfl, rfl⟩ := hv
  exact wpAny_pure (wpAny_pure hq)
end
end SB
end
section
theorem afresh_B3 : True := by
  w_top off
  trivial
namespace SB
abbrev bndObj (bt id : String) (x : Addr) : Obj := { cls := .type bt, data := .fields #[.builtin id, .ref x] }
theorem entry_init : entryFor table "list.__init__" = some Builtin.«list.__init__» := entryFor_of_tree (by kernel_rfl)
theorem entry_len : entryFor table "list.__len__" = some Builtin.«list.__len__» := entryFor_of_tree (by kernel_rfl)
theorem entry_pop : entryFor table "list.pop" = some Builtin.«list.pop» := entryFor_of_tree (by kernel_rfl)
theorem check_len (x : Addr) : checkBoundCall "list.__len__" ⟨[.ref x], []⟩ = pure () := by first | kernel_rfl | rfl
theorem check_init (x : Addr) : checkBoundCall "list.__init__" ⟨[.ref x], []⟩ = pure () := by first | kernel_rfl | rfl
section
variable {prog : Program} {w : World} {A : Around} {E : Value → Shared → Prop} {s : Shared}
theorem bcall_slot {bt id : String} {x q : Addr} {B : Builtin} {Q : Value → Shared → Prop} (hbt : bt = "method-wrapper" ∨ bt = "builtin_function_or_method") (hq : s.heap.get? q = some (bndObj bt id x))
    (entry : entryFor table id = some B) (plain : plainId id = true)
    (hc : wpAny (model prog w) A.in1 (checkBoundCall id ⟨[.ref x], []⟩) (fun _ s' => s' = s) (fun _ _ => False) s)
    (h : wpAny (model prog w) A.in1 (B ⟨[.ref x], []⟩) (fun fin s' => ∃ v, fin = .done (.ret v) ∧ Q v s') E s) : wpAny (model prog w) A (call (.ref q) []) Q E s := by
  refine wpAny_call (codeAny_of_tree ?_)
  show wpAny _ A.in1 (callAny (.ref q) ⟨[], []⟩) _ _ s
  simp only [callAny]
  refine wpAny_bind (wpAny_load hq ?_)
  have e : (Value.type bt == Value.type "method" || Value.type bt == Value.type "builtin_function_or_method" || Value.type bt == Value.type "method-wrapper") = true := by rcases hbt with rfl | rfl <;> decide
  have e2 : (Value.type bt != Value.type "method") = true := by rcases hbt with rfl | rfl <;> decide
  dsimp only
  rw [if_pos e]
  show wpAny _ _ (if (Value.type bt != Value.type "method") = true then _ else _) _ _ _
  rw [if_pos e2]
  refine wpAny_bind (wpAny_mono hc (fun _ s' e => ?_) fun _ _ z => z.elim)
  subst e
  refine wpAny_bind (wpAny_pure (wpAny_pure ⟨plainId_quiet plain _, codeAny_builtin entry ?_⟩))
  rw [Around.under_plainId plain _]
  refine wpAny_mono h (fun fin s' h' => ?_) fun _ _ z => z
  obtain ⟨v, rfl, hv⟩ := h'
  exact hv
theorem check_pop {x C : Addr} {ox oC : Obj} {cd : ClassData} {h : Heap} {g : Array GenState} {d : Drawn} {t : Nat} {os : OsState} {Q : Unit → Shared → Prop} (hx : h.get? x = some ox) (hc : ox.cls = .ref C) (hnc : ∀ c, ox.data ≠ .cls c)
    (hm : Looks (model prog w) h (isSubtype (.ref C) (.type "module")) false) (hoC : h.get? C = some oC) (hdC : oC.data = .cls cd) (hcC : oC.cls = .type "type") (hqn : cd.qualname = Str.ofString "_Accumulator") (hq : Q () ⟨h, g, d, t, os⟩) :
    wpAny (model prog w) A (checkBoundCall "list.pop" ⟨[.ref x], []⟩) Q E ⟨h, g, d, t, os⟩ := by
  obtain ⟨oc, od, oda, osl⟩ := ox
  dsimp only at hc; subst hc
  obtain ⟨cc, cdi, cda, csl⟩ := oC
  dsimp only at hcC hdC; subst hcC hdC
  unfold checkBoundCall
  repeat (first | (with_reducible refine wpAny_loadPart_at hx ?_) | (with_reducible refine Looks.at hm ?_) | (with_reducible refine wpAny_loadPart_at hoC ?_) | (with_reducible refine ks_wpAny_isType_inst hx hnc ?_) | wp_step | (rw [hqn, if_pos (by decide +kernel)]) | dsimp only)
  all_goals exact hq
end
end SB
end
section
theorem afresh_B4 : True := by
  w_top off
  trivial
abbrev accO (dx : Addr) (its : List Value) (n : Nat) : Obj := { cls := .ref 115, dict := some dx, data := .seq its.toArray n }
namespace SB
section
variable {prog : Program} {w : World} {A : Around} {E : Value → Shared → Prop} {h : Heap} {g : Array GenState} {d : Drawn} {t : Nat} {os : OsState}
theorem len_tree {p dx : Addr} {its : List Value} {n : Nat} {Q : Fin → Shared → Prop} (hp : h.get? p = some (accO dx its n)) (hq : Q (.done (.ret (.int its.length t))) ⟨h, g, d, t + 1, os⟩) :
    wpAny (model prog w) A (Builtin.«list.__len__» ⟨[.ref p], []⟩) Q E ⟨h, g, d, t, os⟩ := by
  wp_walk using wpAny_loadPart' hp
  exact hq
theorem pop_tree {p dx : Addr} {its : List Value} {y : Value} {n : Nat} {Q : Fin → Shared → Prop} (hp : h.get? p = some (accO dx (its ++ [y]) n)) (hz : its.length + 1 ≤ sizeLine)
    (hq : ∀ h', h'.get? p = some (accO dx its (n + 1)) → Heap.SameBut p h h' → Q (.done (.ret y)) ⟨h', g, d, t, os⟩) :
    wpAny (model prog w) A (Builtin.«list.pop» ⟨[.ref p], []⟩) Q E ⟨h, g, d, t, os⟩ := by
  have hs : (its ++ [y]).toArray.size = its.length + 1 := by simp
  have hne : ¬ (its ++ [y]).toArray.isEmpty = true := by simp
  have hk : seqIndex? (-1) (its ++ [y]).toArray.size = some its.length := by
    rw [seqIndex_neg (by omega) (by omega)]; congr 1; omega
  have hy : (its ++ [y]).toArray[its.length]? = some y := by simp
  have he : (its ++ [y]).toArray.eraseIdxIfInBounds its.length = its.toArray := by
    have := kl_erase its [] y
    rw [List.append_nil] at this
    exact this
  wp_walk using wpAny_loadPart' hp
  simp only [hk, hy, Option.bind_some, Option.map_some]
  have hz' : ((its ++ [y]).toArray.eraseIdxIfInBounds its.length).size ≤ sizeLine + 1 := by rw [he]; simp; omega
  wp_walk using (wpAny_updateSeq hp rfl (hz := by rw [hs]; exact hz) (_hz' := hz')), wpAny_loadPart' hp
  refine hq _ ?_ (Heap.SameBut.update ..)
  rw [Heap.get?_update_self _ hp (by rfl)]
  have e2 : ¬ (its.toArray.size == (its ++ [y]).toArray.size) = true := by simp
  simp only [Obj.mapSeq, he, if_neg e2]
theorem init_tree {p dx : Addr} {n : Nat} {Q : Fin → Shared → Prop} (hp : h.get? p = some (accO dx [] n))
    (hq : ∀ h', h'.get? p = some (accO dx [] n) → Heap.SameBut p h h' → Q (.done (.ret .none)) ⟨h', g, d, t, os⟩) :
    wpAny (model prog w) A (Builtin.«list.__init__» ⟨[.ref p], []⟩) Q E ⟨h, g, d, t, os⟩ := by
  wp_walk using (wpAny_updateSeq hp rfl), wpAny_loadPart' hp
  refine hq _ ?_ (Heap.SameBut.update ..)
  rw [Heap.get?_update_self _ hp (by rfl)]
  rfl
theorem append_tree {p dx : Addr} {its : List Value} {y : Value} {n : Nat} {Q : Fin → Shared → Prop} (hp : h.get? p = some (accO dx its n)) (hz : its.length ≤ sizeLine)
    (hq : ∀ h', h'.get? p = some (accO dx (its ++ [y]) (n + 1)) → Heap.SameBut p h h' → Q (.done (.ret .none)) ⟨h', g, d, t, os⟩) :
    wpAny (model prog w) A (Builtin.«list.append» ⟨[.ref p, y], []⟩) Q E ⟨h, g, d, t, os⟩ := by
  wp_walk using (wpAny_updateSeq hp rfl (hz := by simpa using hz) (_hz' := by simp; omega)), wpAny_loadPart' hp
  refine hq _ ?_ (Heap.SameBut.update ..)
  rw [Heap.get?_update_self _ hp (by rfl)]
  have e2 : ¬ ((its.toArray.push y).size == its.toArray.size) = true := by simp
  simp only [Obj.mapSeq, if_neg e2]
  simp
theorem check_append {x C : Addr} {ox : Obj} {y : Value} {Q : Unit → Shared → Prop} (hx : h.get? x = some ox) (hc : ox.cls = .ref C)
    (hm : Looks (model prog w) h (isSubtype (.ref C) (.type "list")) true) (hq : Q () ⟨h, g, d, t, os⟩) :
    wpAny (model prog w) A (checkBuiltinCall "list.append" ⟨[.ref x, y], []⟩) Q E ⟨h, g, d, t, os⟩ := by
  obtain ⟨oc, od, oda, osl⟩ := ox
  dsimp only at hc; subst hc
  have hsplit : splitId "list.append" = some ("list", "append") := by decide +kernel
  unfold checkBuiltinCall
  simp only [hsplit]
  repeat (first | (with_reducible refine wpAny_loadPart_at hx ?_) | (with_reducible refine Looks.at hm ?_) | wp_step | dsimp only)
  all_goals exact hq
end
end SB
end
section
theorem afresh_B5 : True := by
  w_top off
  trivial
open Builtin Builtin.ObjectAttr Builtin.Getset_descriptor
abbrev emptyD : Obj := { cls := .type "dict", data := .dict #[] }
structure MakesL (M : Model) (h : Heap) (C : Addr) : Prop where
  obj : ∃ oc od cd sl, h.get? C = some ⟨oc, od, .cls cd, sl⟩ ∧ cd.abstract = false ∧ cd.hasDel = false ∧ cd.mro.isEmpty = false
  made : Looks M h (Bind.madeBy (.ref C)) (some "list.__new__")
  base : Looks M h (Bind.staticBase (.ref C)) (.ref C)
  self : Looks M h (isSubtype (.ref C) (.ref C)) true
  top : Looks M h (isSubtype (.ref C) (.type "list")) true
  call : Looks M h (specialOf (.ref C) "__call__") (some (.builtin "type.__call__"))
  typ : Looks M h (isInstance (.ref C) (.type "type")) true
noncomputable def makesInL (K : Frag) (C : Addr) : Bool := match K.lookup C with
  | some ⟨_, _, .cls cd, sl⟩ => !cd.abstract && !cd.hasDel && (sl.toList[4]?).join == some (.builtin "list.__new__") && !cd.mro.isEmpty && cd.mro.contains (.ref C) && cd.mro.contains (.type "list") &&
      specialIn K (.ref C) "__call__" == some (some (.builtin "type.__call__")) && instIn K (.ref C) (.type "type") == some true
  | _ => false
theorem makesL_of {K : Frag} {M : Model} {h : Heap} (X : K.In h) {C : Addr} (e : makesInL K C = true) : MakesL M h C := by
  unfold makesInL at e
  split at e
  · rename_i oc od cd sl ho
    simp only [Bool.and_eq_true, Bool.not_eq_true', beq_iff_eq] at e
    obtain ⟨⟨⟨⟨⟨⟨⟨e1, e2⟩, e3⟩, e4⟩, e5⟩, e6⟩, e7⟩, e8⟩ := e
    have hc : clsIn K C = some cd := by unfold clsIn; rw [ho]
    have hm : Looks M h (mroOf (.ref C)) cd.mro := (looks_clsIn X hc).andThen .now
    obtain ⟨c, l, hl⟩ : ∃ c l, cd.mro = c :: l := by cases q : cd.mro with | nil => rw [q] at e4; cases e4 | cons c l => exact ⟨c, l, rfl⟩
    have made : Looks M h (Bind.madeBy (.ref C)) (some "list.__new__") := by
      intro A Q E s k q
      unfold Bind.madeBy
      refine wpAny_bind (hm A _ E s k ?_)
      rw [hl, List.forIn_cons]
      refine wpAny_bind (wpAny_bind (wpAny_bind (wpAny_bind (wpAny_loadPart (k _ _ (X _ _ ho)) (wpAny_pure ?_)))))
      dsimp only
      rw [← Array.getElem?_toList, e3]
      exact wpAny_pure (wpAny_pure (wpAny_pure q))
    refine ⟨⟨oc, od, cd, sl, X _ _ ho, e1, e2, e4⟩, made, ?_, looks_mroIn X ?_, looks_mroIn X ?_, looks_specialIn X e7, looks_instIn X e8⟩
    · intro A Q E s k q
      unfold Bind.staticBase
      refine wpAny_bind (hm A _ E s k ?_)
      rw [hl, List.forIn_cons]
      exact wpAny_bind (wpAny_bind (wpAny_bind (made A _ E s k (wpAny_pure (wpAny_pure (wpAny_pure q))))))
    · unfold mroIn; rw [hc, Option.bind_some, if_neg (by rw [e4]; decide), e5]
    · unfold mroIn; rw [hc, Option.bind_some, if_neg (by rw [e4]; decide), e6]
  · cases e
section
variable {prog : Program} {w : World} {A : Around} {K : Frag} {C : Addr} {R : Result → Shared → Prop} {h : Heap} {g : Array GenState} {d : Drawn} {t : Nat} {os : OsState}
abbrev lstObj (C dx : Addr) : Obj := { cls := .ref C, dict := some dx, data := .seq #[] }
theorem ln_kind : builtinKind "list.__new__" = some .builtinFn := by decide +kernel
theorem ln_split : splitId "list.__new__" = some ("list", "__new__") := by decide +kernel
theorem ln_row : ∀ C : Addr, (match Manifest.signature? "list.__new__" with | some sig => Bind.checkArgs "list.__new__" sig ⟨[.ref C], []⟩ | none => pure ()) = pure () := fun C => by kernel_rfl
theorem new_L (Y : MakesL (model prog w) h C)
    (hq : R (.ok (.ret (.ref (h.objs.size + 1)))) ⟨(h.push emptyD).push (lstObj C h.objs.size), g, d, t, os⟩) :
    codeAny (model prog w) A (.call (.builtin "list.__new__") ⟨[.ref C], []⟩) R ⟨h, g, d, t, os⟩ := by
  obtain ⟨⟨oc, od, cd, sl, hC, e1, e2, e4⟩, made, base, self, top, call, typ⟩ := Y
  refine codeAny_of_tree ?_
  show wpAny _ A.in1 (do checkBuiltinCall "list.__new__" ⟨[.ref C], []⟩; again (.builtin "list.__new__" ⟨[.ref C], []⟩)) _ _ _
  simp only [checkBuiltinCall, ln_kind, ln_split]
  have hrow := ln_row C
  repeat (first | simp only [bne_self_eq_false, beq_self_eq_true, Bool.not_true, Bool.false_eq_true, if_false, if_true] | with_reducible refine ks_wpAny_isType_cls hC rfl ?_ | with_reducible refine Looks.at (by assumption) ?_ | wp_step)
  refine ⟨plainId_quiet F.plain_list_new _, codeAny_builtin_stack F.entry_list_new rfl fun p st => ?_⟩
  rw [Around.under_plainId F.plain_list_new _]
  have hown := owner_list_new
  simp only [hown]
  repeat (first | simp only [bne_self_eq_false, beq_self_eq_true, Bool.not_true, Bool.false_eq_true, if_false, if_true] | with_reducible refine ks_wpAny_isType_cls hC rfl ?_ | with_reducible refine Looks.at (by assumption) ?_ | wp_step)
  show R _ _
  rw [Heap.size_push]
  exact hq
theorem make_coreL {init : Value} (Y : MakesL (model prog w) h C) (hi : Looks (model prog w) h (typeLookup (.ref C) "__init__") (some init))
    (hb : ∀ self, Looks (model prog w) h (bindSpecial init self) (init, [self]))
    (hq : codeAny (model prog w) (A.under (.builtin "type.__call__" ⟨[.ref C], []⟩)) (.call init ⟨[.ref (h.objs.size + 1)], []⟩) (InitBack (h.objs.size + 1) R) ⟨(h.push emptyD).push (lstObj C h.objs.size), g, d, t, os⟩) :
    codeAny (model prog w) A (.call (.ref C) ⟨[], []⟩) R ⟨h, g, d, t, os⟩ := by
  have Y' := Y
  obtain ⟨⟨oc, od, cd, sl, hC, e1, e2, e4⟩, made, base, self, top, call, typ⟩ := Y
  refine codeAny_of_tree ?_
  show wpAny _ _ (callAny (.ref C) _) _ _ _
  refine nd_load hC ?_
  show wpAny _ _ (callAny.viaDunder (.ref C) _) _ _ _
  unfold callAny.viaDunder
  refine wpAny_bind (call.at ?_)
  dsimp only
  rw [tc_bind]
  refine wpAny_bind (wpAny_pure (wpAny_bind (wpAny_pure ?_)))
  refine wpAny_pure (a := Fin.again (.call (.builtin "type.__call__") ⟨[.ref C], []⟩)) (And.intro rfl ?_)
  refine codeAny_call_builtin_at (Code.quiet_builtin _ (by decide +kernel)) entry_typeCall (check_slot tc_kind tc_split typ (tc_args _ _ _) ?_)
  unfold Builtin.«type.__call__»
  have hm : Looks (model prog w) h (mroOf (.ref C)) cd.mro := ((Looks.ld (part := none) hC).andThen .now).andThen .now
  repeat (first | simp only [e4, Bool.false_eq_true, if_false] | with_reducible refine wpAny_call ?_ | lk)
  refine new_L Y' ?_
  have k : ∀ b o, h.get? b = some o → ((h.push emptyD).push (lstObj C h.objs.size)).get? b = some o := fun b o e => Heap.get?_push_of_some _ (Heap.get?_push_of_some _ e)
  have hx : ((h.push emptyD).push (lstObj C h.objs.size)).get? (h.objs.size + 1) = some (lstObj C h.objs.size) := by heap_get
  have t1 : Looks (model prog w) ((h.push emptyD).push (lstObj C h.objs.size)) (typeOf (.ref (h.objs.size + 1))) (.ref C) := (Looks.ld hx).andThen .now
  have s1 := self.keeps k
  have i1 := hi.keeps k
  have b1 := (hb (.ref (h.objs.size + 1))).keeps k
  unfold isInstance callSpecial? specialOf
  repeat (first | with_reducible refine wpAny_call ?_ | lk)
  refine codeAny_mono hq fun r s' z => ?_
  rcases r with e | (v | _ | _ | _) <;> first | exact z | exact z.elim | skip
  obtain ⟨rfl, z⟩ := z
  exact wpAny_pure (wpAny_pure z)
end
end
section
theorem afresh_B6 : True := by
  w_top off
  trivial
section
variable {prog : Program} {w : World} {A : Around} {s : Shared} {K : Frag}
theorem enterSC {R : Result → Shared → Prop} {name qual : Str} {params : Arguments} {body : List Stmt} {scope : Scope} {dV kV doc pm cdv ct oc : Value} {an od : Option Addr} {osl : Array (Option Value)} {f cc : Addr} {args : List Value} {binds : List (Str × Value)}
    (X : K.In s.heap) (hlim : s.heap.NoLimit)
    (ho : K.lookup f = some ⟨oc, od, .func (ksFn name qual params body scope dV kV doc pm an cdv ct cc), osl⟩) (hcd : codeIn K cdv qual = true) (hroom : A.depth < recursionLimit)
    (hbind : BindsTo s (ksFn name qual params body scope dV kV doc pm an cdv ct cc) ⟨args, []⟩ binds) (hloc : ∀ y ∈ binds, scope.names.lookup y.1 = some .local)
    (h : ∀ h₁ tk, Fr s.heap s.heap.objs.size h₁ (fun y => binds.reverse.lookup y) → News s.heap s.heap.objs.size h₁ [] →
      _root_.PySem.wpAt (model prog w) (A.deeper (ksEnv qual scope s.heap.objs.size f cdv cc)) (.func body (ksEnv qual scope s.heap.objs.size f cdv cc)) (execs body (ksEnv qual scope s.heap.objs.size f cdv cc))
        (fun fl s' => R (.ok (.ret (match fl with | .ret v => v | _ => .none))) s') (fun _ _ => False) { s with heap := h₁, toks := tk })
    (hco : scope.isCoroutine = false := by rfl) (hgen : scope.isGenerator = false := by rfl) (hk : scope.kind = .function := by rfl)
    (hcell : ∀ x ∈ scope.names, x.2 ≠ .cell := by decide) : codeAny (model prog w) A (.call (.ref f) ⟨args, []⟩) R s := by
  refine ks_codeAny_call_defAt (fd := ksFn name qual params body scope dV kV doc pm an cdv ct cc) (body := body) (binds := binds) hroom (X _ _ ho) rfl hlim (codeRec_of X hcd) rfl hbind hcell hloc (fun h₁ hns hk₁ => ?_) hco hgen hk
  exact ks_wpAt_mono (h h₁ _ ⟨hns, hk₁, Nat.le_refl _⟩ News.nil) (fun fl s' q => q) (fun _ _ q => q.elim)
theorem enterS {Q E : Value → Shared → Prop} {name qual : Str} {params : Arguments} {body : List Stmt} {scope : Scope} {dV kV doc pm cdv ct oc : Value} {an od : Option Addr} {osl : Array (Option Value)} {f cc : Addr} {args : List Value} {binds : List (Str × Value)}
    (X : K.In s.heap) (hlim : s.heap.NoLimit)
    (ho : K.lookup f = some ⟨oc, od, .func (ksFn name qual params body scope dV kV doc pm an cdv ct cc), osl⟩) (hcd : codeIn K cdv qual = true) (hroom : A.depth < recursionLimit)
    (hbind : BindsTo s (ksFn name qual params body scope dV kV doc pm an cdv ct cc) ⟨args, []⟩ binds) (hloc : ∀ y ∈ binds, scope.names.lookup y.1 = some .local)
    (h : ∀ h₁ tk, Fr s.heap s.heap.objs.size h₁ (fun y => binds.reverse.lookup y) → News s.heap s.heap.objs.size h₁ [] →
      _root_.PySem.wpAt (model prog w) (A.deeper (ksEnv qual scope s.heap.objs.size f cdv cc)) (.func body (ksEnv qual scope s.heap.objs.size f cdv cc)) (execs body (ksEnv qual scope s.heap.objs.size f cdv cc))
        (fun fl s' => Q (match fl with | .ret v => v | _ => .none) s') (fun _ _ => False) { s with heap := h₁, toks := tk })
    (hco : scope.isCoroutine = false := by rfl) (hgen : scope.isGenerator = false := by rfl) (hk : scope.kind = .function := by rfl)
    (hcell : ∀ x ∈ scope.names, x.2 ≠ .cell := by decide) : wpAny (model prog w) A (call (.ref f) args) Q E s :=
  wpAny_call (enterSC (R := fun r s' => match r with | .ok (.ret v) => Q v s' | .ok _ => False | .error e => E e s') X hlim ho hcd hroom hbind hloc h hco hgen hk hcell)
end
section
variable {prog : Program} {w : World} {A : Around} {E : Value → Shared → Prop} {s : Shared} {h₀ : Heap} {L : Addr} {m mg mb : Str → Option Value} {news : List (Addr × Obj)} {K : Frag} {p : Program} {x C D so : Addr} {ox : Obj}
theorem sup_methodB {name : Str} {id bt : String} {cd : ClassData} {pl : Sem Bool} {Q : Value × List Value → Shared → Prop} (F : Fr h₀ L s.heap m) (X₀ : K.In h₀) (N : News h₀ L s.heap news) (hso : (so, ks_superObj D x C) ∈ news) (hx : s.heap.get? x = some ox) (hcl : ox.cls = .ref C) (hnc : ∀ c, ox.data ≠ .cls c)
    (ho : nsIn K cStatics "thirdparty.any" = some none) (hc : clsIn K C = some cd) (hm : ks_superIn K C D name = some (some (.builtin id))) (hsub : mroIn K C (.type "list") = some true)
    (hid : (id = "list.__len__" ∧ bt = "method-wrapper") ∨ (id = "list.__init__" ∧ bt = "method-wrapper") ∨ (id = "list.pop" ∧ bt = "builtin_function_or_method")) (hn : (name == ("__class__" : Str)) = false)
    (h : ∀ q h', Fr h₀ L h' m → News h₀ L h' ((q, SB.bndObj bt id x) :: news) → (∀ p ∈ news, p.1 < q) → (∀ b o, s.heap.get? b = some o → h'.get? b = some o) → Q (.ref q, []) { s with heap := h', toks := s.toks + 1 }) : wpAny (model prog w) A (getMethod (.ref so) name pl) Q E s := by
  have X : K.In s.heap := X₀.keeps F.keep
  obtain ⟨hh, g, d, t, os⟩ := s
  have hm' : alongIn K name ((cd.mro.dropWhile (· != .ref D)).drop 1) = some (some (.builtin id)) := by unfold ks_superIn at hm; rw [hc] at hm; exact hm
  have hxC : x ≠ C := by
    rintro rfl
    unfold clsIn at hc
    split at hc
    · rename_i c d cd' sl ho
      have e := X _ _ ho
      rw [hx] at e
      cases e
      exact hnc _ rfl
    · cases hc
  refine SB.sup_getMethod hid (N _ hso).1 (looks_opaque X ho) (l₀ := cd.mro) ?_ rfl X hm' hx hcl hxC hn (looks_mroIn X hsub) ?_
  · exact fun A Q E s k q => wpAny_bind ((looks_clsIn X hc) A _ E s k (wpAny_pure q))
  · obtain ⟨F', N', l'⟩ := ks_newsPush (s := ⟨hh, g, d, t, os⟩) (o := SB.bndObj bt id x) F N rfl (Heap.get?_push_at rfl rfl) (fun b o e => Heap.get?_push_of_some _ e)
    exact h _ _ F' N' l' (fun b o e => Heap.get?_push_of_some _ e)
theorem cw_bound {bt id : String} {u y : Addr} {pos : Pos} {Q : Value → Shared → Prop} (hbt : bt = "method-wrapper" ∨ bt = "builtin_function_or_method") (ho : s.heap.get? u = some (SB.bndObj bt id y))
    (h : wpAny (model prog w) A (call (.ref u) []) Q E s) : wpAny (model prog w) A (callWith pos (.ref u) [] [] []) Q E s := by
  unfold callWith
  refine wpAny_bind (wpAny_holding (_root_.PyProof.Rows.evalArgs_none (wpAny_bind (wpAny_standAt ?_))))
  simp only [List.any_nil, Bool.or_false]
  refine wpAny_bind (m := keeperOf (.ref u)) ?_
  unfold keeperOf
  refine wpAny_bind (wpAny_load ho ?_)
  have e1 : (Value.type bt != Value.type "method") = true := by rcases hbt with rfl | rfl <;> decide
  have e2 : (Value.type bt == Value.type "builtin_function_or_method" || Value.type bt == Value.type "method-wrapper") = true := by rcases hbt with rfl | rfl <;> decide
  dsimp only
  rw [if_pos e1, if_pos e2]
  refine wpAny_pure ?_
  exact wpAny_bind (wpAny_mono h (fun r s₂ hr => wpAny_bind (wpAny_holding (wpAny_point (wpAny_pure hr)))) fun _ _ x => x)
end
end
section
theorem afresh_E3 : True := by
  w_top off
  trivial
theorem ba_mro : mroOf (.type "bytearray") = pure [.type "bytearray", .type "object"] := by rw [mroOf_type]; kernel_rfl
theorem ba_lookup_new : typeLookup (.type "bytearray") "__new__" = pure (some (.builtin "bytearray.__new__")) := by rw [typeLookup_type, builtinLookup_eq_fast]; kernel_rfl
theorem ba_slot_init : Slot "bytearray" "__init__" "bytearray.__init__" :=
  .of (owner := "bytearray") (n := "__init__") (by rw [typeLookup_type, builtinLookup_eq_fast]; kernel_rfl) (by decide +kernel) (by decide +kernel) (by decide +kernel)
    (by first | exact .inl (by decide +kernel) | exact .inr (by decide +kernel)) (by rw [isSubtype_type]; kernel_rfl)
theorem ba_called : TypeCalled "bytearray" "bytearray.__new__" "bytearray.__init__" :=
  ⟨by decide +kernel, by decide +kernel, ⟨_, _, ba_mro⟩, madeBy_type ba_mro ba_lookup_new (by decide +kernel), by decide +kernel, by rw [isSubtype_type]; kernel_rfl, ba_slot_init⟩
theorem ba_typeCall (a : Value) : checkTypeCall "bytearray" ⟨[a], []⟩ = pure () := by kernel_rfl
theorem ba_entry_init : entryFor table "bytearray.__init__" = some Builtin.«bytearray.__init__» := by first | exact entryFor_of_fast (by kernel_rfl) | exact entryFor_of_tree (by kernel_rfl)
theorem ba_args_init (a : Addr) (b : Value) : argsOk "bytearray.__init__" ⟨[.ref a, b], []⟩ := by unfold argsOk; kernel_rfl
theorem ba_bind (v : Value) : Builtin.Bytes.bindOptional "bytearray.__init__" "bytearray" ["source", "encoding", "errors"] [v] [] = pure [some v, none, none] := by kernel_rfl
theorem ba_release : typeLookup (.type "bytearray") "__release_buffer__" = pure (some (.builtin "bytearray.__release_buffer__")) := by rw [typeLookup_type, builtinLookup_eq_fast]; kernel_rfl
theorem ba_sub : isSubtype (.type "bytearray") (.type "bytearray") = pure true := by rw [isSubtype_type]; kernel_rfl
theorem int_index_ : typeLookup (.type "int") "__index__" = pure (some (.builtin "int.__index__")) := by rw [typeLookup_type, builtinLookup_eq_fast]; kernel_rfl
section
variable {prog : Program} {w : World} {A : Around} {E : Value → Shared → Prop} {s : Shared}
theorem mem_keep {h₀ h : Heap} {news : List (Addr × Obj)} (D : X.Mem h₀ h [] news) : ∀ b o, h₀.get? b = some o → h.get? b = some o := fun b o e => D.keep b o e (by cases X.hasCls o <;> rfl)
theorem ba_end {h₀ h₁ : Heap} {D : Addr} {o : Obj} {r : List (Addr × Obj)} {Q : Value → Shared → Prop} {g : Array GenState} {d : Drawn} {tk : Nat} {os : OsState} (M : X.Mem h₀ h₁ [] ((D, o) :: r)) (h : ∀ D h' tk, (∀ b o, h₀.get? b = some o → h'.get? b = some o) → h₀.get? D = none → h'.get? D = some o → Q (.ref D) ⟨h', g, d, tk, os⟩) : Q (.ref D) ⟨h₁, g, d, tk, os⟩ :=
  h _ _ _ (mem_keep M) (M.nw _ (List.Mem.head _)).2 (M.nw _ (List.Mem.head _)).1
local macro_rules | `(tactic| x_close) => `(tactic| exact ba_end (by assumption) (by assumption))
theorem ba_new_part {n : Nat} {u : Tok} {Q : Value → Shared → Prop} 
    (h : ∀ D h' tk, (∀ b o, s.heap.get? b = some o → h'.get? b = some o) → s.heap.get? D = none → h'.get? D = some { cls := .type "bytearray", data := .bytearray #[] } → Q (.ref D) { s with heap := h', toks := tk }) :
    wpAny (model prog w) A (call (.builtin "bytearray.__new__") [.type "bytearray", .int n u]) Q E s := by
  obtain ⟨hh, g, d, t, os⟩ := s
  x_run
theorem cl_if_false {α : Type} {M : Model} {c : Bool} {a b : Sem α} {Q : α → Shared → Prop} (hc : c = false) (h : wpCl M A b Q E s) : wpCl M A (if c = true then a else b) Q E s := by
  subst hc
  exact h
theorem cl_if_true {α : Type} {M : Model} {c : Bool} {a b : Sem α} {Q : α → Shared → Prop} (hc : c = true) (h : wpCl M A a Q E s) : wpCl M A (if c = true then a else b) Q E s := by
  subst hc
  exact h
abbrev baO (b : Array UInt8) : Obj := { cls := .type "bytearray", data := .bytearray b }
theorem ba_write {a : Addr} {b : Array UInt8} {f : Array UInt8 → Array UInt8} {Q : Unit → Shared → Prop} (hs : s.heap.get? a = some (baO b)) (hz : (f b).size ≤ sizeLine)
    (h : ∀ h', h'.get? a = some (baO (f b)) → (∀ d o, d ≠ a → s.heap.get? d = some o → h'.get? d = some o) → Q () { s with heap := h' }) : wpAny (model prog w) A (Builtin.Bytes.write (.ref a) f) Q E s := by
  show wpAny _ _ (updateBytearray a f) _ _ _
  unfold updateBytearray
  refine wpAny_bind (wpAny_load hs ?_)
  show wpAny _ _ (update a (Obj.mapBytearray f) >>= fun _ => lookBehind a) _ _ _
  refine wpAny_bind (wpAny_update hs ?_)
  have h2 : (s.heap.update a (Obj.mapBytearray f)).get? a = some (baO (f b)) := Heap.get?_update_self (Obj.mapBytearray f) hs rfl
  refine wpAny_lookBehind h2 ?_ (h _ h2 fun d o hd e => Heap.get?_update_of_ne _ (Ne.symm hd) e)
  show (if (f b).size > sizeLine then some "bytearray:memory" else none) = none
  rw [if_neg (Nat.not_lt.mpr hz)]
theorem ba_init_part {n : Nat} (hn : n ≤ 1000) {u : Tok} {a : Addr} {Q : Unit → Shared → Prop} (hs : s.heap.get? a = some { cls := .type "bytearray", data := .bytearray #[] })
    (h : ∀ h' tk, (∀ b o, b ≠ a → s.heap.get? b = some o → h'.get? b = some o) → h'.get? a = some { cls := .type "bytearray", data := .bytearray (Array.replicate n 0) } → Q () { s with heap := h', toks := tk }) :
    wpCl (model prog w) A (Builtin.«bytearray.__init__» ⟨[.ref a, .int n u], []⟩) (fun fin s' => fin = .done (.ret .none) ∧ Q () s') (fun _ _ => False) s := by
  have hT : s.TypeIs (.ref a) "bytearray" := ⟨_, hs, rfl⟩
  unfold Builtin.«bytearray.__init__»
  dsimp only
  have hr := ba_release
  have hs' := ba_sub
  have hi := int_index_
  have hb := ba_bind (.int n u)
  refine wpCl_bindA ?_
  unfold Builtin.Bytes.ownRelease Builtin.Bytes.slotIsOwn
  refine wpAny_bind (wpAny_bind (wpAny_specialOf hT hr ?_))
  dsimp only
  rw [if_neg (by decide +kernel)]
  rw [show ("bytearray.__release_buffer__".dropRight ("__release_buffer__".length + 1)) = "bytearray" from by decide +kernel]
  refine wpAny_isInstance (b := true) hT hs' ?_
  refine wpAny_pure ?_
  refine cl_if_false rfl ?_
  refine wpCl_bindA (wpAny_of_eq hb ?_)
  dsimp only
  refine wpCl_bindA (wpAny_of_eq (a := ()) rfl ?_)
  refine wpCl_bindA (wpAny_of_eq (a := ()) rfl ?_)
  refine wpCl_bind ?_
  refine wpCl_bind (wpCl_exported ?_)
  refine wpCl_of ?_
  show wpAny _ _ (Builtin.Bytes.exportsOf (.ref a) >>= _) _ _ _
  refine wpAny_bind ?_
  show wpAny _ _ (load a >>= _) _ _ _
  refine wpAny_bind (wpAny_load hs (wpAny_pure (wpAny_pure ?_)))
  refine cl_if_false (by rfl) ?_
  refine wpCl_bindA (ba_write hs (Nat.zero_le _) fun h₂ g₂ k₂ => ?_)
  have ha : asStr? (.int (n : Int) u) = pure none := rfl
  refine wpCl_bind ?_
  rw [ha]
  refine wpCl_pure ?_
  simp only [Option.isSome_none, Bool.false_eq_true, if_false]
  refine wpCl_of ?_
  with_reducible refine wpAny_bind ?_
  with_reducible refine wpAny_pure ?_
  with_reducible refine wpAny_bind ?_
  have hT2 : ({ s with heap := h₂ } : Shared).TypeIs (.int (n : Int) u) "int" := typeIs_int _ _ _
  with_reducible refine wpAny_specialOf hT2 hi ?_
  simp only [Option.isSome_some, if_true]
  with_reducible refine wpAny_bind ?_
  with_reducible refine wpAny_attempt ?_
  rw [show asIndex (.int (n : Int) u) = pure (n : Int) from rfl]
  with_reducible refine wpAny_pure ?_
  dsimp only
  rw [if_neg (by unfold Builtin.Bytes.fitsIndex; simp; omega)]
  rw [if_neg (by omega)]
  rw [if_neg (by simp; omega)]
  rw [if_neg (by unfold Builtin.Bytes.tooLong; rw [sizeLine_eq]; simp; omega)]
  with_reducible refine wpAny_bind ?_
  with_reducible refine wpAny_rule ?_
  by_cases hp : (n : Int) > 0
  · rw [if_pos hp]
    with_reducible refine wpAny_bind ?_
    refine ba_write g₂ (by rw [sizeLine_eq]; simp; omega) fun h₃ g₃ k₃ => ?_
    exact wpAny_pure ⟨rfl, h h₃ _ (fun b o hb e => k₃ b o hb (k₂ b o hb e)) (by simpa using g₃)⟩
  · rw [if_neg hp]
    have e0 : n = 0 := by omega
    subst e0
    exact wpAny_pure ⟨rfl, h h₂ _ k₂ g₂⟩
theorem codeCl_builtin {R : Result → Shared → Prop} {id : String} {args : Args} {b : Builtin} (hb : entryFor table id = some b)
    (h : wpCl (model prog w) (A.under (.builtin id args)) (b args) (fun fin s' => match fin with | .done f => R (.ok f) s' | .again c' => c'.quiet = true ∧ noDec c' = true ∧ codeCl (model prog w) A c' R s') (fun e s' => R (.error e) s') s) :
    codeCl (model prog w) A (.builtin id args) R s := by
  refine codeCl_tree ?_
  show wpCl _ _ (match entryFor table id with | some b => b args | none => unsupported ((withoutEnding? id "#data").getD id)) _ _ s
  rw [hb]; exact h
theorem ba_type_call {n : Nat} (hn : n ≤ 1000) {u : Tok} {Q : Value → Shared → Prop}
    (h : ∀ D h' tk, (∀ b o, s.heap.get? b = some o → h'.get? b = some o) → s.heap.get? D = none → h'.get? D = some (baO (Array.replicate n 0)) → Q (.ref D) { s with heap := h', toks := tk }) :
    wpCl (model prog w) A (call (.type "bytearray") [.int n u]) Q E s := by
  obtain ⟨c, tl, hmro⟩ := ba_called.mro
  have hmade := ba_called.made
  refine wpCl_call (codeCl_tree ?_)
  show wpCl _ _ (callAny (.type "bytearray") _) _ _ _
  refine wpCl_pure ⟨Code.quiet_builtin _ (by decide +kernel), rfl, codeCl_builtin F.entry_type_call ?_⟩
  rw [Around.under_plain (weight_type_call_type "bytearray" [.int n u] []) rfl]
  unfold Builtin.«type.__call__»
  dsimp only
  rw [show (Value.type "bytearray" == Value.type "type") = false from by decide +kernel, if_neg Bool.false_ne_true]
  refine cl_if_false ba_called.canCreate ?_
  refine wpCl_bindA (wpAny_of_eq (ba_typeCall _) ?_)
  refine wpCl_bindA (wpAny_of_eq hmro ?_)
  refine cl_if_false (by rfl) ?_
  refine wpCl_bindA (wpAny_of_eq hmade ?_)
  dsimp only
  refine wpCl_bindA (wpAny_pure ?_)
  refine wpCl_bindA (wpAny_holding (ba_new_part fun D h₁ tk₁ k₁ hD g₁ => ?_))
  have hT : ({ s with heap := h₁, toks := tk₁ } : Shared).TypeIs (.ref D) "bytearray" := ⟨_, g₁, rfl⟩
  refine wpCl_bindA (wpAny_isInstance (b := true) hT ba_sub ?_)
  refine cl_if_false (by rfl) ?_
  refine wpCl_bind (wpCl_holding ?_)
  unfold callSpecial?
  refine wpCl_bindA (wpAny_specialOf hT ba_slot_init.lookup ?_)
  dsimp only
  refine wpCl_holding ?_
  refine wpCl_bindA (wpAny_of_eq (ba_slot_init.bind _) ?_)
  dsimp only
  refine wpCl_bind (wpCl_call (codeCl_tree ?_))
  show wpCl _ (A.in1.in1) (do checkBuiltinCall "bytearray.__init__" ⟨[.ref D, .int n u], []⟩; again (.builtin "bytearray.__init__" ⟨[.ref D, .int n u], []⟩)) _ _ _
  refine wpCl_bindA (ba_slot_init.check _ _ _ _ _ _ _ _ hT (ba_args_init D _) ?_)
  refine wpCl_pure ⟨plainId_quiet ba_slot_init.plain _, rfl, codeCl_builtin ba_entry_init ?_⟩
  rw [Around.under_plainId ba_slot_init.plain _]
  refine wpCl_mono (ba_init_part (prog := prog) (w := w) (A := A.in1.in1) (u := u) hn g₁ (Q := fun _ s' => ∃ h₂ tk₂, s' = { s with heap := h₂, toks := tk₂ } ∧ (∀ b o, b ≠ D → h₁.get? b = some o → h₂.get? b = some o) ∧ h₂.get? D = some (baO (Array.replicate n 0))) fun h₂ tk₂ k₂ g₂ => ⟨h₂, tk₂, rfl, k₂, g₂⟩) ?_ (fun _ _ (e : False) => e.elim)
  rintro fin s' ⟨rfl, h₂, tk₂, rfl, k₂, g₂⟩
  dsimp only
  refine wpCl_pure ?_
  dsimp only
  refine cl_if_false (by decide +kernel) ?_
  refine wpCl_pure ?_
  refine h D h₂ tk₂ (fun b o e => k₂ b o (fun q => ?_) (k₁ b o e)) hD g₂
  rw [q, hD] at e; cases e
end
end
section
theorem afresh_GC : True := by
  w_top off
  trivial
section
variable {prog : Program} {w : World} {A : Around} {E : Value → Shared → Prop} {s : Shared} {R : Result → Shared → Prop}
theorem codeCl_func {body : List Stmt} {env : Env} (h : wpCl (model prog w) (A.deeper env) (execs body env) (fun f s' => R (.ok (.ret (match f with | .ret v => v | _ => .none))) s') (fun _ _ => False) s) : codeCl (model prog w) A (.func body env) R s := by
  refine codeCl_tree ?_
  show wpCl _ (A.deeper env) (do point; match ← (execs body env).onRaise (leaving env) with | .ret v => ret v | _ => ret .none) _ _ s
  refine wpCl_bindA (wpAny_point (wpCl_bind (wpCl_onRaise (wpCl_mono h (fun f s' q => ?_) fun _ _ q => q.elim))))
  cases f <;> exact wpCl_pure q
/-- a def is entered: what is made ahead of its body is shown as ever -/
theorem codeCl_fn {a : Addr} {args : Args} {o : Obj} {fd : FuncData} {body : List Stmt} (hroom : A.depth < recursionLimit) (ho : s.heap.get? a = some o) (hdat : o.data = .func fd)
    (hco : fd.scope.isCoroutine = false) (hgen : fd.scope.isGenerator = false) (hbody : fd.body = .stmts body) (hcd : s.heap.CodeRec fd.code fd.qualname)
    (h : wpAny (model prog w) A.in1 (bindArgs fd args) (fun binds s₁ => wpAny (model prog w) A.in1 (newFunctionEnv fd.scope fd.globals fd.closure binds (fd.qualname ++ ".<locals>.") (some a) fd.code none fd.builtins)
      (fun env s₂ => s₂.heap.NoLimit ∧ codeCl (model prog w) A (.func body env) R s₂) (fun e s' => R (.error e) s') s₁) (fun e s' => R (.error e) s') s) : codeCl (model prog w) A (.call (.ref a) args) R s := by
  refine codeCl_tree ?_
  show wpCl _ A.in1 (callAny (.ref a) args) _ _ s
  refine wpCl_of ?_
  simp only [callAny]
  refine wpAny_bind (wpAny_load ho ?_)
  obtain ⟨c, oc, vs, tq, e1, e2, e3, e4⟩ := hcd
  simp only [hdat, callFunction, hco, hgen, hbody, e1]
  rw [e1] at h
  refine wpAny_bind (m := field (.ref c) 1) (wpAny_field e2 e3 e4 (wpAny_bind (wpAny_pure (wpAny_bind (wpAny_mono h (fun binds s₁ h₁ => ?_) fun _ _ q => q)))))
  exact wpAny_bind (wpAny_mono h₁ (fun env s₂ h₂ => wpAny_bind (wpAny_enterFrame h₂.1 hroom (wpAny_pure ⟨rfl, rfl, h₂.2⟩))) fun _ _ q => q)
theorem enterCl {K : Frag} {Q : Value → Shared → Prop} {name qual : Str} {params : Arguments} {body : List Stmt} {scope : Scope} {dV kV doc pm cdv ct oc : Value} {an od : Option Addr} {osl : Array (Option Value)} {f : Addr} {args : List Value} {binds : List (Str × Value)}
    (X : K.In s.heap) (hlim : s.heap.NoLimit)
    (ho : K.lookup f = some ⟨oc, od, .func (fnOf name qual params body scope dV kV doc pm an cdv ct), osl⟩) (hcd : codeIn K cdv qual = true) (hroom : A.depth < recursionLimit)
    (hbind : BindsTo s (fnOf name qual params body scope dV kV doc pm an cdv ct) ⟨args, []⟩ binds) (hloc : ∀ y ∈ binds, scope.names.lookup y.1 = some .local)
    (h : ∀ h₁ tk, Fr s.heap s.heap.objs.size h₁ (fun y => binds.reverse.lookup y) → News s.heap s.heap.objs.size h₁ [] →
      wpCl (model prog w) (A.deeper (envOf qual scope s.heap.objs.size f cdv)) (execs body (envOf qual scope s.heap.objs.size f cdv))
        (fun fl s' => Q (match fl with | .ret v => v | _ => .none) s') (fun _ _ => False) { s with heap := h₁, toks := tk })
    (hco : scope.isCoroutine = false := by rfl) (hgen : scope.isGenerator = false := by rfl) (hk : scope.kind = .function := by rfl)
    (hcell : ∀ x ∈ scope.names, x.2 ≠ .cell := by decide) : wpCl (model prog w) A (call (.ref f) args) Q E s := by
  refine wpCl_call (codeCl_fn (fd := fnOf name qual params body scope dV kV doc pm an cdv ct) hroom (X _ _ ho) rfl hco hgen rfl (codeRec_of X hcd) (hbind _ _ _ _ ?_))
  refine wpAny_newFunctionEnv hcell hloc (fun h₁ hns hsb => ⟨hlim.fresh _ hsb, codeCl_func (wpCl_mono (h h₁ _ ⟨hns, fun b o e => ?_, Nat.le_refl _⟩ News.nil) (fun fl s' q => q) (fun _ _ q => q))⟩) hk
  exact hsb.extBut b o (Nat.ne_of_lt (Heap.lt_size e)) (Heap.get?_push_of_some _ e)
theorem enterClC {K : Frag} {Q : Value → Shared → Prop} {name : Str} {params : Arguments} {body : List Stmt} {scope : Scope} {pm cdv doc oc : Value} {od : Option Addr} {osl : Array (Option Value)} {f : Addr} {args : List Value} {binds : List (Str × Value)}
    (X : K.In s.heap) (hlim : s.heap.NoLimit)
    (ho : K.lookup f = some ⟨oc, od, .func (Calls.docDef name params body scope pm cdv doc), osl⟩) (hcd : codeIn K cdv name = true) (hroom : A.depth < recursionLimit)
    (hbind : bindArgs (Calls.docDef name params body scope pm cdv doc) ⟨args, []⟩ = pure binds)
    (hkind : ∀ x ∈ binds, scope.names.lookup x.1 = some .local ∨ (scope.names.lookup x.1 = some .cell ∧ ((cellsFrom (s.heap.objs.size + 1) scope.names []).lookup x.1).isSome = true))
    (hnd : ((cellsFrom 0 scope.names []).map (·.1)).Nodup)
    (h : ∀ h₁ tk cells, Fr s.heap s.heap.objs.size h₁ (bindL (envOfC name scope s.heap.objs.size f cdv).kindOf binds fun _ => none) → News s.heap s.heap.objs.size h₁ cells →
      CellsAre (bindC (envOfC name scope s.heap.objs.size f cdv).kindOf binds fun _ => none) (cellsFrom (s.heap.objs.size + 1) scope.names []) cells →
      wpCl (model prog w) (A.deeper (envOfC name scope s.heap.objs.size f cdv)) (execs body (envOfC name scope s.heap.objs.size f cdv))
        (fun fl s' => Q (match fl with | .ret v => v | _ => .none) s') (fun _ _ => False) { s with heap := h₁, toks := tk })
    (hco : scope.isCoroutine = false := by rfl) (hgen : scope.isGenerator = false := by rfl) (hk : scope.kind = .function := by rfl) : wpCl (model prog w) A (call (.ref f) args) Q E s := by
  refine wpCl_call (codeCl_fn (fd := Calls.docDef name params body scope pm cdv doc) hroom (X _ _ ho) rfl hco hgen rfl (codeRec_of X hcd) ?_)
  rw [hbind]
  refine wpAny_pure (wpAny_newFunctionEnv_cells hk hkind fun env he s' x => ?_)
  subst he
  refine ⟨hlim.keeps x.toInCall.keep, codeCl_func ?_⟩
  obtain ⟨h₁, tk, rfl, _⟩ := x.done
  have Y : PyProof.Rows.Cl s.heap.objs.size (cellsFrom (s.heap.objs.size + 1) scope.names []) h₁ (bindC (envOfC name scope s.heap.objs.size f cdv).kindOf binds fun _ => none) := ⟨x.cell, x.apart, x.above⟩
  obtain ⟨cells, N, Z⟩ := PyProof.Rows.Cl.news (h₀ := s.heap) (Nat.le_refl _) fun n c hm => ⟨Y.cell n c (lookup_of_mem_nodup (cellsFrom_names scope.names 0 (s.heap.objs.size + 1) [] [] rfl ▸ hnd) hm), Y.above n c hm⟩
  exact wpCl_mono (h h₁ tk cells ⟨x.toInCall.ns, x.toInCall.keep, x.toInCall.fresh⟩ N Z) (fun fl s' q => q) (fun _ _ q => q)
end
end
section
theorem afresh_GS : True := by
  w_top off
  trivial
section
variable {α : Type} {M : Model} {A : Around} {E : Value → Shared → Prop} {s : Shared} {env : Env}
theorem cl_execs {st : Stmt} {rest : List Stmt} {Q : Flow → Shared → Prop} (h : wpCl M A (exec st env) (fun f s' => match f with | .next => wpCl M A (execs rest env) Q E s' | f => Q f s') E s) : wpCl M A (execs (st :: rest) env) Q E s := fun Γ p hΓ hc => by
  rw [execs_cons, Sem.wp_bind']
  refine Sem.wp_mono M Γ _ (fun f p' s' q => ?_) (fun _ _ _ q => q) _ _ (h Γ p hΓ hc)
  cases f <;> first | exact q Γ p' hΓ hc | exact q
theorem cl_Return {e : PySem.Expr} {pos : Pos} {Q : Flow → Shared → Prop} (h : wpCl M A (eval e env) (fun v => Q (.ret v)) E s) : wpCl M A (exec (.Return (some e) pos) env) Q E s := fun Γ p hΓ hc => by
  simp only [exec_Return_some, Sem.wp_bind', Sem.wp_cmd_standAt, Sem.wp_pure']
  exact h Γ _ hΓ hc
theorem cl_Compare {l r : PySem.Expr} {op : CmpOp} {pos : Pos} {Q : Value → Shared → Prop} (h : wpCl M A (eval l env) (fun a s₁ => wpAny M A (eval r env) (fun b s₂ => wpAny M A (compareOp op a b) Q E s₂) E s₁) E s)
    (hm : behindInMarks op r = false := by with_unfolding_all rfl) : wpCl M A (eval (.Compare l [op] [r] pos) env) Q E s := fun Γ p hΓ hc => by
  simp only [eval_Compare1, markedBehindIn_of_false hm, Sem.wp_bind', Sem.wp_holding, Sem.wp_cmd_standAt, Sem.wp_operate]
  exact Sem.wp_mono M Γ _ (fun a p₁ s₁ h₁ => Sem.wp_mono M Γ _ (fun b _ s₂ h₂ => h₂ Γ _ hΓ) (fun _ _ _ q => q) _ _ (h₁ Γ p₁ hΓ)) (fun _ _ _ q => q) _ _ (h Γ p hΓ hc)
theorem cl_Assign {x : Str} {px pos : Pos} {value : PySem.Expr} {Q : Flow → Shared → Prop} (h : wpCl M A (eval value env) (fun v s₁ => wpAny M A (storeName env x v) (fun _ => Q .next) E s₁) E s)
    (hs : swapsWith value (some (.Name x px)) pos.line env = pure false := by rfl) : wpCl M A (exec (.Assign [.Name x px] value pos) env) Q E s := fun Γ p hΓ hc => by
  simp only [exec_Assign_Name env x px value pos hs, Sem.wp_bind', Sem.wp_cmd_standAt, Sem.wp_bindName, Sem.wp_pure']
  exact Sem.wp_mono M Γ _ (fun v _ s₁ h₁ => h₁ Γ _ hΓ) (fun _ _ _ q => q) _ _ (h Γ _ hΓ hc)
theorem wpCl_keep {t : Sem α} {vs : List Value} {Q : α → Shared → Prop} (h : wpCl M A t Q E s) : wpCl M A (t.keep vs) Q E s := fun Γ p hΓ hc => by
  rw [Sem.wp_keep]
  exact h Γ p hΓ hc
/-- the arguments: the first in wpCl, the others as ever -/
theorem cl_args {f : Value} {x : Sem Value} {rest : List (Bool × Sem Value)} {Q : Args → Shared → Prop}
    (h : wpCl M A x (fun v s₁ => wpAny M A (spliced rest) (fun vs s₂ => Q ⟨v :: vs, []⟩ s₂) E s₁) E s) : wpCl M A (evalArgs f true ((false, x) :: rest) []) Q E s := by
  unfold evalArgs
  show wpCl M A (spliced ((false, x) :: rest) >>= _) Q E s
  rw [spliced]
  refine wpCl_bind (wpCl_bind (wpCl_mono h (fun v s₁ h₁ => wpCl_of ?_) fun _ _ q => q))
  simp only [Bool.false_eq_true, if_false]
  refine wpAny_bind (wpAny_pure (wpAny_bind (wpAny_holding (wpAny_mono h₁ (fun vs s₂ h₂ => wpAny_pure (wpCl_of ?_)) fun _ _ q => q))))
  refine wpAny_holding ?_
  exact wpAny_bind (wpAny_pure (wpAny_bind (wpAny_pure (wpAny_pure h₂))))
theorem cl_callWith_type {pos : Pos} {T : String} {args : List (Bool × Sem Value)} {Q : Value → Shared → Prop} (hp : args.any (·.1) = false)
    (h : wpAny M A (evalArgs (.type T) true args []) (fun a s₁ => wpCl M A (call (.type T) a.pos a.kw) Q E s₁) E s) : wpCl M A (callWith pos (.type T) [] args []) Q E s := by
  unfold callWith
  refine wpCl_bindA (wpAny_holding (wpAny_mono h (fun a s₁ h₁ => wpCl_bindA (wpAny_standAt ?_)) fun _ _ q => q))
  simp only [hp, List.any_nil, Bool.or_false]
  refine wpCl_bindA (wpAny_pure ?_)
  exact wpCl_bind (wpCl_mono h₁ (fun r s₂ hr => wpCl_bindA (wpAny_holding (wpAny_point (wpCl_pure hr)))) fun _ _ q => q)
theorem cl_callWith_fn {pos : Pos} {a : Addr} {o : Obj} {fd : FuncData} {args : List (Bool × Sem Value)} {Q : Value → Shared → Prop} (hp : args.any (·.1) = false) (hlen : args.length ≤ 30) (hd : o.data = .func fd)
    (h : wpCl M A (evalArgs (.ref a) true args []) (fun x s₁ => s₁.heap.get? a = some o ∧ wpCl M A (call (.ref a) x.pos x.kw) Q E s₁) E s) : wpCl M A (callWith pos (.ref a) [] args []) Q E s := by
  unfold callWith
  refine wpCl_bind (wpCl_holding (wpCl_mono h (fun x s₁ h₁ => wpCl_bindA (wpAny_standAt ?_)) fun _ _ q => q))
  simp only [hp, List.any_nil, Bool.or_false]
  refine wpCl_bindA (m := keeperOf (.ref a)) ?_
  unfold keeperOf
  refine wpAny_bind (wpAny_load h₁.1 ?_)
  rw [hd]
  refine wpAny_pure ?_
  dsimp only
  rw [if_neg (by simp only [List.length_nil]; omega)]
  unfold callMarked
  exact wpCl_bind (wpCl_mono (wpCl_keep h₁.2) (fun r s₂ hr => wpCl_bindA (wpAny_holding (wpAny_point (wpCl_pure hr)))) fun _ _ q => q)
theorem cl_Call {x : Str} {px pos : Pos} {args : List PySem.Expr} {trees : List (Bool × Sem Value)} {Q : Value → Shared → Prop} (ht : backTo pos (starEach args env) = trees)
    (h : wpAny M A (eval (.Name x px) env) (fun f s₁ => wpCl M A (callWith pos f [] trees []) Q E s₁) E s) : wpCl M A (eval (.Call (.Name x px) args [] pos) env) Q E s := by
  subst ht
  exact wpCl_bindA h
end
end
end Mine
open PySem PySem.W PyProof.Rows PySem.Calls
set_option Elab.async false
set_option maxRecDepth 100000
set_option maxHeartbeats 4000000
namespace Mine
local macro_rules | `(tactic| k_units) => `(tactic| (simp only [depth_mark, depth_under_make, depth_under_kw, depth_in1, depth_deeper, recursionLimit, units_in1, units_deeper, Around.mark_units, cLine]; omega))
local macro_rules | `(tactic| k_room) => `(tactic| k_units)
section
theorem afresh_A1 : True := by
  w_top off
  trivial
noncomputable def apGo : Nat → Nat → List UInt8 → List UInt8
  | 0, _, acc => acc
  | k + 1, n, acc => if n = 0 then acc else apGo k (n / 16) (UInt8.ofNat (65 + n % 16) :: acc)
noncomputable def apJ (n : Nat) (k : Nat) (m : Str → Option Value) (_ : List (Addr × Obj)) : Prop :=
  ∃ (q : Nat) (acc : List UInt8) (t u : Tok), q < 16 ^ k ∧ apGo k q acc = apGo 8 n [] ∧ acc.length + k = 8 ∧ m (Str.ofString "num") = some (.int q t) ∧ m (Str.ofString "val") = some (.bytes acc.toArray u) ∧ ∃ v, m (Str.ofString "AP") = some (.bytes #[65, 66, 67, 68, 69, 70, 71, 72, 73, 74, 75, 76, 77, 78, 79, 80] v)
theorem pick16 : ∀ d : Fin 16, KBy.picked #[65, 66, 67, 68, 69, 70, 71, 72, 73, 74, 75, 76, 77, 78, 79, 80] (some ((d.val : Nat) : Int)) (some (((d.val : Nat) : Int) + 1)) = #[UInt8.ofNat (65 + d.val)] := by decide +kernel
theorem fmodN (q k : Nat) (hk : 0 < k) : Int.fmod (q : Int) (k : Int) = ((q % k : Nat) : Int) := by rw [Int.fmod_eq_emod_of_nonneg _ (by omega)]; simp
theorem fdivN (q k : Nat) (hk : 0 < k) : Int.fdiv (q : Int) (k : Int) = ((q / k : Nat) : Int) := by rw [Int.fdiv_eq_ediv_of_nonneg _ (by omega)]; simp
theorem ap_call {w : World} {n : Nat} {t : Tok} (h1 : n < 1048576) : Call0 w 0 126 [.int n t] (fun h h' v => ∃ tk, v = .bytes (apGo 8 n []).toArray tk) := by
  intro dp un fr gd s Q E hd hu G hQ
  obtain ⟨X, mean, mg, mb, T⟩ := G
  revert X; k_fill; intro X
  k_dflt (refine' enter0 ?k1 ?k2 ?k6 ?k7 ?k8 ?k9 ?kB ?_ ?c2 ?c3 ?c4 ?c5; (case k1 => assumption); (case k2 => exact Top.nolimit (by assumption)); (case k6 => k_is); (case k7 => k_is); (case k8 => k_room); (case k9 => exact BindsTo.of_eq rfl); (case c5 => decide); (case kB => exact locs rfl); (case c2 => exact rfl); (case c3 => exact rfl); (case c4 => exact rfl); k_whole; intro h' tk' F' N'; (try dsimp only))
  iterate 25 (first | walk1 | (dsimp only; walk1))
  refine wpAny_execs_cons ?_
  with_reducible rename Fr _ _ _ _ => F
  with_reducible rename News _ _ _ _ => N
  rw [if_neg (by omega : ¬ ((n : Int) < 0))] at F
  k_dflt (refine While_inv (apJ n) (n₀ := 8) F N ⟨n, [], _, _, ?_, rfl, rfl, rfl, rfl, _, rfl⟩ ?_)
  · omega
  rintro k m₁ news₁ h₂ tk₂ F₂ N₂ ⟨q, acc, t₁, u₁, hq, hg, hl, e1, e2, v₁, e3⟩
  have F₃ := frK [(Str.ofString "num", _), (Str.ofString "val", _), (Str.ofString "AP", _)] F₂ (by intro p hp; simp only [List.mem_cons, List.not_mem_nil, or_false] at hp; rcases hp with rfl | rfl | rfl <;> assumption)
  clear F₂ F N
  dsimp only
  iterate 3 (first | walk1 | (dsimp only; walk1))
  by_cases hz : q = 0
  · subst hz
    rw [if_neg (by simp)]
    repeat (first | walk1 | (dsimp only; walk1))
    have hk : ∀ k : Nat, apGo k 0 acc = acc := fun k => by cases k <;> rfl
    rw [hk] at hg
    exact hQ _ _ _ (Fr.keep (by assumption)) ⟨_, by rw [hg]⟩
  · rw [if_pos (by simp; omega)]
    repeat (first | walk1 | (dsimp only; walk1))
    with_reducible rename Fr _ _ _ _ => F
    with_reducible rename News _ _ _ _ => N
    refine KBc.slice_K (s := ⟨_, _, _, _, _⟩) F N (ks := KBw.bInts _) rfl (by constructor) (by constructor) (by decide) ?_
    clear F N
    intro h₅ t₅ k₅ F₅ N₅ _
    have hp := pick16 ⟨q % 16, Nat.mod_lt _ (by decide)⟩
    have hm : Int.fmod (q : Int) 16 = ((q % 16 : Nat) : Int) := fmodN q 16 (by decide)
    have hd' : Int.fdiv (q : Int) 16 = ((q / 16 : Nat) : Int) := fdivN q 16 (by decide)
    rw [hm] at F₅ ⊢
    rw [hd'] at F₅
    rw [hp]
    dsimp only
    repeat (first | walk1 | (dsimp only; walk1))
    refine KBy.add_bytes (by simp; omega) fun t₆ k₆ => ?_
    repeat (first | walk1 | (dsimp only; walk1))
    cases k with
    | zero => omega
    | succ k =>
    with_reducible rename Fr _ _ _ _ => F
    with_reducible rename News _ _ _ _ => N
    refine WhileStep.intro F N (Nat.lt_succ_self k) ⟨q / 16, UInt8.ofNat (65 + q % 16) :: acc, _, t₆, ?_, ?_, ?_, rfl, ?_, _, rfl⟩
    · rw [Nat.pow_succ] at hq; omega
    · rw [← hg, apGo, if_neg hz]
    · simp only [List.length_cons]; omega
    · show some (Value.bytes (#[UInt8.ofNat (65 + q % 16)] ++ acc.toArray) t₆) = some (Value.bytes (UInt8.ofNat (65 + q % 16) :: acc).toArray t₆)
      rw [show (#[UInt8.ofNat (65 + q % 16)] ++ acc.toArray : Array UInt8) = (UInt8.ofNat (65 + q % 16) :: acc).toArray from by simp]
end
section
theorem afresh_A2 : True := by
  w_top off
  trivial
theorem apGo_len : ∀ (k n : Nat) (acc : List UInt8), (apGo k n acc).length ≤ acc.length + k
  | 0, _, _ => Nat.le_refl _
  | k + 1, n, acc => by
    rw [apGo]
    split
    · omega
    · have := apGo_len k (n / 16) (UInt8.ofNat (65 + n % 16) :: acc)
      simp only [List.length_cons] at this
      omega
theorem letters_call {w : World} {n : Nat} {t : Tok} (h1 : n < 1048576) : Call0 w 1 143 [.int n t] (fun h h' v => ∃ tk, v = .str ⟨((apGo 8 n []).map (·.toNat)).toArray⟩ tk) := by
  intro dp un fr gd s Q E hd hu G hQ
  obtain ⟨X, mean, mg, mb, T⟩ := G
  revert X; k_fill; intro X
  k_dflt (refine' enter0 ?k1 ?k2 ?k6 ?k7 ?k8 ?k9 ?kB ?_ ?c2 ?c3 ?c4 ?c5; (case k1 => assumption); (case k2 => exact Top.nolimit (by assumption)); (case k6 => k_is); (case k7 => k_is); (case k8 => k_room); (case k9 => exact BindsTo.of_eq rfl); (case c5 => decide); (case kB => exact locs rfl); (case c2 => exact rfl); (case c3 => exact rfl); (case c4 => exact rfl); k_whole; intro h' tk' F' N'; (try dsimp only))
  iterate 7 (first | walk1 | (dsimp only; walk1))
  refine wpAny_ListComp_free (fun _ => true) (fun v y => ∀ (c : Nat) u, v = .int (c : Int) u → ∃ tk, y = .str ⟨#[c]⟩ tk) (by rfl) (by decide) rfl (by decide) (by rfl) ?_
  iterate 6 (first | walk1 | (dsimp only; walk1))
  with_reducible rename Fr _ _ _ _ => F
  with_reducible rename News _ _ _ _ => N
  refine ⟨X.keeps F.keep, ?_⟩
  refine Call0.use (ap_call h1) (by exact F) (by exact N) (by assumption) (by assumption) (by simp only [depth_deeper]; omega) (by simp only [units_deeper]; omega) ?_
  rintro _ h₂ tk₂ k₂ F₂ N₂ ⟨u, rfl⟩
  clear F N
  refine KBw.pyIter_bytes ?_
  refine ⟨_, _, _, _, _, _, rfl, KBw.walks rfl _ _ _, ?_, ⟨_, Heap.get?_push_size _ rfl, rfl, rfl⟩, ?_, ⟨?_, ?_⟩, ?_⟩
  · have := apGo_len 8 n []
    simp only [List.length_nil] at this
    rw [sizeLine_eq, List.size_toArray]
    omega
  · intro b hb
    rw [List.mem_singleton.mp hb]
    show h₂.objs.size < (h₂.push _).objs.size
    rw [Heap.size_push]
    exact Nat.lt_succ_self _
  · intro C i v s₃ m₃ E' _ _ _ _ _ _
    exact wpAny_tests_nil ⟨rfl, _, _, rfl, fun _ _ e => e⟩
  · rintro C i v s₃ m₃ E' hC ⟨c, u₁, hc, rfl⟩ _ hn hm hk _
    obtain ⟨F₃, oC, N₃, hNC⟩ := comp_facts (F₂.push _) hC hn hk (fun b hb => by
      rw [List.mem_singleton.mp hb]
      exact ⟨next_is_new F₂, Nat.ne_of_gt F₂.ns.lt⟩)
    clear F₂ N₂
    repeat (first | walk1 | (dsimp only; walk1))
    have hc8 : c.toNat < 256 := c.toNat_lt
    refine chr_of_range (by omega) (by omega) ⟨fun c' u' e => ?_, _, _, rfl, fun _ _ e => e⟩
    cases e
    exact ⟨_, rfl⟩
  · intro D h₃ tk₃ ys vs hD hl hpl hlen hP hF hk
    repeat (first | walk1 | (dsimp only; walk1))
    rw [List.filter_eq_self.mpr (fun _ _ => rfl)] at hF
    have hG := paired_src (Src := fun (c : UInt8) v => ∃ u, v = .int (c.toNat : Int) u) (G := fun (c : UInt8) y => ∃ tk, y = Value.str (⟨#[c.toNat]⟩ : Str) tk)
      (fun a v y h1 h2 => by obtain ⟨u, rfl⟩ := h1; exact h2 _ _ rfl) (apGo 8 n []) (by simpa using hlen) (fun j v hj => by obtain ⟨c, u, h1, h2⟩ := hP j v hj; exact ⟨c, by simpa using h1, u, h2⟩) hF
    obtain ⟨l, h1, h2⟩ := paired_strs hG
    have hys : ys = (strValues l).toArray := by rw [← h1]
    rw [hys] at hl
    have hlen2 := apGo_len 8 n []
    refine SC.join hl h2 ?_ fun t' k => ?_
    · unfold JoinOk
      rw [Bool.not_eq_true']
      refine StrLaws.joinFits (B := 1) (fun y hy => ?_) ?_
      · obtain ⟨c, _, rfl⟩ := List.mem_map.mp hy
        exact Nat.le_refl _
      · simp only [List.length_map, List.length_nil] at hlen2 ⊢
        have : (Str.ofString "").length = 0 := by decide +kernel
        rw [this]; omega
    · refine hQ _ h₃ k (fun b o e => hk b o (fun hb => ?_) (Heap.get?_push_of_some _ (F₂.keep b o e))) ⟨t', ?_⟩
      · have := Heap.lt_size (F₂.keep b o e)
        rw [List.mem_singleton.mp hb] at this
        exact Nat.lt_irrefl _ this
      · have eg := StrLaws.glued_eq_join (Str.ofString "") ((apGo 8 n []).map fun a => (⟨#[a.toNat]⟩ : Str))
        unfold Txt.join
        rw [eg]
        have e := join_signs ((apGo 8 n []).map (·.toNat))
        rw [List.map_map] at e
        exact congrArg (Value.str · t') e
end
section
theorem afresh_A3 : True := by
  w_top off
  trivial
noncomputable def fgt (a b : UInt64) : Bool := Float64.cmp a b == some Ordering.gt
noncomputable def flt (a b : UInt64) : Bool := Float64.cmp a b == some Ordering.lt
noncomputable def feq (a b : UInt64) : Bool := Float64.cmp a b == some Ordering.eq
noncomputable def fmax3 (a b c : UInt64) : UInt64 := if fgt b a then (if fgt c b then c else b) else (if fgt c a then c else a)
noncomputable def fmin3 (a b c : UInt64) : UInt64 := if flt b a then (if flt c b then c else b) else (if flt c a then c else a)
section
variable {prog : Program} {w : World} {A : Around} {E : Value → Shared → Prop} {s : Shared}
abbrev fits3 (a b c : UInt64) (t u x : Tok) : Array Value := #[.float a t, .float b u, .float c x]
theorem max_three_floats {a b c : UInt64} {t u x : Tok} {Q : Value → Shared → Prop} (hh : A.handled = none)
    (h : ∀ h' tk t', (∀ d o, s.heap.get? d = some o → h'.get? d = some o) → Q (.float (fmax3 a b c) t') { s with heap := h', toks := tk }) :
    wpAny (model prog w) A (call (.builtin "max") [.float a t, .float b u, .float c x]) Q E s := by
  have hT : (s.heap.push { cls := .type "tuple", data := .seq #[.float a t, .float b u, .float c x] }).IsTuple s.heap.objs.size (fits3 a b c t u x) := ⟨_, Heap.get?_push_size _ rfl, rfl, 0, rfl⟩
  refine call_max_three (wpAny_pyIter_tuple hT ?_)
  have hsz : (s.heap.push { cls := .type "tuple", data := .seq #[.float a t, .float b u, .float c x] }).objs.size = s.heap.objs.size + 1 := Heap.size_push ..
  refine ⟨_, [_, s.heap.objs.size], [_], _, _, _, fun i j => fgt (#[a, b, c].getD i 0) (#[a, b, c].getD j 0), rfl, Walks.tuple (A := A.in1) hh _ s.heap.objs.size (by rw [hsz]; exact Nat.ne_of_lt (Nat.lt_succ_self _)) (fits3 a b c t u x),
    ⟨⟨_, Heap.get?_push_size _ rfl, rfl, rfl⟩, hT.push _⟩, fun d hd => ?_, by simp, ?_, fun v h' tk hP hk => ?_⟩
  · show d < ((s.heap.push _).push _).objs.size
    rw [Heap.size_push, hsz]
    rcases List.mem_cons.mp hd with rfl | hd
    · rw [hsz]; exact Nat.lt_succ_self _
    · rcases List.mem_cons.mp hd with rfl | hd
      · exact Nat.lt_succ_of_lt (Nat.lt_succ_self _)
      · cases hd
  · have hv : ∀ (j : Nat) (v : Value), (fits3 a b c t u x)[j]? = some v → ∃ t', v = .float (#[a, b, c].getD j 0) t' := by
      intro j v hj
      match j, hj with
      | 0, hj => cases hj; exact ⟨_, rfl⟩
      | 1, hj => cases hj; exact ⟨_, rfl⟩
      | 2, hj => cases hj; exact ⟨_, rfl⟩
      | j + 3, hj => simp [fits3] at hj
    intro i j vi vj s Q E hi hj h
    obtain ⟨_, rfl⟩ := hv i vi hi
    obtain ⟨_, rfl⟩ := hv j vj hj
    exact AutoFloatOps.gt_0 h
  · have hold : ∀ d o, s.heap.get? d = some o → h'.get? d = some o := fun d o e => by
      refine hk d o (fun hm => ?_) (Heap.get?_push_of_some _ (Heap.get?_push_of_some _ e))
      rcases List.mem_cons.mp hm with e1 | hm
      · have := Heap.lt_size e; rw [e1, hsz] at this; exact Nat.lt_irrefl _ (Nat.lt_of_succ_lt this)
      · cases hm
    have hv : ∃ t', v = .float (fmax3 a b c) t' := by
      have hP' : (fits3 a b c t u x)[argBest (fun i j => fgt (#[a, b, c].getD i 0) (#[a, b, c].getD j 0)) 2]? = some v := hP
      simp only [argBest] at hP'
      unfold fmax3
      cases h1 : fgt b a <;> cases h2 : fgt c b <;> cases h3 : fgt c a <;> simp_all [fits3] <;> exact ⟨_, hP'.symm⟩
    obtain ⟨t', rfl⟩ := hv
    exact h h' tk t' hold
theorem min_three_floats {a b c : UInt64} {t u x : Tok} {Q : Value → Shared → Prop} (hh : A.handled = none)
    (h : ∀ h' tk t', (∀ d o, s.heap.get? d = some o → h'.get? d = some o) → Q (.float (fmin3 a b c) t') { s with heap := h', toks := tk }) :
    wpAny (model prog w) A (call (.builtin "min") [.float a t, .float b u, .float c x]) Q E s := by
  have hT : (s.heap.push { cls := .type "tuple", data := .seq #[.float a t, .float b u, .float c x] }).IsTuple s.heap.objs.size (fits3 a b c t u x) := ⟨_, Heap.get?_push_size _ rfl, rfl, 0, rfl⟩
  refine call_min_three (wpAny_pyIter_tuple hT ?_)
  have hsz : (s.heap.push { cls := .type "tuple", data := .seq #[.float a t, .float b u, .float c x] }).objs.size = s.heap.objs.size + 1 := Heap.size_push ..
  refine ⟨_, [_, s.heap.objs.size], [_], _, _, _, fun i j => flt (#[a, b, c].getD i 0) (#[a, b, c].getD j 0), rfl, Walks.tuple (A := A.in1) hh _ s.heap.objs.size (by rw [hsz]; exact Nat.ne_of_lt (Nat.lt_succ_self _)) (fits3 a b c t u x),
    ⟨⟨_, Heap.get?_push_size _ rfl, rfl, rfl⟩, hT.push _⟩, fun d hd => ?_, by simp, ?_, fun v h' tk hP hk => ?_⟩
  · show d < ((s.heap.push _).push _).objs.size
    rw [Heap.size_push, hsz]
    rcases List.mem_cons.mp hd with rfl | hd
    · rw [hsz]; exact Nat.lt_succ_self _
    · rcases List.mem_cons.mp hd with rfl | hd
      · exact Nat.lt_succ_of_lt (Nat.lt_succ_self _)
      · cases hd
  · have hv : ∀ (j : Nat) (v : Value), (fits3 a b c t u x)[j]? = some v → ∃ t', v = .float (#[a, b, c].getD j 0) t' := by
      intro j v hj
      match j, hj with
      | 0, hj => cases hj; exact ⟨_, rfl⟩
      | 1, hj => cases hj; exact ⟨_, rfl⟩
      | 2, hj => cases hj; exact ⟨_, rfl⟩
      | j + 3, hj => simp [fits3] at hj
    intro i j vi vj s Q E hi hj h
    obtain ⟨_, rfl⟩ := hv i vi hi
    obtain ⟨_, rfl⟩ := hv j vj hj
    exact AutoFloatOps.lt_0 h
  · have hold : ∀ d o, s.heap.get? d = some o → h'.get? d = some o := fun d o e => by
      refine hk d o (fun hm => ?_) (Heap.get?_push_of_some _ (Heap.get?_push_of_some _ e))
      rcases List.mem_cons.mp hm with e1 | hm
      · have := Heap.lt_size e; rw [e1, hsz] at this; exact Nat.lt_irrefl _ (Nat.lt_of_succ_lt this)
      · cases hm
    have hv : ∃ t', v = .float (fmin3 a b c) t' := by
      have hP' : (fits3 a b c t u x)[argBest (fun i j => flt (#[a, b, c].getD i 0) (#[a, b, c].getD j 0)) 2]? = some v := hP
      simp only [argBest] at hP'
      unfold fmin3
      cases h1 : flt b a <;> cases h2 : flt c b <;> cases h3 : flt c a <;> simp_all [fits3] <;> exact ⟨_, hP'.symm⟩
    obtain ⟨t', rfl⟩ := hv
    exact h h' tk t' hold
end

noncomputable def hueF (r g b : UInt64) : UInt64 :=
  let mx := fmax3 r g b
  let d := Float64.sub mx (fmin3 r g b)
  let rc := Float64.div (Float64.sub mx r) d
  let gc := Float64.div (Float64.sub mx g) d
  let bc := Float64.div (Float64.sub mx b) d
  let h := if feq r mx then Float64.sub bc gc else if feq g mx then Float64.sub (Float64.add 4611686018427387904 rc) bc else Float64.sub (Float64.add 4616189618054758400 gc) rc
  (Float64.divmod (Float64.div h 4618441417868443648) 4607182418800017408).2
theorem hueF_r {r g b : UInt64} (h : feq r (fmax3 r g b) = true) : hueF r g b = (Float64.divmod (Float64.div (Float64.sub (Float64.div (Float64.sub (fmax3 r g b) b) (Float64.sub (fmax3 r g b) (fmin3 r g b))) (Float64.div (Float64.sub (fmax3 r g b) g) (Float64.sub (fmax3 r g b) (fmin3 r g b)))) 4618441417868443648) 4607182418800017408).2 := by
  unfold hueF; simp only [h, if_true]
theorem hueF_g {r g b : UInt64} (h : feq r (fmax3 r g b) = false) (h2 : feq g (fmax3 r g b) = true) : hueF r g b = (Float64.divmod (Float64.div (Float64.sub (Float64.add 4611686018427387904 (Float64.div (Float64.sub (fmax3 r g b) r) (Float64.sub (fmax3 r g b) (fmin3 r g b)))) (Float64.div (Float64.sub (fmax3 r g b) b) (Float64.sub (fmax3 r g b) (fmin3 r g b)))) 4618441417868443648) 4607182418800017408).2 := by
  unfold hueF; simp only [h, h2, Bool.false_eq_true, if_false, if_true]
theorem hueF_b {r g b : UInt64} (h : feq r (fmax3 r g b) = false) (h2 : feq g (fmax3 r g b) = false) : hueF r g b = (Float64.divmod (Float64.div (Float64.sub (Float64.add 4616189618054758400 (Float64.div (Float64.sub (fmax3 r g b) g) (Float64.sub (fmax3 r g b) (fmin3 r g b)))) (Float64.div (Float64.sub (fmax3 r g b) r) (Float64.sub (fmax3 r g b) (fmin3 r g b)))) 4618441417868443648) 4607182418800017408).2 := by
  unfold hueF; simp only [h, h2, Bool.false_eq_true, if_false]
local macro_rules | `(tactic| walk_at "binaryOp Div float int") => `(tactic| fail)
theorem rgb_call {w : World} {r g b : UInt64} {t u x : Tok} (hne : feq (fmin3 r g b) (fmax3 r g b) = false) (hz1 : Float64.isZero (fmax3 r g b) = false) (hz2 : Float64.isZero (Float64.sub (fmax3 r g b) (fmin3 r g b)) = false) :
    Call0 w 0 28 [.float r t, .float g u, .float b x] (fun h h' v => ∃ T t1 y t2 z t3, v = .ref T ∧ h.get? T = none ∧ h'.get? T = some { cls := .type "tuple", data := .seq #[.float (hueF r g b) t1, .float y t2, .float z t3] }) := by
  intro dp un fr gd s Q E hd hu G hQ
  obtain ⟨X, mean, mg, mb, T⟩ := G
  revert X; k_fill; intro X
  k_dflt (refine' enter0 ?k1 ?k2 ?k6 ?k7 ?k8 ?k9 ?kB ?_ ?c2 ?c3 ?c4 ?c5; (case k1 => assumption); (case k2 => exact Top.nolimit (by assumption)); (case k6 => k_is); (case k7 => k_is); (case k8 => k_room); (case k9 => exact BindsTo.of_eq rfl); (case c5 => decide); (case kB => exact locs rfl); (case c2 => exact rfl); (case c3 => exact rfl); (case c4 => exact rfl); k_whole; intro h' tk' F' N'; (try dsimp only))
  repeat' (first | ((with_reducible rename Fr _ _ _ _ => fF); (with_reducible rename News _ _ _ _ => fN); with_reducible refine max_three_floats rfl ?_; intro h' tk' t' k'; (have F' := frX fF k'); (have N' := newsX fN k'); clear fF fN; (try dsimp only)) | ((with_reducible rename Fr _ _ _ _ => fF); (with_reducible rename News _ _ _ _ => fN); with_reducible refine min_three_floats rfl ?_; intro h' tk' t' k'; (have F' := frX fF k'); (have N' := newsX fN k'); clear fF fN; (try dsimp only)) | (with_reducible refine truediv_float_or rfl (fun hz => absurd (hz.symm.trans (by assumption)) Bool.noConfusion) (fun _ => ?_); (try dsimp only)) | walk1 | (dsimp only; walk1))
  · exact absurd (hne.symm.trans (by assumption)) Bool.noConfusion
  all_goals
    with_reducible rename News _ _ _ _ => N
    have z := N _ (List.Mem.head _)
    first | rw [← hueF_r (r := r) (g := g) (b := b) (by assumption)] at z | rw [← hueF_g (r := r) (g := g) (b := b) (by assumption) (by assumption)] at z | rw [← hueF_b (r := r) (g := g) (b := b) (by assumption) (by assumption)] at z
    exact hQ _ _ _ (Fr.keep (by assumption)) ⟨_, _, _, _, _, _, rfl, z.2.2, z.1⟩
end
section
theorem afresh_A4 : True := by
  w_top off
  trivial
open PySem.W.KBw in
section
variable {prog : Program} {w : World} {A : Around} {E : Value → Shared → Prop} {s : Shared} {b c : Array UInt8} {t u : Tok}
theorem bIter_at {h h' : Heap} {a : Addr} {i : Nat} (y : IsBytesIter h a b t i) (k : ∀ o, h.get? a = some o → h'.get? a = some o) : IsBytesIter h' a b t i :=
  let ⟨o, ho, r⟩ := y; ⟨o, k o ho, r⟩
theorem nextOf_bytes_item {it : Addr} {i : Nat} {x : UInt8} {Q : Value → Shared → Prop} (hit : IsBytesIter s.heap it b t i) (hx : b[i]? = some x)
    (hQ : ∀ h', IsBytesIter h' it b t (i + 1) → Heap.SameBut it s.heap h' → Q (.int (x.toNat : Int) s.toks) { s with heap := h', toks := s.toks + 1 }) : wpAny (model prog w) A (Builtin.SmallTypes.nextOf (.ref it)) Q E s := by
  obtain ⟨o, ho, hc, hd⟩ := id hit
  unfold Builtin.SmallTypes.nextOf
  refine wpAny_bind (wpAny_callSpecial?_slot (name := PySem.Str.ofString "__next__") (iter_typeIs hit) slot_next
    (wpAny_call_entry slot_next (iter_typeIs hit) entry_next ?_ (args_next _)))
  show wpAny _ _ (field (.ref it) 0 >>= _) _ _ s
  refine wpAny_bind (wpAny_field ho hd (x := .bytes b t) rfl ?_)
  show wpAny _ _ (if (Value.bytes b t == Value.none) = true then _ else _) _ _ s
  rw [if_neg (show ¬ ((Value.bytes b t == Value.none) = true) from Bool.false_ne_true)]
  show wpAny _ _ (field (.ref it) 1 >>= _) _ _ s
  refine wpAny_bind (wpAny_field ho hd (x := .int i 0) rfl ?_)
  refine wpAny_bind (wpAny_of_eq (a := b) rfl ?_)
  simp only [Int.toNat_natCast, hx]
  refine wpAny_bind (wpAny_setField ho hd (by simp) (wpAny_bind (wpAny_mkInt (wpAny_pure ⟨_, rfl, wpAny_pure (hQ _ ?_ (Heap.SameBut.update ..))⟩))))
  exact ⟨_, Heap.get?_update_self _ ho (Obj.isFreed_of_fields (Obj.data_mapFields hd _)), (Obj.cls_mapFields ..).trans hc, by
    rw [Obj.data_mapFields hd]; simp [rawInt]⟩
theorem nextOf_bytes_end {it : Addr} {i : Nat} {Q : Value → Shared → Prop} (hh : A.handled = none) (hit : IsBytesIter s.heap it b t i) (hx : b[i]? = none)
    (hE : ∀ h' e, Heap.ExtBut it s.heap h' → (∃ o, h'.get? e = some o ∧ o.cls = .type "StopIteration") → E (.ref e) { s with heap := h' }) : wpAny (model prog w) A (Builtin.SmallTypes.nextOf (.ref it)) Q E s := by
  obtain ⟨o, ho, hc, hd⟩ := id hit
  unfold Builtin.SmallTypes.nextOf
  refine wpAny_bind (wpAny_callSpecial?_slot (name := PySem.Str.ofString "__next__") (iter_typeIs hit) slot_next
    (wpAny_call_entry slot_next (iter_typeIs hit) entry_next ?_ (args_next _)))
  show wpAny _ _ (field (.ref it) 0 >>= _) _ _ s
  refine wpAny_bind (wpAny_field ho hd (x := .bytes b t) rfl ?_)
  show wpAny _ _ (if (Value.bytes b t == Value.none) = true then _ else _) _ _ s
  rw [if_neg (show ¬ ((Value.bytes b t == Value.none) = true) from Bool.false_ne_true)]
  show wpAny _ _ (field (.ref it) 1 >>= _) _ _ s
  refine wpAny_bind (wpAny_field ho hd (x := .int i 0) rfl ?_)
  refine wpAny_bind (wpAny_of_eq (a := b) rfl ?_)
  simp only [Int.toNat_natCast, hx]
  refine wpAny_bind (wpAny_rule (wpAny_bind (wpAny_setField ho hd (by simp) ?_)))
  show wpAny _ _ (newExc (.type "StopIteration") [] >>= _) _ _ _
  refine wpAny_bind ?_
  simp only [newExc, newTuple]
  refine wpAny_bind (wpAny_newObj_type ?_ (by size_fits))
  refine wpAny_bind (m := firstArgMember _ _) (wpAny_of_eq (a := Value.none) (by first | rfl | (simp only [firstArgMember]; rfl)) ?_)
  refine wpAny_newObj_type ?_ (by size_fits)
  simp only [raiseNew]
  refine wpAny_bind (wpAny_handled ?_)
  rw [show A.in1.handled = none from hh]
  refine wpAny_bind (wpAny_pure (wpAny_throw (hE _ _ (((Heap.SameBut.update ..).extBut.push _).push _) ⟨_, Heap.get?_push_size _ rfl, rfl⟩)))
end
end
section
theorem afresh_A5 : True := by
  w_top off
  trivial
structure ZB (z TI TO i1 i2 : Addr) : Prop where
  TIz : TI ≠ z
  TOz : TO ≠ z
  i1z : i1 ≠ z
  i2z : i2 ≠ z
  TITO : TI ≠ TO
  TIi1 : TI ≠ i1
  TIi2 : TI ≠ i2
  TOi1 : TO ≠ i1
  TOi2 : TO ≠ i2
  i12 : i1 ≠ i2
open PySem.W.KBw in
section
variable {prog : Program} {w : World} {A : Around} {E : Value → Shared → Prop} {s : Shared} {b c : Array UInt8} {t u : Tok}
theorem zipb_next_item {z TI TO i1 i2 : Addr} {k : Nat} {x y : UInt8} {a0 b0 : Value} {Q : Value → Shared → Prop} (D : ZB z TI TO i1 i2)
    (hz : IsZip s.heap z TI TO .none) (hTI : IsPair s.heap TI (.ref i1) (.ref i2)) (hTO : IsPair s.heap TO a0 b0)
    (h1 : IsBytesIter s.heap i1 b t k) (h2 : IsBytesIter s.heap i2 c u k) (hx : b[k]? = some x) (hy : c[k]? = some y)
    (hQ : ∀ h' tk t1 t2, IsZip h' z TI TO (rawInt s.heap.objs.size) → IsPair h' TO (.int (x.toNat : Int) t1) (.int (y.toNat : Int) t2) → IsBytesIter h' i1 b t (k + 1) → IsBytesIter h' i2 c u (k + 1) →
      IsPair h' s.heap.objs.size (.int (x.toNat : Int) t1) (.int (y.toNat : Int) t2) → h'.objs.size = s.heap.objs.size + 1 →
      (∀ d o, d ≠ z → d ≠ TO → d ≠ i1 → d ≠ i2 → s.heap.get? d = some o → h'.get? d = some o) → Q (.ref s.heap.objs.size) { s with heap := h', toks := tk }) :
    wpAny (model prog w) A (Builtin.«zip.__next__» ⟨[.ref z], []⟩) (fun fin s' => ∃ v, fin = .done (.ret v) ∧ Q v s') E s := by
  show wpAny _ _ (field (.ref z) 2 >>= _) _ _ _
  refine wpAny_bind (wpAny_field hz rfl (x := .bool false) rfl ?_)
  show wpAny _ _ (field (.ref z) 3 >>= _) _ _ _
  refine wpAny_bind (wpAny_field hz rfl (x := .ref TI) rfl ?_)
  refine wpAny_bind (wpAny_seqItems hTI rfl ?_)
  show wpAny _ _ (Builtin.SmallTypes.ownedTupleIsFree (.ref z) >>= _) _ _ _
  refine wpAny_bind ?_
  unfold Builtin.SmallTypes.ownedTupleIsFree
  refine wpAny_bind (wpAny_field hz rfl (x := .none) rfl (wpAny_pure ?_))
  simp only [if_true]
  refine wpAny_bind (wpAny_rule ?_)
  refine wpAny_bind (wpAny_field hz rfl (x := .ref TO) rfl ?_)
  refine wpAny_bind (wpAny_setField_rec hz (by simp) fun h₁ hz₁ hs₁ => ?_)
  replace hz₁ : IsZip h₁ z TI TO .ellipsis := hz₁
  refine wpAny_bind ?_
  simp only [List.zipIdx_cons, List.zipIdx_nil, List.forIn_cons, List.forIn_nil]
  refine wpAny_bind (wpAny_bind (wpAny_onRaise ?_))
  show wpAny _ _ (Builtin.SmallTypes.nextOf (.ref i1) >>= _) _ _ _
  refine wpAny_bind (nextOf_bytes_item (bIter_at h1 fun o e => hs₁.extBut _ _ D.i1z e) hx fun h₂ h1₂ hs₂ => wpAny_pure ?_)
  have hTO₂ : IsPair h₂ TO a0 b0 := hs₂.extBut _ _ D.TOi1 (hs₁.extBut _ _ D.TOz hTO)
  refine wpAny_bind (wpAny_seqItems hTO₂ rfl ?_)
  refine wpAny_bind (wpAny_updateSeq_pair hTO₂ fun h₃ hTO₃ hs₃ => ?_)
  replace hTO₃ : IsPair h₃ TO (.int (x.toNat : Int) s.toks) b0 := hTO₃
  refine wpAny_bind (wpAny_letGo (wpAny_pure ?_))
  refine wpAny_bind (wpAny_bind (wpAny_onRaise ?_))
  show wpAny _ _ (Builtin.SmallTypes.nextOf (.ref i2) >>= _) _ _ _
  refine wpAny_bind (nextOf_bytes_item (bIter_at h2 fun o e => hs₃.extBut _ _ D.TOi2.symm (hs₂.extBut _ _ D.i12.symm (hs₁.extBut _ _ D.i2z e))) hy fun h₄ h2₄ hs₄ => wpAny_pure ?_)
  have hTO₄ : IsPair h₄ TO (.int (x.toNat : Int) s.toks) b0 := hs₄.extBut _ _ D.TOi2 hTO₃
  refine wpAny_bind (wpAny_seqItems hTO₄ rfl ?_)
  refine wpAny_bind (wpAny_updateSeq_pair hTO₄ fun h₅ hTO₅ hs₅ => ?_)
  replace hTO₅ : IsPair h₅ TO (.int (x.toNat : Int) s.toks) (.int (y.toNat : Int) (s.toks + 1)) := hTO₅
  refine wpAny_bind (wpAny_letGo (wpAny_pure (wpAny_pure ?_)))
  refine wpAny_bind (wpAny_seqItems hTO₅ rfl ?_)
  refine wpAny_bind (wpAny_newTuple ?_)
  have hsz : h₅.objs.size = s.heap.objs.size := by rw [hs₅.1, hs₄.1, hs₃.1, hs₂.1, hs₁.1]
  have hz₅ : IsZip h₅ z TI TO .ellipsis := hs₅.extBut _ _ D.TOz.symm (hs₄.extBut _ _ D.i2z.symm (hs₃.extBut _ _ D.TOz.symm (hs₂.extBut _ _ D.i1z.symm hz₁)))
  have hk₅ : ∀ d o, d ≠ z → d ≠ TO → d ≠ i1 → d ≠ i2 → s.heap.get? d = some o → h₅.get? d = some o := fun d o c1 c2 c3 c4 e =>
    hs₅.extBut _ _ c2 (hs₄.extBut _ _ c4 (hs₃.extBut _ _ c2 (hs₂.extBut _ _ c3 (hs₁.extBut _ _ c1 e))))
  have h1₅ : IsBytesIter h₅ i1 b t (k + 1) := bIter_at h1₂ fun o e => hs₅.extBut _ _ D.TOi1.symm (hs₄.extBut _ _ D.i12 (hs₃.extBut _ _ D.TOi1.symm e))
  have h2₅ : IsBytesIter h₅ i2 c u (k + 1) := bIter_at h2₄ fun o e => hs₅.extBut _ _ D.TOi2.symm e
  have hzlt : z < h₅.objs.size := Heap.lt_size hz₅
  show wpAny _ _ (Builtin.SmallTypes.ownedTupleHandOut (.ref z) (.ref h₅.objs.size) >>= _) _ _ _
  refine wpAny_bind ?_
  unfold Builtin.SmallTypes.ownedTupleHandOut
  have hz₆ : IsZip (h₅.push { cls := .type "tuple", data := .seq #[.int (x.toNat : Int) s.toks, .int (y.toNat : Int) (s.toks + 1)] }) z TI TO .ellipsis := Heap.get?_push_of_some _ hz₅
  refine wpAny_bind (wpAny_setField_rec hz₆ (by simp) fun h₇ hz₇ hs₇ => ?_)
  replace hz₇ : IsZip h₇ z TI TO (rawInt h₅.objs.size) := hz₇
  refine wpAny_setField_rec hz₇ (by simp) fun h₈ hz₈ hs₈ => ?_
  replace hz₈ : IsZip h₈ z TI TO (rawInt h₅.objs.size) := hz₈
  have up : ∀ d o, d ≠ z → h₅.get? d = some o → h₈.get? d = some o := fun d o c1 e => hs₈.extBut _ _ c1 (hs₇.extBut _ _ c1 (Heap.get?_push_of_some _ e))
  have hT₈ := hs₈.extBut _ _ (Nat.ne_of_gt hzlt) (hs₇.extBut _ _ (Nat.ne_of_gt hzlt) (Heap.get?_push_size _ rfl))
  have hz8 : h₈.objs.size = h₅.objs.size + 1 := by rw [hs₈.1, hs₇.1, Heap.size_push]
  rw [hsz] at hz₈ hT₈ hz8
  refine wpAny_pure ⟨_, rfl, ?_⟩
  show Q (.ref h₅.objs.size) _
  rw [hsz]
  exact hQ h₈ _ _ _ hz₈ (up _ _ D.TOz hTO₅) (bIter_at h1₅ fun o e => up _ o D.i1z e) (bIter_at h2₅ fun o e => up _ o D.i2z e) hT₈ hz8 fun d o c1 c2 c3 c4 e => up d o c1 (hk₅ d o c1 c2 c3 c4 e)
theorem zipb_next_end {z TI TO i1 i2 : Addr} {k : Nat} {Q : Fin → Shared → Prop} (hh : A.handled = none) (D : ZB z TI TO i1 i2)
    (hz : IsZip s.heap z TI TO .none) (hTI : IsPair s.heap TI (.ref i1) (.ref i2))
    (h1 : IsBytesIter s.heap i1 b t k) (hx : b[k]? = none)
    (hE : ∀ h' e, (∀ d o, d ≠ z → d ≠ i1 → s.heap.get? d = some o → h'.get? d = some o) → (∃ o, h'.get? e = some o ∧ o.cls = .type "StopIteration") → E (.ref e) { s with heap := h' }) :
    wpAny (model prog w) A (Builtin.«zip.__next__» ⟨[.ref z], []⟩) Q E s := by
  show wpAny _ _ (field (.ref z) 2 >>= _) _ _ _
  refine wpAny_bind (wpAny_field hz rfl (x := .bool false) rfl ?_)
  show wpAny _ _ (field (.ref z) 3 >>= _) _ _ _
  refine wpAny_bind (wpAny_field hz rfl (x := .ref TI) rfl ?_)
  refine wpAny_bind (wpAny_seqItems hTI rfl ?_)
  show wpAny _ _ (Builtin.SmallTypes.ownedTupleIsFree (.ref z) >>= _) _ _ _
  refine wpAny_bind ?_
  unfold Builtin.SmallTypes.ownedTupleIsFree
  refine wpAny_bind (wpAny_field hz rfl (x := .none) rfl (wpAny_pure ?_))
  simp only [if_true]
  refine wpAny_bind (wpAny_rule ?_)
  refine wpAny_bind (wpAny_field hz rfl (x := .ref TO) rfl ?_)
  refine wpAny_bind (wpAny_setField_rec hz (by simp) fun h₁ hz₁ hs₁ => ?_)
  replace hz₁ : IsZip h₁ z TI TO .ellipsis := hz₁
  refine wpAny_bind ?_
  simp only [List.zipIdx_cons, List.zipIdx_nil, List.forIn_cons, List.forIn_nil]
  refine wpAny_bind (wpAny_bind (wpAny_onRaise ?_))
  show wpAny _ _ (Builtin.SmallTypes.nextOf (.ref i1) >>= _) _ _ _
  refine wpAny_bind (nextOf_bytes_end hh (bIter_at h1 fun o e => hs₁.extBut _ _ D.i1z e) hx fun h₂ e hs₂ he => ?_)
  obtain ⟨oe, hoe, hce⟩ := he
  have hz₂ : IsZip h₂ z TI TO .ellipsis := hs₂ _ _ D.i1z.symm hz₁
  have hez : e ≠ z := fun x => by subst x; rw [hz₂] at hoe; cases hoe; simp at hce
  exact wpAny_setField_rec hz₂ (by simp) fun h₃ _ hs₃ => hE h₃ e (fun d o c1 c3 x => hs₃.extBut _ _ c1 (hs₂ _ _ c3 (hs₁.extBut _ _ c1 x))) ⟨oe, hs₃.extBut _ _ hez hoe, hce⟩
theorem pyNext_zipb_item {z TI TO i1 i2 : Addr} {k : Nat} {x y : UInt8} {a0 b0 : Value} {Q : Option Value → Shared → Prop} (D : ZB z TI TO i1 i2)
    (hz : IsZip s.heap z TI TO .none) (hTI : IsPair s.heap TI (.ref i1) (.ref i2)) (hTO : IsPair s.heap TO a0 b0)
    (h1 : IsBytesIter s.heap i1 b t k) (h2 : IsBytesIter s.heap i2 c u k) (hx : b[k]? = some x) (hy : c[k]? = some y)
    (hQ : ∀ h' tk t1 t2, IsZip h' z TI TO (rawInt s.heap.objs.size) → IsPair h' TO (.int (x.toNat : Int) t1) (.int (y.toNat : Int) t2) → IsBytesIter h' i1 b t (k + 1) → IsBytesIter h' i2 c u (k + 1) →
      IsPair h' s.heap.objs.size (.int (x.toNat : Int) t1) (.int (y.toNat : Int) t2) → h'.objs.size = s.heap.objs.size + 1 →
      (∀ d o, d ≠ z → d ≠ TO → d ≠ i1 → d ≠ i2 → s.heap.get? d = some o → h'.get? d = some o) → Q (some (.ref s.heap.objs.size)) { s with heap := h', toks := tk }) :
    wpAny (model prog w) A (pyNext (.ref z)) Q E s := by
  have hT : s.TypeIs (.ref z) "zip" := ⟨_, hz, rfl⟩
  unfold pyNext
  exact wpAny_bind (wpAny_attempt (wpAny_callSpecial?_slot (name := Str.ofString "__next__") hT F.slot_zip_next
    (wpAny_call_entry F.slot_zip_next hT F.entry_zip_next
      (zipb_next_item D hz hTI hTO h1 h2 hx hy fun h' tk t1 t2 a1 a2 a3 a4 a5 a6 a7 => wpAny_pure (hQ h' tk t1 t2 a1 a2 a3 a4 a5 a6 a7)) (F.args_zip_next_1 _))))
theorem pyNext_zipb_end {z TI TO i1 i2 : Addr} {k : Nat} {Q : Option Value → Shared → Prop} (hh : A.handled = none) (D : ZB z TI TO i1 i2)
    (hz : IsZip s.heap z TI TO .none) (hTI : IsPair s.heap TI (.ref i1) (.ref i2)) (h1 : IsBytesIter s.heap i1 b t k) (hx : b[k]? = none)
    (hQ : ∀ h', (∀ d o, d ≠ z → d ≠ i1 → s.heap.get? d = some o → h'.get? d = some o) → Q none { s with heap := h' }) : wpAny (model prog w) A (pyNext (.ref z)) Q E s := by
  have hT : s.TypeIs (.ref z) "zip" := ⟨_, hz, rfl⟩
  unfold pyNext
  refine wpAny_bind (wpAny_attempt (wpAny_callSpecial?_slot (name := Str.ofString "__next__") hT F.slot_zip_next
    (wpAny_call_entry F.slot_zip_next hT F.entry_zip_next (zipb_next_end hh D hz hTI h1 hx fun h' e hk he => ?_) (F.args_zip_next_1 _))))
  obtain ⟨o, ho, hc⟩ := he
  refine wpAny_bind (wpAny_isInstance (T := "StopIteration") (b := true) ⟨o, ho, hc⟩ isSubtype_stop ?_)
  exact wpAny_pure (hQ _ hk)
abbrev zb1 (h : Heap) (b : Array UInt8) (t : Tok) : Heap := h.push { cls := .type "bytes_iterator", data := .fields #[.bytes b t, .int 0 0] }
abbrev zb2 (h : Heap) (b c : Array UInt8) (t u : Tok) : Heap := (zb1 h b t).push { cls := .type "bytes_iterator", data := .fields #[.bytes c u, .int 0 0] }
abbrev zb3 (h : Heap) (b c : Array UInt8) (t u : Tok) : Heap := (zb2 h b c t u).push { cls := .type "tuple", data := .seq #[.ref h.objs.size, .ref (zb1 h b t).objs.size] }
abbrev zb4 (h : Heap) (b c : Array UInt8) (t u : Tok) : Heap := (zb3 h b c t u).push { cls := .type "tuple", data := .seq #[.none, .none] }
abbrev zb5 (h : Heap) (b c : Array UInt8) (t u : Tok) : Heap := (zb4 h b c t u).push { cls := .type "zip", data := .fields #[.none, .bool false, .bool false, .ref (zb2 h b c t u).objs.size, .ref (zb3 h b c t u).objs.size] }
theorem meets_zip_bytes (b c : Array UInt8) (t u : Tok) :
    Meets (Builtin.«zip.__new__» ⟨[.type "zip", .bytes b t, .bytes c u], []⟩) (fun _ R s => R (.ok (.ret (.ref (zb4 s.heap b c t u).objs.size))) { s with heap := zb5 s.heap b c t u }) :=
  .of_wp fun prog w A R s h => by
    obtain ⟨hp, g, d, tk, os⟩ := s
    have hsub := sub_zip
    wp_walk using pyIter_bytes (b := b) (t := t), pyIter_bytes (b := c) (t := u)
    exact ⟨_, rfl, h⟩
theorem call_zip_bytes {Q : Value → Shared → Prop}
    (h : ∀ h', h'.objs.size = s.heap.objs.size + 5 → (∀ d o, s.heap.get? d = some o → h'.get? d = some o) →
      IsBytesIter h' s.heap.objs.size b t 0 → IsBytesIter h' (s.heap.objs.size + 1) c u 0 → IsPair h' (s.heap.objs.size + 2) (.ref s.heap.objs.size) (.ref (s.heap.objs.size + 1)) → IsPair h' (s.heap.objs.size + 3) .none .none →
      IsZip h' (s.heap.objs.size + 4) (s.heap.objs.size + 2) (s.heap.objs.size + 3) .none → Q (.ref (s.heap.objs.size + 4)) { s with heap := h' }) :
    wpAny (model prog w) A (call (.type "zip") [.bytes b t, .bytes c u]) Q E s := by
  refine callType_new F.called_zip (by decide) (F.typeCall_zip_2 _ _) (F.newCall_zip_2 _ _) (fun obj => F.args_object_init_3 obj _ _) F.entry_zip_new
    (meets_zip_bytes b c t u) ?_
  have z1 : (zb1 s.heap b t).objs.size = s.heap.objs.size + 1 := Heap.size_push ..
  have z2 : (zb2 s.heap b c t u).objs.size = s.heap.objs.size + 2 := by rw [Heap.size_push, z1]
  have z3 : (zb3 s.heap b c t u).objs.size = s.heap.objs.size + 3 := by rw [Heap.size_push, z2]
  have z4 : (zb4 s.heap b c t u).objs.size = s.heap.objs.size + 4 := by rw [Heap.size_push, z3]
  have z5 : (zb5 s.heap b c t u).objs.size = s.heap.objs.size + 5 := by rw [Heap.size_push, z4]
  have g5 : (zb5 s.heap b c t u).get? (zb4 s.heap b c t u).objs.size = some _ := Heap.get?_push_size _ rfl
  have g4 : (zb5 s.heap b c t u).get? (zb3 s.heap b c t u).objs.size = some _ := Heap.get?_push_of_some _ (Heap.get?_push_size _ rfl)
  have g3 : (zb5 s.heap b c t u).get? (zb2 s.heap b c t u).objs.size = some _ := Heap.get?_push_of_some _ (Heap.get?_push_of_some _ (Heap.get?_push_size _ rfl))
  have g2 : (zb5 s.heap b c t u).get? (zb1 s.heap b t).objs.size = some _ := Heap.get?_push_of_some _ (Heap.get?_push_of_some _ (Heap.get?_push_of_some _ (Heap.get?_push_size _ rfl)))
  have g1 : (zb5 s.heap b c t u).get? s.heap.objs.size = some _ := Heap.get?_push_of_some _ (Heap.get?_push_of_some _ (Heap.get?_push_of_some _ (Heap.get?_push_of_some _ (Heap.get?_push_size _ rfl))))
  show _ ∧ _
  rw [z2, z3, z4] at g5
  rw [z1, z2] at g3
  rw [z3] at g4
  rw [z1] at g2
  rw [z4]
  exact ⟨⟨_, g5, rfl⟩, h _ z5 (fun d o x => Heap.get?_push_of_some _ (Heap.get?_push_of_some _ (Heap.get?_push_of_some _ (Heap.get?_push_of_some _ (Heap.get?_push_of_some _ x))))) ⟨_, g1, rfl, rfl⟩ ⟨_, g2, rfl, rfl⟩ g3 g4 g5⟩
end
end
section
theorem afresh_A6 : True := by
  w_top off
  trivial
open LCg
section
variable {prog : Program} {w : World} {A : Around} {E : Value → Shared → Prop} {env : Env}
theorem compLoop_walkT {s : Shared} {R : Result → Shared → Prop} {elt iter : Expr} {x x₂ : Str} {px px₂ tp : Pos} {tk : Nat} {scope : Scope} {pos : Pos} {I D : Addr} {fp wr : List Addr} {n : Nat} {Pt : Nat → Array Value → Prop} {St : Nat → Heap → Prop} {Mid : Nat → Addr → Heap → Prop}
    {cenv : Env} {m : Str → Option Value} (W : WalksT prog w A I fp wr n Pt St Mid) (F : Nat → Value → Prop) (hh : A.handled = none)
    (hx : cenv.kindOf x = some .local) (hx₂ : cenv.kindOf x₂ = some .local) (hxx : x₂ ≠ x) (hp : (cenv.scope.kind == .class || (cenv.scope.kind == .module && cenv.locals != cenv.globals)) = false)
    (hDC : D ≠ cenv.locals) (hDf : D ∉ fp) (hCf : cenv.locals ∉ fp)
    (hst : St 0 s.heap) (hacc : s.heap.PlainList D #[]) (hn : s.heap.Ns cenv.locals m) (hPt : ∀ i vals, Pt i vals → ∃ a b, vals = #[a, b])
    (helt : ∀ i a b s₂ m₂, i < n → Pt i #[a, b] → s₂.heap.Ns cenv.locals m₂ → m₂ x = some a → m₂ x₂ = some b → (∀ d o, d ≠ cenv.locals → d ∉ wr → d ≠ D → s.heap.get? d = some o → s₂.heap.get? d = some o) →
      wpAny (model prog w) A (eval elt cenv) (fun y s₃ => F i y ∧ Keeps s₂ s₃) (notedBy (model prog w) A cenv fun e s' => R (.error e) s') s₂)
    (hR : ∀ h' tk m' ys, h'.Ns cenv.locals m' → h'.PlainList D ys → ys.size = n → (∀ i y, ys[i]? = some y → F i y) →
      (∀ d o, d ≠ cenv.locals → d ∉ wr → d ≠ D → s.heap.get? d = some o → h'.get? d = some o) → R (.ok .next) { s with heap := h', toks := tk })
    (hsz : n ≤ sizeLine) :
    codeAny (model prog w) A (.compLoop (.ListComp elt [⟨.Tuple [.Name x px, .Name x₂ px₂] tk tp, iter, [], 0⟩] scope pos) 0 (.ref I) (.ref D) cenv) R s := by
  refine LCp.codeAny_compLoop_pair
    (fun k s' => ∃ h' tk m' ys, s' = { s with heap := h', toks := tk } ∧ St ys.size h' ∧ h'.PlainList D ys ∧ h'.Ns cenv.locals m' ∧ (∀ i y, ys[i]? = some y → F i y) ∧ ys.size ≤ n ∧ k = n + 1 - ys.size ∧
      (∀ d o, d ≠ cenv.locals → d ∉ wr → d ≠ D → s.heap.get? d = some o → h'.get? d = some o)) ?_ (n + 1)
    ⟨s.heap, s.toks, m, #[], rfl, hst, hacc, hn, by simp, Nat.zero_le _, rfl, fun _ _ _ _ _ e => e⟩
  rintro k s' ⟨H, tk, m', ys, rfl, hst', hacc', hn', hF, hi, rfl, hk⟩
  have hCw : cenv.locals ∉ wr := fun h => hCf (W.sub _ h)
  have hDw : D ∉ wr := fun h => hDf (W.sub _ h)
  by_cases hlt : ys.size < n
  · refine W.item ys.size _ _ _ hlt hst' fun T vals h₁ tk₁ hPv hT hTup hMid hk₁ => ?_
    obtain ⟨a, b, rfl⟩ := hPt _ _ hPv
    refine W.go _ _ _ _ _ _ _ _ hMid fun h₂ hst₂ hk₂ => ?_
    have hTw := W.apart _ _ _ hMid
    obtain ⟨oT, hoT, hcT, nT, hdT⟩ := hTup
    have ht : IsTup h₂ T #[a, b] := ⟨oT, hk₂ _ _ hTw hoT, hcT, nT, hdT⟩
    refine assign_Tuple_tuple hh ht rfl rfl fun h₅ he => ?_
    have he' : ∀ d o, h₂.get? d = some o → h₅.get? d = some o := fun d o e => he d o (Nat.ne_of_lt (Heap.lt_size e)) e
    refine assignInOrder_cons (wpAny_assign_Name (wpAny_storeName_local hx (((hn'.at' fun o e => hk₁ _ o hCw e).at' fun o e => hk₂ _ o hCw e).at' fun o e => he' _ o e) (fun h₆ hn₆ hs₆ => ?_) hp))
    refine assignInOrder_cons (wpAny_assign_Name (wpAny_storeName_local hx₂ hn₆ (fun h₃ hn₃ hs₃ => ?_) hp))
    refine assignInOrder_nil ?_
    have old3 : ∀ d o, d ≠ cenv.locals → d ∉ wr → H.get? d = some o → h₃.get? d = some o := fun d o hd hw e => hs₃.extBut d o hd (hs₆.extBut d o hd (he' d o (hk₂ d o hw (hk₁ d o hw e))))
    have hst₃ : St (ys.size + 1) h₃ := W.frame _ _ _ hst₂ fun d hd o e => hs₃.extBut d o (fun q => hCf (q ▸ hd)) (hs₆.extBut d o (fun q => hCf (q ▸ hd)) (he' d o e))
    refine wpAny_mono (helt ys.size a b _ _ hlt hPv hn₃ (by simp [Ne.symm hxx]) (by simp) (fun d o hdC hdf hdD e => old3 d o hdC hdf (hk d o hdC hdf hdD e))) (fun y s₄ h₄ => ?_) fun _ _ e => e
    obtain ⟨hFy, h₄, tk₄, rfl, hk₄⟩ := h₄
    have hacc₄ : h₄.PlainList D ys := hacc'.at fun o e => hk₄ _ o (old3 D o hDC hDw e)
    refine wpAny_list_append_plain (hsz := Nat.le_trans hi hsz) hacc₄ fun h₇ hl₇ hs₇ => ?_
    refine ⟨n + 1 - (ys.size + 1), by omega, h₇, tk₄, _, ys.push y, rfl, ?_, hl₇, (hn₃.keeps hk₄).sameBut hs₇ (Ne.symm hDC), ?_, (by rw [Array.size_push]; exact hlt), (by rw [Array.size_push]),
      fun d o hdC hdf hdD e => hs₇.extBut d o hdD (hk₄ d o (old3 d o hdC hdf (hk d o hdC hdf hdD e)))⟩
    · rw [Array.size_push]
      exact W.frame _ _ h₇ hst₃ fun d hd o e => hs₇.extBut d o (fun h => hDf (h ▸ hd)) (hk₄ d o e)
    · intro i z hz
      rw [Array.getElem?_push] at hz
      split at hz
      · rename_i e; cases hz; rw [e]; exact hFy
      · exact hF i z hz
  · have hin : ys.size = n := by omega
    refine W.done _ _ _ (hin ▸ hst') fun h₁ tk₁ hk₁ => ?_
    exact hR h₁ tk₁ m' ys (hn'.at' fun o e => hk₁ _ o hCw e) (hacc'.at fun o e => hk₁ _ o hDw e) hin hF fun d o hdC hdf hdD e => hk₁ d o hdf (hk d o hdC hdf hdD e)

structure QuietP (prog : Program) (w : World) (A : Around) (env : Env) (scope : Scope) (cl : List (Str × Addr)) (x x₂ : Str) (elt : Expr) (wr : List Addr) (n : Nat) (Pt : Nat → Array Value → Prop) (F : Nat → Value → Prop) (s₂ : Shared) : Prop where
  elt : ∀ C i a b s₃ m₃ E', s₂.heap.objs.size ≤ C → i < n → Pt i #[a, b] → s₃.heap.Ns C m₃ → m₃ x = some a → m₃ x₂ = some b → (∀ d o, d ∉ wr → s₂.heap.get? d = some o → s₃.heap.get? d = some o) →
    wpAny (model prog w) A (eval elt (compEnvC scope cl C env)) (fun y s₄ => F i y ∧ Keeps s₃ s₄) E' s₃
theorem block_walkT {elt iter : Expr} {x x₂ : Str} {px px₂ tp : Pos} {tk : Nat} {scope : Scope} {cl : List (Str × Addr)} {pos : Pos} {s₂ : Shared} {I : Addr} {fp wr : List Addr} {n : Nat} {Pt : Nat → Array Value → Prop}
    {St : Nat → Heap → Prop} {Mid : Nat → Addr → Heap → Prop} (W : WalksT prog w A I fp wr n Pt St Mid) (hsz : n ≤ sizeLine) (F : Nat → Value → Prop) (hh : A.handled = none) {RR : Value → Addr → Result → Shared → Prop}
    (hcell : ∀ y ∈ scope.names, y.2 ≠ .cell) (hkind : scope.kind = .function) (hx : scope.names.lookup x = some .local) (hx₂ : scope.names.lookup x₂ = some .local) (hxx : x₂ ≠ x) (hst : St 0 s₂.heap) (hfp : ∀ b ∈ fp, b < s₂.heap.objs.size)
    (hPt : ∀ i vals, Pt i vals → ∃ a b, vals = #[a, b])
    (hq : QuietP prog w A env scope cl x x₂ elt wr n Pt F s₂)
    (hRR : ∀ D C h' tk m' ys, s₂.heap.get? D = none → s₂.heap.get? C = none → D ≠ C → h'.Ns C m' → h'.PlainList D ys → ys.size = n → (∀ i y, ys[i]? = some y → F i y) →
      (∀ b o, b ∉ wr → s₂.heap.get? b = some o → h'.get? b = some o) → RR (.ref D) C (.ok .next) { s₂ with heap := h', toks := tk }) :
    wpAny (model prog w) A (newList []) (fun acc s₃ => wpAny (model prog w) A (newFunctionEnv scope env.globals cl [] env.qual none .none (some env)) (fun cenv s₄ =>
      codeAny (model prog w) A (.compStart (.ListComp elt [⟨.Tuple [.Name x px, .Name x₂ px₂] tk tp, iter, [], 0⟩] scope pos) 0 (.ref I) acc { cenv with scope := relabel scope env }) (RR acc cenv.locals) s₄) E s₃) E s₂ := by
  refine wpAny_newObj_type (wpAny_newFunctionEnv hcell (by intro y hy; simp at hy) (fun h₁ hns₁ hsb₁ => ?_) hkind)
  dsimp only at hns₁ hsb₁ ⊢
  generalize hH2 : s₂.heap.push { cls := .type "list", dict := none, data := .seq ([] : List Value).toArray } = H2 at hns₁ hsb₁ ⊢
  have hC : H2.objs.size = s₂.heap.objs.size + 1 := by rw [← hH2, Heap.size_push]
  have hDC : s₂.heap.objs.size ≠ H2.objs.size := by rw [hC]; exact Nat.ne_of_lt (Nat.lt_succ_self _)
  have hCle : s₂.heap.objs.size ≤ H2.objs.size := by rw [hC]; exact Nat.le_succ _
  have below : ∀ b, b < s₂.heap.objs.size → b ≠ H2.objs.size ∧ b ≠ s₂.heap.objs.size := fun b hb => ⟨by rw [hC]; exact Nat.ne_of_lt (Nat.lt_succ_of_lt hb), Nat.ne_of_lt hb⟩
  have hDf : s₂.heap.objs.size ∉ fp := fun hm => Nat.lt_irrefl _ (hfp _ hm)
  have hCf : H2.objs.size ∉ fp := fun hm => by have := hfp _ hm; rw [hC] at this; exact Nat.lt_irrefl _ (Nat.lt_of_succ_lt this)
  have old : ∀ b o, s₂.heap.get? b = some o → h₁.get? b = some o := fun b o e => hsb₁.extBut b o (below b (Heap.lt_size e)).1 (Heap.get?_push_of_some _ (hH2 ▸ Heap.get?_push_of_some _ e))
  have hacc : h₁.PlainList s₂.heap.objs.size #[] := ⟨_, hsb₁.extBut _ _ hDC (Heap.get?_push_of_some _ (hH2 ▸ Heap.get?_push_size _ rfl))⟩
  have hst₁ : St 0 h₁ := W.frame _ _ _ hst fun b _ o e => old b o e
  have fresh : ∀ a, s₂.heap.objs.size ≤ a → s₂.heap.get? a = none := fun a ha => by
    cases e : s₂.heap.get? a with
    | none => rfl
    | some o' => exact absurd (Heap.lt_size e) (Nat.not_lt.mpr ha)
  have loop : ∀ s₃ : Shared, s₃ = { s₂ with heap := h₁, toks := s₂.toks + ([] : List (Str × Value)).length } →
      codeAny (model prog w) A (.compLoop (.ListComp elt [⟨.Tuple [.Name x px, .Name x₂ px₂] tk tp, iter, [], 0⟩] scope pos) 0 (.ref I) (.ref s₂.heap.objs.size) (compEnvC scope cl H2.objs.size env))
        (RR (.ref s₂.heap.objs.size) H2.objs.size) s₃ := by
    rintro s₃ rfl
    refine compLoop_walkT (hsz := hsz) (cenv := compEnvC scope cl H2.objs.size env) W F hh (lookup_relabel_local hx) (lookup_relabel_local hx₂) hxx (by simp [compEnvC, relabel, hkind]) hDC hDf hCf hst₁ hacc hns₁ hPt
      (fun i a b s₃ m₃ hi hv hn hm hm₂ hk => hq.elt _ i a b s₃ m₃ _ hCle hi hv hn hm hm₂ (fun b o hbf e => hk b o (below b (Heap.lt_size e)).1 hbf (below b (Heap.lt_size e)).2 (old b o e))) fun h' tk m' ys hn hpl hlen hF hk => ?_
    exact hRR _ _ h' tk m' ys (fresh _ (Nat.le_refl _)) (fresh _ (by rw [hC]; exact Nat.le_succ _)) hDC hn hpl hlen hF fun b o hbf e =>
      hk b o (below b (Heap.lt_size e)).1 hbf (below b (Heap.lt_size e)).2 (old b o e)
  exact codeAny_compStart_list (loop _ rfl) (W.self 0 _ _ _ hst₁ (loop _ rfl))
theorem Assign_ListComp_pair {s : Shared} {elt iter : Expr} {x x₂ y : Str} {px px₂ tp py : Pos} {tk : Nat} {scope : Scope} {cl : List (Str × Addr)} {pos spos : Pos} {Q : Flow → Shared → Prop}
    (F : Nat → Value → Prop) (hh : A.handled = none)
    (hsw : swapsWith (.ListComp elt [⟨.Tuple [.Name x px, .Name x₂ px₂] tk tp, iter, [], 0⟩] scope pos) (some (.Name y py)) spos.line env = pure true)
    (hclos : closureFor scope env = pure cl) (hcell : ∀ z ∈ scope.names, z.2 ≠ .cell) (hkind : scope.kind = .function)
    (hnames : ∀ z ∈ scope.names, z.2 = .local → scope.names.lookup z.1 = some .local) (hx : scope.names.lookup x = some .local) (hx₂ : scope.names.lookup x₂ = some .local) (hxx : x₂ ≠ x)
    (hy : env.kindOf y = some .local) (hp : (env.scope.kind == .class || (env.scope.kind == .module && env.locals != env.globals)) = false)
    (h : wpAny (model prog w) A (eval iter env) (fun xv s₁ => wpAny (model prog w) A (pyIter xv) (fun it s₂ => ∃ I fp wr n Pt St Mid m, it = .ref I ∧ WalksT prog w A I fp wr n Pt St Mid ∧ n ≤ sizeLine ∧ St 0 s₂.heap ∧ (∀ b ∈ fp, b < s₂.heap.objs.size) ∧
      (∀ i vals, Pt i vals → ∃ a b, vals = #[a, b]) ∧ env.locals ∉ wr ∧ s₂.heap.Ns env.locals m ∧ QuietP prog w A env scope cl x x₂ elt wr n Pt F s₂ ∧
      (∀ D h' tk ys, s₂.heap.get? D = none → h'.PlainList D ys → ys.size = n → (∀ i y, ys[i]? = some y → F i y) →
        h'.Ns env.locals (fun z => if z = y then some (.ref D) else m z) → (∀ b o, b ≠ env.locals → b ∉ wr → s₂.heap.get? b = some o → h'.get? b = some o) → Q .next { s₂ with heap := h', toks := tk })) E s₁) E s)
    (hs : ∀ x, foldedSetIterable iter env x = pure x := by intro _; rfl) :
    wpAny (model prog w) A (exec (.Assign [.Name y py] (.ListComp elt [⟨.Tuple [.Name x px, .Name x₂ px₂] tk tp, iter, [], 0⟩] scope pos) spos) env) Q E s := by
  rw [exec_Assign_Name_used _ _ _ _ hsw]
  refine wpAny_bind (wpAny_standAt (wpAny_bind ?_))
  show wpAny _ A (do let _ ← comprehension (.ListComp elt [⟨.Tuple [.Name x px, .Name x₂ px₂] tk tp, iter, [], 0⟩] scope pos) scope env _ (newList []) false (eval iter env) (some (assign (.Name y py) env))) _ _ s
  refine wpAny_bind (wpAny_mono (wpAny_comprehension_free (use := some (assign (.Name y py) env)) (Q := fun _ s' => Q .next s') rfl hs hclos hkind hnames
    (wpAny_mono h (fun xv s₁ h₁ => wpAny_mono h₁ (fun it s₂ h₂ => ?_) fun _ _ e => e) fun _ _ e => e)) (fun _ s' hq => wpAny_pure (wpAny_pure hq)) fun _ _ e => e)
  obtain ⟨I, fp, wr, n, Pt, St, Mid, m, rfl, W, hsz, hst, hfp, hPt, hLf, hn, hq, hQ⟩ := h₂
  refine block_walkT (RR := fun acc C => compPost (model prog w) A E (some (assign (.Name y py) env)) (fun _ s' => Q .next s') acc C) W hsz F hh hcell hkind hx hx₂ hxx hst hfp hPt hq ?_
  intro D C h' tk m' ys hD hC hDC hnC hplD hlen hF hk
  have hLC : env.locals ≠ C := by rintro rfl; obtain ⟨o, _, _, ho, _⟩ := hn; rw [hC] at ho; cases ho
  have hLD : env.locals ≠ D := by rintro rfl; obtain ⟨o, _, _, ho, _⟩ := hn; rw [hD] at ho; cases ho
  show wpAny _ A (assign (.Name y py) env (.ref D)) _ _ _
  refine wpAny_assign_Name (wpAny_storeName_local hy (hn.at' fun o e => hk _ o hLf e) (fun h₂ hn₂ hs₂ => ?_) hp)
  refine ⟨m', hnC.sameBut hs₂ (Ne.symm hLC), fun h₃ hs₃ => ?_⟩
  exact hQ D h₃ _ ys hD ((hplD.extBut hs₂.extBut (Ne.symm hLD)).extBut hs₃.extBut hDC) hlen hF (hn₂.sameBut hs₃ hLC) fun b o hbL hbf e =>
    hs₃.extBut b o (by rintro rfl; rw [hC] at e; cases e) (hs₂.extBut b o hbL (hk b o hbf e))
end
end
section
theorem afresh_A7 : True := by
  w_top off
  trivial
open PySem.W.KBw in
section
variable {prog : Program} {w : World} {A : Around}
theorem walksT_zipb (hh : A.handled = none) {z TI TO i1 i2 : Addr} (D : ZB z TI TO i1 i2) {b c : Array UInt8} {t u : Tok} (hbc : b.size = c.size) :
    WalksT prog w A z [z, TI, TO, i1, i2] [z, TO, i1, i2] b.size
      (fun i vals => ∃ x y t1 t2, b[i]? = some x ∧ c[i]? = some y ∧ vals = #[.int (x.toNat : Int) t1, .int (y.toNat : Int) t2])
      (fun i h => IsZip h z TI TO .none ∧ IsPair h TI (.ref i1) (.ref i2) ∧ (∃ a b, IsPair h TO a b) ∧ IsBytesIter h i1 b t i ∧ IsBytesIter h i2 c u i)
      (fun i T h => IsZip h z TI TO (rawInt T) ∧ IsPair h TI (.ref i1) (.ref i2) ∧ (∃ a b, IsPair h TO a b) ∧ IsBytesIter h i1 b t (i + 1) ∧ IsBytesIter h i2 c u (i + 1) ∧ T ≠ z ∧ T ≠ TO ∧ T ≠ i1 ∧ T ≠ i2) where
  sub := fun c hc => by simp at hc ⊢; rcases hc with rfl | rfl | rfl | rfl <;> simp
  frame := fun i h h' hst hk => by
    obtain ⟨hz, hTI, ⟨a, b, hTO⟩, h1, h2⟩ := hst
    exact ⟨hk z (by simp) _ hz, hk TI (by simp) _ hTI, ⟨a, b, hk TO (by simp) _ hTO⟩, bIter_at h1 fun o e => hk i1 (by simp) o e, bIter_at h2 fun o e => hk i2 (by simp) o e⟩
  item := fun i s Q E hi hst hQ => by
    obtain ⟨hz, hTI, ⟨a, b', hTO⟩, h1, h2⟩ := hst
    have hiy : i < c.size := hbc ▸ hi
    refine pyNext_zipb_item D hz hTI hTO h1 h2 (Array.getElem?_eq_getElem hi) (Array.getElem?_eq_getElem hiy) fun h' tk t1 t2 a1 a2 a3 a4 a5 a6 hk => ?_
    have lt : ∀ {c o}, s.heap.get? c = some o → s.heap.objs.size ≠ c := fun e => Nat.ne_of_gt (Heap.lt_size e)
    exact hQ s.heap.objs.size #[.int (b[i].toNat : Int) t1, .int (c[i].toNat : Int) t2] h' tk ⟨_, _, t1, t2, Array.getElem?_eq_getElem hi, Array.getElem?_eq_getElem hiy, rfl⟩ (Nat.le_refl _) ⟨_, a5, rfl, _, rfl⟩
      ⟨a1, hk _ _ D.TIz D.TITO D.TIi1 D.TIi2 hTI, ⟨_, _, a2⟩, a3, a4, lt hz, lt hTO, (by obtain ⟨_, e, _⟩ := h1; exact lt e), (by obtain ⟨_, e, _⟩ := h2; exact lt e)⟩
      fun c o hc e => hk c o (fun x => hc (by simp [x])) (fun x => hc (by simp [x])) (fun x => hc (by simp [x])) (fun x => hc (by simp [x])) e
  go := fun elts k pos i T s Q E hm hQ => by
    obtain ⟨hz, hTI, ⟨a, b, hTO⟩, h1, h2, _⟩ := hm
    exact wpAny_letOwnedTupleGo_zip hz fun h' hz' hs' => hQ h' ⟨hz', hs'.extBut _ _ D.TIz hTI, ⟨a, b, hs'.extBut _ _ D.TOz hTO⟩, bIter_at h1 fun o e => hs'.extBut _ _ D.i1z e, bIter_at h2 fun o e => hs'.extBut _ _ D.i2z e⟩
      fun c o hc e => hs'.extBut _ _ (fun x => hc (by simp [x])) e
  apart := fun i T h hm hT => by
    obtain ⟨_, _, _, _, _, t1, t2, t3, t4⟩ := hm
    simp at hT
    rcases hT with rfl | rfl | rfl | rfl
    · exact t1 rfl
    · exact t2 rfl
    · exact t3 rfl
    · exact t4 rfl
  done := fun s Q E hst hQ => by
    obtain ⟨hz, hTI, ⟨a, b', hTO⟩, h1, h2⟩ := hst
    exact pyNext_zipb_end hh D hz hTI h1 (Array.getElem?_eq_none (Nat.le_refl _)) fun h' hk => hQ h' s.toks fun c o hc e =>
      hk c o (fun x => hc (by simp [x])) (fun x => hc (by simp [x])) e
  self := fun i s Q E hst hQ => wpAny_pyIter_zip hst.1 hQ
end
end
section
theorem afresh_A8 : True := by
  w_top off
  trivial
noncomputable def col (k w s : Nat) : Array UInt8 := #[UInt8.ofNat (if k = 0 then w + s else w), UInt8.ofNat (if k = 1 then w + s else w), UInt8.ofNat (if k = 2 then w + s else w)]
noncomputable def fr32 (n : Nat) : UInt64 := Float64.ofFrac false n 32
theorem fr32_noinf : ∀ n : Fin 511, Float64.isInf (fr32 n.val) = false := by decide +kernel
theorem div32 {prog : Program} {w : World} {A : Around} {E : Value → Shared → Prop} {s : Shared} {x y : UInt8} {t u : Tok} {Q : Value → Shared → Prop} (h : Q (.float (fr32 (x.toNat + y.toNat)) s.toks) { s with toks := s.toks + 1 }) :
    wpAny (model prog w) A (binaryOp .Div (.int ((x.toNat : Int) + (y.toNat : Int)) t) (.int 32 u)) Q E s := by
  have hx := x.toNat_lt
  have hy := y.toNat_lt
  have e : (Float64.ofFrac (decide (((x.toNat : Int) + (y.toNat : Int)) < 0) != decide ((32 : Int) < 0)) ((x.toNat : Int) + (y.toNat : Int)).natAbs (32 : Int).natAbs) = fr32 (x.toNat + y.toNat) := by
    rw [decide_eq_false (by omega), decide_eq_false (by omega)]
    have e2 : ((x.toNat : Int) + (y.toNat : Int)).natAbs = x.toNat + y.toNat := by omega
    rw [e2]; rfl
  refine AutoIntOps.truediv_2 (by decide) ?_ ?_
  · rw [e]
    have := fr32_noinf ⟨x.toNat + y.toNat, by omega⟩
    simp only at this
    rw [this]; decide
  · rw [e]; exact h
local macro_rules | `(tactic| walk_at "binaryOp Div int int") => `(tactic| (refine div32 ?_; (try dsimp only)))
theorem zb_of (n : Nat) : ZB (n + 4) (n + 2) (n + 3) n (n + 1) := by constructor <;> (refine neN ?_; omega)
theorem max_bytes3 {prog : Program} {w : World} {A : Around} {E : Value → Shared → Prop} {s : Shared} {x0 x1 x2 : UInt8} {t : Tok} {Q : Value → Shared → Prop} (hh : A.handled = none)
    (h : ∀ (M : Int) h' tk t', (M = x0.toNat ∨ M = x1.toNat ∨ M = x2.toNat) → (x0.toNat : Int) ≤ M → (x1.toNat : Int) ≤ M → (x2.toNat : Int) ≤ M → (∀ d o, s.heap.get? d = some o → h'.get? d = some o) → Q (.int M t') { s with heap := h', toks := tk }) :
    wpAny (model prog w) A (call (.builtin "max") [.bytes #[x0, x1, x2] t]) Q E s := by
  refine call_max_walk (KBw.pyIter_bytes ?_)
  refine ⟨_, _, _, _, _, _, fun i j => decide ((KBw.bInts #[x0, x1, x2]).getD i 0 > (KBw.bInts #[x0, x1, x2]).getD j 0), rfl, KBw.walks (A := A.in1) hh _ _ _, ⟨_, Heap.get?_push_size _ rfl, rfl, rfl⟩, fun d hd => ?_, by simp, CmpOf.ints_gt (fun i => (KBw.bInts #[x0, x1, x2]).getD i 0) (fun i v hv => ?_), fun v h' tk hP hk => ?_⟩
  · rw [List.mem_singleton.mp hd]
    show s.heap.objs.size < (s.heap.push _).objs.size
    rw [Heap.size_push]; exact Nat.lt_succ_self _
  · obtain ⟨c, u, hc, rfl⟩ := hv
    refine ⟨u, ?_⟩
    rw [List.getD_eq_getElem?_getD, KBw.ints_get hc]; rfl
  · obtain ⟨c, u, hc, rfl⟩ := hP
    have hold : ∀ d o, s.heap.get? d = some o → h'.get? d = some o := fun d o e => by
      refine hk d o (fun hm => ?_) (Heap.get?_push_of_some _ e)
      have := Heap.lt_size e; rw [List.mem_singleton.mp hm] at this; exact Nat.lt_irrefl _ this
    simp only [argBest, KBw.bInts, List.map_cons, List.map_nil, List.size_toArray, List.length_cons, List.length_nil, Nat.reduceAdd, Nat.reduceSub, List.getD_cons_zero, List.getD_cons_succ, decide_eq_true_eq] at hc
    refine h _ h' tk u ?_ ?_ ?_ ?_ hold
    all_goals (by_cases q1 : (x1.toNat : Int) > x0.toNat <;> by_cases q2 : (x2.toNat : Int) > x1.toNat <;> by_cases q3 : (x2.toNat : Int) > x0.toNat <;> simp [q1, q2, q3] at hc <;> subst hc <;> omega)
noncomputable def goesOf (sx : Int) (k : Nat) : List Int := if sx = 0 ∨ sx = 2 ∨ sx = 4 then [0, 1] else if (sx = 1 ∧ k = 1) ∨ (sx = 3 ∧ k = 2) ∨ (sx = 5 ∧ k = 0) then [1] else [0]
noncomputable def sixS (n0 n1 n2 : Nat) : UInt64 := Float64.add (Float64.mul (Float64.ofInt 6) (hueF (fr32 n0) (fr32 n1) (fr32 n2))) 4602678819172646912
theorem if_at {x0 x1 x2 : UInt8} {k1 w1 s1 : Nat} (hs1 : 0 < s1) (hk1 : k1 < 3) (hx0 : x0.toNat = if k1 = 0 then w1 + s1 else w1) (hx1 : x1.toNat = if k1 = 1 then w1 + s1 else w1) (hx2 : x2.toNat = if k1 = 2 then w1 + s1 else w1) {M : Int}
    (hM : M = x0.toNat ∨ M = x1.toNat ∨ M = x2.toNat) (m0 : (x0.toNat : Int) ≤ M) (m1 : (x1.toNat : Int) ≤ M) (m2 : (x2.toNat : Int) ≤ M) (p : Nat) (hp : p < 3) {P R : Prop} (a : k1 = p → P) (b : k1 ≠ p → R) :
    if ((KBw.bInts #[x0, x1, x2]).getD p 0 == M) = true then P else R := by
  have hk : k1 = 0 ∨ k1 = 1 ∨ k1 = 2 := by omega
  have hp : p = 0 ∨ p = 1 ∨ p = 2 := by omega
  rcases hk with rfl | rfl | rfl <;> simp at hx0 hx1 hx2 <;> rcases hp with rfl | rfl | rfl
  all_goals split <;> rename_i q
  all_goals first | exact a rfl | exact b (by decide) | (exfalso; simp [KBw.bInts] at q; omega)
theorem goes_call {w : World} {b c : Array UInt8} {x0 x1 x2 y0 y1 y2 : UInt8} {t u : Tok} (hb' : b = #[x0, x1, x2]) (hc' : c = #[y0, y1, y2]) {n0 n1 n2 : Nat} (hn0 : x0.toNat + y0.toNat = n0) (hn1 : x1.toNat + y1.toNat = n1) (hn2 : x2.toNat + y2.toNat = n2)
    (hne : feq (fmin3 (fr32 n0) (fr32 n1) (fr32 n2)) (fmax3 (fr32 n0) (fr32 n1) (fr32 n2)) = false) (hz1 : Float64.isZero (fmax3 (fr32 n0) (fr32 n1) (fr32 n2)) = false) (hz2 : Float64.isZero (Float64.sub (fmax3 (fr32 n0) (fr32 n1) (fr32 n2)) (fmin3 (fr32 n0) (fr32 n1) (fr32 n2))) = false)
    (hN : Float64.isNaN (sixS n0 n1 n2) = false) (hI : Float64.isInf (sixS n0 n1 n2) = false) {sx : Int} (hT : Flt.toInt Float64.truncOf (sixS n0 n1 n2) = sx) (hsx : sx = 0 ∨ sx = 1 ∨ sx = 2 ∨ sx = 3 ∨ sx = 4 ∨ sx = 5) {k1 w1 s1 : Nat} (hs1 : 0 < s1) (hk1 : k1 < 3) (hx0 : x0.toNat = if k1 = 0 then w1 + s1 else w1) (hx1 : x1.toNat = if k1 = 1 then w1 + s1 else w1) (hx2 : x2.toNat = if k1 = 2 then w1 + s1 else w1) :
    Call0 w 1 138 [.bytes b t, .bytes c u] (fun h h' v => ∃ D vs n, v = .ref D ∧ h.get? D = none ∧ h'.get? D = some (listOf vs n) ∧ IntsAre vs.toList (goesOf sx k1)) := by
  have hb : b.size = 3 := by rw [hb']; rfl
  have hc : c.size = 3 := by rw [hc']; rfl
  intro dp un fr gd s Q E hd hu G hQ
  obtain ⟨X, mean, mg, mb, T⟩ := G
  revert X; k_fill; intro X
  k_dflt (refine' enter0 ?k1 ?k2 ?k6 ?k7 ?k8 ?k9 ?kB ?_ ?c2 ?c3 ?c4 ?c5; (case k1 => assumption); (case k2 => exact Top.nolimit (by assumption)); (case k6 => k_is); (case k7 => k_is); (case k8 => k_room); (case k9 => exact BindsTo.of_eq rfl); (case c5 => decide); (case kB => exact locs rfl); (case c2 => exact rfl); (case c3 => exact rfl); (case c4 => exact rfl); k_whole; intro h' tk' F' N'; (try dsimp only))
  refine wpAny_execs_cons ?_
  with_reducible rename Fr _ _ _ _ => F
  with_reducible rename News _ _ _ _ => N
  refine Assign_ListComp_pair (fun i y => ∃ p q tk, b[i]? = some p ∧ c[i]? = some q ∧ y = .float (fr32 (p.toNat + q.toNat)) tk) rfl (by rfl) (by rfl) (by decide) rfl (by decide) (by rfl) (by rfl) (by decide) (by rfl) (by rfl) ?_
  iterate 12 (try (first | walk1 | (dsimp only; walk1)))
  refine call_zip_bytes fun h₂ hsz₂ k₂ b1 b2 p1 p2 z2 => ?_
  dsimp only at hsz₂ k₂ b1 b2 p1 p2 z2 ⊢
  have F₂ := frX F k₂
  have hLs := F.ns.lt
  have hH : ∀ j : Nat, s.heap.get? (_ + j) = none := fun j => Heap.get?_none_of_le (Nat.le_trans F.above (Nat.le_trans (Nat.le_of_lt hLs) (Nat.le_add_right _ j)))
  refine wpAny_pyIter_zip z2 ?_
  refine ⟨_, _, _, _, _, _, _, _, rfl, walksT_zipb rfl (zb_of _) (hb.trans hc.symm), ?_, ⟨z2, p1, ⟨_, _, p2⟩, b1, b2⟩, ?_, ?_, ?_, F₂.ns, ⟨?_⟩, ?_⟩
  · rw [hb, sizeLine_eq]; omega
  · intro d hd'
    show d < h₂.objs.size
    rw [hsz₂]
    simp only [List.mem_cons, List.not_mem_nil, or_false] at hd'
    refine ltN ?_
    rcases hd' with rfl | rfl | rfl | rfl | rfl <;> omega
  · rintro i vals ⟨x, y, t1, t2, _, _, rfl⟩
    exact ⟨_, _, rfl⟩
  · intro hm
    simp only [List.mem_cons, List.not_mem_nil, or_false] at hm
    rcases hm with e | e | e | e
    · exact absurd hLs (by rw [show s.heap.objs.size = _ from e]; exact Nat.not_lt.mpr (Nat.le_add_right _ _))
    · exact absurd hLs (by rw [show s.heap.objs.size = _ from e]; exact Nat.not_lt.mpr (Nat.le_add_right _ _))
    · exact absurd hLs (by rw [show s.heap.objs.size = _ from e]; exact Nat.not_lt.mpr (Nat.le_refl _))
    · exact absurd hLs (by rw [show s.heap.objs.size = _ from e]; exact Nat.not_lt.mpr (Nat.le_add_right _ _))
  · rintro C i a b' s₃ m₃ E' hC hi ⟨x, y, t1, t2, hx, hy, hv⟩ hn hm hm₂ hk
    cases hv
    obtain ⟨F₃, oC, N₃, hNC⟩ := comp_facts F₂ hC hn hk (fun d hd' => by
      simp only [List.mem_cons, List.not_mem_nil, or_false] at hd'
      rcases hd' with rfl | rfl | rfl | rfl
      · exact ⟨hH 4, Nat.ne_of_gt (Nat.lt_of_lt_of_le hLs (Nat.le_add_right _ _))⟩
      · exact ⟨hH 3, Nat.ne_of_gt (Nat.lt_of_lt_of_le hLs (Nat.le_add_right _ _))⟩
      · exact ⟨hH 0, Nat.ne_of_gt hLs⟩
      · exact ⟨hH 1, Nat.ne_of_gt (Nat.lt_of_lt_of_le hLs (Nat.le_add_right _ _))⟩)
    clear F₂ N F
    (repeat ((with_reducible show wpAny _ _ _ _ _ _); first | walk1 | (dsimp only; walk1)))
    exact ⟨⟨x, y, _, hx, hy, rfl⟩, _, _, rfl, fun _ _ e => e⟩
  · intro D h₃ tk₃ ys hD hpl hlen hF hns hk
    have keepH : ∀ d o, s.heap.get? d = some o → h₃.get? d = some o := fun d o e => by
      refine hk d o (Nat.ne_of_lt (Heap.lt_size e)) (fun hm => ?_) (F₂.keep d o e)
      simp only [List.mem_cons, List.not_mem_nil, or_false] at hm
      rcases hm with rfl | rfl | rfl | rfl
      · cases (hH 4).symm.trans e
      · cases (hH 3).symm.trans e
      · cases (hH 0).symm.trans e
      · cases (hH 1).symm.trans e
    have F₃ : Fr s.heap s.heap.objs.size h₃ _ := ⟨hns, keepH, F.above⟩
    obtain ⟨nD, hDg⟩ := hpl
    have hD0 : s.heap.get? D = none := by
      cases q : s.heap.get? D with
      | none => rfl
      | some o => have := F₂.keep _ _ q; dsimp only at hD; rw [hD] at this; cases this
    have hDL : D ≠ s.heap.objs.size := fun e => by
      obtain ⟨oL, _, _, ho, _⟩ := F₂.ns
      dsimp only at hD; rw [e, ho] at hD; cases hD
    have hys : ∃ a0 a1 a2, ys = #[.float (fr32 n0) a0, .float (fr32 n1) a1, .float (fr32 n2) a2] := by
      obtain ⟨l⟩ := ys
      simp only [hb, List.size_toArray] at hlen
      match l, hlen with
      | [v0, v1, v2], _ =>
        obtain ⟨p0, q0, t0, e1, e2, e3⟩ := hF 0 v0 rfl
        obtain ⟨p1, q1, t1, e4, e5, e6⟩ := hF 1 v1 rfl
        obtain ⟨p2, q2, t2, e7, e8, e9⟩ := hF 2 v2 rfl
        subst hb' hc'
        cases e1; cases e2; cases e4; cases e5; cases e7; cases e8
        replace e3 : v0 = .float (fr32 (x0.toNat + y0.toNat)) t0 := e3
        replace e6 : v1 = .float (fr32 (x1.toNat + y1.toNat)) t1 := e6
        replace e9 : v2 = .float (fr32 (x2.toNat + y2.toNat)) t2 := e9
        rw [hn0] at e3; rw [hn1] at e6; rw [hn2] at e9
        exact ⟨t0, t1, t2, by rw [e3, e6, e9]⟩
    obtain ⟨a0, a1, a2, rfl⟩ := hys
    have N₃ : News s.heap s.heap.objs.size h₃ [(D, listOf #[.float (fr32 n0) a0, .float (fr32 n1) a1, .float (fr32 n2) a2] nD)] := fun p hp => by
      rw [List.mem_singleton.mp hp]; exact ⟨hDg, hDL, hD0⟩
    clear F₂ F N hk hns b1 b2 p1 p2 z2 hF hH k₂
    dsimp only
    (repeat ((with_reducible show wpAny _ _ _ _ _ _); first | walk1 | (dsimp only; walk1)))
    refine ⟨X.keeps F₃.keep, ?_⟩
    refine Call0.use (rgb_call hne hz1 hz2) (by exact F₃) (by exact N₃) (by assumption) (by assumption) (by simp only [depth_deeper]; omega) (by simp only [units_deeper]; omega) ?_
    rintro _ h₄ tk₄ k₄ F₄ N₄ ⟨TT, e1, sy, e2, sz, e3, rfl, hT0, hTg⟩
    have N₅ := newsAdd F₃ N₄ hT0 hTg
    clear N₄ F₃ N₃ hDg
    dsimp only
    (repeat ((with_reducible show wpAny _ _ _ _ _ _); first | walk1 | (dsimp only; walk1)))
    · have hT' : Flt.toInt Float64.truncOf (Float64.add (Float64.mul (Float64.ofInt 6) (hueF (fr32 n0) (fr32 n1) (fr32 n2))) 4602678819172646912) = sx := hT
      rw [hT']
      with_reducible rename Fr _ _ _ _ => F₆
      rw [hT'] at F₆
      rcases hsx with rfl | rfl | rfl | rfl | rfl | rfl
      all_goals first | rw [if_pos (by decide)] | rw [if_neg (by decide)]
      all_goals (repeat ((with_reducible show wpAny _ _ _ _ _ _); first | walk1 | (dsimp only; walk1)))
      all_goals try (
        refine KBw.item_K (ks := KBw.bInts b) rfl (by rw [KBw.ints_length, hb]; decide) (by decide) (by rw [KBw.ints_length, hb]; decide) ?_
        intro t' k' _ _
        (repeat ((with_reducible show wpAny _ _ _ _ _ _); first | walk1 | (dsimp only; walk1)))
        subst hb'
        refine max_bytes3 rfl ?_
        intro M h₇ tk₇ t₇ hM m0 m1 m2 kk
        with_reducible rename Fr _ _ _ _ => F₇
        with_reducible rename News _ _ _ _ => N₇
        have F₈ := frX F₇ kk
        have N₈ := newsX N₇ kk
        clear F₇ N₇
        dsimp only at F₈ N₈ ⊢
        (repeat ((with_reducible show wpAny _ _ _ _ _ _); first | walk1 | (dsimp only; walk1)))
        refine if_at hs1 hk1 hx0 hx1 hx2 hM m0 m1 m2 _ (by decide) (fun hkp => ?_) (fun hkp => ?_)
        all_goals (repeat ((with_reducible show wpAny _ _ _ _ _ _); first | walk1 | (dsimp only; walk1))))
      all_goals with_reducible rename Fr _ _ _ _ => F₉
      all_goals with_reducible rename News _ _ _ _ => N₉
      all_goals refine hQ _ _ _ (fun d o e => F₉.keep d o e) ⟨_, _, _, rfl, (N₉ _ (List.mem_cons_self ..)).2.2, (N₉ _ (List.mem_cons_self ..)).1, ?_⟩
      all_goals first | rw [show goesOf _ k1 = [0, 1] from rfl]; exact .cons _ _ (.cons _ _ .nil) | skip
      all_goals first
        | (subst hkp; exact .cons _ _ .nil)
        | (have hk : k1 ≠ 1 := hkp; rw [show goesOf _ k1 = [0] by simp [goesOf, hk]]; exact .cons _ _ .nil)
        | (have hk : k1 ≠ 2 := hkp; rw [show goesOf _ k1 = [0] by simp [goesOf, hk]]; exact .cons _ _ .nil)
        | (have hk : k1 ≠ 0 := hkp; rw [show goesOf _ k1 = [0] by simp [goesOf, hk]]; exact .cons _ _ .nil)
    · exact absurd (hN.symm.trans (by assumption)) Bool.noConfusion
    · exact absurd (hI.symm.trans (by assumption)) Bool.noConfusion
end
section
theorem afresh_A9 : True := by
  w_top off
  trivial
noncomputable def goesT (k1 k2 : Nat) : List Int := if k1 = k2 then [0, 1] else if (k1 + 1) % 3 = k2 then [0] else [1]
noncomputable def nS (W s1 s2 k1 k2 p : Nat) : Nat := W + (if k1 = p then s1 else 0) + (if k2 = p then s2 else 0)
noncomputable def goesOK (n0 n1 n2 k1 k2 : Nat) : Bool :=
  !feq (fmin3 (fr32 n0) (fr32 n1) (fr32 n2)) (fmax3 (fr32 n0) (fr32 n1) (fr32 n2)) && !Float64.isZero (fmax3 (fr32 n0) (fr32 n1) (fr32 n2)) && !Float64.isZero (Float64.sub (fmax3 (fr32 n0) (fr32 n1) (fr32 n2)) (fmin3 (fr32 n0) (fr32 n1) (fr32 n2)))
   && !Float64.isNaN (sixS n0 n1 n2) && !Float64.isInf (sixS n0 n1 n2) && (let x := Flt.toInt Float64.truncOf (sixS n0 n1 n2); (decide (x ∈ ([0, 1, 2, 3, 4, 5] : List Int))) && goesOf x k1 == goesT k1 k2)
noncomputable def mx (a b c : Nat) : Nat := if b > a then (if c > b then c else b) else (if c > a then c else a)
noncomputable def mn (a b c : Nat) : Nat := if b < a then (if c < b then c else b) else (if c < a then c else a)
set_option maxHeartbeats 0
theorem cmp_all : ((List.range 29).all fun a => (List.range 29).all fun b => Float64.cmp (fr32 a) (fr32 b) == some (compare a b)) = true := by decide +kernel
theorem sub_all : ((List.range 29).all fun a => (List.range (a + 1)).all fun b => Float64.sub (fr32 a) (fr32 b) == fr32 (a - b)) = true := by decide +kernel
theorem zero_all : ((List.range 29).all fun a => Float64.isZero (fr32 a) == (a == 0)) = true := by decide +kernel
noncomputable def hueD (x y z d : Nat) : UInt64 :=
  let rc := Float64.div (fr32 x) (fr32 d)
  let gc := Float64.div (fr32 y) (fr32 d)
  let bc := Float64.div (fr32 z) (fr32 d)
  (Float64.divmod (Float64.div (if x = 0 then Float64.sub bc gc else if y = 0 then Float64.sub (Float64.add 4611686018427387904 rc) bc else Float64.sub (Float64.add 4616189618054758400 gc) rc) 4618441417868443648) 4607182418800017408).2
noncomputable def sixD (x y z d : Nat) : UInt64 := Float64.add (Float64.mul (Float64.ofInt 6) (hueD x y z d)) 4602678819172646912
noncomputable def goesD (a b c k1 k2 : Nat) : Bool :=
  let m := mx a b c
  let s := sixD (m - a) (m - b) (m - c) (m - mn a b c)
  mn a b c != m && !Float64.isNaN s && !Float64.isInf s && (let x := Flt.toInt Float64.truncOf s; (decide (x ∈ ([0, 1, 2, 3, 4, 5] : List Int))) && goesOf x k1 == goesT k1 k2)
theorem goesD_all : ((List.range 4).all fun a => (List.range 4).all fun b => (List.range 3).all fun k1 => (List.range 3).all fun k2 => goesD (nS 0 (a + 4) (b + 4) k1 k2 0) (nS 0 (a + 4) (b + 4) k1 k2 1) (nS 0 (a + 4) (b + 4) k1 k2 2) k1 k2) = true := by decide +kernel
set_option maxHeartbeats 4000000
theorem fr_cmp {a b : Nat} (ha : a < 29) (hb : b < 29) : Float64.cmp (fr32 a) (fr32 b) = some (compare a b) :=
  beq_iff_eq.mp (List.all_eq_true.mp (List.all_eq_true.mp cmp_all a (List.mem_range.mpr ha)) b (List.mem_range.mpr hb))
theorem fr_sub {a b : Nat} (ha : a < 29) (hb : b ≤ a) : Float64.sub (fr32 a) (fr32 b) = fr32 (a - b) :=
  beq_iff_eq.mp (List.all_eq_true.mp (List.all_eq_true.mp sub_all a (List.mem_range.mpr ha)) b (List.mem_range.mpr (Nat.lt_succ_of_le hb)))
theorem fr_gt {a b : Nat} (ha : a < 29) (hb : b < 29) : fgt (fr32 a) (fr32 b) = decide (a > b) := by
  unfold fgt
  rw [fr_cmp ha hb, Bool.eq_iff_iff, beq_iff_eq, decide_eq_true_eq, Option.some_inj, Nat.compare_eq_gt]
theorem fr_lt {a b : Nat} (ha : a < 29) (hb : b < 29) : flt (fr32 a) (fr32 b) = decide (a < b) := by
  unfold flt
  rw [fr_cmp ha hb, Bool.eq_iff_iff, beq_iff_eq, decide_eq_true_eq, Option.some_inj, Nat.compare_eq_lt]
theorem fr_eq {a b : Nat} (ha : a < 29) (hb : b < 29) : feq (fr32 a) (fr32 b) = decide (a = b) := by
  unfold feq
  rw [fr_cmp ha hb, Bool.eq_iff_iff, beq_iff_eq, decide_eq_true_eq, Option.some_inj, Nat.compare_eq_eq]
theorem fr_max {a b c : Nat} (ha : a < 29) (hb : b < 29) (hc : c < 29) : fmax3 (fr32 a) (fr32 b) (fr32 c) = fr32 (mx a b c) := by
  unfold fmax3 mx
  rw [fr_gt hb ha, fr_gt hc hb, fr_gt hc ha]
  simp only [decide_eq_true_eq, apply_ite fr32]
theorem fr_min {a b c : Nat} (ha : a < 29) (hb : b < 29) (hc : c < 29) : fmin3 (fr32 a) (fr32 b) (fr32 c) = fr32 (mn a b c) := by
  unfold fmin3 mn
  rw [fr_lt hb ha, fr_lt hc hb, fr_lt hc ha]
  simp only [decide_eq_true_eq, apply_ite fr32]
theorem mx_le (a b c : Nat) : a ≤ mx a b c ∧ b ≤ mx a b c ∧ c ≤ mx a b c ∧ (mx a b c = a ∨ mx a b c = b ∨ mx a b c = c) := by
  unfold mx
  by_cases h : b > a
  · rw [if_pos h]
    by_cases g : c > b
    · rw [if_pos g]; exact ⟨Nat.le_of_lt (Nat.lt_trans h g), Nat.le_of_lt g, Nat.le_refl _, .inr (.inr rfl)⟩
    · rw [if_neg g]; exact ⟨Nat.le_of_lt h, Nat.le_refl _, Nat.not_lt.mp g, .inr (.inl rfl)⟩
  · rw [if_neg h]
    by_cases g : c > a
    · rw [if_pos g]; exact ⟨Nat.le_of_lt g, Nat.le_trans (Nat.not_lt.mp h) (Nat.le_of_lt g), Nat.le_refl _, .inr (.inr rfl)⟩
    · rw [if_neg g]; exact ⟨Nat.le_refl _, Nat.not_lt.mp h, Nat.not_lt.mp g, .inl rfl⟩
theorem mn_le (a b c : Nat) : mn a b c ≤ a ∧ (mn a b c = a ∨ mn a b c = b ∨ mn a b c = c) := by
  unfold mn
  by_cases h : b < a
  · rw [if_pos h]
    by_cases g : c < b
    · rw [if_pos g]; exact ⟨Nat.le_of_lt (Nat.lt_trans g h), .inr (.inr rfl)⟩
    · rw [if_neg g]; exact ⟨Nat.le_of_lt h, .inr (.inl rfl)⟩
  · rw [if_neg h]
    by_cases g : c < a
    · rw [if_pos g]; exact ⟨Nat.le_of_lt g, .inr (.inr rfl)⟩
    · rw [if_neg g]; exact ⟨Nat.le_refl _, .inl rfl⟩
theorem mx_add (W a b c : Nat) : mx (W + a) (W + b) (W + c) = W + mx a b c := by
  unfold mx
  simp only [gt_iff_lt, Nat.add_lt_add_iff_left, apply_ite (W + ·)]
theorem mn_add (W a b c : Nat) : mn (W + a) (W + b) (W + c) = W + mn a b c := by
  unfold mn
  simp only [Nat.add_lt_add_iff_left, apply_ite (W + ·)]
theorem hue_eq {a b c : Nat} (ha : a < 29) (hb : b < 29) (hc : c < 29) : hueF (fr32 a) (fr32 b) (fr32 c) = hueD (mx a b c - a) (mx a b c - b) (mx a b c - c) (mx a b c - mn a b c) := by
  obtain ⟨h1, h2, h3, h4⟩ := mx_le a b c
  have hm : mx a b c < 29 := by rcases h4 with h | h | h <;> rw [h] <;> assumption
  have e0 : (mx a b c - a = 0) ↔ (a = mx a b c) := ⟨fun h => Nat.le_antisymm h1 (Nat.le_of_sub_eq_zero h), fun h => Nat.sub_eq_zero_of_le (Nat.le_of_eq h.symm)⟩
  have e1 : (mx a b c - b = 0) ↔ (b = mx a b c) := ⟨fun h => Nat.le_antisymm h2 (Nat.le_of_sub_eq_zero h), fun h => Nat.sub_eq_zero_of_le (Nat.le_of_eq h.symm)⟩
  unfold hueF hueD
  dsimp only
  rw [fr_max ha hb hc, fr_min ha hb hc, fr_sub hm h1, fr_sub hm h2, fr_sub hm h3, fr_sub hm (Nat.le_trans (mn_le a b c).1 h1), fr_eq ha hm, fr_eq hb hm]
  by_cases p : a = mx a b c
  · rw [decide_eq_true p, if_pos rfl, if_pos (e0.mpr p)]
  · rw [decide_eq_false p, if_neg Bool.false_ne_true, if_neg fun h => p (e0.mp h)]
    by_cases q : b = mx a b c
    · rw [decide_eq_true q, if_pos rfl, if_pos (e1.mpr q)]
    · rw [decide_eq_false q, if_neg Bool.false_ne_true, if_neg fun h => q (e1.mp h)]
theorem goes_shift {W a b c k1 k2 : Nat} (ha : W + a < 29) (hb : W + b < 29) (hc : W + c < 29) (h : goesD a b c k1 k2 = true) : goesOK (W + a) (W + b) (W + c) k1 k2 = true := by
  have hs : sixS (W + a) (W + b) (W + c) = sixD (mx a b c - a) (mx a b c - b) (mx a b c - c) (mx a b c - mn a b c) := by
    unfold sixS sixD
    rw [hue_eq ha hb hc, mx_add, mn_add, Nat.add_sub_add_left, Nat.add_sub_add_left, Nat.add_sub_add_left, Nat.add_sub_add_left]
  unfold goesD at h
  dsimp only at h
  rw [← hs] at h
  obtain ⟨h1, h2, h3, h4⟩ := mx_le a b c
  obtain ⟨h5, h6⟩ := mn_le a b c
  have hm : W + mx a b c < 29 := by rcases h4 with h | h | h <;> rw [h] <;> assumption
  have hn : W + mn a b c < 29 := by rcases h6 with h | h | h <;> rw [h] <;> assumption
  simp only [Bool.and_eq_true, bne_iff_ne, ne_eq] at h
  obtain ⟨⟨⟨g1, g2⟩, g3⟩, g4⟩ := h
  have hz : W + mx a b c - (W + mn a b c) < 29 := Nat.lt_of_le_of_lt (Nat.sub_le _ _) hm
  have z : ∀ n, n < 29 → Float64.isZero (fr32 n) = (n == 0) := fun n hn => beq_iff_eq.mp (List.all_eq_true.mp zero_all n (List.mem_range.mpr hn))
  have hlt : mn a b c < mx a b c := Nat.lt_of_le_of_ne (Nat.le_trans h5 h1) g1
  unfold goesOK
  rw [fr_max ha hb hc, fr_min ha hb hc, mx_add, mn_add, fr_eq hn hm, fr_sub hm (Nat.add_le_add_left (Nat.le_of_lt hlt) _), z _ hm, z _ hz]
  simp only [Bool.and_eq_true]
  refine ⟨⟨⟨⟨⟨?_, ?_⟩, ?_⟩, g2⟩, g3⟩, g4⟩
  · rw [decide_eq_false (fun e => g1 (Nat.add_left_cancel e))]; rfl
  · rw [beq_false_of_ne (Nat.ne_of_gt (Nat.lt_of_lt_of_le (Nat.lt_of_le_of_lt (Nat.zero_le _) hlt) (Nat.le_add_left _ _)))]; rfl
  · rw [beq_false_of_ne (Nat.ne_of_gt (Nat.sub_pos_of_lt (Nat.add_lt_add_left hlt _)))]; rfl
theorem goes_ok {W s1 s2 k1 k2 : Nat} (hW : W < 15) (h1 : 4 ≤ s1) (h1' : s1 < 8) (h2 : 4 ≤ s2) (h2' : s2 < 8) (hk1 : k1 < 3) (hk2 : k2 < 3) : goesOK (nS W s1 s2 k1 k2 0) (nS W s1 s2 k1 k2 1) (nS W s1 s2 k1 k2 2) k1 k2 = true := by
  have h := goesD_all
  have h := List.all_eq_true.mp h (s1 - 4) (List.mem_range.mpr (by omega))
  have h := List.all_eq_true.mp h (s2 - 4) (List.mem_range.mpr (by omega))
  have h := List.all_eq_true.mp h k1 (List.mem_range.mpr hk1)
  have h := List.all_eq_true.mp h k2 (List.mem_range.mpr hk2)
  rw [show s1 - 4 + 4 = s1 by omega, show s2 - 4 + 4 = s2 by omega] at h
  have q : ∀ k s p : Nat, s < 8 → (if k = p then s else 0) < 8 := fun k s p h => by
    split
    · exact h
    · decide
  have e : ∀ p, nS W s1 s2 k1 k2 p = W + nS 0 s1 s2 k1 k2 p ∧ W + nS 0 s1 s2 k1 k2 p < 29 := fun p => by
    have q1 := q k1 s1 p h1'
    have q2 := q k2 s2 p h2'
    unfold nS
    rw [Nat.zero_add, Nat.add_assoc]
    exact ⟨rfl, Nat.lt_of_lt_of_le (Nat.add_lt_add_right hW _) (Nat.add_le_add_left (Nat.add_le_add (Nat.le_of_lt_succ q1) (Nat.le_of_lt_succ q2)) 15)⟩
  rw [(e 0).1, (e 1).1, (e 2).1]
  exact goes_shift (e 0).2 (e 1).2 (e 2).2 h
noncomputable def colB (c : Nat × Nat × Nat) : Array UInt8 := #[UInt8.ofNat (if c.1 = 0 then c.2.1 + c.2.2 else c.2.1), UInt8.ofNat (if c.1 = 1 then c.2.1 + c.2.2 else c.2.1), UInt8.ofNat (if c.1 = 2 then c.2.1 + c.2.2 else c.2.1)]
noncomputable def ColOK (c : Nat × Nat × Nat) : Prop := c.1 < 3 ∧ c.2.1 < 8 ∧ 4 ≤ c.2.2 ∧ c.2.2 < 8
theorem goes_col {w : World} {c d : Nat × Nat × Nat} (hc : ColOK c) (hd : ColOK d) {t u : Tok} :
    Call0 w 1 138 [.bytes (colB c) t, .bytes (colB d) u] (fun h h' v => ∃ D vs n, v = .ref D ∧ h.get? D = none ∧ h'.get? D = some (listOf vs n) ∧ IntsAre vs.toList (goesT c.1 d.1)) := by
  obtain ⟨k1, w1, s1⟩ := c
  obtain ⟨k2, w2, s2⟩ := d
  obtain ⟨a1, a2, a3, a4⟩ := hc
  obtain ⟨b1, b2, b3, b4⟩ := hd
  dsimp only at a1 a2 a3 a4 b1 b2 b3 b4
  have h := goes_ok (W := w1 + w2) (by omega) a3 a4 b3 b4 a1 b1
  have conv : ∀ n : Nat, n < 256 → (UInt8.ofNat n).toNat = n := fun n hn => by simp [UInt8.toNat_ofNat', Nat.mod_eq_of_lt hn]
  have q : ∀ p, (UInt8.ofNat (if k1 = p then w1 + s1 else w1)).toNat + (UInt8.ofNat (if k2 = p then w2 + s2 else w2)).toNat = nS (w1 + w2) s1 s2 k1 k2 p := fun p => by
    rw [conv _ (by split <;> omega), conv _ (by split <;> omega)]
    unfold nS
    split <;> split <;> omega
  unfold goesOK at h
  simp only [Bool.and_eq_true, Bool.not_eq_true', decide_eq_true_eq, beq_iff_eq, List.mem_cons, List.not_mem_nil, or_false] at h
  obtain ⟨⟨⟨⟨⟨h1, h2⟩, h3⟩, h4⟩, h5⟩, h6, h7⟩ := h
  rw [show goesT k1 k2 = goesOf (Flt.toInt Float64.truncOf (sixS (nS (w1 + w2) s1 s2 k1 k2 0) (nS (w1 + w2) s1 s2 k1 k2 1) (nS (w1 + w2) s1 s2 k1 k2 2))) k1 from h7.symm]
  exact goes_call rfl rfl (q 0) (q 1) (q 2) h1 h2 h3 h4 h5 rfl h6 (w1 := w1) (s1 := s1) (by omega) a1 (conv _ (by split <;> omega)) (conv _ (by split <;> omega)) (conv _ (by split <;> omega))
end
section
theorem afresh_P2 : True := by
  w_top off
  trivial
noncomputable def n0 (c : Nat) : Nat := if c = 4 then 4369 else 69905
noncomputable def nums (c : Nat) : List Nat := (List.range (2 ^ c)).map fun b => ((List.range c).map fun i => if b / 2 ^ i % 2 = 1 then 16 ^ i else 0).sum
noncomputable def still (c n : Nat) : List Nat := (List.range c).filter fun p => n / 16 ^ (c - 1 - p) % 16 == 1
noncomputable def wd (n : Nat) : List Nat := (apGo 8 n []).map (·.toNat)
noncomputable def pw (c n : Nat) : List Nat := List.replicate (c - (wd n).length) 65 ++ wd n
noncomputable def addOne (mp : List Nat × List Nat) (x : Nat) : List Nat × List Nat := if mp.1.contains x then mp else (mp.1 ++ [x], mp.2 ++ [x])
noncomputable def lessOne (c n one other : Nat) (g : Int) : Nat := n - 16 ^ (c - 1 - if g = 0 then one else other)
noncomputable def goStep (ks : List Nat) (c n : Nat) (mp : List Nat × List Nat) (q : Nat × Nat) : List Nat × List Nat :=
  (goesT (ks.getD q.1 0) (ks.getD q.2 0)).foldl (fun mp g => addOne mp (lessOne c n q.1 q.2 g)) mp
noncomputable def pairsOf' (st : List Nat) : List (Nat × Nat) := st.zip st.tail
noncomputable def turnM (ks : List Nat) (c n : Nat) (mp : List Nat × List Nat) : List Nat × List Nat := (pairsOf' (still c n)).foldl (goStep ks c n) mp
noncomputable def lefts (c n : Nat) : List Nat := if (still c n).length = 1 then still c n else []
noncomputable def runM (ks : List Nat) (c : Nat) : Nat → List Nat → List Nat → List Nat → Option (List Nat)
  | 0, _, _, _ => none
  | k + 1, met, pile, left => match pile.getLast? with
    | none => some left
    | some n => let r := turnM ks c n (met, pile.dropLast); runM ks c k r.1 r.2 (left ++ lefts c n)
noncomputable def ruleP (ks : List Nat) : List Nat := (List.range ks.length).filter fun p =>
  let k := ks.getD p 0
  let ok := fun (side : List Nat) => !(side.contains ((k + 1) % 3) && !side.contains ((k + 2) % 3))
  ok (ks.take p) && ok (ks.drop (p + 1))
noncomputable def kindsAll : Nat → List (List Nat)
  | 0 => [[]]
  | n + 1 => (kindsAll n).flatMap fun l => [0 :: l, 1 :: l, 2 :: l]
noncomputable def insN (x : Nat) : List Nat → List Nat
  | [] => [x]
  | y :: r => if x ≤ y then x :: y :: r else y :: insN x r
noncomputable def sortN : List Nat → List Nat
  | [] => []
  | x :: r => insN x (sortN r)
noncomputable def runOK (c : Nat) (ks : List Nat) : Bool := match runM ks c 33 [n0 c] [n0 c] [] with
  | some l => sortN l == ruleP ks
  | none => false
set_option maxHeartbeats 0
theorem run4 : ((kindsAll 3).all fun l => runOK 4 (0 :: l)) = true := by decide +kernel
theorem run5 : ((kindsAll 4).all fun l => runOK 5 (0 :: l)) = true := by decide +kernel
set_option maxHeartbeats 4000000
theorem kindsAll_mem : ∀ {n : Nat} {ks : List Nat}, ks.length = n → (∀ k ∈ ks, k < 3) → ks ∈ kindsAll n
  | 0, [], _, _ => .head _
  | n + 1, k :: ks, hl, hk => by
    refine List.mem_flatMap.mpr ⟨ks, kindsAll_mem (by simpa using hl) (fun x hx => hk x (.tail _ hx)), ?_⟩
    have := hk k (.head _)
    have : k = 0 ∨ k = 1 ∨ k = 2 := by omega
    rcases this with rfl | rfl | rfl <;> simp
/-- each kind one further on -/
noncomputable def rot1 (k : Nat) : Nat := (k + 1) % 3
theorem rot1_lt (k : Nat) : rot1 k < 3 := Nat.mod_lt _ (by decide)
theorem goesT_rot : ∀ a b : Fin 3, goesT (rot1 a.val) (rot1 b.val) = goesT a.val b.val := by decide
theorem rot1_inj : ∀ a b : Fin 3, (rot1 a.val == rot1 b.val) = (a.val == b.val) := by decide
theorem still_lt {c n p : Nat} (h : p ∈ still c n) : p < c := List.mem_range.mp (List.mem_filter.mp h).1
theorem getD_rot {ks : List Nat} {i : Nat} (hi : i < ks.length) : (ks.map rot1).getD i 0 = rot1 (ks.getD i 0) := by
  rw [List.getD_eq_getElem?_getD, List.getD_eq_getElem?_getD, List.getElem?_map, List.getElem?_eq_getElem hi]; rfl
theorem getD_lt {ks : List Nat} (hk : ∀ k ∈ ks, k < 3) {i : Nat} (hi : i < ks.length) : ks.getD i 0 < 3 := by
  rw [List.getD_eq_getElem?_getD, List.getElem?_eq_getElem hi]; exact hk _ (List.getElem_mem hi)
theorem goStep_rot {ks : List Nat} (hk : ∀ k ∈ ks, k < 3) {n : Nat} (mp : List Nat × List Nat) {q : Nat × Nat} (h1 : q.1 < ks.length) (h2 : q.2 < ks.length) : goStep (ks.map rot1) ks.length n mp q = goStep ks ks.length n mp q := by
  unfold goStep
  rw [getD_rot h1, getD_rot h2, show goesT (rot1 (ks.getD q.1 0)) (rot1 (ks.getD q.2 0)) = goesT (ks.getD q.1 0) (ks.getD q.2 0) from goesT_rot ⟨_, getD_lt hk h1⟩ ⟨_, getD_lt hk h2⟩]
theorem foldl_same {α β : Type} {f g : α → β → α} : ∀ {l : List β} {a : α}, (∀ b ∈ l, ∀ a, f a b = g a b) → l.foldl f a = l.foldl g a
  | [], _, _ => rfl
  | b :: l, a, h => by
    rw [List.foldl_cons, List.foldl_cons, h b (.head _) a]
    exact foldl_same fun b hb => h b (.tail _ hb)
theorem turnM_rot {ks : List Nat} (hk : ∀ k ∈ ks, k < 3) (n : Nat) (mp : List Nat × List Nat) : turnM (ks.map rot1) ks.length n mp = turnM ks ks.length n mp :=
  foldl_same fun q hq mp => by
    have h := List.of_mem_zip (a := q.1) (b := q.2) hq
    exact goStep_rot hk mp (still_lt h.1) (still_lt (List.mem_of_mem_tail h.2))
theorem runM_rot {ks : List Nat} (hk : ∀ k ∈ ks, k < 3) : ∀ (f : Nat) (met pile left : List Nat), runM (ks.map rot1) ks.length f met pile left = runM ks ks.length f met pile left
  | 0, _, _, _ => rfl
  | f + 1, met, pile, left => by
    unfold runM
    split
    · rfl
    · dsimp only
      rw [turnM_rot hk, runM_rot hk f]
theorem contains_rot {k : Nat} (h3 : k < 3) : ∀ {l : List Nat}, (∀ x ∈ l, x < 3) → (l.map rot1).contains (rot1 k) = l.contains k
  | [], _ => rfl
  | x :: l, h => by
    rw [List.map_cons, List.contains_cons, List.contains_cons, contains_rot h3 fun y hy => h y (.tail _ hy), show (rot1 k == rot1 x) = (k == x) from rot1_inj ⟨k, h3⟩ ⟨x, h x (.head _)⟩]
theorem rot1_add : ∀ a : Fin 3, (rot1 a.val + 1) % 3 = rot1 ((a.val + 1) % 3) ∧ (rot1 a.val + 2) % 3 = rot1 ((a.val + 2) % 3) := by decide
theorem filter_same {α : Type} {f g : α → Bool} : ∀ {l : List α}, (∀ x ∈ l, f x = g x) → l.filter f = l.filter g
  | [], _ => rfl
  | x :: l, h => by rw [List.filter_cons, List.filter_cons, h x (.head _), filter_same fun y hy => h y (.tail _ hy)]
theorem ruleP_rot {ks : List Nat} (hk : ∀ k ∈ ks, k < 3) : ruleP (ks.map rot1) = ruleP ks := by
  unfold ruleP
  rw [List.length_map]
  refine filter_same fun p hp => ?_
  have hp := List.mem_range.mp hp
  have h3 := getD_lt hk hp
  obtain ⟨e1, e2⟩ := rot1_add ⟨_, h3⟩
  dsimp only at e1 e2 ⊢
  have a1 : (ks.getD p 0 + 1) % 3 < 3 := Nat.mod_lt _ (by decide)
  have a2 : (ks.getD p 0 + 2) % 3 < 3 := Nat.mod_lt _ (by decide)
  have t : ∀ x ∈ ks.take p, x < 3 := fun x hx => hk x (List.mem_of_mem_take hx)
  have d : ∀ x ∈ ks.drop (p + 1), x < 3 := fun x hx => hk x (List.mem_of_mem_drop hx)
  rw [getD_rot hp, e1, e2, ← List.map_take, ← List.map_drop, contains_rot a1 t, contains_rot a2 t, contains_rot a1 d, contains_rot a2 d]
theorem runOK_rot {ks : List Nat} (hk : ∀ k ∈ ks, k < 3) : runOK ks.length (ks.map rot1) = runOK ks.length ks := by
  unfold runOK
  rw [runM_rot hk, ruleP_rot hk]
theorem runOK_all {n : Nat} (h : ((kindsAll n).all fun l => runOK (n + 1) (0 :: l)) = true) : ∀ {ks : List Nat}, ks.length = n + 1 → (∀ k ∈ ks, k < 3) → runOK (n + 1) ks = true
  | k :: ks, hl, hk => by
    have z : ∀ l : List Nat, l.length = n → (∀ x ∈ l, x < 3) → runOK (n + 1) (0 :: l) = true := fun l h1 h2 => List.all_eq_true.mp h l (kindsAll_mem h1 h2)
    have m : ∀ l : List Nat, ∀ x ∈ l.map rot1, x < 3 := fun l x hx => by
      obtain ⟨y, _, rfl⟩ := List.mem_map.mp hx
      exact rot1_lt y
    have r1 := runOK_rot hk
    have r2 := runOK_rot (m (k :: ks))
    rw [hl] at r1
    rw [List.length_map, hl] at r2
    have hl' : ks.length = n := Nat.succ.inj hl
    have h3 := hk k (.head _)
    match k, h3 with
    | 0, _ => exact z ks hl' fun x hx => hk x (.tail _ hx)
    | 1, _ => exact r1.symm.trans (r2.symm.trans (z _ (by rw [List.length_map, List.length_map, hl']) (m _)))
    | 2, _ => exact r1.symm.trans (z _ (by rw [List.length_map, hl']) (m _))
    | k + 3, h3 => exact absurd h3 (Nat.not_lt.mpr (Nat.le_add_left 3 k))
theorem run_ok {c : Nat} (hc : c = 4 ∨ c = 5) {ks : List Nat} (hl : ks.length = c) (hk : ∀ k ∈ ks, k < 3) : ∃ l, runM ks c 33 [n0 c] [n0 c] [] = some l ∧ sortN l = ruleP ks := by
  have h : runOK c ks = true := by
    rcases hc with rfl | rfl
    · exact runOK_all run4 hl hk
    · exact runOK_all run5 hl hk
  unfold runOK at h
  split at h
  · rename_i l e; exact ⟨l, e, by simpa using h⟩
  · cases h
noncomputable def numsOK (c : Nat) : Bool := (nums c).all fun n => (pw c n).length == c && decide (n < 1048576) && decide ((wd n).length ≤ c) && (List.range c).all (fun p => (Txt.item ⟨(pw c n).toArray⟩ ((p : Nat) : Int) == Str.ofString "B") == (still c n).contains p) && ((still c n).map fun p => 16 ^ (c - 1 - p)).sum == n && (still c n).all fun x => (nums c).contains (n - 16 ^ (c - 1 - x)) && decide (16 ^ (c - 1 - x) ≤ n) && decide (x < c)
theorem nums4 : numsOK 4 = true := by decide +kernel
theorem nums5 : numsOK 5 = true := by decide +kernel
structure NumOK (c n : Nat) : Prop where
  len : (pw c n).length = c
  small : n < 1048576
  short : (wd n).length ≤ c
  at_ : ∀ p, p < c → (Txt.item ⟨(pw c n).toArray⟩ ((p : Nat) : Int) == Str.ofString "B") = (still c n).contains p
  sum : ((still c n).map fun p => 16 ^ (c - 1 - p)).sum = n
  less : ∀ x ∈ still c n, n - 16 ^ (c - 1 - x) ∈ nums c ∧ 16 ^ (c - 1 - x) ≤ n ∧ x < c
theorem num_ok {c n : Nat} (hc : c = 4 ∨ c = 5) (hn : n ∈ nums c) : NumOK c n := by
  have h : numsOK c = true := by rcases hc with rfl | rfl; exact nums4; exact nums5
  have h := List.all_eq_true.mp h n hn
  simp only [Bool.and_eq_true, beq_iff_eq, decide_eq_true_eq] at h
  obtain ⟨⟨⟨⟨⟨h1, h2⟩, h3⟩, h4⟩, h5⟩, h6⟩ := h
  refine ⟨h1, h2, h3, fun p hp => ?_, h5, fun x hx => ?_⟩
  · have := List.all_eq_true.mp h4 p (List.mem_range.mpr hp)
    exact beq_iff_eq.mp this
  · have := List.all_eq_true.mp h6 x hx
    simp only [Bool.and_eq_true, decide_eq_true_eq, List.contains_iff_mem] at this
    exact ⟨this.1.1, this.1.2, this.2⟩
theorem n0_mem {c : Nat} (hc : c = 4 ∨ c = 5) : n0 c ∈ nums c := by rcases hc with rfl | rfl <;> decide +kernel
end
local macro_rules | `(tactic| k_inst) => `(tactic| assumption)
section
theorem afresh_B7 : True := by
  w_top off
  trivial
theorem count_call {w : World} {A : Around} {s : Shared} {Q E : Value → Shared → Prop} {p dx : Addr} {its : List Value} {n : Nat} {oD : Obj} (hA : A.handled = none) (hd : A.depth < 700) (hu : A.units < 7000) (G : Gd w s.heap)
    (hp : s.heap.get? p = some (accO dx its n)) (hdx : s.heap.get? dx = some oD)
    (h : ∀ h' tk tk', (∀ b o, s.heap.get? b = some o → h'.get? b = some o) → Q (.int its.length tk) { s with heap := h', toks := tk' }) :
    wpAny (model PySem.Challenge.rw_xp0006_01.row.prog w) A (call (.ref 112) [.ref p]) Q E s := by
  obtain ⟨X, mean, mg, mb, T⟩ := G
  revert X; k_fill; intro X
  k_dflt (refine' enterS ?k1 ?k2 ?k6 ?k7 ?k8 ?k9 ?kB ?_ ?c2 ?c3 ?c4 ?c5; (case k1 => assumption); (case k2 => exact Top.nolimit (by assumption)); (case k6 => k_is); (case k7 => k_is); (case k8 => k_room); (case k9 => exact BindsTo.of_eq rfl); (case c5 => decide); (case kB => exact locs rfl); (case c2 => exact rfl); (case c3 => exact rfl); (case c4 => exact rfl); intro h' tk' F' N'; (try dsimp only))
  with_reducible rename Fr _ _ _ _ => F1
  have I : InstAt _ p (accO dx its n) 115 (some oD) := ⟨F1.keep _ _ hp, rfl, rfl, F1.keep _ _ hdx⟩
  iterate 4 walk1
  clear F1 I
  with_reducible rename Fr _ _ _ _ => F2
  with_reducible rename News _ _ _ _ => N2
  refine sup_methodB (bt := "method-wrapper") F2 X N2 (.head _) (F2.keep _ _ hp) rfl (fun c e => by cases e) (by k_is) (by k_is) (by ks_is) (by k_is) (.inl ⟨rfl, rfl⟩) (by decide) ?_
  intro q h₃ F3 N3 _ k3
  dsimp only at F3 N3 ⊢
  refine cw_bound (.inl rfl) (N3 _ (.head _)).1 ?_
  refine SB.bcall_slot (.inl rfl) (N3 _ (.head _)).1 SB.entry_len (by decide +kernel) (wpAny_of_eq (SB.check_len _) rfl) ?_
  refine SB.len_tree (F3.keep _ _ hp) ⟨_, rfl, ?_⟩
  exact h _ _ _ F3.keep
end
section
theorem afresh_B8 : True := by
  w_top off
  trivial
theorem method_any {prog : Program} {w : World} {A : Around} {E : Value → Shared → Prop} {s : Shared} {K : Frag} {x C : Addr} {ox : Obj} {od : Option Obj} {name : Str} {pl : Sem Bool} {Q : Value × List Value → Shared → Prop} {ga : String} {f : Value} {T : String} (X : K.In s.heap) (I : InstAt s.heap x ox C od) (hga : findIn K (.ref C) "__getattribute__" = some (some (.builtin ga))) (hcan : Manifest.canonical ga = "object.__getattribute__") (hk : findIn K (.ref C) "__getattr__" = some none)
    (hf : findIn K (.ref C) name = some (some f)) (ht : typeIn K f = some (.type T)) (hT : T = "function" ∨ T = "method_descriptor") (hs : shadowIn od name = some false) (h : Q (f, [.ref x]) s) :
    wpAny (model prog w) A (getMethod (.ref x) name pl) Q E s := by
  unfold getMethod specialOf
  refine wpAny_bind (wpAny_bind (I.type.here ((looks_findIn X hga).here ?_)))
  dsimp only
  rw [hcan, if_neg (by decide)]
  refine wpAny_bind (wpAny_bind (I.type.here ((looks_findIn X hk).here ?_)))
  refine wpAny_bind (wpAny_bind (I.type.here ((looks_findIn X hf).here (wpAny_bind ((looks_typeIn X ht).here ?_)))))
  rw [if_neg (by rcases hT with rfl | rfl <;> decide +kernel)]
  refine wpAny_bind (wpAny_loadPart I.at_ ?_)
  have hd := I.dict
  cases e : ox.dict with
  | none => exact wpAny_bind (wpAny_rule (wpAny_pure h))
  | some dx =>
    cases od with
    | none => rw [e] at hd; exact hd.elim
    | some o =>
      rw [e] at hd
      obtain ⟨r, a, b⟩ := Option.map_eq_some_iff.mp hs
      refine wpAny_bind (wpAny_bind (wpAny_loadPart hd ?_))
      rw [nsLook_of a]
      refine wpAny_pure ?_
      rw [b]
      exact wpAny_bind (wpAny_rule (wpAny_pure h))
noncomputable def plainD (o : Obj) : Bool := shadowIn (some o) (Str.ofString "append") == some false && shadowIn (some o) (Str.ofString "part_count") == some false && shadowIn (some o) (Str.ofString "push") == some false && shadowIn (some o) (Str.ofString "pop") == some false
theorem push_call {w : World} {A : Around} {s : Shared} {Q E : Value → Shared → Prop} {p dx : Addr} {its : List Value} {n : Nat} {oD : Obj} {sa sb : Str} {ta tb : Tok} (hA : A.handled = none) (hd : A.depth < 700) (hu : A.units < 7000) (G : Gd w s.heap)
    (hp : s.heap.get? p = some (accO dx its n)) (hdx : s.heap.get? dx = some oD) (hD : plainD oD = true) (hz : its.length ≤ sizeLine)
    (h : ∀ q h' tk', s.heap.get? q = none → h'.get? p = some (accO dx (its ++ [.ref q]) (n + 1)) → h'.get? q = some { cls := .type "tuple", data := .seq #[.str sa ta, .str sb tb] } → (∀ d o, d ≠ p → s.heap.get? d = some o → h'.get? d = some o) → Q .none { s with heap := h', toks := tk' }) :
    wpAny (model PySem.Challenge.rw_xp0006_01.row.prog w) A (call (.ref 59) [.ref p, .str sa ta, .str sb tb]) Q E s := by
  obtain ⟨X, mean, mg, mb, T⟩ := G
  revert X; k_fill; intro X
  k_dflt (refine' enter0 ?k1 ?k2 ?k6 ?k7 ?k8 ?k9 ?kB ?_ ?c2 ?c3 ?c4 ?c5; (case k1 => assumption); (case k2 => exact Top.nolimit (by assumption)); (case k6 => k_is); (case k7 => k_is); (case k8 => k_room); (case k9 => exact BindsTo.of_eq rfl); (case c5 => decide); (case kB => exact locs rfl); (case c2 => exact rfl); (case c3 => exact rfl); (case c4 => exact rfl); k_whole; intro h' tk' F' N'; (try dsimp only))
  with_reducible rename Fr _ _ _ _ => F1
  with_reducible rename News _ _ _ _ => N1
  have I : InstAt _ p (accO dx its n) 115 (some oD) := ⟨F1.keep _ _ hp, rfl, rfl, F1.keep _ _ hdx⟩
  unfold plainD at hD
  simp only [Bool.and_eq_true, beq_iff_eq] at hD
  iterate 4 walk1
  refine method_any (T := "method_descriptor") (X.keeps F1.keep) I (by k_is) (by decide +kernel) (by k_is) (by k_is) (by first | k_is | kernel_rfl) (.inr rfl) hD.1.1.1 ?_
  dsimp only
  iterate 8 walk1
  refine kup_newTuple (by exact F1) (by exact N1) ?_ (by first | kmk_size | decide)
  intro q h₂ F2 N2 l2
  dsimp only at F2 N2 ⊢
  have hp2 := F2.keep _ _ hp
  have hm : Looks (model PySem.Challenge.rw_xp0006_01.row.prog w) h₂ (isSubtype (.ref 115) (.type "list")) true := looks_mroIn (X.keeps F2.keep) (by k_is)
  walk1
  refine wpAny_call (codeAny_call_builtin PySem.F.slot_list_append.plain PySem.F.entry_list_append (SB.check_append hp2 rfl hm (SB.append_tree hp2 hz ?_)))
  intro h₃ g3 S3
  dsimp only
  walk1
  refine h q h₃ _ (N2 _ (.head _)).2.2 g3 ?_ (fun d o hdp e => (S3.2 d hdp).trans (F2.keep _ _ e))
  refine (S3.2 q (fun e => ?_)).trans (N2 _ (.head _)).1
  subst e
  cases (N2 _ (.head _)).2.2.symm.trans hp
end
section
theorem afresh_B9 : True := by
  w_top off
  trivial
theorem pop_call {w : World} {A : Around} {s : Shared} {Q E : Value → Shared → Prop} {p dx : Addr} {its : List Value} {y : Value} {n : Nat} {oD : Obj} (hA : A.handled = none) (hd : A.depth < 600) (hu : A.units < 6900) (G : Gd w s.heap)
    (hp : s.heap.get? p = some (accO dx (its ++ [y]) n)) (hdx : s.heap.get? dx = some oD) (hD : plainD oD = true) (hz : its.length + 1 ≤ sizeLine)
    (h : ∀ h' tk', h'.get? p = some (accO dx its (n + 1)) → (∀ d o, d ≠ p → s.heap.get? d = some o → h'.get? d = some o) → Q y { s with heap := h', toks := tk' }) :
    wpAny (model PySem.Challenge.rw_xp0006_01.row.prog w) A (call (.ref 75) [.ref p]) Q E s := by
  obtain ⟨X, mean, mg, mb, T⟩ := G
  revert X; k_fill; intro X
  k_dflt (refine' enterS ?k1 ?k2 ?k6 ?k7 ?k8 ?k9 ?kB ?_ ?c2 ?c3 ?c4 ?c5; (case k1 => assumption); (case k2 => exact Top.nolimit (by assumption)); (case k6 => k_is); (case k7 => k_is); (case k8 => k_room); (case k9 => exact BindsTo.of_eq rfl); (case c5 => decide); (case kB => exact locs rfl); (case c2 => exact rfl); (case c3 => exact rfl); (case c4 => exact rfl); intro h' tk' F' N'; (try dsimp only))
  with_reducible rename Fr _ _ _ _ => F1
  with_reducible rename News _ _ _ _ => N1
  have I : InstAt _ p (accO dx (its ++ [y]) n) 115 (some oD) := ⟨F1.keep _ _ hp, rfl, rfl, F1.keep _ _ hdx⟩
  unfold plainD at hD
  simp only [Bool.and_eq_true, beq_iff_eq] at hD
  iterate 6 walk1
  refine method_any (T := "function") (X.keeps F1.keep) I (by k_is) (by decide +kernel) (by k_is) (by k_is) (by first | k_is | kernel_rfl) (.inl rfl) hD.1.1.2 ?_
  dsimp only
  iterate 1 walk1
  refine count_call (by exact hA) (by simp only [depth_deeper]; omega) (by simp only [units_deeper]; omega) ⟨X.keeps F1.keep, mean, mg, mb, T.keeps F1.keep⟩ (F1.keep _ _ hp) (F1.keep _ _ hdx) ?_
  intro h₂ tk₂ tk₃ k₂
  have F2 := frX F1 k₂
  have N2 := newsX N1 k₂
  clear F1 I
  dsimp only at F2 N2 ⊢
  iterate 3 walk1
  rw [if_neg (by rw [List.length_append]; simp; omega)]
  have I : InstAt _ p (accO dx (its ++ [y]) n) 115 (some oD) := ⟨F2.keep _ _ hp, rfl, rfl, F2.keep _ _ hdx⟩
  iterate 3 walk1
  dsimp only
  iterate 2 walk1
  refine ks_wpAt_MethodCall ?_
  walk1
  clear F2 N1 N2 I
  with_reducible rename Fr _ _ _ _ => F2
  with_reducible rename News _ _ _ _ => N2
  refine sup_methodB (bt := "builtin_function_or_method") F2 X N2 (.head _) (F2.keep _ _ hp) rfl (fun c e => by cases e) (by k_is) (by k_is) (by ks_is) (by k_is) (.inr (.inr ⟨rfl, rfl⟩)) (by decide) ?_
  intro q h₃ F3 N3 _ k3
  dsimp only at F3 N3 ⊢
  refine cw_bound (.inr rfl) (N3 _ (.head _)).1 ?_
  have hC : ∃ oc od cd sl, (Mine.hd.heap_39 w.params).lookup 115 = some ⟨oc, od, .cls cd, sl⟩ ∧ oc = .type "type" ∧ cd.qualname = Str.ofString "_Accumulator" := ⟨_, _, _, _, by k_is, rfl, rfl⟩
  obtain ⟨oc, od, cd, sl, hC1, hC2, hC3⟩ := hC
  refine SB.bcall_slot (.inr rfl) (N3 _ (.head _)).1 SB.entry_pop (by decide +kernel) (SB.check_pop (F3.keep _ _ hp) rfl (fun c e => by cases e) (looks_mroIn (X.keeps F3.keep) (by k_is)) (X.keeps F3.keep _ _ hC1) rfl hC2 hC3 rfl) ?_
  refine SB.pop_tree (F3.keep _ _ hp) hz ?_
  intro h₄ g4 S4
  exact ⟨_, rfl, h _ _ g4 (fun d o hdp e => (S4.2 d hdp).trans (F3.keep _ _ e))⟩
end
section
theorem afresh_B10 : True := by
  w_top off
  trivial
open Builtin Builtin.ObjectAttr Builtin.Getset_descriptor
theorem refuse_list (self : Value) : refuseLoop self "__setattr__" [.type "list", .type "object"] = pure () := by kernel_rfl
noncomputable def listOver (K : Frag) (C : Addr) : Bool := (clsIn K C).any fun cd => cd.mro == [.ref C, .type "list", .type "object"]
section
variable {prog : Program} {w : World} {A : Around} {K : Frag} {C x : Addr} {s : Shared} {h₀ : Heap} {L : Addr} {m : Str → Option Value} {news : List (Addr × Obj)} {R : Result → Shared → Prop}
theorem osa_openL {ox : Obj} {od : Option Obj} {name : Str} {tk : Tok} {v : Value} {r : Option Value} (X : K.In s.heap) (I : InstAt s.heap x ox C od) (hp : listOver K C = true) (ht : takerIn K C name = some r)
    (h : ∀ b, wpAny (model prog w) A.in1 (match r with | some a => setByDescriptor a (.ref x) v | none => storeInOwnDict (.ref x) (.ref C) (.str name tk) name v b)
      (fun fin s' => match fin with | .done f => R (.ok f) s' | .again c' => c'.quiet = true ∧ codeAny (model prog w) A c' R s') (fun e s' => R (.error e) s') s) :
    codeAny (model prog w) A (.call (.builtin "object.__setattr__") ⟨[.ref x, .str name tk, v], []⟩) R s := by
  have SF := PySem.F.store_object
  obtain ⟨cd, hc, ho⟩ := any_some hp
  have ho' : cd.mro = [.ref C, .type "list", .type "object"] := beq_iff_eq.mp ho
  have ne : cd.mro.isEmpty = false := by rw [ho']; rfl
  have sub : Looks (model prog w) s.heap (isInstance (.ref x) (.type "object")) true := I.type.andThen (looks_mroIn X (by unfold mroIn; rw [hc, Option.bind_some, if_neg (by rw [ne]; decide), (by rw [ho']; simp : cd.mro.contains (.type "object") = true)]))
  refine codeAny_call_builtin SF.slot.plain SF.entry (@check_slot (model prog w) _ _ s "object.__setattr__" "object" "__setattr__" (.ref x) [.str name tk, v] [] _ SF.kind SF.split sub (SF.args (.ref x) (.str name tk) v) ?_)
  obtain ⟨attr, ha, hr⟩ := Option.bind_eq_some_iff.mp ht
  have hm : Looks (model prog w) s.heap (mroOf (.ref C)) cd.mro := (looks_clsIn X hc).andThen .now
  have L3 : Looks (model prog w) s.heap (storeTaker? attr) r := by
    cases attr with
    | none => cases hr; exact .now
    | some a =>
      obtain ⟨b, hb, rfl⟩ := Option.map_eq_some_iff.mp hr
      refine (looks_takesIn X hb).andThen ?_
      cases b <;> exact .now
  rw [osa_eq, refuse_eq]
  refine wpAny_bind (wpAny_bind (I.type.here (wpAny_bind (hm.here ?_))))
  rw [show refuseLoop (.ref x) "__setattr__" cd.mro = pure () by rw [ho', refuseLoop_ref]; exact refuse_list _]
  refine wpAny_pure (wpAny_bind (I.type.here (wpAny_bind ((looks_findIn X ha).here (wpAny_bind (L3.here ?_))))))
  exact h _

theorem osa_dictL {ox od od' : Obj} {dx : Addr} {name : Str} {tk : Tok} {v : Value} {pre post : List (Addr × Obj)} {es : List DictEntry} {n : Nat} (F : Fr h₀ L s.heap m) (N : News h₀ L s.heap (pre ++ (dx, od) :: post)) (X : K.In s.heap)
    (I : InstAt s.heap x ox C (some od)) (hd : ox.dict = some dx) (hp : listOver K C = true) (ht : takerIn K C name = some none) (hh : (clsIn K C).any (·.hasDict) = true)
    (hl : (lookIn name od).isSome = true) (h1 : ∀ p ∈ pre, p.1 ≠ dx) (h2 : ∀ p ∈ post, p.1 ≠ dx)
    (e : Obj.putName name (PyData.keyHash w.params name) (.str name s.toks) v od = od') (e' : od'.data = .dict es.toArray n) (hz : es.length ≤ 1000)
    (h : ∀ h', Fr h₀ L h' m → News h₀ L h' (pre ++ (dx, od') :: post) → R (.ok (.ret .none)) { s with heap := h', toks := s.toks + 1 }) :
    codeAny (model prog w) A (.call (.builtin "object.__setattr__") ⟨[.ref x, .str name tk, v], []⟩) R s := by
  refine osa_openL X I hp ht fun b => ?_
  obtain ⟨cd, hc, hd'⟩ := any_some hh
  obtain ⟨U1, U2⟩ := news_upd (f := Obj.putName name (PyData.keyHash w.params name) (.str name s.toks) v) F N h1 h2 e (by obtain ⟨_, _, dd, _⟩ := od'; cases e'; rfl)
  have D := (N (dx, od) (by simp)).1
  have D' := (U2 (dx, od') (by simp)).1
  obtain ⟨hx, hcl, hn, -⟩ := I
  obtain ⟨oc, odi, oda, osl⟩ := ox
  dsimp only at hcl hd
  subst hcl hd
  refine wpAny_bind (wpAny_pure (wpAny_bind (wpAny_bind (wpAny_loadPart hx (wpAny_bind ((looks_clsIn X hc).here ?_))))))
  rw [hd']
  refine wpAny_pure (a := some dx) (wpAny_bind (wpAny_pure (wpAny_bind ?_)))
  unfold nsSet
  refine wpAny_bind (wpAny_bind (wpAny_askSetting (wpAny_pure (wpAny_bind (wpAny_mkText (wpAny_bind (wpAny_loadPart D ?_)))))))
  unfold lookIn at hl
  split at hl
  · rename_i es₀ n₀ q
    rw [q]
    dsimp only
    have c : (!es₀.any (·.key.isStr name) && es₀.any (·.refKey)) = false := by
      rw [← Array.any_toList, ← Array.any_toList]
      split at hl
      · rename_i en he
        rw [List.any_eq_true.mpr ⟨en, List.mem_of_find?_eq_some he, List.find?_some he⟩]; rfl
      · split at hl
        · cases hl
        · rename_i z; rw [Bool.not_eq_true] at z; rw [z, Bool.and_false]
    rw [aRefKeyMayBeTheName_at, c]
    refine wpAny_updatePart D ?_
    refine wpAny_bind (wpAny_lookBehind D' (by rw [e']; exact pastItsLine_dict (by rw [List.size_toArray, sizeLine_eq]; omega)) ?_)
    exact wpAny_pure (h _ U1 U2)
  · cases hl

end
end
section
theorem afresh_B11 : True := by
  w_top off
  trivial
theorem new_call {w : World} {A : Around} {s : Shared} {Q E : Value → Shared → Prop} (hA : A.handled = none) (hd : A.depth < 600) (hu : A.units < 6900) (G : Gd w s.heap)
    (h : ∀ p dx h' tk' oD n, s.heap.get? p = none → s.heap.get? dx = none → @LE.le Nat _ s.heap.objs.size dx → @LT.lt Nat _ dx p → h'.get? p = some (accO dx [] n) → h'.get? dx = some oD → plainD oD = true → (∀ d o, s.heap.get? d = some o → h'.get? d = some o) → Q (.ref p) { s with heap := h', toks := tk' }) :
    wpAny (model PySem.Challenge.rw_xp0006_01.row.prog w) A (call (.ref 115) []) Q E s := by
  obtain ⟨X, mean, mg, mb, T⟩ := G
  revert X; k_fill; intro X
  obtain ⟨hh, g, d, t, os⟩ := s
  have hm : makesInL (Mine.hd.heap_39 w.params) 115 = true := by kernel_rfl
  refine wpAny_call (make_coreL (makesL_of X hm) (looks_findIn X (by k_is)) (fun self => bind_fn X self (by k_is)) ?_)
  have k2 : ∀ b o, hh.get? b = some o → ((hh.push emptyD).push (lstObj 115 hh.objs.size)).get? b = some o := fun b o e => Heap.get?_push_of_some _ (Heap.get?_push_of_some _ e)
  have hx2 : ((hh.push emptyD).push (lstObj 115 hh.objs.size)).get? (hh.objs.size + 1) = some (lstObj 115 hh.objs.size) := by heap_get
  have hd2 : ((hh.push emptyD).push (lstObj 115 hh.objs.size)).get? hh.objs.size = some emptyD := by heap_get
  have s2 : hh.objs.size ≤ ((hh.push emptyD).push (lstObj 115 hh.objs.size)).objs.size := by rw [Heap.size_push, Heap.size_push]; omega
  have X2 := X.keeps k2
  have T2 := T.keeps k2
  generalize (hh.push emptyD).push (lstObj 115 hh.objs.size) = h2 at *
  refine' enterSC X2 (Top.nolimit T2) ?k6 ?k7 ?k8 ?k9 ?kB ?_ ?c2 ?c3 ?c4 ?c5
  case k6 => k_is
  case k7 => k_is
  case k8 => k_room
  case c2 => exact rfl
  case c3 => exact rfl
  case c4 => exact rfl
  case c5 => decide
  case k9 => exact binds_K X2 rfl (by k_is) rfl rfl rfl
  case kB => exact locs rfl
  k_whole
  intro h₁ tk₁ F1 N1
  dsimp only at F1 N1 ⊢
  have F2 : Fr hh h2.objs.size h₁ _ := ⟨F1.ns, fun b o e => F1.keep _ _ (k2 _ _ e), s2⟩
  have N2 : News hh h2.objs.size h₁ ([(hh.objs.size + 1, lstObj 115 hh.objs.size)] ++ (hh.objs.size, emptyD) :: []) := fun q hq => by
    rcases List.mem_cons.mp hq with rfl | hq
    · exact ⟨F1.keep _ _ hx2, Nat.ne_of_lt (Heap.lt_size hx2), Heap.get?_none_of_le (Nat.le_succ _)⟩
    · rw [List.mem_singleton.mp hq]
      exact ⟨F1.keep _ _ hd2, Nat.ne_of_lt (Heap.lt_size hd2), Heap.get?_none_of_le (Nat.le_refl _)⟩
  have I : InstAt h₁ (hh.objs.size + 1) (lstObj 115 hh.objs.size) 115 (some emptyD) := ⟨F1.keep _ _ hx2, rfl, rfl, F1.keep _ _ hd2⟩
  clear F1 N1 X2 T2
  iterate 5 walk1
  refine set_plain (X.keeps F2.keep) I (by k_is) (osa_dictL (od' := dictOf [⟨_, _, _⟩] 1) F2 N2 (X.keeps F2.keep) I rfl (by kernel_rfl) (by k_is) (by kernel_rfl) (by rfl) ?_ ?_ rfl rfl ?_ ?_)
  · intro q hq
    rw [List.mem_singleton.mp hq]; exact Nat.succ_ne_self _
  · intro q hq; cases hq
  · exact (by decide : 1 ≤ 1000)
  intro h₃ F3 N3
  dsimp only [List.cons_append, List.nil_append] at F3 N3 ⊢
  clear I F2 N2
  have gx := (N3 _ (.head _)).1
  have gd := (N3 _ (.tail _ (.head _))).1
  have n0 := (N3 _ (.head _)).2.2
  have n1 := (N3 _ (.tail _ (.head _))).2.2
  dsimp only at gx gd n0 n1
  have I := (⟨gx, rfl, rfl, gd⟩ : InstAt h₃ (hh.objs.size + 1) (lstObj 115 hh.objs.size) 115 (some _))
  iterate 1 walk1
  refine ks_wpAt_Expr_any ?_
  refine ks_wpAt_MethodCall ?_
  walk1
  clear I
  with_reducible rename Fr _ _ _ _ => F4
  with_reducible rename News _ _ _ _ => N4
  have gx := (N4 _ (.tail _ (.head _))).1
  have gd := (N4 _ (.tail _ (.tail _ (.head _)))).1
  dsimp only at gx gd
  refine sup_methodB (bt := "method-wrapper") F4 X N4 (.head _) gx rfl (fun c e => by cases e) (by k_is) (by k_is) (by ks_is) (by k_is) (.inr (.inl ⟨rfl, rfl⟩)) (by decide) ?_
  intro q h₅ F5 N5 _ k5
  dsimp only at F5 N5 ⊢
  refine cw_bound (.inl rfl) (N5 _ (.head _)).1 ?_
  refine SB.bcall_slot (.inl rfl) (N5 _ (.head _)).1 SB.entry_init (by decide +kernel) (wpAny_of_eq (SB.check_init _) rfl) ?_
  refine SB.init_tree (k5 _ _ gx) ?_
  intro h₆ g6 S6
  refine ⟨_, rfl, ?_⟩
  iterate 3 walk1
  refine ⟨rfl, h _ _ _ _ _ _ n0 n1 (Nat.le_refl _) (Nat.lt_succ_self _) g6 ((S6.2 _ (Nat.ne_of_lt (Nat.lt_succ_self _))).trans (k5 _ _ gd)) (by rfl) (fun b o e => ?_)⟩
  refine (S6.2 b (fun e' => ?_)).trans (F5.keep _ _ e)
  subst e'
  cases n0.symm.trans e
end
section
theorem afresh_C1 : True := by
  w_top off
  trivial
theorem enterC {prog : Program} {w : World} {A : Around} {s : Shared} {K : Frag} {Q E : Value → Shared → Prop} {name : Str} {params : Arguments} {body : List Stmt} {scope : Scope} {pm cdv doc oc : Value} {od : Option Addr} {osl : Array (Option Value)} {f : Addr} {args : List Value} {binds : List (Str × Value)}
    (X : K.In s.heap) (hlim : s.heap.NoLimit)
    (ho : K.lookup f = some ⟨oc, od, .func (Calls.docDef name params body scope pm cdv doc), osl⟩) (hcd : codeIn K cdv name = true) (hroom : A.depth < recursionLimit)
    (hbind : bindArgs (Calls.docDef name params body scope pm cdv doc) ⟨args, []⟩ = pure binds)
    (hkind : ∀ x ∈ binds, scope.names.lookup x.1 = some .local ∨ (scope.names.lookup x.1 = some .cell ∧ ((cellsFrom (s.heap.objs.size + 1) scope.names []).lookup x.1).isSome = true))
    (hnd : ((cellsFrom 0 scope.names []).map (·.1)).Nodup)
    (h : ∀ h₁ tk cells, Fr s.heap s.heap.objs.size h₁ (bindL (envOfC name scope s.heap.objs.size f cdv).kindOf binds fun _ => none) → News s.heap s.heap.objs.size h₁ cells →
      CellsAre (bindC (envOfC name scope s.heap.objs.size f cdv).kindOf binds fun _ => none) (cellsFrom (s.heap.objs.size + 1) scope.names []) cells →
      wpAny (model prog w) (A.deeper (envOfC name scope s.heap.objs.size f cdv)) (execs body (envOfC name scope s.heap.objs.size f cdv))
        (fun fl s' => Q (match fl with | .ret v => v | _ => .none) s') (fun _ _ => False) { s with heap := h₁, toks := tk })
    (hco : scope.isCoroutine = false := by rfl) (hgen : scope.isGenerator = false := by rfl) (hk : scope.kind = .function := by rfl) : wpAny (model prog w) A (call (.ref f) args) Q E s :=
  wpAny_call (call_cellsN_ret (R := fun r s' => match r with | .ok (.ret v) => Q v s' | .ok _ => False | .error e => E e s') hroom (X _ _ ho) rfl hlim (codeRec_of X hcd) hbind hkind hnd h hco hgen hk)
end
section
theorem afresh_C2 : True := by
  w_top off
  trivial
noncomputable def pV (p : Int → Bool) (v : Value) : Bool := match v with | .int n _ => p n | _ => false
noncomputable def fV (f : Int → Int) (v y : Value) : Prop := ∀ n t, v = .int n t → ∃ u, y = .int (f n) u
section
variable {prog : Program} {w : World} {A : Around} {E : Value → Shared → Prop} {s : Shared} {env : Env} {H : Heap}
/-- an iterator that hands out the ints ns -/
noncomputable def IntIt (prog : Program) (w : World) (A : Around) (H : Heap) (L : Addr) (ns : List Int) (m : Str → Option Value) (news : List (Addr × Obj)) (it : Value) (s₂ : Shared) (wr : List Addr) (P : Nat → Value → Prop) : Prop :=
  ∃ I fp St, it = .ref I ∧ Walks prog w A I fp wr ns.length P St ∧ ns.length ≤ sizeLine ∧ St 0 s₂.heap ∧ (∀ b ∈ fp, b < s₂.heap.objs.size) ∧ (∀ i v, P i v → ∃ n t, ns[i]? = some n ∧ v = .int n t) ∧
    Fr H L s₂.heap m ∧ News H L s₂.heap news ∧ ∀ b ∈ wr, H.get? b = none ∧ b ≠ L ∧ ∀ q ∈ news, q.1 ≠ b
theorem it_list {L l : Addr} {its : Array Value} {n : Nat} {ns : List Int} {m : Str → Option Value} {news : List (Addr × Obj)} {Q : Value → Shared → Prop} (hh : A.handled = none) (F : Fr H L s.heap m) (N : News H L s.heap news) (hl : s.heap.get? l = some (listOf its n)) (hi : IntsAre its.toList ns) (hz : ns.length ≤ sizeLine)
    (h : ∀ it h' wr P, IntIt prog w A H L ns m news it { s with heap := h' } wr P → Q it { s with heap := h' }) : wpAny (model prog w) A (pyIter (.ref l)) Q E s := by
  have hL : s.heap.IsList l its := ⟨_, hl, rfl, n, rfl⟩
  have hlt := Heap.lt_size hl
  have hne : l ≠ s.heap.objs.size := Nat.ne_of_lt hlt
  have hlen : its.size = ns.length := by rw [← hi.length]; simp
  refine wpAny_pyIter_list hL ?_
  have W := Walks.list (prog := prog) (w := w) hh s.heap.objs.size l hne its
  rw [hlen] at W
  refine h _ _ _ _ ⟨_, _, _, rfl, W, hz, ⟨⟨_, Heap.get?_push_size _ rfl, rfl, rfl⟩, hL.at fun o e => Heap.get?_push_of_some _ e⟩, ?_, ?_, F.push _, fun p hp => ⟨Heap.get?_push_of_some _ (N p hp).1, (N p hp).2⟩, ?_⟩
  · intro b hb
    show b < (s.heap.push _).objs.size
    rw [Heap.size_push]
    rcases List.mem_cons.mp hb with rfl | hb
    · exact Nat.lt_succ_self _
    · rw [List.mem_singleton.mp hb]; exact Nat.lt_succ_of_lt hlt
  · intro i v hv
    obtain ⟨k, t, e1, e2⟩ := hi.at i v (by simpa using hv)
    exact ⟨k, t, e2, e1⟩
  · intro b hb
    rw [List.mem_singleton.mp hb]
    exact ⟨next_is_new F, Nat.ne_of_gt F.ns.lt, fun q hq => Nat.ne_of_lt (Heap.lt_size (N q hq).1)⟩
theorem it_range {L r : Addr} {a b : Int} {t u v : Tok} {k : Nat} {m : Str → Option Value} {news : List (Addr × Obj)} {Q : Value → Shared → Prop} (hh : A.handled = none) (F : Fr H L s.heap m) (N : News H L s.heap news) (hr : IsRange s.heap r a b 1 t u v) (hsm : Builtin.Range.small a b 1 = true) (hn : Builtin.Range.rangeSize a b 1 = ((k : Nat) : Int)) (hz : k ≤ sizeLine)
    (h : ∀ it h' wr P, IntIt prog w A H L ((List.range k).map fun (i : Nat) => a + (i : Int)) m news it { s with heap := h' } wr P → Q it { s with heap := h' }) : wpAny (model prog w) A (pyIter (.ref r)) Q E s := by
  refine wpAny_pyIter_range hr hsm ?_
  have W := PyProof.Rows.LCg.range_walks (prog := prog) (w := w) (I := s.heap.objs.size) hh a k
  have hlen : k = ((List.range k).map fun (i : Nat) => a + (i : Int)).length := by simp
  refine h _ _ [s.heap.objs.size] (fun i v => i < k ∧ ∃ t, v = .int (a + (i : Int)) t) ⟨s.heap.objs.size, [s.heap.objs.size], fun i h => IsRangeIter h s.heap.objs.size (a + (i : Nat) * 1) ((k : Int) - (i : Nat)) 1, rfl, ?_, by simpa using hz, by show IsRangeIter _ _ _ _ _; rw [hn]; simpa using Heap.get?_push_size _ rfl, ?_, ?_, F.push _, fun p hp => ⟨Heap.get?_push_of_some _ (N p hp).1, (N p hp).2⟩, ?_⟩
  · rw [← hlen]
    exact ⟨W.sub, W.frame, fun i s Q E hi st hQ => W.item i s Q E hi st fun v h' tk hP => hQ v h' tk ⟨hi, hP⟩, W.done, W.self⟩
  · intro b hb
    rw [List.mem_singleton.mp hb]
    show s.heap.objs.size < (s.heap.push _).objs.size
    rw [Heap.size_push]; exact Nat.lt_succ_self _
  · rintro i v ⟨hi, t, rfl⟩
    exact ⟨_, t, by rw [List.getElem?_map, List.getElem?_range hi]; rfl, rfl⟩
  · intro b hb
    rw [List.mem_singleton.mp hb]
    exact ⟨next_is_new F, Nat.ne_of_gt F.ns.lt, fun q hq => Nat.ne_of_lt (Heap.lt_size (N q hq).1)⟩
theorem filt_ints {p : Int → Bool} {F : Value → Value → Prop} {f : Int → Int} (hF : ∀ n t y, F (.int n t) y → ∃ u, y = .int (f n) u) : ∀ {vs : List Value} {ns : List Int} {ys : List Value}, IntsAre vs ns → Paired F (vs.filter (pV p)) ys → IntsAre ys ((ns.filter p).map f)
  | _, _, _, .nil, .nil => .nil
  | .int n t :: vs, _ :: ns, ys, .cons _ _ hi, hP => by
    by_cases q : p n = true
    · rw [List.filter_cons_of_pos (by exact q)] at hP
      rw [List.filter_cons_of_pos q]
      cases hP with
      | cons h1 h2 =>
        obtain ⟨u, rfl⟩ := hF _ _ _ h1
        exact .cons _ _ (filt_ints hF hi h2)
    · rw [List.filter_cons_of_neg (by exact q)] at hP
      rw [List.filter_cons_of_neg q]
      exact filt_ints hF hi hP
theorem ints_of {vs : List Value} {ns : List Int} (hl : vs.length = ns.length) (h : ∀ (j : Nat) v, vs[j]? = some v → ∃ n t, ns[j]? = some n ∧ v = .int n t) : IntsAre vs ns := by
  induction vs generalizing ns with
  | nil => cases ns with | nil => exact .nil | cons _ _ => simp at hl
  | cons v vs ih =>
    cases ns with
    | nil => simp at hl
    | cons n ns =>
      obtain ⟨k, t, e1, rfl⟩ := h 0 v rfl
      cases e1
      exact .cons _ _ (ih (by simpa using hl) fun j v hj => h (j + 1) v hj)
theorem comp_news {h₂ h₃ : Heap} {L C : Addr} {m m₃ : Str → Option Value} {wr : List Addr} {news : List (Addr × Obj)} (F : Fr H L h₂ m) (N : News H L h₂ news) (hC : h₂.objs.size ≤ C) (hn : h₃.Ns C m₃)
    (hk : ∀ b o, b ∉ wr → h₂.get? b = some o → h₃.get? b = some o) (hwr : ∀ b ∈ wr, H.get? b = none ∧ b ≠ L ∧ ∀ q ∈ news, q.1 ≠ b) :
    Fr H L h₃ m ∧ ∃ oC, News H L h₃ ((C, oC) :: news) ∧ LCg.NsObj oC m₃ := by
  obtain ⟨F₃, oC, N₃, hN⟩ := comp_facts F hC hn hk fun b hb => ⟨(hwr b hb).1, (hwr b hb).2.1⟩
  refine ⟨F₃, oC, fun p hp => ?_, hN⟩
  rcases List.mem_cons.mp hp with rfl | hp
  · exact N₃ _ (.head _)
  · exact ⟨hk _ _ (fun hb => (hwr _ hb).2.2 p hp rfl) (N p hp).1, (N p hp).2⟩
/-- what the elements and the tests of a comprehension over ints do -/
noncomputable def IntElts (prog : Program) (w : World) (A : Around) (H : Heap) (L : Addr) (env : Env) (scope : Scope) (cl : List (Str × Addr)) (x : Str) (ifs : List Expr) (elt : Expr) (ns : List Int) (p : Int → Bool) (f : Int → Int) (m : Str → Option Value) (news : List (Addr × Obj)) : Prop :=
  ∀ n t C oC m₃ (s₃ : Shared) (E' : Value → Shared → Prop), n ∈ ns → LCg.NsObj oC m₃ → m₃ x = some (.int n t) → Fr H L s₃.heap m → News H L s₃.heap ((C, oC) :: news) →
    wpAny (model prog w) A (forIn ifs true fun c r => if r = true then do let ok ← isTrue c (compEnvC scope cl C env) (eval c (compEnvC scope cl C env)); pure (ForInStep.yield ok) else pure (ForInStep.yield r))
      (fun ok s₄ => ok = p n ∧ Keeps s₃ s₄) E' s₃ ∧
    (p n = true → wpAny (model prog w) A (eval elt (compEnvC scope cl C env)) (fun y s₄ => (∃ u, y = .int (f n) u) ∧ Keeps s₃ s₄) E' s₃)
theorem quiet_ints {scope : Scope} {cl : List (Str × Addr)} {x : Str} {ifs : List Expr} {elt : Expr} {L : Addr} {ns : List Int} {p : Int → Bool} {f : Int → Int} {m : Str → Option Value} {news : List (Addr × Obj)} {wr : List Addr} {P : Nat → Value → Prop} {s₂ : Shared}
    (F : Fr H L s₂.heap m) (N : News H L s₂.heap news) (hP : ∀ i v, P i v → ∃ n t, ns[i]? = some n ∧ v = .int n t) (hwr : ∀ b ∈ wr, H.get? b = none ∧ b ≠ L ∧ ∀ q ∈ news, q.1 ≠ b) (hE : IntElts prog w A H L env scope cl x ifs elt ns p f m news) :
    QuietOnC prog w A env scope cl x ifs elt wr P (pV p) (fV f) s₂ := by
  refine ⟨?_, ?_⟩
  · intro C i v s₃ m₃ E' hC hPv hn hm hk _
    obtain ⟨n, t, e1, rfl⟩ := hP i v hPv
    obtain ⟨F₃, oC, N₃, hNC⟩ := comp_news F N hC hn hk hwr
    exact (hE n t C oC m₃ s₃ E' (List.mem_of_getElem? e1) hNC hm F₃ N₃).1
  · intro C i v s₃ m₃ E' hC hPv hp hn hm hk _
    obtain ⟨n, t, e1, rfl⟩ := hP i v hPv
    obtain ⟨F₃, oC, N₃, hNC⟩ := comp_news F N hC hn hk hwr
    refine wpAny_mono ((hE n t C oC m₃ s₃ E' (List.mem_of_getElem? e1) hNC hm F₃ N₃).2 hp) (fun y s₄ h => ⟨fun n' t' e => ?_, h.2⟩) fun _ _ e => e
    cases e
    exact h.1
theorem comp_ints {elt iter : Expr} {x : Str} {px : Pos} {ifs : List Expr} {scope : Scope} {cl : List (Str × Addr)} {pos : Pos} {L : Addr} {Q : Value → Shared → Prop} (p : Int → Bool) (f : Int → Int)
    (hclos : closureFor scope env = pure cl) (hcell : ∀ y ∈ scope.names, y.2 ≠ .cell) (hkind : scope.kind = .function)
    (hnames : ∀ y ∈ scope.names, y.2 = .local → scope.names.lookup y.1 = some .local) (hx : scope.names.lookup x = some .local)
    (h : wpAny (model prog w) A (eval iter env) (fun xv s₁ => wpAny (model prog w) A (pyIter xv) (fun it s₂ => ∃ ns m news wr P, IntIt prog w A H L ns m news it s₂ wr P ∧ IntElts prog w A H L env scope cl x ifs elt ns p f m news ∧
      (∀ D h' tk ys nD, Fr H L h' m → News H L h' ((D, listOf ys nD) :: news) → (∀ q ∈ news, q.1 ≠ D) → IntsAre ys.toList ((ns.filter p).map f) → Q (.ref D) { s₂ with heap := h', toks := tk })) E s₁) E s)
    (hs : ∀ x, foldedSetIterable iter env x = pure x := by intro _; rfl) :
    wpAny (model prog w) A (eval (.ListComp elt [⟨.Name x px, iter, ifs, 0⟩] scope pos) env) Q E s := by
  refine wpAny_ListComp_free (pV p) (fV f) hclos hcell hkind hnames hx (wpAny_mono h (fun xv s₁ h₁ => wpAny_mono h₁ (fun it s₂ h₂ => ?_) fun _ _ e => e) fun _ _ e => e) hs
  obtain ⟨ns, m, news, wr, P, ⟨I, fp, St, rfl, W, hz, hst, hfp, hP, F, N, hwr⟩, hE, hD⟩ := h₂
  refine ⟨I, fp, wr, ns.length, P, St, rfl, W, hz, hst, hfp, quiet_ints F N hP hwr hE, ?_⟩
  intro D h' tk ys vs hD0 hl hpl hlen hPv hF hk
  obtain ⟨nD, hDg⟩ := hpl
  have hH : ∀ b o, H.get? b = some o → h'.get? b = some o := fun b o e => hk b o (fun hb => by rw [(hwr b hb).1] at e; cases e) (F.keep b o e)
  obtain ⟨oL, es, ep, ho, hd, hk', hf⟩ := F.ns
  have hL' := hk _ _ (fun hb => (hwr _ hb).2.1 rfl) ho
  refine hD D h' tk ys nD ⟨⟨oL, es, ep, hL', hd, hk', hf⟩, hH, F.above⟩ (fun q hq => ?_) (fun q hq e => ?_) (filt_ints (fun n t y h => h n t rfl) (ints_of hlen fun j v hj => hP j v (hPv j v hj)) hF)
  · rcases List.mem_cons.mp hq with rfl | hq
    · refine ⟨hDg, fun e => ?_, ?_⟩
      · have e' : D = L := e
        rw [e', ho] at hD0; cases hD0
      · cases q : H.get? D with
        | none => rfl
        | some o => rw [F.keep _ _ q] at hD0; cases hD0
    · exact ⟨hk _ _ (fun hb => (hwr _ hb).2.2 q hq rfl) (N q hq).1, (N q hq).2⟩
  · have := (N q hq).1
    rw [e, hD0] at this; cases this
theorem assign_ints {elt iter : Expr} {x y : Str} {px py : Pos} {ifs : List Expr} {scope : Scope} {cl : List (Str × Addr)} {pos spos : Pos} {Q : Flow → Shared → Prop} (p : Int → Bool) (f : Int → Int)
    (hsw : swapsWith (.ListComp elt [⟨.Name x px, iter, ifs, 0⟩] scope pos) (some (.Name y py)) spos.line env = pure true)
    (hclos : closureFor scope env = pure cl) (hcell : ∀ z ∈ scope.names, z.2 ≠ .cell) (hkind : scope.kind = .function)
    (hnames : ∀ z ∈ scope.names, z.2 = .local → scope.names.lookup z.1 = some .local) (hx : scope.names.lookup x = some .local)
    (hy : env.kindOf y = some .local) (hp : (env.scope.kind == .class || (env.scope.kind == .module && env.locals != env.globals)) = false)
    (h : wpAny (model prog w) A (eval iter env) (fun xv s₁ => wpAny (model prog w) A (pyIter xv) (fun it s₂ => ∃ ns m news wr P, IntIt prog w A H env.locals ns m news it s₂ wr P ∧ IntElts prog w A H env.locals env scope cl x ifs elt ns p f m news ∧
      (∀ D h' tk ys nD, Fr H env.locals h' (fun z => if z = y then some (.ref D) else m z) → News H env.locals h' ((D, listOf ys nD) :: news) → (∀ q ∈ news, q.1 ≠ D) → IntsAre ys.toList ((ns.filter p).map f) → Q .next { s₂ with heap := h', toks := tk })) E s₁) E s)
    (hs : ∀ x, foldedSetIterable iter env x = pure x := by intro _; rfl) :
    wpAny (model prog w) A (exec (.Assign [.Name y py] (.ListComp elt [⟨.Name x px, iter, ifs, 0⟩] scope pos) spos) env) Q E s := by
  refine wpAny_Assign_ListComp_free (pV p) (fV f) hsw hclos hcell hkind hnames hx hy hp (wpAny_mono h (fun xv s₁ h₁ => wpAny_mono h₁ (fun it s₂ h₂ => ?_) fun _ _ e => e) fun _ _ e => e) hs
  obtain ⟨ns, m, news, wr, P, ⟨I, fp, St, rfl, W, hz, hst, hfp, hP, F, N, hwr⟩, hE, hD⟩ := h₂
  refine ⟨I, fp, wr, ns.length, P, St, m, rfl, W, hz, hst, hfp, fun hb => (hwr _ hb).2.1 rfl, F.ns, quiet_ints F N hP hwr hE, ?_⟩
  intro D h' tk ys vs hD0 hl hpl hlen hPv hF hns hk
  obtain ⟨nD, hDg⟩ := hpl
  obtain ⟨oL, es, ep, ho, _⟩ := F.ns
  have hL0 : H.get? env.locals = none := Heap.get?_none_of_le F.above
  have hH : ∀ b o, H.get? b = some o → h'.get? b = some o := fun b o e => hk b o (fun q => by rw [q, hL0] at e; cases e) (fun hb => by rw [(hwr b hb).1] at e; cases e) (F.keep b o e)
  refine hD D h' tk ys nD ⟨hns, hH, F.above⟩ (fun q hq => ?_) (fun q hq e => ?_) (filt_ints (fun n t y h => h n t rfl) (ints_of hlen fun j v hj => hP j v (hPv j v hj)) hF)
  · rcases List.mem_cons.mp hq with rfl | hq
    · refine ⟨hDg, fun e => ?_, ?_⟩
      · have e' : D = env.locals := e
        rw [e', ho] at hD0; cases hD0
      · cases q : H.get? D with
        | none => rfl
        | some o => rw [F.keep _ _ q] at hD0; cases hD0
    · exact ⟨hk _ _ (N q hq).2.1 (fun hb => (hwr _ hb).2.2 q hq rfl) (N q hq).1, (N q hq).2⟩
  · have := (N q hq).1
    rw [e, hD0] at this; cases this
end

theorem pow16 {prog : Program} {w : World} {A : Around} {E : Value → Shared → Prop} {s : Shared} {n : Nat} {t u : Tok} {Q : Value → Shared → Prop} (hn : n ≤ 4) (h : Q (.int (16 ^ ((n : Int)).toNat) s.toks) { s with toks := s.toks + 1 }) :
    wpAny (model prog w) A (binaryOp .Pow (.int 16 t) (.int (n : Int) u)) Q E s := by
  have hn : n = 0 ∨ n = 1 ∨ n = 2 ∨ n = 3 ∨ n = 4 := by omega
  rcases hn with rfl | rfl | rfl | rfl | rfl
  · exact AutoIntOps.pow_0 (by decide) (by decide) h
  all_goals exact AutoIntOps.pow_4 (by decide) (by decide) (by decide) (by decide) (by decide +kernel) h
theorem newsNe {H h : Heap} {L p : Addr} {news : List (Addr × Obj)} (N : News H L h news) (hp : h.get? p = none) : ∀ q ∈ news, q.1 ≠ p := fun q hq e => by
  have := (N q hq).1
  rw [e, hp] at this; cases this
noncomputable def AllNe (d : Nat) : List (Addr × Obj) → Prop
  | [] => True
  | p :: r => @Ne Nat p.1 d ∧ AllNe d r
theorem allNe_of {d : Addr} : ∀ {l : List (Addr × Obj)}, (∀ p ∈ l, p.1 ≠ d) → AllNe d l
  | [], _ => trivial
  | _ :: _, h => ⟨h _ (.head _), allNe_of fun q hq => h q (.tail _ hq)⟩
theorem chgNews {H h h' : Heap} {L p : Addr} {m : Str → Option Value} {news : List (Addr × Obj)} {g : Obj → List (Addr × Obj)} {o o' : Obj} (F : Fr H L h m) (N : News H L h news) (U : UpdF p o news g) (hg : h'.get? p = some o') (hk : ∀ d ob, d ≠ p → h.get? d = some ob → h'.get? d = some ob) :
    Fr H L h' m ∧ News H L h' (g o') := by
  obtain ⟨pre, post, rfl, hgg, a, b⟩ := U.split
  have hm := N (p, o) (List.mem_append_right _ (.head _))
  obtain ⟨oL, es, ep, ho, r⟩ := F.ns
  refine ⟨⟨⟨oL, es, ep, hk _ _ (Ne.symm hm.2.1) ho, r⟩, fun b ob e => hk _ _ (fun q => by rw [q, hm.2.2] at e; cases e) (F.keep b ob e), F.above⟩, ?_⟩
  rw [hgg]
  intro q hq
  rcases List.mem_append.mp hq with hq | hq
  · have := N q (List.mem_append_left _ hq)
    exact ⟨hk _ _ (a q hq) this.1, this.2⟩
  · rcases List.mem_cons.mp hq with rfl | hq
    · exact ⟨hg, hm.2⟩
    · have := N q (List.mem_append_right _ (.tail _ hq))
      exact ⟨hk _ _ (b q hq) this.1, this.2⟩
end
section
theorem afresh_C4 : True := by
  w_top off
  trivial
theorem kst_eq {m : Str → Option Value} (ps : List (Str × Value)) (hp : ∀ p ∈ ps, m p.1 = some p.2) : kstB m ps = m := by
  funext z
  exact kstB_eq hp fun _ => rfl
noncomputable def tupO (n : Nat) (t1 t2 : Tok) : Obj := { cls := .type "tuple", data := .seq #[.str (Str.ofString " ") t1, .str ⟨(wd n).toArray⟩ t2] }
noncomputable def PileOK (own : List (Addr × Obj)) (pile : List Nat) (pv : List Value) : Prop := Paired (fun n v => ∃ q t1 t2, v = Value.ref q ∧ (q, tupO n t1 t2) ∈ own) pile pv
noncomputable def MeetOK (own : List (Addr × Obj)) (ks : List Nat) (kvs : List (Int × Value)) : Prop := ∀ (one other : Nat) v, one < 8 → other < 8 → valueAt kvs (8 * (one : Int) + (other : Int)) = some v →
  ∃ a vs n, v = .ref a ∧ (a, listOf vs n) ∈ own ∧ IntsAre vs.toList (goesT (ks.getD one 0) (ks.getD other 0))
theorem paired_mono {α : Type} {F G : α → Value → Prop} (h : ∀ a v, F a v → G a v) : ∀ {as : List α} {vs : List Value}, Paired F as vs → Paired G as vs
  | _, _, .nil => .nil
  | _, _, .cons a r => .cons (h _ _ a) (paired_mono h r)
theorem paired_last {α : Type} {F : α → Value → Prop} : ∀ {as : List α} {a : α} {vs : List Value}, Paired F (as ++ [a]) vs → ∃ vs' v, vs = vs' ++ [v] ∧ F a v ∧ Paired F as vs'
  | [], _, _, .cons h .nil => ⟨[], _, rfl, h, .nil⟩
  | _ :: as, _, _, .cons h r => by
    obtain ⟨vs', v, rfl, h1, h2⟩ := paired_last (as := as) r
    exact ⟨_ :: vs', v, rfl, h1, .cons h h2⟩
theorem paired_len {α : Type} {F : α → Value → Prop} : ∀ {as : List α} {vs : List Value}, Paired F as vs → as.length = vs.length
  | _, _, .nil => rfl
  | _, _, .cons _ r => by simp [paired_len r]
/-- where the loop's objects lie -/
structure Lay (L M P DX D Lf : Addr) : Prop where
  lo : (D == sysModules) = false
  lt : @LT.lt Nat _ (L + 1 + 1) M ∧ @LT.lt Nat _ M DX ∧ @LT.lt Nat _ DX P ∧ @LT.lt Nat _ P D ∧ @LT.lt Nat _ D Lf
/-- the plain state and its image in the ledger -/
structure Img (w : World) (ks : List Nat) (c : Nat) (row : Array UInt8) (L M P DX D Lf : Addr) (b : Nat) (met pile left : List Nat) (m : Str → Option Value) (mv : Array Value) (pv : List Value) (oDX oD : Obj) (kvs : List (Int × Value)) (lv : Array Value) (oc ow : Obj) (own : List (Addr × Obj)) : Prop where
  hoff : OwnOff own [M, P, DX, D, Lf, L + 1, L + 1 + 1]
  hmet : IntsAre mv.toList (met.map fun n => ((n : Nat) : Int))
  hpile : PileOK own pile pv
  hplain : plainD oDX = true
  hdict : oD.IsDictOf (PySem.intKind PySem.Challenge.rw_xp0006_01.row.prog w) kvs
  hmeet : MeetOK own ks kvs
  hleft : IntsAre lv.toList (left.map fun n => ((n : Nat) : Int))
  hcnt : ∃ t, oc.data = .cell (some (.int (c : Int) t))
  row_ : ∃ t, m (Str.ofString "row") = some (.bytes row t)
  met_ : m (Str.ofString "met") = some (.ref M)
  pile_ : m (Str.ofString "pile") = some (.ref P)
  meet_ : m (Str.ofString "meetings") = some (.ref D)
  left_ : m (Str.ofString "left") = some (.ref Lf)
  inM : ∀ n ∈ met, n ∈ nums c
  inP : ∀ n ∈ pile, n ∈ nums c
  small : met.length ≤ b ∧ pile.length ≤ b ∧ kvs.length ≤ b ∧ left.length ≤ b
noncomputable def LJ (w : World) (ks : List Nat) (c : Nat) (row : Array UInt8) (L M P DX D Lf : Addr) (res : List Nat) (k : Nat) (m : Str → Option Value) (news : List (Addr × Obj)) : Prop :=
  ∃ met pile left mv n1 pv n2 oDX oD kvs lv n3 oc ow own, news = (M, listOf mv n1) :: (P, accO DX pv n2) :: (DX, oDX) :: (D, oD) :: (Lf, listOf lv n3) :: (L + 1, oc) :: (L + 1 + 1, ow) :: own ∧
    (∃ v, ow.data = .cell v) ∧ Img w ks c row L M P DX D Lf (1000 - 16 * k) met pile left m mv pv oDX oD kvs lv oc ow own ∧ runM ks c k met pile left = some res
theorem mulA_at : ∀ k : Fin 6, Txt.mul (Str.ofString "A") ((k.val : Nat) : Int) = ⟨(List.replicate k.val 65).toArray⟩ := by decide +kernel
theorem mulA {c n : Nat} (hc : c = 4 ∨ c = 5) (h : (wd n).length ≤ c) : Txt.mul (Str.ofString "A") ((c : Int) - ((wd n).length : Int)) ++ (⟨(wd n).toArray⟩ : Str) = ⟨(pw c n).toArray⟩ := by
  have e := mulA_at ⟨c - (wd n).length, by omega⟩
  dsimp only at e
  rw [show ((c : Int) - ((wd n).length : Int)) = ((c - (wd n).length : Nat) : Int) by omega, e]
  show (⟨(List.replicate (c - (wd n).length) 65).toArray ++ (wd n).toArray⟩ : Str) = _
  unfold pw
  simp
theorem lenA {c n : Nat} (hc : c = 4 ∨ c = 5) (h : (wd n).length ≤ c) : ¬ (((⟨(wd n).toArray⟩ : Str).length : Int) ≥ 2 ^ 63) := by
  have e : (⟨(wd n).toArray⟩ : Str).length = (wd n).length := List.size_toArray
  rw [e]; omega
theorem mulOkA {c n : Nat} (hc : c = 4 ∨ c = 5) (h : (wd n).length ≤ c) : MulOk (Str.ofString "A") ((c : Int) - ((wd n).length : Int)) := mulOk_of 16 1048576 (by decide) (by omega) (by omega) (by decide) (by decide)
theorem mulFit {c n : Nat} (hc : c = 4 ∨ c = 5) (h : (wd n).length ≤ c) (hl : (pw c n).length = c) : (Txt.mul (Str.ofString "A") ((c : Int) - ((wd n).length : Int))).length + (⟨(wd n).toArray⟩ : Str).length ≤ sizeLine := by
  have h1 := congrArg Str.length (mulA hc h)
  have e2 : (⟨(pw c n).toArray⟩ : Str).length = (pw c n).length := List.size_toArray
  have h2 : ∀ a b : Str, (a ++ b).length = a.length + b.length := fun a b => Array.size_append
  rw [h2, e2, hl] at h1
  rw [h1, sizeLine_eq]; omega
theorem still_ints (c n : Nat) : (List.filter (fun (i : Int) => (still c n).contains i.toNat) ((List.range c).map fun (i : Nat) => (0 : Int) + (i : Int))).map id = (still c n).map fun (x : Nat) => (x : Int) := by
  rw [List.map_id, List.filter_map]
  have e : (List.range c).filter ((fun (i : Int) => (still c n).contains i.toNat) ∘ fun (i : Nat) => (0 : Int) + (i : Int)) = still c n := by
    have : still c n = (List.range c).filter fun p => n / 16 ^ (c - 1 - p) % 16 == 1 := rfl
    conv => rhs; rw [this]
    refine List.filter_congr fun p hp => ?_
    have e0 : ((0 : Int) + (p : Int)).toNat = p := by omega
    simp only [Function.comp, e0]
    cases q : n / 16 ^ (c - 1 - p) % 16 == 1 with
    | true => rw [List.contains_iff_mem, this]; exact List.mem_filter.mpr ⟨hp, q⟩
    | false =>
      rw [Bool.eq_false_iff]
      intro h
      rw [List.contains_iff_mem, this] at h
      have := (List.mem_filter.mp h).2
      rw [q] at this; cases this
  rw [e]
  exact List.map_congr_left fun x _ => Int.zero_add _
end
section
theorem afresh_D1 : True := by
  w_top off
  trivial
section
variable {prog : Program} {w : World} {A : Around} {E : Value → Shared → Prop} {s : Shared} {env : Env} {H : Heap} {target : PySem.Expr} {body : List Stmt} {Q : Flow → Shared → Prop}
theorem turns_of {I : Addr} {fp wr : List Addr} {n : Nat} {P Md : Nat → Value → Heap → Prop} {St : Nat → Heap → Prop} {m : Str → Option Value} {news : List (Addr × Obj)} (W : KTurns prog w A target I fp wr n P Md St) (hst : St 0 s.heap) (F : Fr H env.locals s.heap m) (N : News H env.locals s.heap news)
    (hLf : env.locals ∉ fp) (hwr : ∀ b ∈ wr, H.get? b = none) (hex : ∀ i h, St i h → ∀ b ∈ fp, ∃ o, h.get? b = some o) (hnf : ∀ p ∈ news, p.1 ∉ fp) (J : Nat → (Str → Option Value) → List (Addr × Obj) → Prop) (h0 : J 0 m news)
    (turn : ∀ i v m₁ news₁ h₁ tk₁ own, i < n → P i v h₁ → J i m₁ news₁ → OwnOff own (news₁.map (·.1)) → Fr H env.locals h₁ m₁ → News H env.locals h₁ (news₁ ++ own) →
      wpAny (model prog w) A (assign target env v) (fun _ s₂ => wpAny (model prog w) A (execs body env) (fun f s₃ => f = .next ∧ ∃ h' tk m' news', s₃ = { s with heap := h', toks := tk } ∧ Fr H env.locals h' m' ∧ News H env.locals h' (news' ++ own) ∧ OwnOff own (news'.map (·.1)) ∧ J (i + 1) m' news') E s₂) E { s with heap := h₁, toks := tk₁ })
    (done : ∀ h' tk m' news', Fr H env.locals h' m' → News H env.locals h' news' → J n m' news' → Q .next { s with heap := h', toks := tk }) :
    TurnsAt prog w A H env target body Q E (.ref I) s := by
  refine ⟨I, fp, wr, n, P, Md, St, m, news, fun i m news => J i m news ∧ ∀ p ∈ news, p.1 ∉ fp, rfl, W, hLf, hwr, fun p hp h => hnf p hp (W.sub _ h), hst, F, N, ⟨h0, hnf⟩, ?_, ?_⟩
  · rintro i v m₁ news₁ h₁ tk₁ own hi hP ⟨hJ, hnf₁⟩ hnw hof hog hob st F₁ N₁
    have hoff : OwnOff own (news₁.map (·.1)) := by
      intro p hp b hb e
      obtain ⟨q, hq, rfl⟩ := List.mem_map.mp hb
      exact hnf₁ q hq (e ▸ hof p hp)
    refine wpAny_mono (turn i v m₁ news₁ h₁ tk₁ own hi hP hJ hoff F₁ (fun p hp => N₁ p (by rcases List.mem_append.mp hp with h | h; exact List.mem_append_right _ h; exact List.mem_append_left _ h))) (fun _ s₂ h₂ => wpAny_mono h₂ (fun f s₃ h₃ => ?_) fun _ _ e => e) fun _ _ e => e
    obtain ⟨rfl, h', tk, m', news', rfl, F', N', hoff', hJ'⟩ := h₃
    have hf : ∀ p ∈ news', p.1 ∉ fp := fun p hp hb => by
      have hpH : H.get? p.1 = none := (N' p (List.mem_append_left _ hp)).2.2
      obtain ⟨o, ho⟩ := hex _ _ st _ hb
      exact hoff' _ (hob _ hb hpH o ho) p.1 (List.mem_map_of_mem hp) rfl
    exact ⟨rfl, h', tk, m', news', rfl, F', fun p hp => N' p (by rcases List.mem_append.mp hp with h | h; exact List.mem_append_right _ h; exact List.mem_append_left _ h), fun p hp h => hf p hp (W.sub _ h), hJ', hf⟩
  · intro h' tk m' news' F' N' _ hJ
    exact done h' tk m' news' F' N' hJ.1
theorem for_zip {elts : List PySem.Expr} {kx : Nat} {pos : Pos} {l1 l2 : Addr} {a1 a2 : Array Value} {n1 n2 : Nat} {ns ms : List Int} {m : Str → Option Value} {news : List (Addr × Obj)}
    (hh : A.handled = none) (F : Fr H env.locals s.heap m) (N : News H env.locals s.heap news) (hl1 : s.heap.get? l1 = some (listOf a1 n1)) (hl2 : s.heap.get? l2 = some (listOf a2 n2)) (i1 : IntsAre a1.toList ns) (i2 : IntsAre a2.toList ms)
    (hL1 : env.locals ≠ l1) (hL2 : env.locals ≠ l2) (hn1 : ∀ p ∈ news, p.1 ≠ l1) (hn2 : ∀ p ∈ news, p.1 ≠ l2) (J : Nat → (Str → Option Value) → List (Addr × Obj) → Prop) (h0 : J 0 m news)
    (turn : ∀ i x y tx ty T m₁ news₁ h₁ tk₁ own, ns[i]? = some x → ms[i]? = some y → IsTup h₁ T #[.int x tx, .int y ty] → J i m₁ news₁ → OwnOff own (news₁.map (·.1)) → Fr H env.locals h₁ m₁ → News H env.locals h₁ (news₁ ++ own) →
      wpAny (model prog w) A (assign (.Tuple elts kx pos) env (.ref T)) (fun _ s₂ => wpAny (model prog w) A (execs body env) (fun f s₃ => f = .next ∧ ∃ h' tk m' news', s₃ = { s with heap := h', toks := tk } ∧ Fr H env.locals h' m' ∧ News H env.locals h' (news' ++ own) ∧ OwnOff own (news'.map (·.1)) ∧ J (i + 1) m' news') E s₂) E { s with heap := h₁, toks := tk₁ })
    (done : ∀ h' tk m' news', Fr H env.locals h' m' → News H env.locals h' news' → J (min ns.length ms.length) m' news' → Q .next { s with heap := h', toks := tk }) :
    wpAny (model prog w) A (call (.type "zip") [.ref l1, .ref l2]) (fun xv s₁ => wpAny (model prog w) A (pyIter xv) (fun it s₂ => TurnsAt prog w A H env (.Tuple elts kx pos) body Q E it s₂) E s₁) E s := by
  have hI1 : s.heap.IsList l1 a1 := ⟨_, hl1, rfl, n1, rfl⟩
  have hI2 : s.heap.IsList l2 a2 := ⟨_, hl2, rfl, n2, rfl⟩
  have hlt1 := Heap.lt_size hl1
  have hlt2 := Heap.lt_size hl2
  have hLs : env.locals < s.heap.objs.size := F.ns.lt
  have e1 : a1.size = ns.length := by rw [← i1.length]; simp
  have e2 : a2.size = ms.length := by rw [← i2.length]; simp
  refine call_zip_2 hI1 hI2 fun h' hz hTI hTO hi1 hi2 hsz hk => ?_
  refine wpAny_pyIter_zip hz ?_
  have W := KTurns.ofWalksU (elts := elts) (k := kx) (pos := pos) (WalksT.zip2 (prog := prog) (w := w) hh (s.heap.objs.size + 4) (s.heap.objs.size + 2) (s.heap.objs.size + 3) s.heap.objs.size (s.heap.objs.size + 1) l1 l2 (ktu_apart _ _ _ hlt1 hlt2) a1 a2).toU
  rw [e1, e2] at W
  refine turns_of W ⟨hz, hTI, ⟨_, _, hTO⟩, hi1, hi2, hI1.at fun o e => hk l1 o e, hI2.at fun o e => hk l2 o e⟩ (F.keeps hk) (N.grown hk) ?_ ?_ ?_ ?_ J h0 ?_ done
  · intro hI'
    have hb' : env.locals = s.heap.objs.size + 4 ∨ env.locals = s.heap.objs.size + 2 ∨ env.locals = s.heap.objs.size + 3 ∨ env.locals = s.heap.objs.size ∨ env.locals = s.heap.objs.size + 1 ∨ env.locals = l1 ∨ env.locals = l2 := by simpa using hI'
    rcases hb' with e | e | e | e | e | e | e
    · exact ktu_ne 4 hLs e
    · exact ktu_ne 2 hLs e
    · exact ktu_ne 3 hLs e
    · exact Nat.ne_of_lt hLs e
    · exact ktu_ne 1 hLs e
    · exact hL1 e
    · exact hL2 e
  · intro b hb
    have hb' : b = s.heap.objs.size + 4 ∨ b = s.heap.objs.size + 3 ∨ b = s.heap.objs.size ∨ b = s.heap.objs.size + 1 := by simpa using hb
    rcases hb' with rfl | rfl | rfl | rfl
    · exact ktu_new F (Nat.le_add_right _ _)
    · exact ktu_new F (Nat.le_add_right _ _)
    · exact ktu_new F (Nat.le_refl _)
    · exact ktu_new F (Nat.le_add_right _ _)
  · rintro i h ⟨q1, q2, ⟨_, _, q3⟩, ⟨o4, q4, _⟩, ⟨o5, q5, _⟩, ⟨o6, q6, _⟩, ⟨o7, q7, _⟩⟩ b hb
    have hb' : b = s.heap.objs.size + 4 ∨ b = s.heap.objs.size + 2 ∨ b = s.heap.objs.size + 3 ∨ b = s.heap.objs.size ∨ b = s.heap.objs.size + 1 ∨ b = l1 ∨ b = l2 := by simpa using hb
    rcases hb' with rfl | rfl | rfl | rfl | rfl | rfl | rfl
    · exact ⟨_, q1⟩
    · exact ⟨_, q2⟩
    · exact ⟨_, q3⟩
    · exact ⟨_, q4⟩
    · exact ⟨_, q5⟩
    · exact ⟨_, q6⟩
    · exact ⟨_, q7⟩
  · intro p hp hI'
    have hb' : p.1 = s.heap.objs.size + 4 ∨ p.1 = s.heap.objs.size + 2 ∨ p.1 = s.heap.objs.size + 3 ∨ p.1 = s.heap.objs.size ∨ p.1 = s.heap.objs.size + 1 ∨ p.1 = l1 ∨ p.1 = l2 := by simpa using hI'
    have hlp := Heap.lt_size (N p hp).1
    rcases hb' with e | e | e | e | e | e | e
    · exact ktu_ne 4 hlp e
    · exact ktu_ne 2 hlp e
    · exact ktu_ne 3 hlp e
    · exact Nat.ne_of_lt hlp e
    · exact ktu_ne 1 hlp e
    · exact hn1 p hp e
    · exact hn2 p hp e
  · rintro i v m₁ news₁ h₁ tk₁ own hi ⟨T, vals, rfl, ⟨x, y, hx, hy, rfl⟩, hT⟩ hJ hoff F₁ N₁
    obtain ⟨x', tx, rfl, ex⟩ := i1.at i x (by simpa using hx)
    obtain ⟨y', ty, rfl, ey⟩ := i2.at i y (by simpa using hy)
    exact turn i x' y' tx ty T m₁ news₁ h₁ tk₁ own ex ey hT hJ hoff F₁ N₁
theorem for_list {x : Str} {px : Pos} {l : Addr} {a : Array Value} {n1 : Nat} {ns : List Int} {m : Str → Option Value} {news : List (Addr × Obj)}
    (hh : A.handled = none) (F : Fr H env.locals s.heap m) (N : News H env.locals s.heap news) (hl : s.heap.get? l = some (listOf a n1)) (i1 : IntsAre a.toList ns)
    (hL : env.locals ≠ l) (J : Nat → (Str → Option Value) → List (Addr × Obj) → Prop) (hJ : ∀ i m news, J i m news → (l, listOf a n1) ∈ news) (h0 : J 0 m news)
    (turn : ∀ i x' tx m₁ news₁ h₁ tk₁ own, ns[i]? = some x' → J i m₁ news₁ → OwnOff own (news₁.map (·.1)) → Fr H env.locals h₁ m₁ → News H env.locals h₁ (news₁ ++ own) →
      wpAny (model prog w) A (assign (.Name x px) env (.int x' tx)) (fun _ s₂ => wpAny (model prog w) A (execs body env) (fun f s₃ => f = .next ∧ ∃ h' tk m' news', s₃ = { s with heap := h', toks := tk } ∧ Fr H env.locals h' m' ∧ News H env.locals h' (news' ++ own) ∧ OwnOff own (news'.map (·.1)) ∧ J (i + 1) m' news') E s₂) E { s with heap := h₁, toks := tk₁ })
    (done : ∀ h' tk m' news', Fr H env.locals h' m' → News H env.locals h' news' → J ns.length m' news' → Q .next { s with heap := h', toks := tk }) :
    wpAny (model prog w) A (pyIter (.ref l)) (fun it s₂ => TurnsAt prog w A H env (.Name x px) body Q E it s₂) E s := by
  have hI : s.heap.IsList l a := ⟨_, hl, rfl, n1, rfl⟩
  have hlt := Heap.lt_size hl
  have hLs : env.locals < s.heap.objs.size := F.ns.lt
  have e1 : a.size = ns.length := by rw [← i1.length]; simp
  refine wpAny_pyIter_list hI ?_
  have up : ∀ b o, s.heap.get? b = some o → (s.heap.push { cls := .type "list_iterator", data := .fields #[.ref l, .int 0 0] }).get? b = some o := fun b o e => Heap.get?_push_of_some _ e
  have W := Walks.list (prog := prog) (w := w) hh s.heap.objs.size l (Nat.ne_of_lt hlt) a
  rw [e1] at W
  refine ⟨s.heap.objs.size, _, _, _, _, _, _, m, news, J, rfl, KTurns.ofWalks (target := .Name x px) W fun i v s Q E _ hQ => wpAny_pure hQ, ?_, ?_, ?_, ⟨⟨_, Heap.get?_push_size _ rfl, rfl, rfl⟩, hI.at fun o e => up _ _ e⟩, F.keeps up, N.grown up, h0, ?_, fun h' tk m' news' F' N' _ hJ' => done h' tk m' news' F' N' hJ'⟩
  · intro h
    rcases List.mem_cons.mp h with e | h
    · exact Nat.ne_of_lt hLs e
    · exact hL (List.mem_singleton.mp h)
  · intro b hb
    rw [List.mem_singleton.mp hb]
    exact next_is_new F
  · intro p hp h
    exact Nat.ne_of_lt (Heap.lt_size (N p hp).1) (List.mem_singleton.mp h)
  · rintro i v m₁ news₁ h₁ tk₁ own hi hP hJ₁ hnw hof hog hob st F₁ N₁
    obtain ⟨x', tx, rfl, ex⟩ := i1.at i v (by simpa using hP)
    have hoff : OwnOff (own.filter fun p => decide (p.1 ≠ l)) (news₁.map (·.1)) := by
      intro p hp b hb e
      obtain ⟨hp1, hp2⟩ := List.mem_filter.mp hp
      have hp2 := of_decide_eq_true hp2
      obtain ⟨q, hq, rfl⟩ := List.mem_map.mp hb
      rcases List.mem_cons.mp (hof p hp1) with e2 | h
      · exact hnw q hq (by rw [← e, e2]; exact .head _)
      · exact hp2 (List.mem_singleton.mp h)
    refine wpAny_mono (turn i x' tx m₁ news₁ h₁ tk₁ _ ex hJ₁ hoff F₁ (fun p hp => N₁ p (by rcases List.mem_append.mp hp with h | h; exact List.mem_append_right _ h; exact List.mem_append_left _ (List.mem_filter.mp h).1))) (fun _ s₂ h₂ => wpAny_mono h₂ (fun f s₃ h₃ => ?_) fun _ _ e => e) fun _ _ e => e
    obtain ⟨rfl, h', tk, m', news', rfl, F', N', hoff', hJ'⟩ := h₃
    refine ⟨rfl, h', tk, m', news', rfl, F', fun p hp => ?_, fun p hp h => ?_, hJ'⟩
    · rcases List.mem_append.mp hp with h | h
      · by_cases e : p.1 = l
        · have g1 := hog p h
          have g2 := (N₁ _ (List.mem_append_right _ (hJ _ _ _ hJ₁))).1
          dsimp only at g2
          rw [e, g2] at g1
          have e3 : p = (l, listOf a n1) := by
            obtain ⟨p1, p2⟩ := p
            dsimp only at e g1
            cases g1; subst e; rfl
          rw [e3]
          exact N' _ (List.mem_append_left _ (hJ _ _ _ hJ'))
        · exact N' p (List.mem_append_right _ (List.mem_filter.mpr ⟨h, decide_eq_true e⟩))
      · exact N' p (List.mem_append_left _ h)
    · have hpH : H.get? p.1 = none := (N' p (List.mem_append_left _ hp)).2.2
      have ep := List.mem_singleton.mp h
      obtain ⟨⟨o, ho, _⟩, _⟩ := st
      have hm := hob _ (.head _) (by rw [← ep]; exact hpH) o ho
      exact hoff' _ (List.mem_filter.mpr ⟨hm, decide_eq_true (Ne.symm (Nat.ne_of_lt hlt))⟩) p.1 (List.mem_map_of_mem hp) ep.symm
end
end
section
theorem afresh_D2 : True := by
  w_top off
  trivial
noncomputable def gfold (ks : List Nat) (c n : Nat) (q : Nat × Nat) (mp : List Nat × List Nat) (j : Nat) : List Nat × List Nat := ((goesT (ks.getD q.1 0) (ks.getD q.2 0)).take j).foldl (fun mp g => addOne mp (lessOne c n q.1 q.2 g)) mp
noncomputable def GJ (w : World) (ks : List Nat) (c : Nat) (row : Array UInt8) (n : Nat) (q : Nat × Nat) (L M P DX D Lf : Addr) (b : Nat) (mp : List Nat × List Nat) (left : List Nat) (ent : Addr × Obj) (j : Nat) (m : Str → Option Value) (news : List (Addr × Obj)) : Prop :=
  ∃ mv n1 pv n2 oDX oD kvs lv n3 oc ow own, news = (M, listOf mv n1) :: (P, accO DX pv n2) :: (DX, oDX) :: (D, oD) :: (Lf, listOf lv n3) :: (L + 1, oc) :: (L + 1 + 1, ow) :: own ∧
    (∃ v, ow.data = .cell v) ∧ Img w ks c row L M P DX D Lf (b + j) (gfold ks c n q mp j).1 (gfold ks c n q mp j).2 left m mv pv oDX oD kvs lv oc ow own ∧
    (∃ t, m (Str.ofString "number") = some (.int (n : Int) t)) ∧ (∃ t, m (Str.ofString "one") = some (.int (q.1 : Int) t)) ∧ (∃ t, m (Str.ofString "other") = some (.int (q.2 : Int) t)) ∧ ent ∈ own
theorem sub_pow {n e : Nat} (h : 16 ^ e ≤ n) : (n : Int) - 16 ^ ((e : Nat) : Int).toNat = ((n - 16 ^ e : Nat) : Int) := by
  rw [Int.toNat_natCast]
  have : ((16 ^ e : Nat) : Int) = (16 : Int) ^ e := by simp
  omega
theorem any_cast (l : List Nat) (f : Nat) : ((l.map fun n => ((n : Nat) : Int)).any fun x => x == (f : Int)) = l.contains f := by
  induction l with
  | nil => rfl
  | cons a r ih =>
    rw [List.map_cons, List.any_cons, ih, List.contains_cons]
    congr 1
    by_cases h : a = f
    · subst h; simp
    · rw [beq_eq_false_iff_ne.mpr (by omega : (a : Int) ≠ (f : Int)), beq_eq_false_iff_ne.mpr (Ne.symm h)]
theorem gfold_succ (ks : List Nat) (c n : Nat) (q : Nat × Nat) (mp : List Nat × List Nat) {j : Nat} {x : Int} (hx : (goesT (ks.getD q.1 0) (ks.getD q.2 0))[j]? = some x) :
    gfold ks c n q mp (j + 1) = addOne (gfold ks c n q mp j) (lessOne c n q.1 q.2 x) := by
  unfold gfold
  rw [List.take_succ, hx, List.foldl_append]
  rfl
theorem gj_push {w : World} {ks : List Nat} {c : Nat} {row : Array UInt8} {n : Nat} {q : Nat × Nat} {H h : Heap} {L M P DX D Lf q' : Addr} {b : Nat} {mp : List Nat × List Nat} {left : List Nat} {j f : Nat} {m : Str → Option Value} {mv lv : Array Value} {pv : List Value} {n1 n2 n3 : Nat} {oDX oD oc ow lo : Obj} {l' : Addr} {kvs : List (Int × Value)} {tail own : List (Addr × Obj)} {ent : Addr × Obj} (hent : ent ∈ tail)
    {met pile : List Nat} {ta tb tf tc tr tn t1 t2 : Tok} {vw : Option Value}
    (_F : Fr H L h m) (hoff₁ : OwnOff tail [M, P, DX, D, Lf, L + 1, L + 1 + 1]) (hoff : OwnOff own (List.map (·.1) ((M, listOf mv n1) :: (P, accO DX pv n2) :: (DX, oDX) :: (D, oD) :: (Lf, listOf lv n3) :: (L + 1, oc) :: (L + 1 + 1, ow) :: tail)))
    (hqn : ∀ p ∈ (l', lo) :: (M, listOf (mv.push (.int (f : Int) tf)) (n1 + 1)) :: (P, accO DX pv n2) :: (DX, oDX) :: (D, oD) :: (Lf, listOf lv n3) :: (L + 1, oc) :: (L + 1 + 1, ow) :: (tail ++ own), p.1 ≠ q')
    (hmet : IntsAre mv.toList (met.map fun n => ((n : Nat) : Int))) (hpile : PileOK tail pile pv) (hplain : plainD oDX = true) (hdict : oD.IsDictOf (PySem.intKind PySem.Challenge.rw_xp0006_01.row.prog w) kvs) (hmeet : MeetOK tail ks kvs) (hleft : IntsAre lv.toList (left.map fun n => ((n : Nat) : Int)))
    (dc : oc.data = .cell (some (.int (c : Int) tc))) (dw : ow.data = .cell vw) (inM : ∀ n ∈ met, n ∈ nums c) (inP : ∀ n ∈ pile, n ∈ nums c) (hfn : f ∈ nums c) (hg : gfold ks c n q mp (j + 1) = (met ++ [f], pile ++ [f]))
    (hb1 : met.length ≤ b + j) (hb2 : pile.length ≤ b + j) (hb3 : kvs.length ≤ b + j) (hb4 : left.length ≤ b + j)
    (mrow : m (Str.ofString "row") = some (.bytes row tr)) (mmet : m (Str.ofString "met") = some (.ref M)) (mpile : m (Str.ofString "pile") = some (.ref P)) (mmeet : m (Str.ofString "meetings") = some (.ref D)) (mleft : m (Str.ofString "left") = some (.ref Lf))
    (mnum : m (Str.ofString "number") = some (.int (n : Int) tn)) (mone : m (Str.ofString "one") = some (.int (q.1 : Int) t1)) (moth : m (Str.ofString "other") = some (.int (q.2 : Int) t2))
    (N : News H L h ((q', { cls := .type "tuple", data := .seq #[.str (Str.ofString " ") ta, .str ⟨(List.map (·.toNat) (apGo 8 f [])).toArray⟩ tb] }) :: (l', lo) :: (M, listOf (mv.push (.int (f : Int) tf)) (n1 + 1)) :: (P, accO DX (pv ++ [.ref q']) (n2 + 1)) :: (DX, oDX) :: (D, oD) :: (Lf, listOf lv n3) :: (L + 1, oc) :: (L + 1 + 1, ow) :: (tail ++ own))) :
    ∃ news', News H L h (news' ++ own) ∧ OwnOff own (news'.map (·.1)) ∧ GJ w ks c row n q L M P DX D Lf b mp left ent (j + 1) m news' := by
  refine ⟨(M, listOf (mv.push (.int (f : Int) tf)) (n1 + 1)) :: (P, accO DX (pv ++ [.ref q']) (n2 + 1)) :: (DX, oDX) :: (D, oD) :: (Lf, listOf lv n3) :: (L + 1, oc) :: (L + 1 + 1, ow) :: (q', tupO f ta tb) :: tail, fun p hp => N p ?_, fun p hp a ha => ?_, _, _, _, _, oDX, oD, kvs, lv, n3, oc, ow, (q', tupO f ta tb) :: tail, rfl, ⟨_, dw⟩, ?_, ⟨tn, mnum⟩, ⟨t1, mone⟩, ⟨t2, moth⟩, .tail _ hent⟩
  · simp only [List.cons_append, List.mem_cons] at hp
    simp only [List.mem_cons]
    rcases hp with h | h | h | h | h | h | h | h | h
    · exact .inr (.inr (.inl h))
    · exact .inr (.inr (.inr (.inl h)))
    · exact .inr (.inr (.inr (.inr (.inl h))))
    · exact .inr (.inr (.inr (.inr (.inr (.inl h)))))
    · exact .inr (.inr (.inr (.inr (.inr (.inr (.inl h))))))
    · exact .inr (.inr (.inr (.inr (.inr (.inr (.inr (.inl h)))))))
    · exact .inr (.inr (.inr (.inr (.inr (.inr (.inr (.inr (.inl h))))))))
    · exact .inl h
    · exact .inr (.inr (.inr (.inr (.inr (.inr (.inr (.inr (.inr h))))))))
  · have hq : p.1 ≠ q' := hqn p (by simp [hp])
    simp only [List.map_cons, List.mem_cons] at ha
    have ho := hoff p hp a
    simp only [List.map_cons, List.mem_cons] at ho
    rcases ha with h | h | h | h | h | h | h | h | h
    · exact ho (.inl h)
    · exact ho (.inr (.inl h))
    · exact ho (.inr (.inr (.inl h)))
    · exact ho (.inr (.inr (.inr (.inl h))))
    · exact ho (.inr (.inr (.inr (.inr (.inl h)))))
    · exact ho (.inr (.inr (.inr (.inr (.inr (.inl h))))))
    · exact ho (.inr (.inr (.inr (.inr (.inr (.inr (.inl h)))))))
    · rw [h]; exact hq
    · exact ho (.inr (.inr (.inr (.inr (.inr (.inr (.inr h)))))))
  · have hqm := allNe_of hqn
    simp only [AllNe, and_true] at hqm
    rw [hg]
    refine ⟨fun p hp a ha => ?_, ?_, ?_, hplain, hdict, ?_, hleft, ⟨tc, dc⟩, ⟨tr, mrow⟩, mmet, mpile, mmeet, mleft, ?_, ?_, ?_, ?_, by omega, by omega⟩
    · rcases List.mem_cons.mp hp with rfl | hp
      · have := fun z hz => Ne.symm (hqn z hz)
        simp only [List.mem_cons, List.not_mem_nil, or_false] at ha
        rcases ha with rfl | rfl | rfl | rfl | rfl | rfl | rfl <;> exact Ne.symm (hqn (_, _) (by simp only [List.mem_cons, Prod.mk.injEq, true_and]; first | exact .inr (.inl rfl) | exact .inr (.inr (.inl rfl)) | exact .inr (.inr (.inr (.inl rfl))) | exact .inr (.inr (.inr (.inr (.inl rfl)))) | exact .inr (.inr (.inr (.inr (.inr (.inl rfl))))) | exact .inr (.inr (.inr (.inr (.inr (.inr (.inl rfl)))))) | exact .inr (.inr (.inr (.inr (.inr (.inr (.inr (.inl rfl)))))))))
      · exact hoff₁ p hp a ha
    · rw [Array.toList_push, List.map_append]
      exact hmet.append (.cons _ _ .nil)
    · exact Paired.snoc (paired_mono (fun a v h => by obtain ⟨q, u, v, e, hm⟩ := h; exact ⟨q, u, v, e, .tail _ hm⟩) hpile) ⟨q', ta, tb, rfl, .head _⟩
    · intro one other v h1 h2 hv
      obtain ⟨a, vs, n, e1, e2, e3⟩ := hmeet one other v h1 h2 hv
      exact ⟨a, vs, n, e1, .tail _ e2, e3⟩
    · intro x hx
      rcases List.mem_append.mp hx with hx | hx
      · exact inM x hx
      · rw [List.mem_singleton.mp hx]; exact hfn
    · intro x hx
      rcases List.mem_append.mp hx with hx | hx
      · exact inP x hx
      · rw [List.mem_singleton.mp hx]; exact hfn
    · simp only [List.length_append, List.length_cons, List.length_nil]; omega
    · simp only [List.length_append, List.length_cons, List.length_nil]; omega
theorem left_goes {w : World} {ks : List Nat} {c : Nat} (hc : c = 4 ∨ c = 5) {row : Array UInt8}
    {oc' : Value} {od : Option Addr} {osl : Array (Option Value)} {name : Str} {params : Arguments} {scope : Scope} {pm cdv doc : Value} {s0 s1 s2 s3 s4 s5 s7 b0 b1 b2 b3 b4 z0 z1 : Stmt} {test tgt1 it1 tgt2 it2 : PySem.Expr} {gbody : List Stmt} {wpos p1 p2 : Pos}
    (ho : (Mine.hd.heap_39 w.params).lookup 148 = some ⟨oc', od, .func (Calls.docDef name params [s0, s1, s2, s3, s4, s5, .While test [b0, b1, b2, b3, b4, .For tgt1 it1 [z0, z1, .For tgt2 it2 gbody [] p2] [] p1] [] wpos, s7] scope pm cdv doc), osl⟩)
    {A : Around} (hA : A.handled = none) (hd : A.depth + 40 < 600) (hu : A.units + 200 < 6000) {H : Heap} {L : Addr} (X : (Mine.hd.heap_39 w.params).In H) {mean : ExcName → Option Value} {mg mb : Str → Option Value} (T : Top Mine.hd.view_39 LO mean mg mb H)
    {M P DX D Lf : Addr} (lay : Lay L M P DX D Lf) {s : Shared} {h₁ : Heap} {tk₁ j : Nat} {m : Str → Option Value} {E : Value → Shared → Prop} {n : Nat} (hn : n ∈ nums c) {q : Nat × Nat} (hq1 : q.1 ∈ still c n) (hq2 : q.2 ∈ still c n) {x' : Int} {tx : Tok}
    (hx : (goesT (ks.getD q.1 0) (ks.getD q.2 0))[j]? = some x') {b : Nat} (hb : b + j ≤ 2000) {mp : List Nat × List Nat} {left : List Nat} {ent : Addr × Obj} {news own : List (Addr × Obj)} (J : GJ w ks c row n q L M P DX D Lf b mp left ent j m news) (hoff : OwnOff own (news.map (·.1))) (F : Fr H L h₁ m) (N : News H L h₁ (news ++ own)) :
    wpAny (model PySem.Challenge.rw_xp0006_01.row.prog w) (A.deeper (envOfC name scope L 148 cdv)) (assign tgt2 (envOfC name scope L 148 cdv) (.int x' tx)) (fun _ s₂ =>
      wpAny (model PySem.Challenge.rw_xp0006_01.row.prog w) (A.deeper (envOfC name scope L 148 cdv)) (execs gbody (envOfC name scope L 148 cdv)) (fun f s₃ => f = .next ∧ ∃ h' tk m' news', s₃ = { s with heap := h', toks := tk } ∧ Fr H L h' m' ∧ News H L h' (news' ++ own) ∧ OwnOff own (news'.map (·.1)) ∧ GJ w ks c row n q L M P DX D Lf b mp left ent (j + 1) m' news') E s₂) E { s with heap := h₁, toks := tk₁ } := by
  obtain ⟨hh, dp, fr, gd, un⟩ := A
  dsimp only at hA hd hu
  subst hA
  revert X; k_fill; intro X
  have e := ho.symm.trans (show (Mine.hd.heap_39 w.params).lookup 148 = some _ from by k_is)
  cases e
  obtain ⟨mv, n1, pv, n2, oDX, oD, kvs, lv, n3, oc, ow, tail, rfl, ⟨vw, dw⟩, I, ⟨tn, mnum⟩, ⟨t1, mone⟩, ⟨t2, moth⟩, hent⟩ := J
  obtain ⟨hoff₁, hmet, hpile, hplain, hdict, hmeet, hleft, ⟨tc, dc⟩, ⟨tr, mrow⟩, mmet, mpile, mmeet, mleft, inM, inP, hb1, hb2, hb3, hb4⟩ := I
  have hc5 : c ≤ 5 := by rcases hc with rfl | rfl <;> decide
  have num := num_ok hc hn
  obtain ⟨lo, d1, d2, d3, d4, d5⟩ := lay
  have em := kst_eq (m := m) [(Str.ofString "row", _), (Str.ofString "met", _), (Str.ofString "pile", _), (Str.ofString "meetings", _), (Str.ofString "left", _), (Str.ofString "number", _), (Str.ofString "one", _), (Str.ofString "other", _)] (by intro p hp; simp only [List.mem_cons, List.not_mem_nil, or_false] at hp; rcases hp with rfl | rfl | rfl | rfl | rfl | rfl | rfl | rfl <;> assumption)
  have F₁ := F
  rw [← em] at F₁
  clear F
  have N₁ : News H L h₁ ((M, listOf mv n1) :: (P, accO DX pv n2) :: (DX, oDX) :: (D, oD) :: (Lf, listOf lv n3) :: (L + 1, oc) :: (L + 1 + 1, ow) :: (tail ++ own)) := N
  clear N
  have hoff₂ : OwnOff (tail ++ own) [M, P, DX, D, Lf, L + 1, L + 1 + 1] := fun p hp a ha => by
    rcases List.mem_append.mp hp with h | h
    · exact hoff₁ p h a ha
    · exact hoff p h a (by simp only [List.map_cons]; simp only [List.mem_cons, List.not_mem_nil, or_false] at ha ⊢; rcases ha with h | h | h | h | h | h | h <;> simp [h])
  have hx01 : x' = 0 ∨ x' = 1 := by
    have hm := List.mem_of_getElem? hx
    unfold goesT at hm
    split at hm
    · simpa using hm
    · split at hm
      · left; simpa using hm
      · right; simpa using hm
  iterate 25 (first | walk1 | (dsimp only; walk1))
  have hy : ∃ y : Nat, y ∈ still c n ∧ ([(q.1 : Int), (q.2 : Int)].getD x'.toNat 0) = (y : Int) ∧ lessOne c n q.1 q.2 x' = n - 16 ^ (c - 1 - y) := by
    rcases hx01 with rfl | rfl
    · exact ⟨q.1, hq1, rfl, rfl⟩
    · exact ⟨q.2, hq2, rfl, rfl⟩
  obtain ⟨y, hys, ey, el⟩ := hy
  have hyc := num.less y hys
  rw [ey, show ((c : Int) - 1 - (y : Int)) = ((c - 1 - y : Nat) : Int) by omega]
  refine pow16 (by omega) ?_
  dsimp only
  iterate 1 walk1
  rw [show (n : Int) - 16 ^ ((c - 1 - y : Nat) : Int).toNat = ((lessOne c n q.1 q.2 x' : Nat) : Int) by rw [el]; exact sub_pow hyc.2.1]
  (repeat ((with_reducible show wpAny _ _ _ _ _ _); first | walk1 | (dsimp only; walk1)))
  rw [any_cast]
  have hg := gfold_succ ks c n q mp hx
  generalize hf : lessOne c n q.1 q.2 x' = f at *
  have hfn : f ∈ nums c := by rw [el]; exact hyc.1
  unfold addOne at hg
  cases hct : (gfold ks c n q mp j).1.contains f with
  | true =>
    rw [hct, if_pos rfl] at hg
    rw [if_neg (by decide)]
    (repeat ((with_reducible show wpAny _ _ _ _ _ _); first | walk1 | (dsimp only; walk1)))
    with_reducible rename Fr _ _ _ _ => F₂
    with_reducible rename News _ _ _ _ => N₂
    refine ⟨rfl, _, _, _, (M, listOf mv n1) :: (P, accO DX pv n2) :: (DX, oDX) :: (D, oD) :: (Lf, listOf lv n3) :: (L + 1, oc) :: (L + 1 + 1, ow) :: tail, rfl, F₂, fun p hp => N₂ p (List.mem_cons_of_mem _ hp), hoff, mv, n1, pv, n2, oDX, oD, kvs, lv, n3, oc, ow, tail, rfl, ⟨_, dw⟩, ?_, ⟨tn, rfl⟩, ⟨t1, rfl⟩, ⟨t2, rfl⟩, hent⟩
    rw [hg]
    exact ⟨hoff₁, hmet, hpile, hplain, hdict, hmeet, hleft, ⟨tc, dc⟩, ⟨tr, rfl⟩, rfl, rfl, rfl, rfl, inM, inP, by omega, by omega, by omega, by omega⟩
  | false =>
    rw [hct, if_neg (by decide)] at hg
    rw [if_pos (by decide)]
    iterate 15 (first | walk1 | (dsimp only; walk1))
    with_reducible rename Fr _ _ _ _ => F₂
    with_reducible rename News _ _ _ _ => N₂
    have hpD := hplain
    unfold plainD at hpD
    simp only [Bool.and_eq_true, beq_iff_eq] at hpD
    have gP := (N₂ _ (.tail _ (.tail _ (.head _)))).1
    have gDX := (N₂ _ (.tail _ (.tail _ (.tail _ (.head _))))).1
    refine method_any (T := "function") (X.keeps F₂.keep) ⟨gP, rfl, rfl, gDX⟩ (by k_is) (by decide +kernel) (by k_is) (by k_is) (by first | k_is | kernel_rfl) (.inl rfl) hpD.1.2 ?_
    dsimp only
    (repeat ((with_reducible show wpAny _ _ _ _ _ _); first | walk1 | (dsimp only; walk1)))
    refine ⟨X.keeps F₂.keep, ?_⟩
    refine Call0.use (letters_call (n := f) (num_ok hc hfn).small) (by exact F₂) (by exact N₂) (by assumption) (by assumption) (by simp only [depth_deeper]; omega) (by simp only [units_deeper]; omega) ?_
    rintro _ h₉ tk₉ k₉ F₉ N₉ ⟨tw, rfl⟩
    clear F₂ N₂ gP gDX
    dsimp only at F₉ N₉ ⊢
    (repeat ((with_reducible show wpAny _ _ _ _ _ _); first | walk1 | (dsimp only; walk1)))
    refine ⟨X.keeps F₉.keep, ?_⟩
    have hmv : mv.size = (gfold ks c n q mp j).1.length := by have := hmet.length; simpa using this
    refine push_call rfl (by simp only [depth_deeper]; omega) (by simp only [units_deeper]; omega) ⟨X.keeps F₉.keep, mean, mg, mb, T.keeps F₉.keep⟩ (N₉ _ (.tail _ (.tail _ (.head _)))).1 (N₉ _ (.tail _ (.tail _ (.tail _ (.head _))))).1 hplain ?_ ?_
    · have := paired_len hpile
      rw [sizeLine_eq]; omega
    intro q' h₁₀ tk₁₀ hq0 hPg' hqg k₁₀
    obtain ⟨F₁₀, N₁₀'⟩ := chgNews F₉ N₉ (by k_updF) hPg' k₁₀
    have hqn := newsNe N₉ hq0
    have N₁₀ := newsAdd F₉ N₁₀' hq0 hqg
    clear N₁₀'
    dsimp only at F₁₀ N₁₀ ⊢
    (repeat ((with_reducible show wpAny _ _ _ _ _ _); first | walk1 | (dsimp only; walk1)))
    with_reducible rename Fr _ _ _ _ => F₂
    with_reducible rename News _ _ _ _ => N₂
    obtain ⟨news', a1, a2, a3⟩ := gj_push (w := w) (row := row) (mp := mp) (j := j) (b := b) (q := q) hent F₂ hoff₁ hoff hqn hmet hpile hplain hdict hmeet hleft dc dw inM inP hfn hg hb1 hb2 hb3 hb4 rfl rfl rfl rfl rfl rfl rfl rfl N₂
    exact ⟨rfl, _, _, _, news', rfl, F₂, a1, a2, a3⟩
end
section
theorem afresh_D3 : True := by
  w_top off
  trivial
noncomputable def rowOf (cs : List (Nat × Nat × Nat)) : Array UInt8 := (cs.flatMap fun x => (colB x).toList).toArray
theorem pick_col {cs : List (Nat × Nat × Nat)} {c : Nat} (hc : c = 4 ∨ c = 5) (hlen : cs.length = c) {i : Nat} (hi : i < c) : KBy.picked (rowOf cs) (some (3 * (i : Int))) (some (3 * (i : Int) + 3)) = colB (cs.getD i (0, 0, 0)) := by
  rcases hc with rfl | rfl
  · match cs, hlen with
    | [a0, a1, a2, a3], _ =>
      have := (by decide : ∀ i < 4, i = 0 ∨ i = 1 ∨ i = 2 ∨ i = 3) i hi
      rcases this with rfl | rfl | rfl | rfl <;> rfl
  · match cs, hlen with
    | [a0, a1, a2, a3, a4], _ =>
      have := (by decide : ∀ i < 5, i = 0 ∨ i = 1 ∨ i = 2 ∨ i = 3 ∨ i = 4) i hi
      rcases this with rfl | rfl | rfl | rfl | rfl <;> rfl
theorem row_size (cs : List (Nat × Nat × Nat)) : (rowOf cs).size = 3 * cs.length := by
  unfold rowOf
  rw [List.size_toArray]
  induction cs with
  | nil => rfl
  | cons a r ih => rw [List.flatMap_cons, List.length_append, ih, List.length_cons]; show 3 + _ = _; omega
theorem kind_at (cs : List (Nat × Nat × Nat)) (i : Nat) : (cs.map (·.1)).getD i 0 = (cs.getD i (0, 0, 0)).1 := by
  simp only [List.getD_eq_getElem?_getD, List.getElem?_map]
  cases cs[i]? <;> rfl
theorem col_at {cs : List (Nat × Nat × Nat)} (hcs : ∀ x ∈ cs, ColOK x) {i : Nat} (hi : i < cs.length) : ColOK (cs.getD i (0, 0, 0)) := by
  rw [List.getD_eq_getElem?_getD, List.getElem?_eq_getElem hi]
  exact hcs _ (List.getElem_mem hi)
noncomputable def zfold (ks : List Nat) (c n : Nat) (mp : List Nat × List Nat) (i : Nat) : List Nat × List Nat := ((pairsOf' (still c n)).take i).foldl (goStep ks c n) mp
theorem zfold_succ (ks : List Nat) (c n : Nat) (mp : List Nat × List Nat) {i : Nat} {q : Nat × Nat} (h : (pairsOf' (still c n))[i]? = some q) :
    zfold ks c n mp (i + 1) = gfold ks c n q (zfold ks c n mp i) (goesT (ks.getD q.1 0) (ks.getD q.2 0)).length := by
  unfold zfold gfold
  rw [List.take_succ, h, List.foldl_append, List.take_length]
  rfl
theorem pair_mem {st : List Nat} {i : Nat} {q : Nat × Nat} (h : (pairsOf' st)[i]? = some q) : q.1 ∈ st ∧ q.2 ∈ st := by
  have hm := List.mem_of_getElem? h
  unfold pairsOf' at hm
  have := List.of_mem_zip hm
  exact ⟨this.1, List.mem_of_mem_tail this.2⟩
theorem goes_len (a b : Nat) : (goesT a b).length ≤ 2 := by
  unfold goesT
  split
  · decide
  · split <;> decide
noncomputable def ZJ (w : World) (ks : List Nat) (c : Nat) (row : Array UInt8) (n : Nat) (L M P DX D Lf : Addr) (b : Nat) (mp : List Nat × List Nat) (left : List Nat) (i : Nat) (m : Str → Option Value) (news : List (Addr × Obj)) : Prop :=
  ∃ mv n1 pv n2 oDX oD kvs lv n3 oc ow own, news = (M, listOf mv n1) :: (P, accO DX pv n2) :: (DX, oDX) :: (D, oD) :: (Lf, listOf lv n3) :: (L + 1, oc) :: (L + 1 + 1, ow) :: own ∧
    (∃ v, ow.data = .cell v) ∧ Img w ks c row L M P DX D Lf (b + 3 * i) (zfold ks c n mp i).1 (zfold ks c n mp i).2 left m mv pv oDX oD kvs lv oc ow own ∧ (∃ t, m (Str.ofString "number") = some (.int (n : Int) t))
theorem valueAt_snoc_same {kvs : List (Int × Value)} {k : Int} {v : Value} (h : (valueAt kvs k).isSome = false) : valueAt (kvs ++ [(k, v)]) k = some v := by
  unfold valueAt at h ⊢
  rw [List.find?_append]
  have h' : kvs.find? (fun kv => decide (kv.1 = k)) = none := by
    cases e : kvs.find? (fun kv => decide (kv.1 = k)) with
    | none => rfl
    | some x => rw [e] at h; cases h
  rw [h']
  simp
theorem valueAt_snoc_other {kvs : List (Int × Value)} {k k' : Int} (v : Value) (h : k' ≠ k) : valueAt (kvs ++ [(k, v)]) k' = valueAt kvs k' := by
  unfold valueAt
  rw [List.find?_append]
  simp [Ne.symm h]
theorem stored_new {kvs : List (Int × Value)} {k : Int} {v : Value} (h : (valueAt kvs k).isSome = false) : stored kvs k v = kvs ++ [(k, v)] := by
  unfold stored
  unfold valueAt at h
  have h' : ∀ x, (k, x) ∉ kvs := fun x hx => by
    have : (kvs.find? fun kv => decide (kv.1 = k)).isSome = true := by
      rw [List.find?_isSome]
      exact ⟨_, hx, by simp⟩
    rw [Option.isSome_map] at h
    rw [this] at h; cases h
  simp [h']
theorem left_pair {w : World} {cs : List (Nat × Nat × Nat)} {c : Nat} (hc : c = 4 ∨ c = 5) (hlen : cs.length = c) (hcs : ∀ x ∈ cs, ColOK x)
    {oc' : Value} {od : Option Addr} {osl : Array (Option Value)} {name : Str} {params : Arguments} {scope : Scope} {pm cdv doc : Value} {s0 s1 s2 s3 s4 s5 s7 b0 b1 b2 b3 b4 : Stmt} {test tgt1 it1 : PySem.Expr} {pbody : List Stmt} {wpos p1 : Pos}
    (ho : (Mine.hd.heap_39 w.params).lookup 148 = some ⟨oc', od, .func (Calls.docDef name params [s0, s1, s2, s3, s4, s5, .While test [b0, b1, b2, b3, b4, .For tgt1 it1 pbody [] p1] [] wpos, s7] scope pm cdv doc), osl⟩)
    {A : Around} (hA : A.handled = none) (hd : A.depth + 40 < 600) (hu : A.units + 200 < 6000) {H : Heap} {L : Addr} (X : (Mine.hd.heap_39 w.params).In H) {mean : ExcName → Option Value} {mg mb : Str → Option Value} (T : Top Mine.hd.view_39 LO mean mg mb H)
    {M P DX D Lf : Addr} (lay : Lay L M P DX D Lf) {s : Shared} {h₁ : Heap} {tk₁ i : Nat} {m : Str → Option Value} {E : Value → Shared → Prop} {n : Nat} (hn : n ∈ nums c) {q : Nat × Nat} (hi : (pairsOf' (still c n))[i]? = some q) {Ta : Addr} {tx ty : Tok}
    (hT : IsTup h₁ Ta #[.int (q.1 : Int) tx, .int (q.2 : Int) ty]) {b : Nat} (hb : b + 3 * i ≤ 1900) {mp : List Nat × List Nat} {left : List Nat} {news own : List (Addr × Obj)} (J : ZJ w (cs.map (·.1)) c (rowOf cs) n L M P DX D Lf b mp left i m news) (hoff : OwnOff own (news.map (·.1))) (F : Fr H L h₁ m) (N : News H L h₁ (news ++ own)) :
    wpAny (model PySem.Challenge.rw_xp0006_01.row.prog w) (A.deeper (envOfC name scope L 148 cdv)) (assign tgt1 (envOfC name scope L 148 cdv) (.ref Ta)) (fun _ s₂ =>
      wpAny (model PySem.Challenge.rw_xp0006_01.row.prog w) (A.deeper (envOfC name scope L 148 cdv)) (execs pbody (envOfC name scope L 148 cdv)) (fun f s₃ => f = .next ∧ ∃ h' tk m' news', s₃ = { s with heap := h', toks := tk } ∧ Fr H L h' m' ∧ News H L h' (news' ++ own) ∧ OwnOff own (news'.map (·.1)) ∧ ZJ w (cs.map (·.1)) c (rowOf cs) n L M P DX D Lf b mp left (i + 1) m' news') E s₂) E { s with heap := h₁, toks := tk₁ } := by
  obtain ⟨hh, dp, fr, gd, un⟩ := A
  dsimp only at hA hd hu
  subst hA
  revert X; k_fill; intro X
  have e := ho.symm.trans (show (Mine.hd.heap_39 w.params).lookup 148 = some _ from by k_is)
  cases e
  obtain ⟨mv, n1, pv, n2, oDX, oD, kvs, lv, n3, oc, ow, tail, rfl, ⟨vw, dw⟩, I, ⟨tn, mnum⟩⟩ := J
  obtain ⟨hoff₁, hmet, hpile, hplain, hdict, hmeet, hleft, ⟨tc, dc⟩, ⟨tr, mrow⟩, mmet, mpile, mmeet, mleft, inM, inP, hb1, hb2, hb3, hb4⟩ := I
  have hc5 : c ≤ 5 := by rcases hc with rfl | rfl <;> decide
  have num := num_ok hc hn
  obtain ⟨lo, d1, d2, d3, d4, d5⟩ := id lay
  have em := kst_eq (m := m) [(Str.ofString "row", _), (Str.ofString "met", _), (Str.ofString "pile", _), (Str.ofString "meetings", _), (Str.ofString "left", _), (Str.ofString "number", _)] (by intro p hp; simp only [List.mem_cons, List.not_mem_nil, or_false] at hp; rcases hp with rfl | rfl | rfl | rfl | rfl | rfl <;> assumption)
  have F₁ := F
  rw [← em] at F₁
  clear F
  have N₁ : News H L h₁ ((M, listOf mv n1) :: (P, accO DX pv n2) :: (DX, oDX) :: (D, oD) :: (Lf, listOf lv n3) :: (L + 1, oc) :: (L + 1 + 1, ow) :: (tail ++ own)) := N
  clear N
  have hoff₂ : OwnOff (tail ++ own) [M, P, DX, D, Lf, L + 1, L + 1 + 1] := fun p hp a ha => by
    rcases List.mem_append.mp hp with h | h
    · exact hoff₁ p h a ha
    · exact hoff p h a (by simp only [List.map_cons]; simp only [List.mem_cons, List.not_mem_nil, or_false] at ha ⊢; rcases ha with h | h | h | h | h | h | h <;> simp [h])
  have hq := pair_mem hi
  have hq1 := (num.less _ hq.1).2.2
  have hq2 := (num.less _ hq.2).2.2
  refine unpackN_ (by exact F₁) (by exact N₁) hT (by exact rfl) (by exact rfl) (by exact rfl) ?_
  intro h₂ F₂ N₂
  clear F₁ N₁ hT
  dsimp only
  iterate 19 (first | walk1 | (dsimp only; walk1))
  with_reducible rename Fr _ _ _ _ => F₃
  with_reducible rename News _ _ _ _ => N₃
  obtain ⟨m₃, F₃, mrow, mmet, mpile, mmeet, mleft, mnum, ⟨t1, mone⟩, ⟨t2, moth⟩, ⟨t3, mkey⟩⟩ : ∃ m₃, Fr H L _ m₃ ∧ m₃ (Str.ofString "row") = some (.bytes (rowOf cs) tr) ∧ m₃ (Str.ofString "met") = some (.ref M) ∧ m₃ (Str.ofString "pile") = some (.ref P) ∧ m₃ (Str.ofString "meetings") = some (.ref D) ∧ m₃ (Str.ofString "left") = some (.ref Lf) ∧ m₃ (Str.ofString "number") = some (.int (n : Int) tn) ∧
    (∃ t, m₃ (Str.ofString "one") = some (.int (q.1 : Int) t)) ∧ (∃ t, m₃ (Str.ofString "other") = some (.int (q.2 : Int) t)) ∧ (∃ t, m₃ (Str.ofString "key") = some (.int (8 * (q.1 : Int) + (q.2 : Int)) t)) := ⟨_, F₃, rfl, rfl, rfl, rfl, rfl, rfl, ⟨_, rfl⟩, ⟨_, rfl⟩, ⟨_, rfl⟩⟩
  have em₃ := kst_eq (m := m₃) [(Str.ofString "row", _), (Str.ofString "met", _), (Str.ofString "pile", _), (Str.ofString "meetings", _), (Str.ofString "left", _), (Str.ofString "number", _), (Str.ofString "one", _), (Str.ofString "other", _), (Str.ofString "key", _)] (by intro p hp; simp only [List.mem_cons, List.not_mem_nil, or_false] at hp; rcases hp with rfl | rfl | rfl | rfl | rfl | rfl | rfl | rfl | rfl <;> assumption)
  clear em
  refine wpAny_mono (Q := fun f s₂ => f = .next ∧ ∃ h₂ tk₂ oD' kvs' tail', s₂ = { s with heap := h₂, toks := tk₂ } ∧ Fr H L h₂ m₃ ∧ News H L h₂ ((M, listOf mv n1) :: (P, accO DX pv n2) :: (DX, oDX) :: (D, oD') :: (Lf, listOf lv n3) :: (L + 1, oc) :: (L + 1 + 1, ow) :: (tail' ++ own)) ∧
    OwnOff tail' [M, P, DX, D, Lf, L + 1, L + 1 + 1] ∧ OwnOff own (tail'.map (·.1)) ∧ (∀ p ∈ tail, p ∈ tail') ∧ oD'.IsDictOf (PySem.intKind PySem.Challenge.rw_xp0006_01.row.prog w) kvs' ∧ MeetOK tail' (cs.map (·.1)) kvs' ∧ (valueAt kvs' (8 * (q.1 : Int) + (q.2 : Int))).isSome = true ∧ kvs'.length ≤ kvs.length + 1) (E := fun _ _ => False) ?_ ?_ (fun _ _ q => q.elim)
  · rw [← em₃] at F₃
    iterate 4 (first | walk1 | (dsimp only; walk1))
    refine kdg_notin (knd := PySem.intKind _ _) (by exact N₃) (.tail _ (.tail _ (.tail _ (.head _)))) hdict lo (intKind_is _ _ _ _) (valueAt kvs (8 * (q.1 : Int) + (q.2 : Int))).isSome rfl ?_
    dsimp only
    cases hv : (valueAt kvs (8 * (q.1 : Int) + (q.2 : Int))).isSome with
    | true =>
      walk1
      rw [if_neg (by decide)]
      (repeat ((with_reducible show wpAny _ _ _ _ _ _); first | walk1 | (dsimp only; walk1)))
      rw [em₃] at F₃
      exact ⟨rfl, _, _, oD, kvs, tail, rfl, F₃, N₃, hoff₁, fun p hp a ha => hoff p hp a (by simp only [List.map_cons, List.mem_cons]; exact .inr (.inr (.inr (.inr (.inr (.inr (.inr ha))))))), fun _ h => h, hdict, hmeet, hv, Nat.le_succ _⟩
    | false =>
      walk1
      rw [if_pos (by decide)]
      (repeat ((with_reducible show wpAny _ _ _ _ _ _); first | walk1 | (dsimp only; walk1)))
      have hrz : (KBw.bInts (rowOf cs)).length ≤ 16777216 := by rw [KBw.ints_length, row_size]; omega
      with_reducible rename Fr _ _ _ _ => F₄
      with_reducible rename News _ _ _ _ => N₄
      refine KBc.slice_K (s := ⟨_, _, _, _, _⟩) F₄ N₄ (ks := KBw.bInts (rowOf cs)) rfl (by constructor) (by constructor) hrz ?_
      clear F₄ N₄
      intro h₅ t₅ k₅ F₅ N₅ _
      rw [pick_col hc hlen hq1]
      dsimp only
      (repeat ((with_reducible show wpAny _ _ _ _ _ _); first | walk1 | (dsimp only; walk1)))
      with_reducible rename Fr _ _ _ _ => F₄
      with_reducible rename News _ _ _ _ => N₄
      refine KBc.slice_K (s := ⟨_, _, _, _, _⟩) F₄ N₄ (ks := KBw.bInts (rowOf cs)) rfl (by constructor) (by constructor) hrz ?_
      clear F₄ N₄
      intro h₆ t₆ k₆ F₆ N₆ _
      rw [pick_col hc hlen hq2]
      dsimp only
      (repeat ((with_reducible show wpAny _ _ _ _ _ _); first | walk1 | (dsimp only; walk1)))
      refine ⟨X.keeps F₆.keep, ?_⟩
      refine Call0.use (goes_col (col_at hcs (hlen ▸ hq1)) (col_at hcs (hlen ▸ hq2))) (by exact F₆) (by exact N₆) (by assumption) (by assumption) (by simp only [depth_deeper]; omega) (by simp only [units_deeper]; omega) ?_
      rintro _ h₇ tk₇ k₇ F₇ N₇ ⟨G, vs, nG, rfl, hG0, hGg, hGi⟩
      have N₈ := newsAdd F₆ N₇ hG0 hGg
      have hGn := newsNe N₆ hG0
      clear N₇
      dsimp only at F₇ N₈ ⊢
      iterate 2 (first | walk1 | (dsimp only; walk1))
      have hGm := allNe_of hGn
      simp only [AllNe, and_true] at hGm
      refine kda_set (knd := PySem.intKind _ _) (by exact F₇) (by exact N₈) (by k_updF) hdict (intKind_is _ _ _ _) (by rw [sizeLine_eq]; clear hGm; omega) ?_
      intro h₈ oD' F₈ N₉ hd'
      dsimp only at F₈ N₉ ⊢
      (repeat ((with_reducible show wpAny _ _ _ _ _ _); first | walk1 | (dsimp only; walk1)))
      rw [em₃] at F₈
      rw [stored_new hv] at hd'
      have hGo : ∀ p ∈ tail ++ own, p.1 ≠ G := fun p hp => hGn p (by simp only [List.mem_cons]; exact .inr (.inr (.inr (.inr (.inr (.inr (.inr hp)))))))
      refine ⟨rfl, _, _, oD', _, (G, listOf vs nG) :: tail, rfl, F₈, fun p hp => N₉ p ?_, ?_, ?_, fun p hp => .tail _ hp, hd', ?_, ?_, ?_⟩
      · simp only [List.cons_append, List.mem_cons] at hp
        simp only [List.mem_cons]
        rcases hp with h | h | h | h | h | h | h | h | h
        · exact .inr (.inl h)
        · exact .inr (.inr (.inl h))
        · exact .inr (.inr (.inr (.inl h)))
        · exact .inr (.inr (.inr (.inr (.inl h))))
        · exact .inr (.inr (.inr (.inr (.inr (.inl h)))))
        · exact .inr (.inr (.inr (.inr (.inr (.inr (.inl h))))))
        · exact .inr (.inr (.inr (.inr (.inr (.inr (.inr (.inl h)))))))
        · exact .inl h
        · exact .inr (.inr (.inr (.inr (.inr (.inr (.inr (.inr h)))))))
      · intro p hp a ha
        rcases List.mem_cons.mp hp with rfl | hp
        · simp only [List.mem_cons, List.not_mem_nil, or_false] at ha
          rcases ha with rfl | rfl | rfl | rfl | rfl | rfl | rfl <;> first | exact Ne.symm hGm.1 | exact Ne.symm hGm.2.1 | exact Ne.symm hGm.2.2.1 | exact Ne.symm hGm.2.2.2.1 | exact Ne.symm hGm.2.2.2.2.1 | exact Ne.symm hGm.2.2.2.2.2.1 | exact Ne.symm hGm.2.2.2.2.2.2.1
        · exact hoff₁ p hp a ha
      · intro p hp a ha
        rcases List.mem_cons.mp ha with rfl | ha
        · exact hGo p (List.mem_append_right _ hp)
        · exact hoff p hp a (by simp only [List.map_cons, List.mem_cons]; exact .inr (.inr (.inr (.inr (.inr (.inr (.inr ha)))))))
      · intro one other v h1 h2 hvv
        by_cases hk : (8 * (one : Int) + (other : Int)) = 8 * (q.1 : Int) + (q.2 : Int)
        · have e1 : one = q.1 := by clear hGm; omega
          have e2 : other = q.2 := by clear hGm; omega
          subst e1 e2
          rw [valueAt_snoc_same hv] at hvv
          cases hvv
          exact ⟨G, vs, nG, rfl, .head _, by rw [kind_at, kind_at]; exact hGi⟩
        · rw [valueAt_snoc_other _ hk] at hvv
          obtain ⟨a, vs', n', e1, e2, e3⟩ := hmeet one other v h1 h2 hvv
          exact ⟨a, vs', n', e1, .tail _ e2, e3⟩
      · rw [valueAt_snoc_same hv]; rfl
      · simp
  · rintro f s₂ ⟨rfl, h₃, tk₃, oD', kvs', tail', rfl, F₄, N₄, hoff₃, hoff₄, htail, hdict', hmeet', hsome, hkl⟩
    have hoff₀ := hoff
    clear F₃ N₃ hdict hmeet hoff₁ hoff₂ hoff
    obtain ⟨v, hv⟩ := Option.isSome_iff_exists.mp hsome
    obtain ⟨a, vs, nG, rfl, hent, hints⟩ := hmeet' q.1 q.2 v (by omega) (by omega) hv
    have hpile' : PileOK tail' _ pv := paired_mono (fun a v h => by obtain ⟨q, u, v, e, hm⟩ := h; exact ⟨q, u, v, e, htail _ hm⟩) hpile
    dsimp only
    refine wpAny_mono (E := fun _ _ => False) ?_ (fun _ _ q => q) (fun _ _ q => q.elim)
    refine wpAny_execs_cons ?_
    refine For_turns F₄ ?_
    rw [← em₃] at F₄
    iterate 3 (first | walk1 | (dsimp only; walk1))
    refine kda_item (knd := PySem.intKind _ _) (by exact N₄) (.tail _ (.tail _ (.tail _ (.head _)))) hdict' (intKind_is _ _ _ _) hv ?_
    dsimp only
    rw [em₃] at F₄
    have hLt := F₄.ns.lt
    have ha := N₄ (a, listOf vs nG) (by simp [hent])
    have hgl := goes_len ((List.map (·.1) cs).getD q.1 0) ((List.map (·.1) cs).getD q.2 0)
    refine for_list (env := envOfC _ _ L 148 _) rfl F₄ N₄ ha.1 hints (Ne.symm ha.2.1)
      (fun j m' news' => ∃ news₀, news' = news₀ ++ own ∧ OwnOff own (news₀.map (·.1)) ∧ GJ w (cs.map (·.1)) c (rowOf cs) n q L M P DX D Lf (b + 3 * i + 1) (zfold (cs.map (·.1)) c n mp i) left (a, listOf vs nG) j m' news₀) ?_ ?_ ?_ ?_
    · rintro j m' _ ⟨news₀, rfl, _, g⟩
      obtain ⟨mv, n1, pv, n2, oDX, oD, kvs, lv, n3, oc, ow, tl, rfl, _, _, _, _, _, he⟩ := g
      refine List.mem_append_left _ ?_
      simp [he]
    · refine ⟨(M, listOf mv n1) :: (P, accO DX pv n2) :: (DX, oDX) :: (D, oD') :: (Lf, listOf lv n3) :: (L + 1, oc) :: (L + 1 + 1, ow) :: tail', rfl, ?_, mv, n1, pv, n2, oDX, oD', kvs', lv, n3, oc, ow, tail', rfl, ⟨_, dw⟩, ?_, ⟨tn, mnum⟩, ⟨t1, mone⟩, ⟨t2, moth⟩, hent⟩
      · intro p hp x hx
        simp only [List.map_cons, List.mem_cons] at hx
        rcases hx with h | h | h | h | h | h | h | h
        · exact hoff₀ p hp x (by simp [h])
        · exact hoff₀ p hp x (by simp [h])
        · exact hoff₀ p hp x (by simp [h])
        · exact hoff₀ p hp x (by simp [h])
        · exact hoff₀ p hp x (by simp [h])
        · exact hoff₀ p hp x (by simp [h])
        · exact hoff₀ p hp x (by simp [h])
        · exact hoff₄ p hp x h
      · have hz : gfold (cs.map (·.1)) c n q (zfold (cs.map (·.1)) c n mp i) 0 = zfold (cs.map (·.1)) c n mp i := rfl
        rw [hz]
        exact ⟨hoff₃, hmet, hpile', hplain, hdict', hmeet', hleft, ⟨tc, dc⟩, ⟨tr, mrow⟩, mmet, mpile, mmeet, mleft, inM, inP, by omega, by omega, by omega, by omega⟩
    · rintro j x' tx m₁ _ h₅ tk₅ own₂ hxj ⟨news₀, rfl, ho₀, g⟩ ho₂ F₅ N₅
      have hj : j < 2 := Nat.lt_of_lt_of_le (List.getElem?_eq_some_iff.mp hxj).1 hgl
      refine wpAny_mono (left_goes (s := s) hc ho rfl (by exact hd) (by exact hu) X T lay hn hq.1 hq.2 hxj (b := b + 3 * i + 1) (by omega) g (own := own ++ own₂) ?_ F₅ (by rw [List.append_assoc] at N₅; exact N₅)) (fun _ s₆ h₆ => wpAny_mono h₆ (fun f s₇ h₇ => ?_) fun _ _ e => e) fun _ _ e => e
      · intro p hp x hx
        rcases List.mem_append.mp hp with hp | hp
        · exact ho₀ p hp x hx
        · exact ho₂ p hp x (by rw [List.map_append]; exact List.mem_append_left _ hx)
      · obtain ⟨rfl, h', tk, m', news', rfl, F', N', hoff', g'⟩ := h₇
        refine ⟨rfl, h', tk, m', news' ++ own, rfl, F', by rw [List.append_assoc]; exact N', ?_, news', rfl, fun p hp => hoff' p (List.mem_append_left _ hp), g'⟩
        intro p hp x hx
        rw [List.map_append] at hx
        rcases List.mem_append.mp hx with hx | hx
        · exact hoff' p (List.mem_append_right _ hp) x hx
        · exact ho₂ p hp x (by rw [List.map_append]; exact List.mem_append_right _ hx)
    · rintro h' tk m' _ F' N' ⟨news₀, rfl, ho₀, mv, n1, pv, n2, oDX, oD, kvs, lv, n3, oc, ow, tl, rfl, dw', I', mn', _, _, _⟩
      dsimp only
      walk1
      refine ⟨rfl, h', tk, m', _, rfl, F', N', ho₀, mv, n1, pv, n2, oDX, oD, kvs, lv, n3, oc, ow, tl, rfl, dw', ?_, mn'⟩
      rw [zfold_succ (cs.map (·.1)) c n mp hi]
      obtain ⟨a1, a2, a3, a4, a5, a6, a7, a8, a9, a10, a11, a12, a13, a14, a15, a16, a17, a18, a19⟩ := I'
      exact ⟨a1, a2, a3, a4, a5, a6, a7, a8, a9, a10, a11, a12, a13, a14, a15, by omega, by omega, by omega, by omega⟩
end
section
theorem afresh_C5 : True := by
  w_top off
  trivial
theorem sum_still {c n : Nat} (hc : c = 4 ∨ c = 5) (num : NumOK c n) : ((List.filter (fun _ => true) ((still c n).map fun (x : Nat) => (x : Int))).map fun i => (16 : Int) ^ ((c : Int) - 1 - i).toNat).sum = ((n : Nat) : Int) := by
  rw [List.filter_eq_self.mpr (fun _ _ => rfl), List.map_map]
  have e : (still c n).map ((fun i => (16 : Int) ^ ((c : Int) - 1 - i).toNat) ∘ fun (x : Nat) => (x : Int)) = ((still c n).map fun p => 16 ^ (c - 1 - p)).map fun (x : Nat) => (x : Int) := by
    rw [List.map_map]
    refine List.map_congr_left fun x hx => ?_
    have := (num.less x hx).2.2
    simp only [Function.comp]
    rw [show ((c : Int) - 1 - (x : Int)).toNat = c - 1 - x by omega]
    simp
  rw [e]
  have h : ∀ l : List Nat, (l.map fun (x : Nat) => (x : Int)).sum = ((l.sum : Nat) : Int) := fun l => by
    induction l with
    | nil => rfl
    | cons a r ih => simp only [List.map_cons, List.sum_cons, ih]; omega
  rw [h, num.sum]
theorem allLt_mem {d : Addr} {l : List (Addr × Obj)} (h : AllLt d l) : ∀ p ∈ l, p.1 ≠ d := by
  induction l with
  | nil => intro p hp; cases hp
  | cons x r ih =>
    intro p hp
    obtain ⟨h1, h2⟩ := h
    rcases List.mem_cons.mp hp with e | hp
    · rw [e]; exact Nat.ne_of_lt h1
    · exact ih h2 p hp
theorem zpair {st : List Nat} {i : Nat} {x y : Int} (hx : (st.map fun (x : Nat) => (x : Int))[i]? = some x) (hy : (List.drop 1 (st.map fun (x : Nat) => (x : Int)))[i]? = some y) : ∃ q : Nat × Nat, (pairsOf' st)[i]? = some q ∧ x = (q.1 : Int) ∧ y = (q.2 : Int) := by
  rw [List.getElem?_map] at hx
  rw [List.getElem?_drop, List.getElem?_map] at hy
  obtain ⟨a, ha, rfl⟩ := Option.map_eq_some_iff.mp hx
  obtain ⟨b, hb, rfl⟩ := Option.map_eq_some_iff.mp hy
  refine ⟨(a, b), ?_, rfl, rfl⟩
  unfold pairsOf'
  rw [List.getElem?_zip_eq_some]
  refine ⟨ha, ?_⟩
  rw [← List.drop_one, List.getElem?_drop]
  exact hb
theorem zfold_all (ks : List Nat) (c n : Nat) (mp : List Nat × List Nat) : zfold ks c n mp (min ((still c n).map fun (x : Nat) => (x : Int)).length (List.drop 1 ((still c n).map fun (x : Nat) => (x : Int))).length) = turnM ks c n mp := by
  have e : min ((still c n).map fun (x : Nat) => (x : Int)).length (List.drop 1 ((still c n).map fun (x : Nat) => (x : Int))).length = (pairsOf' (still c n)).length := by
    unfold pairsOf'
    simp
  unfold zfold turnM
  rw [e, List.take_length]
theorem le_up {a b c : Nat} (h : a ≤ b) : a ≤ b + c + 3 * 0 := by omega
theorem le_up2 {a b c : Nat} (h : a ≤ b) : a + c ≤ b + c + 3 * 0 := by omega
theorem le_dn {a k l i : Nat} (hk : k ≤ 61) (h : a ≤ 1000 - 16 * (k + 1) + l + 3 * i) (hl : l + 3 * i ≤ 12) : a ≤ 1000 - 16 * k := by omega
theorem left_rest {w : World} {cs : List (Nat × Nat × Nat)} {c : Nat} (hc : c = 4 ∨ c = 5) (hlen : cs.length = c) (hcs : ∀ x ∈ cs, ColOK x) {row : Array UInt8} (hrow : row = (cs.flatMap fun x => (colB x).toList).toArray)
    {oc' : Value} {od : Option Addr} {osl : Array (Option Value)} {name : Str} {params : Arguments} {scope : Scope} {pm cdv doc : Value} {s0 s1 s2 s3 s4 s5 s7 : Stmt} {test : PySem.Expr} {b0 b1 b2 : Stmt} {body : List Stmt} {wpos : Pos}
    (ho : (Mine.hd.heap_39 w.params).lookup 148 = some ⟨oc', od, .func (Calls.docDef name params [s0, s1, s2, s3, s4, s5, .While test (b0 :: b1 :: b2 :: body) [] wpos, s7] scope pm cdv doc), osl⟩)
    {A : Around} (hA : A.handled = none) (hd : A.depth + 40 < 600) (hu : A.units + 200 < 6000) {H : Heap} {L : Addr} (X : (Mine.hd.heap_39 w.params).In H) {mean : ExcName → Option Value} {mg mb : Str → Option Value} (T : Top Mine.hd.view_39 LO mean mg mb H)
    {M P DX D Lf : Addr} (lay : Lay L M P DX D Lf) {res : List Nat} {s : Shared} {h₁ : Heap} {tk₁ k : Nat} (hk : k ≤ 61) {m : Str → Option Value} {E : Value → Shared → Prop}
    {met pile left : List Nat} {n : Nat} (hn : n ∈ nums c) {mv : Array Value} {n1 : Nat} {pv : List Value} {n2 : Nat} {oDX oD : Obj} {kvs : List (Int × Value)} {lv : Array Value} {n3 : Nat} {oc ow : Obj} {own : List (Addr × Obj)} {S nS : Nat} {ys : Array Value}
    (F : Fr H L h₁ m) (N : News H L h₁ ((S, listOf ys nS) :: (M, listOf mv n1) :: (P, accO DX pv n2) :: (DX, oDX) :: (D, oD) :: (Lf, listOf lv n3) :: (L + 1, oc) :: (L + 1 + 1, ow) :: own))
    (hSn : AllNe S [(M, listOf mv n1), (P, accO DX pv n2), (DX, oDX), (D, oD), (Lf, listOf lv n3), (L + 1, oc), (L + 1 + 1, ow)]) (hSo : ∀ q ∈ own, q.1 ≠ S) (hIS : IntsAre ys.toList ((still c n).map fun (x : Nat) => (x : Int))) (mS : m (Str.ofString "still") = some (.ref S))
    {vw : Option Value} (dw : ow.data = .cell vw) (I : Img w (cs.map (·.1)) c row L M P DX D Lf (1000 - 16 * (k + 1)) met pile left m mv pv oDX oD kvs lv oc ow own)
    (hrun : runM (cs.map (·.1)) c k (turnM (cs.map (·.1)) c n (met, pile)).1 (turnM (cs.map (·.1)) c n (met, pile)).2 (left ++ lefts c n) = some res) :
    wpAny (model PySem.Challenge.rw_xp0006_01.row.prog w) (A.deeper (envOfC name scope L 148 cdv)) (execs body (envOfC name scope L 148 cdv)) (WhileStep H L s (LJ w (cs.map (·.1)) c row L M P DX D Lf res) (k + 1)) E { s with heap := h₁, toks := tk₁ } := by
  obtain ⟨hh, dp, fr, gd, un⟩ := A
  dsimp only at hA hd hu
  subst hA
  revert X; k_fill; intro X
  have e := ho.symm.trans (show (Mine.hd.heap_39 w.params).lookup 148 = some _ from by k_is)
  cases e
  obtain ⟨hoff, hmet, hpile, hplain, hdict, hmeet, hleft, ⟨tc, dc⟩, ⟨tr, mrow⟩, mmet, mpile, mmeet, mleft, inM, inP, hb1, hb2, hb3, hb4⟩ := I
  have hc1 := Nat.le_trans hb1 (Nat.sub_le _ _)
  have hc2 := Nat.le_trans hb2 (Nat.sub_le _ _)
  have hc3 := Nat.le_trans hb3 (Nat.sub_le _ _)
  have hc4 := Nat.le_trans hb4 (Nat.sub_le _ _)
  have hc5 : c ≤ 5 := by rcases hc with rfl | rfl <;> decide
  have num := num_ok hc hn
  obtain ⟨lo, d1, d2, d3, d4, d5⟩ := id lay
  simp only [AllNe, and_true] at hSn
  have em := kst_eq (m := m) [(Str.ofString "row", _), (Str.ofString "met", _), (Str.ofString "pile", _), (Str.ofString "meetings", _), (Str.ofString "left", _), (Str.ofString "still", _)] (by intro p hp; simp only [List.mem_cons, List.not_mem_nil, or_false] at hp; rcases hp with rfl | rfl | rfl | rfl | rfl | rfl <;> assumption)
  have F₁ := F
  rw [← em] at F₁
  refine wpAny_execs_cons ?_
  refine wpAny_mono (Q := fun f s₂ => f = .next ∧ ∃ h₂ tk₂ lv' n3', s₂ = { s with heap := h₂, toks := tk₂ } ∧ Fr H L h₂ m ∧ News H L h₂ ((S, listOf ys nS) :: (M, listOf mv n1) :: (P, accO DX pv n2) :: (DX, oDX) :: (D, oD) :: (Lf, listOf lv' n3') :: (L + 1, oc) :: (L + 1 + 1, ow) :: own) ∧ IntsAre lv'.toList ((left ++ lefts c n).map fun n => ((n : Nat) : Int))) (E := fun _ _ => False) ?_ ?_ (fun _ _ q => q.elim)
  · clear F
    by_cases h1 : (still c n).length = 1
    · obtain ⟨x, hx⟩ : ∃ x, still c n = [x] := by
        match q : still c n, h1 with
        | [x], _ => exact ⟨x, rfl⟩
      rw [hx] at hIS
      obtain ⟨t, vs', e1, e2⟩ := hIS.cons_inv
      have e3 := e2.nil_inv
      subst e3
      obtain ⟨yl⟩ := ys
      dsimp only at e1
      subst e1
      (repeat ((with_reducible show wpAny _ _ _ _ _ _); first | walk1 | (dsimp only; walk1)))
      rw [if_pos (by decide)]
      (repeat ((with_reducible show wpAny _ _ _ _ _ _); first | walk1 | (dsimp only; walk1)))
      with_reducible rename Fr _ _ _ _ => F₉
      with_reducible rename News _ _ _ _ => N₉
      rw [em] at F₉
      refine ⟨rfl, _, _, _, _, rfl, F₉, N₉, ?_⟩
      have e4 : lefts c n = [x] := by unfold lefts; rw [if_pos h1, hx]
      rw [e4, List.map_append]
      rw [Array.toList_push]
      exact hleft.append (.cons _ _ .nil)
    · (repeat ((with_reducible show wpAny _ _ _ _ _ _); first | walk1 | (dsimp only; walk1)))
      have hlen : ys.size = (still c n).length := by have := hIS.length; simpa using this
      have hsm : (still c n).length ≤ c := by unfold still; exact Nat.le_trans (List.length_filter_le _ _) (by simp)
      refine _root_.PyProof.Rows.len_list (items := ys) ⟨_, (N _ (.head _)).1, rfl, nS, rfl⟩ (by rw [hlen]; clear hSn; omega) ?_
      rw [hlen]
      (repeat ((with_reducible show wpAny _ _ _ _ _ _); first | walk1 | (dsimp only; walk1)))
      rw [if_neg (by clear hSn; simp; omega)]
      (repeat ((with_reducible show wpAny _ _ _ _ _ _); first | walk1 | (dsimp only; walk1)))
      have e4 : lefts c n = [] := by unfold lefts; rw [if_neg h1]
      rw [em] at F₁
      refine ⟨rfl, _, _, _, _, rfl, F₁, N, ?_⟩
      rw [e4, List.append_nil]
      exact hleft
  · rintro f s₂ ⟨rfl, h₂, tk₂, lv', n3', rfl, F₂, N₂, hleft'⟩
    clear F F₁ N hleft
    have F₃ := F₂
    rw [← em] at F₃
    clear F₂
    dsimp only
    iterate 6 (first | walk1 | (dsimp only; walk1))
    refine comp_ints (H := H) (L := L) (fun _ => true) (fun i => 16 ^ ((c : Int) - 1 - i).toNat) (by rfl) (by decide) rfl (by decide) (by rfl) ?_
    iterate 1 (first | walk1 | (dsimp only; walk1))
    have hsm : (still c n).length ≤ c := by unfold still; exact Nat.le_trans (List.length_filter_le _ _) (by simp)
    refine it_list rfl F₃ N₂ (N₂ _ (.head _)).1 hIS (by rw [List.length_map, sizeLine_eq]; clear hSn; omega) ?_
    intro it h₄ wr P₁ I
    refine ⟨_, _, _, wr, P₁, I, ?_, ?_⟩
    · intro i t C oC m₃ s₃ E' hi hNC hm F₄ N₄
      clear I
      refine ⟨wpAny_tests_nil ⟨rfl, _, _, rfl, fun _ _ e => e⟩, fun _ => ?_⟩
      rw [List.mem_map] at hi
      obtain ⟨p, hp, rfl⟩ := hi
      have hpc := (num.less p hp).2.2
      iterate 9 (first | walk1 | (dsimp only; walk1))
      rw [show ((c : Int) - 1 - (p : Int)) = ((c - 1 - p : Nat) : Int) by clear hSn; omega]
      refine pow16 (by clear hSn; omega) ⟨?_, _, _, rfl, fun _ _ e => e⟩
      rw [show ((c - 1 - p : Nat) : Int) = ((c : Int) - 1 - (p : Int)) by clear hSn; omega]
      exact ⟨_, rfl⟩
    · intro D' h₅ tk₅ ys' nD F₅ N₅ hD hI
      clear F₃ N₂ I
      iterate 1 (first | walk1 | (dsimp only; walk1))
      refine sumK (vs := ys'.toList) rfl F₅ N₅ ⟨_, (N₅ _ (.head _)).1, rfl, nD, by rw [Array.toArray_toList]⟩ hI ?_
      intro h₆ tk₆ t₆ F₆ N₆
      clear F₅ N₅
      rw [sum_still hc num]
      dsimp only
      iterate 3 (first | walk1 | (dsimp only; walk1))
      with_reducible rename Fr _ _ _ _ => F₇
      with_reducible rename News _ _ _ _ => N₇
      obtain ⟨m₇, F₇, mrow, mmet, mpile, mmeet, mleft, mS, mnum⟩ : ∃ m₇, Fr H L _ m₇ ∧ m₇ (Str.ofString "row") = some (.bytes row tr) ∧ m₇ (Str.ofString "met") = some (.ref M) ∧ m₇ (Str.ofString "pile") = some (.ref P) ∧ m₇ (Str.ofString "meetings") = some (.ref D) ∧ m₇ (Str.ofString "left") = some (.ref Lf) ∧ m₇ (Str.ofString "still") = some (.ref S) ∧ m₇ (Str.ofString "number") = some (.int (n : Int) t₆) := ⟨_, F₇, rfl, rfl, rfl, rfl, rfl, rfl, rfl⟩
      have em₇ := kst_eq (m := m₇) [(Str.ofString "row", _), (Str.ofString "met", _), (Str.ofString "pile", _), (Str.ofString "meetings", _), (Str.ofString "left", _), (Str.ofString "still", _), (Str.ofString "number", _)] (by intro p hp; simp only [List.mem_cons, List.not_mem_nil, or_false] at hp; rcases hp with rfl | rfl | rfl | rfl | rfl | rfl | rfl <;> assumption)
      clear em
      refine wpAny_mono (E := fun _ _ => False) ?_ (fun _ _ q => q) (fun _ _ q => q.elim)
      refine For_turns F₇ ?_
      rw [← em₇] at F₇
      iterate 15 (first | walk1 | (dsimp only; walk1))
      with_reducible rename Fr _ _ _ _ => F₈
      with_reducible rename News _ _ _ _ => N₈
      with_reducible rename IntsAre _ (List.drop 1 _) => hI₈
      with_reducible rename (_ ∧ _ ∧ _ ∧ _ ∧ _ ∧ _ ∧ _ ∧ _ ∧ _ ∧ AllLt _ _) => l1
      rw [em₇] at F₈
      obtain ⟨-, -, l2, l3, l4, l5, l6, l7, l8, l9⟩ := l1
      obtain ⟨s1, s2, s3, s4, s5, s6, s7⟩ := hSn
      have hlf : (lefts c n).length + 3 * ((still c n).length - 1) ≤ 12 := by
        unfold lefts
        split
        · rename_i h; rw [h]; clear s1 s2 s3 s4 s5 s6 s7; omega
        · simp only [List.length_nil]; clear s1 s2 s3 s4 s5 s6 s7; omega
      have hz0 : zfold (cs.map (·.1)) c n (met, pile) 0 = (met, pile) := rfl
      have hzA := zfold_all (cs.map (·.1)) c n (met, pile)
      have hlen1 : ((still c n).map fun (x : Nat) => (x : Int)).length = (still c n).length := List.length_map _
      have hlen2 : (List.drop 1 ((still c n).map fun (x : Nat) => (x : Int))).length = (still c n).length - 1 := by simp
      refine for_zip (env := envOfC _ _ L 148 _) rfl F₈ (fun p hp => N₈ p (.tail _ (.tail _ (.tail _ hp)))) (N₈ (S, _) (.tail _ (.tail _ (.head _)))).1 (N₈ _ (.head _)).1 hIS (by exact hI₈) (Ne.symm (N₈ (S, _) (.tail _ (.tail _ (.head _)))).2.1) (Ne.symm (N₈ _ (.head _)).2.1) ?_ ?_
        (fun i m' news' => ZJ w (cs.map (·.1)) c row n L M P DX D Lf (1000 - 16 * (k + 1) + (lefts c n).length) (met, pile) (left ++ lefts c n) i m' news') ?_ ?_ ?_
      · intro p hp
        simp only [List.mem_cons] at hp
        rcases hp with rfl | rfl | rfl | rfl | rfl | rfl | rfl | hp
        · exact s1
        · exact s2
        · exact s3
        · exact s4
        · exact s5
        · exact s6
        · exact s7
        · exact hSo p hp
      · intro p hp
        simp only [List.mem_cons] at hp
        rcases hp with rfl | rfl | rfl | rfl | rfl | rfl | rfl | hp
        · exact Nat.ne_of_lt l2
        · exact Nat.ne_of_lt l3
        · exact Nat.ne_of_lt l4
        · exact Nat.ne_of_lt l5
        · exact Nat.ne_of_lt l6
        · exact Nat.ne_of_lt l7
        · exact Nat.ne_of_lt l8
        · exact allLt_mem l9 p hp
      · refine ⟨mv, n1, pv, n2, oDX, oD, kvs, lv', n3', oc, ow, own, rfl, ⟨_, dw⟩, ?_, ⟨t₆, mnum⟩⟩
        rw [hz0]
        exact ⟨hoff, hmet, hpile, hplain, hdict, hmeet, hleft', ⟨tc, dc⟩, ⟨tr, mrow⟩, mmet, mpile, mmeet, mleft, inM, inP, le_up hb1, le_up hb2, le_up hb3, by rw [List.length_append]; exact le_up2 hb4⟩
      · intro i x y tx ty Ta m₁ news₁ h₉ tk₉ own₂ hx hy hT J hoff₂ F₉ N₉
        obtain ⟨q, hq, rfl, rfl⟩ := zpair hx hy
        have hrow' : row = rowOf cs := hrow
        subst hrow'
        have hi := (List.getElem?_eq_some_iff.mp hx).1
        rw [hlen1] at hi
        exact left_pair (s := ⟨_, _, _, _, _⟩) hc hlen hcs ho rfl (by exact hd) (by exact hu) X T lay hn hq hT (by clear s1 s2 s3 s4 s5 s6 s7; omega) J hoff₂ F₉ N₉
      · intro h' tk' m' news' F' N' J
        have hm : min (still c n).length ((still c n).length - 1) = (still c n).length - 1 := Nat.min_eq_right (Nat.sub_le _ _)
        rw [hlen1, hlen2, hm] at J
        rw [hlen1, hlen2, hm] at hzA
        obtain ⟨mv, n1, pv, n2, oDX, oD, kvs, lv, n3, oc, ow, own, rfl, dw', I', mn'⟩ := J
        rw [hzA] at I'
        dsimp only
        walk1
        refine WhileStep.intro F' N' (Nat.lt_succ_self k) ⟨_, _, _, mv, n1, pv, n2, oDX, oD, kvs, lv, n3, oc, ow, own, rfl, dw', ?_, hrun⟩
        obtain ⟨a1, a2, a3, a4, a5, a6, a7, a8, a9, a10, a11, a12, a13, a14, a15, a16, a17, a18, a19⟩ := I'
        exact ⟨a1, a2, a3, a4, a5, a6, a7, a8, a9, a10, a11, a12, a13, a14, a15, le_dn hk a16 hlf, le_dn hk a17 hlf, le_dn hk a18 hlf, le_dn hk a19 hlf⟩
end
section
theorem afresh_C7 : True := by
  w_top off
  trivial
theorem left_turn {w : World} {cs : List (Nat × Nat × Nat)} {c : Nat} (hc : c = 4 ∨ c = 5) (hlen : cs.length = c) (hcs : ∀ x ∈ cs, ColOK x) {row : Array UInt8} (hrow : row = (cs.flatMap fun x => (colB x).toList).toArray)
    {oc' : Value} {od : Option Addr} {osl : Array (Option Value)} {name : Str} {params : Arguments} {scope : Scope} {pm cdv doc : Value} {s0 s1 s2 s3 s4 s5 s7 : Stmt} {test : PySem.Expr} {body : List Stmt} {wpos : Pos}
    (ho : (Mine.hd.heap_39 w.params).lookup 148 = some ⟨oc', od, .func (Calls.docDef name params [s0, s1, s2, s3, s4, s5, .While test body [] wpos, s7] scope pm cdv doc), osl⟩)
    {A : Around} (hA : A.handled = none) (hd : A.depth + 40 < 600) (hu : A.units + 200 < 6000) {H : Heap} {L : Addr} (X : (Mine.hd.heap_39 w.params).In H) {mean : ExcName → Option Value} {mg mb : Str → Option Value} (T : Top Mine.hd.view_39 LO mean mg mb H)
    {M P DX D Lf : Addr} (lay : Lay L M P DX D Lf) {res : List Nat} {s : Shared} {h₁ : Heap} {tk₁ k : Nat} (hk : k ≤ 61) {m : Str → Option Value} {E : Value → Shared → Prop}
    {met pile left : List Nat} {n : Nat} {mv : Array Value} {n1 : Nat} {pv : List Value} {n2 : Nat} {oDX oD : Obj} {kvs : List (Int × Value)} {lv : Array Value} {n3 : Nat} {oc ow : Obj} {own : List (Addr × Obj)}
    (F : Fr H L h₁ m) (N : News H L h₁ ((M, listOf mv n1) :: (P, accO DX pv n2) :: (DX, oDX) :: (D, oD) :: (Lf, listOf lv n3) :: (L + 1, oc) :: (L + 1 + 1, ow) :: own))
    {vw : Option Value} (dw : ow.data = .cell vw) (I : Img w (cs.map (·.1)) c row L M P DX D Lf (1000 - 16 * (k + 1)) met (pile ++ [n]) left m mv pv oDX oD kvs lv oc ow own) (hrun : runM (cs.map (·.1)) c (k + 1) met (pile ++ [n]) left = some res) :
    wpAny (model PySem.Challenge.rw_xp0006_01.row.prog w) (A.deeper (envOfC name scope L 148 cdv)) (execs body (envOfC name scope L 148 cdv)) (WhileStep H L s (LJ w (cs.map (·.1)) c row L M P DX D Lf res) (k + 1)) E { s with heap := h₁, toks := tk₁ } := by
  obtain ⟨hh, dp, fr, gd, un⟩ := A
  dsimp only at hA hd hu
  subst hA
  revert X; k_fill; intro X
  have e := ho.symm.trans (show (Mine.hd.heap_39 w.params).lookup 148 = some _ from by k_is)
  cases e
  obtain ⟨hoff, hmet, hpile, hplain, hdict, hmeet, hleft, ⟨tc, dc⟩, ⟨tr, mrow⟩, mmet, mpile, mmeet, mleft, inM, inP, hb1, hb2, hb3, hb4⟩ := I
  obtain ⟨pv, v, rfl, ⟨q, t1, t2, rfl, hq⟩, hpl⟩ := paired_last hpile
  clear hpile
  have num := num_ok hc (inP n (List.mem_append_right _ (.head _)))
  have hqo := hoff _ hq
  simp only [List.forall_mem_cons] at hqo
  obtain ⟨lo, d1, d2, d3, d4, d5⟩ := id lay
  have F₁ := frK [(Str.ofString "row", _), (Str.ofString "met", _), (Str.ofString "pile", _), (Str.ofString "meetings", _), (Str.ofString "left", _)] F (by intro p hp; simp only [List.mem_cons, List.not_mem_nil, or_false] at hp; rcases hp with rfl | rfl | rfl | rfl | rfl <;> assumption)
  clear F
  iterate 4 (first | walk1 | (dsimp only; walk1))
  dsimp only
  have hpD := hplain
  unfold plainD at hpD
  simp only [Bool.and_eq_true, beq_iff_eq] at hpD
  refine method_any (T := "function") (X.keeps F₁.keep) ⟨(N _ (.tail _ (.head _))).1, rfl, rfl, (N _ (.tail _ (.tail _ (.head _)))).1⟩ (by k_is) (by decide +kernel) (by k_is) (by k_is) (by first | k_is | kernel_rfl) (.inl rfl) hpD.2 ?_
  dsimp only
  iterate 1 (first | walk1 | (dsimp only; walk1))
  refine pop_call rfl (by simp only [depth_deeper]; omega) (by simp only [units_deeper]; omega) ⟨X.keeps F₁.keep, mean, mg, mb, T.keeps F₁.keep⟩ (N _ (.tail _ (.head _))).1 (N _ (.tail _ (.tail _ (.head _)))).1 hplain ?_ ?_
  · have := paired_len hpl
    simp only [List.length_append, List.length_cons, List.length_nil] at hb2
    rw [sizeLine_eq]; omega
  intro h₂ tk₂ hPg k₂
  obtain ⟨F₂, N₂⟩ := chgNews F₁ N (by k_updF) hPg k₂
  have N₃ : News H L h₂ ((q, tupO n t1 t2) :: _) := fun p hp => by
    rcases List.mem_cons.mp hp with rfl | hp
    · exact N₂ _ (by simp [hq])
    · exact N₂ p hp
  clear F₁ N N₂
  unfold tupO at N₃
  dsimp only at F₂ N₃ ⊢
  obtain ⟨e1, e2, e3, e4, e5, e6, e7, -⟩ := hqo
  replace e1 : @Ne Nat q M := e1
  replace e2 : @Ne Nat q P := e2
  replace e3 : @Ne Nat q DX := e3
  replace e4 : @Ne Nat q D := e4
  replace e5 : @Ne Nat q Lf := e5
  replace e6 : @Ne Nat q (L + 1) := e6
  replace e7 : @Ne Nat q (L + 1 + 1) := e7
  (repeat ((with_reducible show wpAny _ _ _ _ _ _); first | walk1 | (dsimp only; walk1)))
  refine len_str (lenA hc num.short) ?_
  rw [show (⟨(wd n).toArray⟩ : Str).length = (wd n).length from List.size_toArray]
  (repeat ((with_reducible show wpAny _ _ _ _ _ _); first | walk1 | (dsimp only; walk1)))
  refine SB.mul (mulOkA hc num.short) fun t₃ k₃ => ?_
  dsimp only
  iterate 1 walk1
  refine SBL.add (fun t₄ k₄ => ?_) (hsz := ?_)
  rotate_left
  · exact mulFit hc num.short num.len
  rw [mulA hc num.short]
  dsimp only
  iterate 2 walk1
  refine wpAny_execs_cons ?_
  refine assign_ints (H := H) (fun i => (still c n).contains i.toNat) id (by rfl) (by rfl) (by decide) rfl (by decide) (by rfl) (by rfl) (by rfl) ?_
  iterate 7 (first | walk1 | (dsimp only; walk1))
  refine it_range rfl (by assumption) (by assumption) (by assumption) (k := c) (by rcases hc with rfl | rfl <;> decide) (by rcases hc with rfl | rfl <;> decide) (by rw [sizeLine_eq]; rcases hc with rfl | rfl <;> decide) ?_
  intro it h₄ wr P₁ I
  refine ⟨_, _, _, wr, P₁, I, ?_, ?_⟩
  · intro i t C oC m₃ s₃ E' hn hNC hm F₃ N₃
    clear I
    rw [List.mem_map] at hn
    obtain ⟨p, hp, rfl⟩ := hn
    have hp := List.mem_range.mp hp
    rw [Int.zero_add] at hm ⊢
    refine ⟨wpAny_tests_one ?_, fun _ => ?_⟩
    · iterate 4 (first | walk1 | (dsimp only; walk1))
      refine KXi.item (n := c) (by exact (List.size_toArray).trans num.len) (by omega) (by omega) (by rcases hc with rfl | rfl <;> decide) fun _ => ?_
      dsimp only
      iterate 3 (first | walk1 | (dsimp only; walk1))
      exact ⟨num.at_ p hp, _, _, rfl, fun _ _ e => e⟩
    · iterate 1 (first | walk1 | (dsimp only; walk1))
      exact ⟨⟨_, rfl⟩, _, _, rfl, fun _ _ e => e⟩
  intro S h₅ tk₅ ys nS F₅ N₅ hS hIS
  have hst : (List.filter (fun (i : Int) => (still c n).contains i.toNat) ((List.range c).map fun (i : Nat) => (0 : Int) + (i : Int))).map id = (still c n).map fun (x : Nat) => (x : Int) := still_ints c n
  rw [hst] at hIS
  clear hst I
  with_reducible rename (Obj.data _ = Data.cell (some (Value.str _ _))) => dw'
  try dsimp only at F₅ N₅
  obtain ⟨m₅, F₅, mrow', mmet', mpile', mmeet', mleft', mS⟩ : ∃ m₅, Fr H L h₅ m₅ ∧ m₅ (Str.ofString "row") = some (.bytes row tr) ∧ m₅ (Str.ofString "met") = some (.ref M) ∧ m₅ (Str.ofString "pile") = some (.ref P) ∧ m₅ (Str.ofString "meetings") = some (.ref D) ∧ m₅ (Str.ofString "left") = some (.ref Lf) ∧ m₅ (Str.ofString "still") = some (.ref S) := ⟨_, F₅, rfl, rfl, rfl, rfl, rfl, rfl⟩
  have N₆ : News H L h₅ ((S, listOf ys nS) :: (M, listOf mv n1) :: (P, accO DX pv (n2 + 1)) :: (DX, oDX) :: (D, oD) :: (Lf, listOf lv n3) :: (L + 1, oc) :: (L + 1 + 1, _) :: own) := fun p hp => N₅ p (by
    rcases List.mem_cons.mp hp with rfl | hp
    · exact .head _
    · exact .tail _ (.tail _ hp))
  have hl : (pile ++ [n]).getLast? = some n := by simp
  have hdl : (pile ++ [n]).dropLast = pile := by simp
  unfold runM at hrun
  rw [hl] at hrun
  dsimp only at hrun
  rw [hdl] at hrun
  refine left_rest (s := s) hc hlen hcs hrow ho rfl hd hu X T lay hk (inP n (List.mem_append_right _ (.head _))) F₅ N₆ (allNe_of fun p hp => hS p (.tail _ (List.mem_append_left own hp))) (fun p hp => hS p (.tail _ (List.mem_append_right [_, _, _, _, _, _, _] hp))) hIS mS dw'
    ⟨hoff, hmet, hpl, hplain, hdict, hmeet, hleft, ⟨tc, dc⟩, ⟨tr, mrow'⟩, mmet', mpile', mmeet', mleft', inM, fun x hx => inP x (List.mem_append_left _ hx), hb1, ?_, hb3, hb4⟩ hrun
  simp only [List.length_append, List.length_cons, List.length_nil] at hb2
  omega
end
section
theorem afresh_C3 : True := by
  w_top off
  trivial
theorem insN_perm (x : Nat) : ∀ l : List Nat, (insN x l).Perm (x :: l)
  | [] => .refl _
  | y :: r => by
    unfold insN
    split
    · exact .refl _
    · exact (List.Perm.cons y (insN_perm x r)).trans (List.Perm.swap x y r)
theorem sortN_perm : ∀ l : List Nat, (sortN l).Perm l
  | [] => .refl _
  | x :: r => (insN_perm x (sortN r)).trans (List.Perm.cons x (sortN_perm r))
theorem insN_sorted (x : Nat) : ∀ l : List Nat, l.Pairwise (· ≤ ·) → (insN x l).Pairwise (· ≤ ·)
  | [], _ => by simp [insN]
  | y :: r, h => by
    have h' := List.pairwise_cons.mp h
    unfold insN
    split
    · rename_i hxy
      refine List.pairwise_cons.mpr ⟨fun z hz => ?_, h⟩
      rcases List.mem_cons.mp hz with rfl | hz
      · exact hxy
      · exact Nat.le_trans hxy (h'.1 z hz)
    · rename_i hxy
      refine List.pairwise_cons.mpr ⟨fun z hz => ?_, insN_sorted x r h'.2⟩
      rcases List.mem_cons.mp ((insN_perm x r).mem_iff.mp hz) with rfl | hz
      · omega
      · exact h'.1 z hz
theorem sortN_sorted : ∀ l : List Nat, (sortN l).Pairwise (· ≤ ·)
  | [] => .nil
  | x :: r => insN_sorted x _ (sortN_sorted r)
theorem sorted_is {l : List Nat} {ns : List Int} (hp : ns.Perm (l.map fun (x : Nat) => (x : Int))) (hs : ns.Pairwise (· ≤ ·)) : ns = (sortN l).map fun (x : Nat) => (x : Int) := by
  refine List.Perm.eq_of_pairwise (le := (· ≤ ·)) (fun a b _ _ h1 h2 => Int.le_antisymm h1 h2) hs ?_ (hp.trans ((sortN_perm l).symm.map _))
  rw [List.pairwise_map]
  exact (sortN_sorted l).imp fun h => Int.ofNat_le.mpr h
theorem news9 {H h : Heap} {L : Addr} {a1 a2 a3 a4 a5 a6 a7 a8 a9 : Addr × Obj} (N : News H L h [a1, a2, a3, a4, a5, a6, a7, a8, a9]) : News H L h [a6, a4, a5, a2, a1, a9, a8, a3] := fun p hp => N p (by
  simp only [List.mem_cons, List.not_mem_nil, or_false] at hp ⊢
  rcases hp with h | h | h | h | h | h | h | h <;> simp [h])
theorem lay_of {H h : Heap} {L M P DX D Lf : Addr} {o1 o2 o3 o4 o5 : Obj} {own : List (Addr × Obj)} (_N : News H L h ((M, o1) :: (P, o2) :: (DX, o3) :: (D, o4) :: (Lf, o5) :: own)) (lo : (D == sysModules) = false) (h : @LT.lt Nat _ (L + 1 + 1) M ∧ @LT.lt Nat _ M DX ∧ @LT.lt Nat _ DX P ∧ @LT.lt Nat _ P D ∧ @LT.lt Nat _ D Lf) : Lay L M P DX D Lf := ⟨lo, h⟩
theorem left_call {w : World} {cs : List (Nat × Nat × Nat)} {c : Nat} (hc : c = 4 ∨ c = 5) (hlen : cs.length = c) (hcs : ∀ x ∈ cs, ColOK x) {row : Array UInt8} (hrowE : row = (cs.flatMap fun x => (colB x).toList).toArray) {t : Tok} :
    Call0 w 2 148 [.bytes row t] (fun h h' v => ∃ D vs nD, v = .ref D ∧ h.get? D = none ∧ h'.get? D = some (listOf vs nD) ∧ IntsAre vs.toList ((ruleP (cs.map (·.1))).map fun (x : Nat) => (x : Int))) := by
  have hc5 : c ≤ 5 := by rcases hc with rfl | rfl <;> decide
  have hrow : row.size = 3 * c := by
    have := row_size cs
    rw [hrowE, ← hlen]
    exact this
  intro dp un fr gd s Q E hd hu G hQ
  obtain ⟨X, mean, mg, mb, T⟩ := G
  revert X; k_fill; intro X
  k_dflt (refine' enterC ?k1 ?k2 ?k6 ?k7 ?k8 ?k9 ?kB ?kD ?_ ?c2 ?c3 ?c4)
  case k1 => assumption
  case k2 => exact Top.nolimit (by assumption)
  case k6 => k_is
  case k7 => k_is
  case k8 => k_room
  case k9 => exact rfl
  case kB => exact kinds_of (by kinds_ok)
  case kD => decide +kernel
  case c2 => exact rfl
  case c3 => exact rfl
  case c4 => exact rfl
  k_whole
  intro h₁ tk cells F N Y
  k_cells Y
  dsimp only at F N ⊢
  iterate 14 (first | walk1 | (dsimp only; walk1))
  have hcnt : Int.fdiv (row.size : Int) 3 = (c : Int) := by rw [hrow, Int.fdiv_eq_ediv_of_nonneg _ (by decide)]; omega
  generalize Int.fdiv (row.size : Int) 3 = cv at *
  subst hcnt
  dsimp only
  iterate 8 (first | walk1 | (dsimp only; walk1))
  with_reducible rename Fr _ _ _ _ => F
  with_reducible rename News _ _ _ _ => N
  refine comp_ints (H := s.heap) (L := s.heap.objs.size) (fun _ => true) (fun n => 16 ^ n.toNat) (by rfl) (by decide) rfl (by decide) (by rfl) ?_
  iterate 7 (first | walk1 | (dsimp only; walk1))
  refine it_range rfl (by assumption) (by assumption) (by assumption) (k := c) (by rcases hc with rfl | rfl <;> decide) (by rcases hc with rfl | rfl <;> decide) (by rw [sizeLine_eq]; omega) ?_
  intro it h₂ wr P I
  refine ⟨_, _, _, wr, P, I, ?_, ?_⟩
  · intro n t C oC m₃ s₃ E' hn hNC hm F₃ N₃
    refine ⟨wpAny_tests_nil ⟨rfl, _, _, rfl, fun _ _ e => e⟩, fun _ => ?_⟩
    iterate 3 (first | walk1 | (dsimp only; walk1))
    rw [List.mem_map] at hn
    obtain ⟨k, hk, rfl⟩ := hn
    have hk5 : k < 5 := by have := List.mem_range.mp hk; omega
    rw [Int.zero_add]
    exact pow16 (by omega) ⟨⟨_, rfl⟩, _, _, rfl, fun _ _ e => e⟩
  · intro D h₃ tk₃ ys nD F₃ N₃ hD hI
    iterate 1 (first | walk1 | (dsimp only; walk1))
    refine sumK (vs := ys.toList) rfl F₃ N₃ ⟨_, (N₃ _ (.head _)).1, rfl, nD, by rw [Array.toArray_toList]⟩ hI ?_
    intro h₄ tk₄ t₄ F₄ N₄
    clear F₃ N₃
    have hsum : (((List.filter (fun _ => true) ((List.range c).map fun (i : Nat) => (0 : Int) + (i : Int))).map fun n => (16 : Int) ^ n.toNat).sum) = ((n0 c : Nat) : Int) := by rcases hc with rfl | rfl <;> decide
    rw [hsum]
    dsimp only
    iterate 9 (first | walk1 | (dsimp only; walk1))
    with_reducible rename Fr _ _ _ _ => F₅
    with_reducible rename News _ _ _ _ => N₅
    refine new_call rfl (by simp only [depth_deeper]; omega) (by simp only [units_deeper]; omega) ⟨X.keeps F₅.keep, mean, mg, mb, T.keeps F₅.keep⟩ ?_
    intro P DX h₆ tk₆ oDX nP hP0 hDX0 hDXs hPD hPg hDXg hpD k₆
    have F₆ := frX F₅ k₆
    have N₆ := newsAdd F₅ (newsAdd F₅ (newsX N₅ k₆) hDX0 hDXg) hP0 hPg
    have hDn := allLt_of (fun p hp => Nat.lt_of_lt_of_le (Heap.lt_size (N₅ p hp).1) hDXs)
    simp only [AllLt, and_true] at hDn
    clear F₅ N₅
    dsimp only at F₆ N₆ ⊢
    iterate 4 (first | walk1 | (dsimp only; walk1))
    have hpD' := hpD
    unfold plainD at hpD'
    simp only [Bool.and_eq_true, beq_iff_eq] at hpD'
    iterate 2 (first | walk1 | (dsimp only; walk1))
    with_reducible rename Fr _ _ _ _ => F₇
    with_reducible rename News _ _ _ _ => N₇
    refine method_any (T := "function") (X.keeps F₇.keep) ⟨(N₇ _ (.head _)).1, rfl, rfl, (N₇ _ (.tail _ (.head _))).1⟩ (by k_is) (by decide +kernel) (by k_is) (by k_is) (by first | k_is | kernel_rfl) (.inl rfl) hpD'.1.2 ?_
    dsimp only
    (repeat ((with_reducible show wpAny _ _ _ _ _ _); first | walk1 | (dsimp only; walk1)))
    with_reducible rename Fr _ _ _ _ => F₈
    with_reducible rename News _ _ _ _ => N₈
    refine ⟨X.keeps F₈.keep, ?_⟩
    refine Call0.use (letters_call (n := n0 c) (by rcases hc with rfl | rfl <;> decide)) (by exact F₈) (by exact N₈) (by assumption) (by assumption) (by simp only [depth_deeper]; omega) (by simp only [units_deeper]; omega) ?_
    rintro _ h₉ tk₉ k₉ F₉ N₉ ⟨tw, rfl⟩
    clear F₈ N₈
    dsimp only at F₉ N₉ ⊢
    (repeat ((with_reducible show wpAny _ _ _ _ _ _); first | walk1 | (dsimp only; walk1)))
    refine ⟨X.keeps F₉.keep, ?_⟩
    refine push_call rfl (by simp only [depth_deeper]; omega) (by simp only [units_deeper]; omega) ⟨X.keeps F₉.keep, mean, mg, mb, T.keeps F₉.keep⟩ (N₉ _ (.head _)).1 (N₉ _ (.tail _ (.head _))).1 hpD (by decide) ?_
    intro q h₁₀ tk₁₀ hq0 hPg' hqg k₁₀
    obtain ⟨F₁₀, N₁₀'⟩ := chgNews F₉ N₉ (by k_updF) hPg' k₁₀
    have hqn := allNe_of (newsNe N₉ hq0)
    have N₁₀ := newsAdd F₉ N₁₀' hq0 hqg
    simp only [AllNe, and_true] at hqn
    clear F₉ N₉ N₁₀'
    dsimp only at F₁₀ N₁₀ ⊢
    iterate 12 (try (first | walk1 | (dsimp only; walk1)))
    with_reducible rename Fr _ _ _ _ => F₁₁
    with_reducible rename News _ _ _ _ => N₁₁
    with_reducible rename (_ == sysModules) = false => lo
    with_reducible rename (Obj.IsDictOf (PySem.intKind _ _) _ []) => hi
    with_reducible rename (Obj.data _ = Data.cell (some (Value.int _ _))) => dc
    with_reducible rename (Obj.data _ = Data.cell (bindC _ _ _ _)) => dw2
    clear dw2
    with_reducible rename (Obj.data _ = Data.cell (bindC _ _ _ _)) => dw
    obtain ⟨m₁₁, F₁₁, mrow, mmet, mpile, mmeet, mleft⟩ : ∃ m₁, Fr s.heap s.heap.objs.size _ m₁ ∧ m₁ (Str.ofString "row") = some (.bytes row t) ∧ m₁ (Str.ofString "met") = some (.ref _) ∧ m₁ (Str.ofString "pile") = some (.ref P) ∧ m₁ (Str.ofString "meetings") = some (.ref _) ∧ m₁ (Str.ofString "left") = some (.ref _) := ⟨_, F₁₁, rfl, rfl, rfl, rfl, rfl⟩
    obtain ⟨res, hres, hsort⟩ := run_ok hc (ks := cs.map (·.1)) (by rw [List.length_map]; exact hlen) (fun k hk => by
      obtain ⟨x, hx, rfl⟩ := List.mem_map.mp hk
      exact (hcs x hx).1)
    obtain ⟨n1, n2, n3, n4, n5, n6⟩ := hqn
    have N₁₂ := news9 N₁₁
    have lay := lay_of N₁₂ lo ⟨by omega, by omega, by omega, by omega, by omega⟩
    k_dflt (refine While_inv (LJ w (cs.map (·.1)) c row s.heap.objs.size _ P DX _ _ res) (n₀ := 33) F₁₁ N₁₂ ⟨[n0 c], [n0 c], [], _, _, _, _, _, _, [], _, _, _, _, _, rfl, ⟨_, dw⟩, ⟨?_, .cons _ _ .nil, .cons ⟨q, _, _, rfl, .head _⟩ .nil, hpD, hi, ?_, .nil, ⟨_, dc⟩, ⟨t, mrow⟩, mmet, mpile, mmeet, mleft, ?_, ?_, ?_⟩, hres⟩ ?_)
    · intro p hp a ha
      rw [List.mem_singleton.mp hp]
      simp only [List.mem_cons, List.not_mem_nil, or_false] at ha
      rcases ha with rfl | rfl | rfl | rfl | rfl | rfl | rfl <;> first | exact Ne.symm n1 | exact Ne.symm n2 | exact Ne.symm n3 | exact Ne.symm n4 | exact Ne.symm n5 | exact Ne.symm n6 | (refine neN ?_; dsimp only; omega)
    · intro one other v _ _ hv
      cases hv
    · intro x hx
      rw [List.mem_singleton.mp hx]; exact n0_mem hc
    · intro x hx
      rw [List.mem_singleton.mp hx]; exact n0_mem hc
    · simp
    · rintro k m₁ news₁ hT tkT FT NT ⟨met, pile, left, mv, n1', pv, n2', oDX', oD', kvs, lv, n3', oc, ow, own, rfl, ⟨vw, dw'⟩, I, hrun⟩
      obtain ⟨-, -, hpileI, hplainI, -, -, hleftI, -, -, -, mpI, -, mlI, -, -, bI⟩ := id I
      have em := kst_eq (m := m₁) [(Str.ofString "pile", _), (Str.ofString "left", _)] (by intro p hp; simp only [List.mem_cons, List.not_mem_nil, or_false] at hp; rcases hp with rfl | rfl <;> assumption)
      clear F₁₁ N₁₁ N₁₂
      have FT' := FT
      rw [← em] at FT'
      have hpDI := hplainI
      unfold plainD at hpDI
      simp only [Bool.and_eq_true, beq_iff_eq] at hpDI
      dsimp only
      iterate 3 (first | walk1 | (dsimp only; walk1))
      dsimp only
      refine method_any (T := "function") (X.keeps FT'.keep) ⟨(NT _ (.tail _ (.head _))).1, rfl, rfl, (NT _ (.tail _ (.tail _ (.head _)))).1⟩ (by k_is) (by decide +kernel) (by k_is) (by k_is) (by first | k_is | kernel_rfl) (.inl rfl) hpDI.1.1.2 ?_
      dsimp only
      iterate 1 (first | walk1 | (dsimp only; walk1))
      refine count_call rfl (by simp only [depth_deeper]; omega) (by simp only [units_deeper]; omega) ⟨X.keeps FT'.keep, mean, mg, mb, T.keeps FT'.keep⟩ (NT _ (.tail _ (.head _))).1 (NT _ (.tail _ (.tail _ (.head _)))).1 ?_
      intro hU tU tkU kU
      have FU := frX FT' kU
      have NU := newsX NT kU
      clear FT FT' NT
      dsimp only at FU NU ⊢
      iterate 3 (first | walk1 | (dsimp only; walk1))
      have hlp := paired_len hpileI
      rcases List.eq_nil_or_concat pile with rfl | ⟨pile', n, rfl⟩
      · have hres' : left = res := by
          cases k with
          | zero => cases hrun
          | succ k => exact Option.some.inj hrun
        subst hres'
        rw [if_neg (by rw [← hlp]; simp)]
        dsimp only
        iterate 9 (first | walk1 | (dsimp only; walk1))
        with_reducible rename Fr _ _ _ _ => FV
        with_reducible rename News _ _ _ _ => NV
        have hl5 : left.length < 64 := by
          have h1 := (sortN_perm left).length_eq
          rw [hsort] at h1
          have h2 : (ruleP (cs.map (·.1))).length ≤ (List.range (cs.map (·.1)).length).length := List.length_filter_le _ _
          rw [List.length_range, List.length_map] at h2
          clear n1 n2 n3 n4 n5 n6
          omega
        refine kso_sorted (vs := lv.toList) FV NV ⟨_, (NV (_, listOf lv n3') (.tail _ (.tail _ (.tail _ (.tail _ (.head _)))))).1, rfl, n3', by rw [Array.toArray_toList]⟩ hleftI (by rw [List.length_map]; exact hl5) ?_
        intro D' vs' ns' nc hW FW NW _ hiW _ hpW hsW _
        have e := sorted_is hpW hsW
        rw [hsort] at e
        subst e
        iterate 3 (try (first | walk1 | (dsimp only; walk1)))
        exact hQ _ _ _ (fun b o e => FW.keep b o e) ⟨D', vs'.toArray, nc, rfl, (NW _ (.head _)).2.2, (NW _ (.head _)).1, by rw [List.toList_toArray]; exact hiW⟩
      · rw [List.concat_eq_append] at *
        cases k with
        | zero => cases hrun
        | succ k =>
          rw [if_pos (by rw [← hlp]; simp)]
          rw [em] at FU
          have bI' := bI.1
          have bI2 := bI.2.1
          simp only [List.length_append, List.length_cons, List.length_nil] at bI2
          exact left_turn (s := s) hc hlen hcs hrowE (show (Mine.hd.heap_39 w.params).lookup 148 = some _ from by k_is) rfl (by exact hd) (by exact hu) X T lay (by omega) FU NU dw' I hrun
end
section
theorem afresh_F1 : True := by
  w_top off
  trivial
section
variable {prog : Program} {w : World} {A : Around} {E : Value → Shared → Prop} {s : Shared} {env : Env} {H : Heap} {body : List Stmt} {Q : Flow → Shared → Prop}
theorem for_enum {elts : List PySem.Expr} {kx : Nat} {pos : Pos} {l : Addr} {a : Array Value} {ns : List Int} {m : Str → Option Value} {news : List (Addr × Obj)} {ol : Obj}
    (hh : A.handled = none) (F : Fr H env.locals s.heap m) (N : News H env.locals s.heap news) (hH : H.get? l = some ol) (hI : s.heap.IsList l a) (i1 : IntsAre a.toList ns) (J : Nat → (Str → Option Value) → List (Addr × Obj) → Prop) (h0 : J 0 m news)
    (turn : ∀ (i : Nat) n ti tx T m₁ news₁ h₁ tk₁ own, ns[i]? = some n → IsTup h₁ T #[.int (i : Int) ti, .int n tx] → J i m₁ news₁ → OwnOff own (news₁.map (·.1)) → Fr H env.locals h₁ m₁ → News H env.locals h₁ (news₁ ++ own) →
      wpAny (model prog w) A (assign (.Tuple elts kx pos) env (.ref T)) (fun _ s₂ => wpAny (model prog w) A (execs body env) (fun f s₃ => f = .next ∧ ∃ h' tk m' news', s₃ = { s with heap := h', toks := tk } ∧ Fr H env.locals h' m' ∧ News H env.locals h' (news' ++ own) ∧ OwnOff own (news'.map (·.1)) ∧ J (i + 1) m' news') E s₂) E { s with heap := h₁, toks := tk₁ })
    (done : ∀ h' tk m' news', Fr H env.locals h' m' → News H env.locals h' news' → J ns.length m' news' → Q .next { s with heap := h', toks := tk }) :
    wpAny (model prog w) A (call (.type "enumerate") [.ref l]) (fun xv s₁ => wpAny (model prog w) A (pyIter xv) (fun it s₂ => TurnsAt prog w A H env (.Tuple elts kx pos) body Q E it s₂) E s₁) E s := by
  have e1 : a.size = ns.length := by rw [← i1.length]; simp
  have hLs : env.locals < s.heap.objs.size := F.ns.lt
  have hL0 : H.get? env.locals = none := Heap.get?_none_of_le F.above
  have hlt : l < s.heap.objs.size := Heap.lt_size (F.keep _ _ hH)
  refine call_enumerate_list hI fun h' hE hit hsz hk => ?_
  refine wpAny_pyIter_enum hE ?_
  have W := KTurns.ofWalksU (elts := elts) (k := kx) (pos := pos) (WalksT.enumerate (prog := prog) (w := w) hh (s.heap.objs.size + 1) s.heap.objs.size l (Nat.ne_of_gt (Nat.lt_succ_self _)) (Nat.ne_of_lt (Nat.lt_succ_of_lt hlt)) (Nat.ne_of_lt hlt) a).toU
  rw [e1] at W
  refine turns_of W ⟨⟨_, hE⟩, hit, hI.at fun o e => hk l o e⟩ (F.keeps hk) (N.grown hk) ?_ ?_ ?_ ?_ J h0 ?_ done
  · intro hm
    have hb' : env.locals = s.heap.objs.size + 1 ∨ env.locals = s.heap.objs.size ∨ env.locals = l := by simpa using hm
    rcases hb' with e | e | e
    · exact ktu_ne 1 hLs e
    · exact Nat.ne_of_lt hLs e
    · rw [e, hH] at hL0; cases hL0
  · intro b hb
    have hb' : b = s.heap.objs.size + 1 ∨ b = s.heap.objs.size := by simpa using hb
    rcases hb' with rfl | rfl
    · exact ktu_new F (Nat.le_add_right _ _)
    · exact ktu_new F (Nat.le_refl _)
  · rintro i h ⟨⟨old, q1⟩, ⟨o2, q2, _⟩, ⟨o3, q3, _⟩⟩ b hb
    have hb' : b = s.heap.objs.size + 1 ∨ b = s.heap.objs.size ∨ b = l := by simpa using hb
    rcases hb' with rfl | rfl | rfl
    · exact ⟨_, q1⟩
    · exact ⟨_, q2⟩
    · exact ⟨_, q3⟩
  · intro p hp hm
    have hb' : p.1 = s.heap.objs.size + 1 ∨ p.1 = s.heap.objs.size ∨ p.1 = l := by simpa using hm
    have hlp := Heap.lt_size (N p hp).1
    rcases hb' with e | e | e
    · exact ktu_ne 1 hlp e
    · exact Nat.ne_of_lt hlp e
    · have := (N p hp).2.2
      rw [e, hH] at this; cases this
  · rintro i v m₁ news₁ h₁ tk₁ own hi ⟨T, vals, rfl, ⟨ti, x, hx, rfl⟩, hT⟩ hJ hoff F₁ N₁
    obtain ⟨n, tx, rfl, ex⟩ := i1.at i x (by simpa using hx)
    exact turn i n ti tx T m₁ news₁ h₁ tk₁ own ex hT hJ hoff F₁ N₁
/-- a comprehension over a list of the ledger, any elements -/
theorem comp_list {elt iter : PySem.Expr} {x : Str} {px : Pos} {ifs : List PySem.Expr} {scope : Scope} {cl : List (Str × Addr)} {pos : Pos} {L : Addr} {Qv : Value → Shared → Prop} (p : Value → Bool) (G : Value → Value → Prop)
    (hclos : closureFor scope env = pure cl) (hcell : ∀ y ∈ scope.names, y.2 ≠ .cell) (hkind : scope.kind = .function)
    (hnames : ∀ y ∈ scope.names, y.2 = .local → scope.names.lookup y.1 = some .local) (hx : scope.names.lookup x = some .local) (hh : A.handled = none)
    (h : wpAny (model prog w) A (eval iter env) (fun xv s₁ => ∃ l its nl m news, xv = .ref l ∧ s₁.heap.get? l = some (listOf its nl) ∧ its.size ≤ sizeLine ∧ Fr H L s₁.heap m ∧ News H L s₁.heap news ∧
      (∀ (i : Nat) v C oC m₃ (s₃ : Shared) (E' : Value → Shared → Prop), its[i]? = some v → LCg.NsObj oC m₃ → m₃ x = some v → Fr H L s₃.heap m → News H L s₃.heap ((C, oC) :: news) →
        wpAny (model prog w) A (forIn ifs true fun c r => if r = true then do let ok ← isTrue c (compEnvC scope cl C env) (eval c (compEnvC scope cl C env)); pure (ForInStep.yield ok) else pure (ForInStep.yield r)) (fun ok s₄ => ok = p v ∧ Keeps s₃ s₄) E' s₃ ∧
        (p v = true → wpAny (model prog w) A (eval elt (compEnvC scope cl C env)) (fun y s₄ => G v y ∧ Keeps s₃ s₄) E' s₃)) ∧
      (∀ D h' tk ys nD, Fr H L h' m → News H L h' ((D, listOf ys nD) :: news) → (∀ q ∈ news, q.1 ≠ D) → Paired G (its.toList.filter p) ys.toList → Qv (.ref D) { s₁ with heap := h', toks := tk })) E s)
    (hs : ∀ x, foldedSetIterable iter env x = pure x := by intro _; rfl) :
    wpAny (model prog w) A (eval (.ListComp elt [⟨.Name x px, iter, ifs, 0⟩] scope pos) env) Qv E s := by
  refine wpAny_ListComp_free p G hclos hcell hkind hnames hx (wpAny_mono h (fun xv s₁ h₁ => ?_) fun _ _ e => e) hs
  obtain ⟨l, its, nl, m, news, rfl, hl, hz, F, N, hE, hD⟩ := h₁
  have hL : s₁.heap.IsList l its := ⟨_, hl, rfl, nl, rfl⟩
  have hlt := Heap.lt_size hl
  have hne : l ≠ s₁.heap.objs.size := Nat.ne_of_lt hlt
  refine wpAny_pyIter_list hL ?_
  have F₂ := F.push { cls := .type "list_iterator", data := .fields #[.ref l, .int 0 0] }
  have N₂ : News H L (s₁.heap.push { cls := .type "list_iterator", data := .fields #[.ref l, .int 0 0] }) news := fun p hp => ⟨Heap.get?_push_of_some _ (N p hp).1, (N p hp).2⟩
  have hI0 : H.get? s₁.heap.objs.size = none ∧ s₁.heap.objs.size ≠ L ∧ ∀ q ∈ news, q.1 ≠ s₁.heap.objs.size := ⟨next_is_new F, Nat.ne_of_gt F.ns.lt, fun q hq => Nat.ne_of_lt (Heap.lt_size (N q hq).1)⟩
  have hwr : ∀ b ∈ [s₁.heap.objs.size], H.get? b = none ∧ b ≠ L ∧ ∀ q ∈ news, q.1 ≠ b := fun b hb => by rw [List.mem_singleton.mp hb]; exact hI0
  refine ⟨_, _, _, _, _, _, rfl, Walks.list hh s₁.heap.objs.size l hne its, hz, ⟨⟨_, Heap.get?_push_size _ rfl, rfl, rfl⟩, hL.at fun o e => Heap.get?_push_of_some _ e⟩, ?_, ⟨?_, ?_⟩, ?_⟩
  · intro b hb
    show b < (s₁.heap.push _).objs.size
    rw [Heap.size_push]
    rcases List.mem_cons.mp hb with rfl | hb
    · exact Nat.lt_succ_self _
    · rw [List.mem_singleton.mp hb]; exact Nat.lt_succ_of_lt hlt
  · intro C i v s₃ m₃ E' hC hP hn hm hk _
    obtain ⟨F₃, oC, N₃, hNC⟩ := comp_news F₂ N₂ hC hn hk hwr
    exact (hE i v C oC m₃ s₃ E' hP hNC hm F₃ N₃).1
  · intro C i v s₃ m₃ E' hC hP hp hn hm hk _
    obtain ⟨F₃, oC, N₃, hNC⟩ := comp_news F₂ N₂ hC hn hk hwr
    exact (hE i v C oC m₃ s₃ E' hP hNC hm F₃ N₃).2 hp
  · intro D h' tk ys vs hD0 hl' hpl hlen hPv hF hk
    obtain ⟨nD, hDg⟩ := hpl
    have evs : vs = its.toList := by
      refine List.ext_getElem? fun j => ?_
      rcases Nat.lt_or_ge j its.size with hj | hj
      · have h1 := List.getElem?_eq_getElem (l := vs) (i := j) (by omega)
        rw [h1, Array.getElem?_toList]
        exact (hPv j _ h1).symm
      · rw [List.getElem?_eq_none (by omega), Array.getElem?_toList, Array.getElem?_eq_none hj]
    rw [evs] at hF
    have hH : ∀ b o, H.get? b = some o → h'.get? b = some o := fun b o e => hk b o (fun hb => by rw [(hwr b hb).1] at e; cases e) (F₂.keep b o e)
    obtain ⟨oL, es, ep, ho, hd, hk', hf⟩ := F₂.ns
    refine hD D h' tk ys nD ⟨⟨oL, es, ep, hk _ _ (fun hb => (hwr _ hb).2.1 rfl) ho, hd, hk', hf⟩, hH, F.above⟩ (fun q hq => ?_) (fun q hq e => ?_) hF
    · rcases List.mem_cons.mp hq with rfl | hq
      · refine ⟨hDg, fun e => ?_, ?_⟩
        · have e' : D = L := e
          rw [e', ho] at hD0; cases hD0
        · cases q : H.get? D with
          | none => rfl
          | some o => rw [F₂.keep _ _ q] at hD0; cases hD0
      · exact ⟨hk _ _ (fun hb => (hwr _ hb).2.2 q hq rfl) (N₂ q hq).1, (N₂ q hq).2⟩
    · have := (N₂ q hq).1
      rw [e, hD0] at this; cases this
end
end
section
theorem afresh_F2 : True := by
  w_top off
  trivial
noncomputable def RuleP (ks : List Nat) (p : Nat) : Bool :=
  let k := ks.getD p 0
  let ok := fun (side : List Nat) => !(side.contains ((k + 1) % 3) && !side.contains ((k + 2) % 3))
  ok (ks.take p) && ok (ks.drop (p + 1))
theorem ruleP_eq (ks : List Nat) : ruleP ks = (List.range ks.length).filter (RuleP ks) := rfl
theorem eq_nil {prog : Program} {w : World} {A : Around} {E : Value → Shared → Prop} {s : Shared} {D3 D0 D1 D2 : Addr} {ys : Array Value} {n3 n0 n1 n2 : Nat} {w1 w2 : List Value} {i1 i2 : List Int} {b1 b2 : Bool} {Q : Value → Shared → Prop}
    (h3 : s.heap.get? D3 = some (listOf ys n3)) (h0 : s.heap.get? D0 = some (listOf #[] n0)) (h1 : s.heap.get? D1 = some (listOf w1.toArray n1)) (h2 : s.heap.get? D2 = some (listOf w2.toArray n2)) (e1 : IntsAre w1 i1) (e2 : IntsAre w2 i2)
    (hys : ys.toList = (if b1 then [.ref D1] else []) ++ (if b2 then [.ref D2] else [])) (hu : A.units + 64 < cLine) (h : Q (.bool (!b1 && !b2)) s) : wpAny (model prog w) A (compareOp .Eq (.ref D3) (.ref D0)) Q E s := by
  have r1 : Reads s.heap (.ref D1) (.list (i1.map PyData.int)) [D1] := reads_newData ⟨_, h1, rfl, n1, rfl⟩ (ke_carried e1)
  have r2 : Reads s.heap (.ref D2) (.list (i2.map PyData.int)) [D2] := reads_newData ⟨_, h2, rfl, n2, rfl⟩ (ke_carried e2)
  have r0 : Reads s.heap (.ref D0) (.list []) [D0] := reads_list_at h0 rfl rfl .nil
  cases b1 <;> cases b2
  · exact eq_dataH (reads_list_at h3 rfl rfl (by rw [hys]; exact .nil)) r0 rfl rfl hu (by simpa [PyData.eqv, PyData.eqvAll] using h)
  · exact eq_dataH (reads_list_at h3 rfl rfl (by rw [hys]; exact .cons r2 .nil)) r0 (by simp [SeqAt.shaped, PyData.canLay0, PyData.canLayAll0, PyData.depth, PyData.depthAll, ke_canLayAll0, ke_depthAll]) rfl hu (by simpa [PyData.eqv, PyData.eqvAll] using h)
  · exact eq_dataH (reads_list_at h3 rfl rfl (by rw [hys]; exact .cons r1 .nil)) r0 (by simp [SeqAt.shaped, PyData.canLay0, PyData.canLayAll0, PyData.depth, PyData.depthAll, ke_canLayAll0, ke_depthAll]) rfl hu (by simpa [PyData.eqv, PyData.eqvAll] using h)
  · exact eq_dataH (reads_list_at h3 rfl rfl (by rw [hys]; exact .cons r1 (.cons r2 .nil))) r0 (by simp [SeqAt.shaped, PyData.canLay0, PyData.canLayAll0, PyData.depth, PyData.depthAll, ke_canLayAll0, ke_depthAll]) rfl hu (by simpa [PyData.eqv, PyData.eqvAll] using h)
theorem paired_eq : ∀ {as ys : List Value}, Paired (fun v y => y = v) as ys → ys = as
  | _, _, .nil => rfl
  | _, _, .cons e r => by rw [e, paired_eq r]
noncomputable def sideBad (k : Nat) (side : List Nat) : Bool := side.contains ((k + 1) % 3) && !side.contains ((k + 2) % 3)
noncomputable def pS (D : Addr) (b1 b2 : Bool) (v : Value) : Bool := match v with | .ref a => if Nat.beq a D then b1 else b2 | _ => false
noncomputable def RJ (ks : List Nat) (R Lf L : Addr) (i : Nat) (m : Str → Option Value) (news : List (Addr × Obj)) : Prop :=
  ∃ lv n oc ow vb vs, news = [(Lf, listOf lv n), (L + 1 + 1, ow), (L + 1, oc)] ∧ oc.data = .cell vb ∧ ow.data = .cell vs ∧ IntsAre lv.toList (((List.range i).filter (RuleP ks)).map fun (x : Nat) => (x : Int)) ∧ m (Str.ofString "kinds") = some (.ref R) ∧ m (Str.ofString "left") = some (.ref Lf)
theorem rule_call {w : World} {ks : List Nat} (hk : ∀ k ∈ ks, k < 3) (hl5 : ks.length ≤ 5) (dp un : Nat) (fr : Option (List Env)) (gd : Option (List Code)) (h0 : Heap) (g : Array GenState) (d : Drawn) (t : Nat) (os : OsState) {Q E : Value → Shared → Prop} {R : Addr} {vl : Array Value} {nR : Nat}
    (hd : dp + 20 < 600) (hu : un + 100 < 6000) (G : Gd w h0) (hR : h0.get? R = some (listOf vl nR)) (hi : IntsAre vl.toList (ks.map fun (x : Nat) => (x : Int)))
    (hQ : ∀ D vs nD h' tk, (∀ b o, h0.get? b = some o → h'.get? b = some o) → h0.get? D = none → h'.get? D = some (listOf vs nD) → IntsAre vs.toList ((ruleP ks).map fun (x : Nat) => (x : Int)) → Q (.ref D) ⟨h', g, d, tk, os⟩) :
    wpAny (model PySem.Challenge.rw_xp0006_01.row.prog w) ⟨none, dp, fr, gd, un⟩ (call (.ref 153) [.ref R]) Q E ⟨h0, g, d, t, os⟩ := by
  obtain ⟨X, mean, mg, mb, T⟩ := G
  revert X; k_fill; intro X
  k_dflt (refine' enterC ?k1 ?k2 ?k6 ?k7 ?k8 ?k9 ?kB ?kD ?_ ?c2 ?c3 ?c4)
  case k1 => assumption
  case k2 => exact Top.nolimit (by assumption)
  case k6 => k_is
  case k7 => k_is
  case k8 => k_room
  case k9 => exact rfl
  case kB => exact kinds_of (by kinds_ok)
  case kD => decide +kernel
  case c2 => exact rfl
  case c3 => exact rfl
  case c4 => exact rfl
  k_whole
  intro h₁ tk cells F N Y
  k_cells Y
  dsimp only at F N ⊢
  iterate 8 (first | walk1 | (dsimp only; walk1))
  with_reducible rename Fr _ _ _ _ => F
  with_reducible rename News _ _ _ _ => N
  with_reducible rename (Obj.data _ = Data.cell (bindC _ _ _ _)) => d1
  revert d1
  with_reducible rename (Obj.data _ = Data.cell (bindC _ _ _ _)) => d2
  intro d1
  obtain ⟨m₁, F, mk, ml⟩ : ∃ m₁, Fr h0 h0.objs.size _ m₁ ∧ m₁ (Str.ofString "kinds") = some (.ref R) ∧ m₁ (Str.ofString "left") = some (.ref _) := ⟨_, F, rfl, rfl⟩
  have em := kst_eq (m := m₁) [(Str.ofString "kinds", _), (Str.ofString "left", _)] (by intro p hp; simp only [List.mem_cons, List.not_mem_nil, or_false] at hp; rcases hp with rfl | rfl <;> assumption)
  refine For_turns F ?_
  rw [← em] at F
  iterate 6 (first | walk1 | (dsimp only; walk1))
  rw [em] at F
  refine for_enum (env := envOfC _ _ h0.objs.size 153 _) rfl F N hR ⟨_, F.keep _ _ hR, rfl, nR, rfl⟩ hi (RJ ks R _ h0.objs.size) ⟨_, _, _, _, _, _, rfl, d1, d2, .nil, mk, ml⟩ ?_ ?_
  · rintro i n ti tx Tt m₁ _ h₂ tk₂ own hn hT ⟨lv, nl, oc, ow, vb, vs, rfl, dc, dw, hI, mk', ml'⟩ hoff F₁ N₁
    rw [List.getElem?_map] at hn
    obtain ⟨kk, hkk, rfl⟩ := Option.map_eq_some_iff.mp hn
    have hk3 := hk kk (List.mem_of_getElem? hkk)
    have hil := (List.getElem?_eq_some_iff.mp hkk).1
    clear F N d1 d2 em mk ml hn
    simp only [List.map_cons, List.map_nil] at hoff
    have em := kst_eq (m := m₁) [(Str.ofString "kinds", _), (Str.ofString "left", _)] (by intro p hp; simp only [List.mem_cons, List.not_mem_nil, or_false] at hp; rcases hp with rfl | rfl <;> assumption)
    rw [← em] at F₁
    clear em
    replace N₁ : News h0 h0.objs.size h₂ ((_, listOf lv nl) :: (h0.objs.size + 1 + 1, ow) :: (h0.objs.size + 1, oc) :: own) := N₁
    refine unpackN_ (by exact F₁) (by exact N₁) hT (by exact rfl) (by exact rfl) (by exact rfl) ?_
    intro h₃ F₂ N₂
    clear F₁ N₁ hT
    dsimp only
    iterate 32 (first | walk1 | (dsimp only; walk1))
    dsimp only
    iterate 17 (first | walk1 | (dsimp only; walk1))
    with_reducible rename Fr _ _ _ _ => F₄
    with_reducible rename News _ _ _ _ => N₄
    have hRl : ∀ h' : Heap, (∀ b o, h0.get? b = some o → h'.get? b = some o) → h'.IsList R vl.toList.toArray := fun h' k => ⟨_, k _ _ hR, rfl, nR, by rw [Array.toArray_toList]⟩
    have hlv : vl.toList.length ≤ 5 := by rw [hi.length, List.length_map]; exact hl5
    k_dflt (refine' kmk_slice_ints (vs := vl.toList) ?z1F ?z1N ?z1l ?z1p ?z1q ?z1i ?z1m ?z1c ?_ ?z1s ?z1t ?z1z; (case z1F => exact F₄); (case z1N => exact N₄); (case z1l => exact hRl _ F₄.keep); (case z1p => exact IsPart.none); (case z1q => exact IsPart.int _ _); (case z1i => exact hi); (case z1m => exact kmk_upto hi (by omega)); (case z1c => exact rfl); (case z1s => with_unfolding_all rfl); (case z1t => (intro _; with_unfolding_all rfl)); (case z1z => (rw [List.size_toArray, sizeLine_eq]; omega)))
    intro D1 ws1 h₅ F₅ N₅ l5 hI5 _ _
    k_lt l5
    clear F₄ N₄
    iterate 11 (first | walk1 | (dsimp only; walk1))
    k_dflt (refine' kmk_slice_ints (vs := vl.toList) ?z2F ?z2N ?z2l ?z2p ?z2q ?z2i ?z2m ?z2c ?_ ?z2s ?z2t ?z2z; (case z2F => exact F₅); (case z2N => exact N₅); (case z2l => exact hRl _ F₅.keep); (case z2p => exact IsPart.int _ _); (case z2q => exact IsPart.none); (case z2i => exact hi); (case z2m => exact kmk_from hi (by omega)); (case z2c => exact rfl); (case z2s => with_unfolding_all rfl); (case z2t => (intro _; with_unfolding_all rfl)); (case z2z => (rw [List.size_toArray, sizeLine_eq]; omega)))
    intro D2 ws2 h₆ F₆ N₆ l6 hI6 _ _
    k_lt l6
    clear F₅ N₅
    iterate 7 (first | walk1 | (dsimp only; walk1))
    rw [Int.toNat_natCast, ← List.map_take] at hI5
    rw [show ((i : Int) + 1).toNat = i + 1 by omega, ← List.map_drop] at hI6
    with_reducible rename Fr _ _ _ _ => F₇
    with_reducible rename News _ _ _ _ => N₇
    have hD12 : @LT.lt Nat _ D1 D2 := l6.1
    refine comp_list (H := h0) (L := h0.objs.size) (pS D1 (sideBad kk (ks.take i)) (sideBad kk (ks.drop (i + 1)))) (fun v y => y = v) (by rfl) (by decide) rfl (by decide) (by rfl) rfl ?_
    iterate 1 (first | walk1 | (dsimp only; walk1))
    refine ⟨_, #[.ref D1, .ref D2], 0, _, _, rfl, (N₇ _ (.head _)).1, Nat.le_of_ble_eq_true rfl, F₇, N₇, ?_, ?_⟩
    · intro j v C oC m₃ s₃ E' hv hNC hm F₈ N₈
      have hv2 : (v = .ref D1 ∧ pS D1 (sideBad kk (ks.take i)) (sideBad kk (ks.drop (i + 1))) v = sideBad kk (ks.take i)) ∨ (v = .ref D2 ∧ pS D1 (sideBad kk (ks.take i)) (sideBad kk (ks.drop (i + 1))) v = sideBad kk (ks.drop (i + 1))) := by
        match j, hv with
        | 0, hv => cases hv; exact .inl ⟨rfl, if_pos (Nat.beq_refl D1)⟩
        | 1, hv => cases hv; exact .inr ⟨rfl, if_neg (fun e => Nat.ne_of_gt hD12 (Nat.eq_of_beq_eq_true e))⟩
      have hb1 : ((kk : Int) + 1).fmod 3 = (((kk + 1) % 3 : Nat) : Int) := fmodN (kk + 1) 3 (by decide)
      have hb2 : ((kk : Int) + 2).fmod 3 = (((kk + 2) % 3 : Nat) : Int) := fmodN (kk + 2) 3 (by decide)
      clear N₇ F₇
      refine ⟨wpAny_tests_one ?_, fun _ => ?_⟩
      · rcases hv2 with ⟨rfl, e⟩ | ⟨rfl, e⟩
        all_goals rw [e]
        all_goals iterate 6 (try (first | walk1 | (dsimp only; walk1)))
        all_goals rw [hb1, any_cast]
        all_goals unfold sideBad
        all_goals generalize hq : List.contains _ ((kk + 1) % 3) = q1
        all_goals cases q1
        all_goals iterate 8 (try (first | walk1 | (dsimp only; walk1)))
        all_goals first
          | exact ⟨_, _, rfl, fun _ _ e => e⟩
          | (rw [hb2, any_cast]; generalize List.contains _ ((kk + 2) % 3) = q2; cases q2 <;> (iterate 4 (try (first | walk1 | (dsimp only; walk1)))) <;> exact ⟨_, _, rfl, fun _ _ e => e⟩)
      · iterate 1 (first | walk1 | (dsimp only; walk1))
        exact ⟨rfl, _, _, rfl, fun _ _ e => e⟩
    · intro D3 h₉ tk₉ ys nD F₉ N₉ hD3 hP
      have hys := paired_eq hP
      have hD3n := allNe_of hD3
      simp only [AllNe] at hD3n
      have p1 : pS D1 (sideBad kk (ks.take i)) (sideBad kk (ks.drop (i + 1))) (.ref D1) = sideBad kk (ks.take i) := if_pos (Nat.beq_refl D1)
      have p2 : pS D1 (sideBad kk (ks.take i)) (sideBad kk (ks.drop (i + 1))) (.ref D2) = sideBad kk (ks.drop (i + 1)) := if_neg (fun e => Nat.ne_of_gt hD12 (Nat.eq_of_beq_eq_true e))
      replace hys : ys.toList = (if sideBad kk (ks.take i) = true then [.ref D1] else []) ++ (if sideBad kk (ks.drop (i + 1)) = true then [.ref D2] else []) := by
        rw [hys]
        show List.filter _ [Value.ref D1, Value.ref D2] = _
        rw [List.filter_cons, List.filter_cons, List.filter_nil, p1, p2]
        cases sideBad kk (ks.take i) <;> cases sideBad kk (ks.drop (i + 1)) <;> rfl
      clear hP N₇ F₇
      dsimp only
      iterate 3 (first | walk1 | (dsimp only; walk1))
      with_reducible rename News _ _ _ _ => N₁₀
      refine eq_nil (N₁₀ (D3, _) (.tail _ (.head _))).1 (N₁₀ _ (.head _)).1 (N₁₀ (D1, _) (.tail _ (.tail _ (.tail _ (.tail _ (.head _)))))).1 (N₁₀ (D2, _) (.tail _ (.tail _ (.tail _ (.head _))))).1 hI5 hI6 hys (by k_units) ?_
      have hRP : RuleP ks i = (!sideBad kk (ks.take i) && !sideBad kk (ks.drop (i + 1))) := by
        unfold RuleP
        rw [List.getD_eq_getElem?_getD, hkk]
        rfl
      rw [← hRP]
      have hrs : (List.range (i + 1)).filter (RuleP ks) = (List.range i).filter (RuleP ks) ++ (if RuleP ks i = true then [i] else []) := by
        rw [List.range_succ, List.filter_append, List.filter_cons, List.filter_nil]
      have hlvs : lv.size ≤ 5 := by
        have h1 := hI.length
        rw [Array.length_toList, List.length_map] at h1
        have h2 : ((List.range i).filter (RuleP ks)).length ≤ (List.range i).length := List.length_filter_le _ _
        rw [List.length_range] at h2
        omega
      clear hRP hys p1 p2 hkk
      cases hb : RuleP ks i with
      | false =>
        rw [hb] at hrs
        iterate 5 (first | walk1 | (dsimp only; walk1))
        with_reducible rename Fr _ _ _ _ => F₁₁
        with_reducible rename (Obj.data _ = Data.cell (some (Value.int _ _))) => dA
        revert dA
        with_reducible rename (Obj.data _ = Data.cell (some (Value.int _ _))) => dB
        intro dA
        refine ⟨rfl, _, _, _, [(_, listOf lv nl), (_, _), (_, _)], rfl, F₁₁, fun p hp => N₁₀ p (.tail _ (.tail _ (.tail _ (.tail _ (.tail _ (.tail _ hp)))))), hoff, lv, nl, _, _, _, _, rfl, dB, dA, ?_, rfl, rfl⟩
        rw [hrs]
        simpa using hI
      | true =>
        rw [hb] at hrs
        iterate 12 (first | walk1 | (dsimp only; walk1))
        with_reducible rename Fr _ _ _ _ => F₁₁
        with_reducible rename (Obj.data _ = Data.cell (some (Value.int _ _))) => dA
        revert dA
        with_reducible rename (Obj.data _ = Data.cell (some (Value.int _ _))) => dB
        intro dA
        k_dflt (refine append_K F₁₁ N₁₀ (by k_upd) ?_ (by rw [sizeLine_eq]; omega))
        intro h₁₂ F₁₂ N₁₂
        try dsimp only at N₁₂
        iterate 3 (try (first | walk1 | (dsimp only; walk1)))
        refine ⟨rfl, _, _, _, [(_, listOf (lv.push _) (nl + 1)), (_, _), (_, _)], rfl, F₁₂, fun p hp => N₁₂ p (.tail _ (.tail _ (.tail _ (.tail _ (.tail _ (.tail _ hp)))))), hoff, lv.push _, nl + 1, _, _, _, _, rfl, dB, dA, ?_, rfl, rfl⟩
        rw [hrs, List.map_append, Array.toList_push]
        exact hI.append (.cons _ _ .nil)
  · rintro h' tk' m' _ F' N' ⟨lv, n, oc, ow, vb, vs, rfl, -, -, hI, mk', ml'⟩
    rw [List.length_map] at hI
    have em := kst_eq (m := m') [(Str.ofString "left", _)] (by intro p hp; rw [List.mem_singleton.mp hp]; exact ml')
    rw [← em] at F'
    dsimp only
    iterate 3 (first | walk1 | (dsimp only; walk1))
    exact hQ _ lv n _ _ (fun b o e => F'.keep b o e) (N' _ (.head _)).2.2 (N' _ (.head _)).1 hI
end
section
theorem afresh_F3 : True := by
  w_top off
  trivial
section
variable {prog : Program} {w : World} {A : Around} {E : Value → Shared → Prop} {s : Shared}
theorem ba_set {S : Addr} {a : Array UInt8} {k : Nat} {x : UInt8} {t u : Tok} {Q : Unit → Shared → Prop} (hs : s.heap.get? S = some (baO a)) (hk : k < a.size) (hz : a.size ≤ 100)
    (h : ∀ h', h'.get? S = some (baO (a.setIfInBounds k x)) → (∀ d o, d ≠ S → s.heap.get? d = some o → h'.get? d = some o) → Q () { s with heap := h' }) :
    wpAny (model prog w) A (setItem (.ref S) (.int (k : Int) t) (.int (x.toNat : Int) u)) Q E s := by
  have hT : s.TypeIs (.ref S) "bytearray" := ⟨_, hs, rfl⟩
  have slot : Slot "bytearray" "__setitem__" "bytearray.__setitem__" :=
    .of (owner := "bytearray") (n := "__setitem__") (by rw [typeLookup_type, builtinLookup_eq_fast]; kernel_rfl) (by decide +kernel) (by decide +kernel) (by decide +kernel)
      (by first | exact .inl (by decide +kernel) | exact .inr (by decide +kernel)) (by rw [isSubtype_type]; kernel_rfl)
  unfold setItem
  try with_reducible refine wpAny_holding ?_
  first | refine wpAny_bind (wpAny_pure ?_) | skip
  refine wpAny_bind (wpAny_sequenceKey hT (by decide) ?_)
  refine wpAny_bind (wpAny_callSpecial?_slot (name := Str.ofString "__setitem__") hT slot
    (wpAny_call_entry slot hT (show entryFor table "bytearray.__setitem__" = some Builtin.«bytearray.__setitem__» by first | exact entryFor_of_fast (by kernel_rfl) | exact entryFor_of_tree (by kernel_rfl)) ?_ (by unfold argsOk; kernel_rfl)))
  have hx := x.toNat_lt
  unfold Builtin.«bytearray.__setitem__»
  dsimp only
  rw [if_neg (by decide)]
  unfold Builtin.Bytes.subscript?
  with_reducible refine wpAny_bind ?_
  with_reducible refine wpAny_bind ?_
  have hi := int_index_
  have hT2 : s.TypeIs (.int (k : Int) t) "int" := typeIs_int _ _ _
  with_reducible refine wpAny_specialOf hT2 hi ?_
  rw [if_neg (by decide)]
  with_reducible refine wpAny_bind ?_
  rw [show asIndex (.int (k : Int) t) = pure (k : Int) from rfl]
  with_reducible refine wpAny_pure ?_
  rw [if_neg (by unfold Builtin.Bytes.fitsIndex; simp; omega)]
  with_reducible refine wpAny_pure ?_
  dsimp only
  unfold Builtin.Bytes.byteValue
  with_reducible refine wpAny_bind ?_
  with_reducible refine wpAny_bind ?_
  rw [show asIndex (.int (x.toNat : Int) u) = pure (x.toNat : Int) from rfl]
  with_reducible refine wpAny_pure ?_
  rw [if_neg (by simp; omega)]
  with_reducible refine wpAny_pure ?_
  unfold Builtin.Bytes.payload Builtin.Bytes.payload?
  dsimp only
  with_reducible refine wpAny_bind ?_
  with_reducible refine wpAny_bind ?_
  with_reducible refine wpAny_bind ?_
  refine wpAny_load hs ?_
  dsimp only
  with_reducible refine wpAny_pure ?_
  dsimp only
  with_reducible refine wpAny_pure ?_
  have hq : seqIndex? (k : Int) a.size = some k := by
    unfold seqIndex?
    have hnk : ¬ ((k : Int) < 0) := by omega
    simp [hnk, hk]
  rw [hq]
  dsimp only
  with_reducible refine wpAny_bind ?_
  have ex : ((x.toNat : Int).toNat.toUInt8) = x := by simp
  rw [ex]
  refine ba_write hs (by rw [Array.size_setIfInBounds, sizeLine_eq]; omega) fun h' g' k' => ?_
  exact wpAny_pure ⟨_, rfl, wpAny_pure (h h' g' k')⟩
theorem ba_end2 {h₀ : Heap} {b : Array UInt8} {Q : Value → Shared → Prop} {g : Array GenState} {d : Drawn} {tk : Nat} {t : Tok} {os : OsState} (h : ∀ (h' : Heap) (tk : Nat) (t : Tok), (∀ d o, h₀.get? d = some o → h'.get? d = some o) → Q (.bytes b t) ⟨h', g, d, tk, os⟩) : Q (.bytes b t) ⟨h₀, g, d, tk, os⟩ := h _ _ _ fun _ _ e => e
local macro_rules | `(tactic| x_close) => `(tactic| exact ba_end2 (by assumption))
theorem ba_bytes {D : Addr} {b : Array UInt8} (hz : b.size ≤ 100) {Q : Value → Shared → Prop} (hs : s.heap.get? D = some (baO b))
    (h : ∀ (h' : Heap) (tk : Nat) (t : Tok), (∀ d o, s.heap.get? d = some o → h'.get? d = some o) → Q (.bytes b t) { s with heap := h', toks := tk }) :
    wpAny (model prog w) A (call (.type "bytes") [.ref D]) Q E s := by
  obtain ⟨hh, g, d, t, os⟩ := s
  dsimp only at hs
  unfold baO at hs
  x_run
end
end
section
theorem afresh_F4 : True := by
  w_top off
  trivial
section
variable {prog : Program} {w : World} {A : Around} {E : Value → Shared → Prop} {s : Shared} {env : Env} {H : Heap} {body : List Stmt} {Q : Flow → Shared → Prop}
theorem for_range {x : Str} {px : Pos} {r : Addr} {b : Int} {t u v : Tok} {k : Nat} {m : Str → Option Value} {news : List (Addr × Obj)}
    (hh : A.handled = none) (F : Fr H env.locals s.heap m) (N : News H env.locals s.heap news) (hr : IsRange s.heap r 0 b 1 t u v) (hsm : Builtin.Range.small 0 b 1 = true) (hn : Builtin.Range.rangeSize 0 b 1 = ((k : Nat) : Int)) (J : Nat → (Str → Option Value) → List (Addr × Obj) → Prop) (h0 : J 0 m news)
    (turn : ∀ (i : Nat) tx m₁ news₁ h₁ tk₁ own, i < k → J i m₁ news₁ → OwnOff own (news₁.map (·.1)) → Fr H env.locals h₁ m₁ → News H env.locals h₁ (news₁ ++ own) →
      wpAny (model prog w) A (assign (.Name x px) env (.int (i : Int) tx)) (fun _ s₂ => wpAny (model prog w) A (execs body env) (fun f s₃ => f = .next ∧ ∃ h' tk m' news', s₃ = { s with heap := h', toks := tk } ∧ Fr H env.locals h' m' ∧ News H env.locals h' (news' ++ own) ∧ OwnOff own (news'.map (·.1)) ∧ J (i + 1) m' news') E s₂) E { s with heap := h₁, toks := tk₁ })
    (done : ∀ h' tk m' news', Fr H env.locals h' m' → News H env.locals h' news' → J k m' news' → Q .next { s with heap := h', toks := tk }) :
    wpAny (model prog w) A (pyIter (.ref r)) (fun it s₂ => TurnsAt prog w A H env (.Name x px) body Q E it s₂) E s := by
  have hLs : env.locals < s.heap.objs.size := F.ns.lt
  refine wpAny_pyIter_range hr hsm ?_
  rw [hn]
  have up : ∀ b' o, s.heap.get? b' = some o → (s.heap.push { cls := .type "range_iterator", data := .fields #[rawInt 0, rawInt (k : Int), rawInt 1] }).get? b' = some o := fun b' o e => Heap.get?_push_of_some _ e
  have W := PyProof.Rows.LCg.range_walks (prog := prog) (w := w) (I := s.heap.objs.size) hh 0 k
  have W2 : Walks prog w A s.heap.objs.size [s.heap.objs.size] [s.heap.objs.size] k (fun i v => i < k ∧ ∃ t, v = .int (0 + (i : Int)) t) _ := ⟨W.sub, W.frame, fun i s Q E hi st hQ => W.item i s Q E hi st fun v h' tk hP => hQ v h' tk ⟨hi, hP⟩, W.done, W.self⟩
  refine turns_of (KTurns.ofWalks (target := .Name x px) W2 fun i v s Q E _ hQ => wpAny_pure hQ) ?_ (F.keeps up) (N.grown up) ?_ ?_ ?_ ?_ J h0 ?_ done
  · show IsRangeIter _ _ _ _ _
    simpa using Heap.get?_push_size _ rfl
  · intro h
    exact Nat.ne_of_lt hLs (List.mem_singleton.mp h)
  · intro b hb
    rw [List.mem_singleton.mp hb]
    exact next_is_new F
  · intro i h st b hb
    rw [List.mem_singleton.mp hb]
    exact ⟨_, st⟩
  · intro p hp h
    exact Nat.ne_of_lt (Heap.lt_size (N p hp).1) (List.mem_singleton.mp h)
  · rintro i v m₁ news₁ h₁ tk₁ own _ ⟨hi, tx, rfl⟩ hJ hoff F₁ N₁
    rw [Int.zero_add]
    exact turn i tx m₁ news₁ h₁ tk₁ own hi hJ hoff F₁ N₁
end
noncomputable def SJ (b : Array UInt8) (n : Nat) (S : Addr) (i : Nat) (m : Str → Option Value) (news : List (Addr × Obj)) : Prop :=
  ∃ a : Array UInt8, news = [(S, baO a)] ∧ a.size = n ∧ (∀ j, j < i → a[n - 1 - j]? = b[j]?) ∧ (∃ t, m (Str.ofString "data") = some (.bytes b t)) ∧ (∃ t, m (Str.ofString "width") = some (.int (n : Int) t)) ∧ m (Str.ofString "swapped_data") = some (.ref S) ∧ (∃ t, m (Str.ofString "i") = some (.int 0 t))
theorem swap_turn {w : World} {b : Array UInt8} {n : Nat} (hb : b.size = n) (hn : n ≤ 100)
    {oc' : Value} {od : Option Addr} {osl : Array (Option Value)} {name qual : Str} {params : Arguments} {scope : Scope} {dV kV doc pm cdv ct : Value} {an : Option Addr} {s0 s2 : Stmt} {tgt1 it1 it2 : PySem.Expr} {x2 : Str} {px2 : Pos} {gbody : List Stmt} {p1 p2 : Pos}
    (ho : (Mine.hd.heap_39 w.params).lookup 133 = some ⟨oc', od, .func (fnOf name qual params [s0, .For tgt1 it1 [.For (.Name x2 px2) it2 gbody [] p2] [] p1, s2] scope dV kV doc pm an cdv ct), osl⟩)
    {dp un : Nat} {fr : Option (List Env)} {gd : Option (List Code)} (hd : dp + 40 < 600) (hu : un + 200 < 6000) {H : Heap} {L : Addr} (X : (Mine.hd.heap_39 w.params).In H) {mean : ExcName → Option Value} {mg mb : Str → Option Value} (T : Top Mine.hd.view_39 LO mean mg mb H)
    {S : Addr} {g : Array GenState} {d : Drawn} {os : OsState} {h₁ : Heap} {tk₁ i : Nat} {tx : Tok} {m : Str → Option Value} {E : Value → Shared → Prop} (hi : i < n) {news own : List (Addr × Obj)} (J : SJ b n S i m news) (hoff : OwnOff own (news.map (·.1))) (F : Fr H L h₁ m) (N : News H L h₁ (news ++ own))
    {PP : Flow → Shared → Prop} (hP : ∀ h' tk m' news', Fr H L h' m' → News H L h' (news' ++ own) → OwnOff own (news'.map (·.1)) → SJ b n S (i + 1) m' news' → PP .next ⟨h', g, d, tk, os⟩) :
    wpAny (model PySem.Challenge.rw_xp0006_01.row.prog w) (Around.deeper ⟨none, dp, fr, gd, un⟩ (envOf qual scope L 133 cdv)) (assign (.Name x2 px2) (envOf qual scope L 133 cdv) (.int (i : Int) tx)) (fun _ s₂ =>
      wpAny (model PySem.Challenge.rw_xp0006_01.row.prog w) (Around.deeper ⟨none, dp, fr, gd, un⟩ (envOf qual scope L 133 cdv)) (execs gbody (envOf qual scope L 133 cdv)) PP E s₂) E ⟨h₁, g, d, tk₁, os⟩ := by
  revert X; k_fill; intro X
  have e := ho.symm.trans (show (Mine.hd.heap_39 w.params).lookup 133 = some _ from by k_is)
  cases e
  obtain ⟨a, rfl, ha, hpre, ⟨t1, md⟩, ⟨t2, mw⟩, ms, ⟨t3, mi⟩⟩ := J
  have em := kst_eq (m := m) [(Str.ofString "data", _), (Str.ofString "width", _), (Str.ofString "swapped_data", _), (Str.ofString "i", _)] (by intro p hp; simp only [List.mem_cons, List.not_mem_nil, or_false] at hp; rcases hp with rfl | rfl | rfl | rfl <;> assumption)
  rw [← em] at F
  replace N : News H L h₁ ((S, baO a) :: own) := N
  iterate 11 (first | walk1 | (dsimp only; walk1))
  have hbi : i < b.size := by omega
  have hg : (KBw.bInts b).getD (0 + (i : Int)).toNat 0 = ((b[i]'hbi).toNat : Int) := by
    rw [show (0 + (i : Int)).toNat = i by omega, List.getD_eq_getElem?_getD, KBw.ints_get (Array.getElem?_eq_getElem hbi)]
    rfl
  refine KBw.item_K (ks := KBw.bInts b) rfl (by rw [KBw.ints_length]; omega) (by omega) (by rw [KBw.ints_length]; omega) ?_
  intro t₄ k₄ _ _
  rw [hg]
  dsimp only
  iterate 11 (first | walk1 | (dsimp only; walk1))
  dsimp only
  rw [show (0 + (n : Int) - 1 - (i : Int)) = ((n - 1 - i : Nat) : Int) by omega]
  with_reducible rename Fr _ _ _ _ => F₄
  with_reducible rename News _ _ _ _ => N₄
  refine ba_set (N₄ _ (.head _)).1 (by omega) (by omega) ?_
  intro h₅ g₅ k₅
  simp only [List.map_cons, List.map_nil] at hoff
  obtain ⟨F₆, N₆⟩ := chgNews F₄ N₄ (UpdF.head fun p hp => hoff p hp _ (.head _)) g₅ k₅
  dsimp only at F₆ N₆ ⊢
  iterate 2 (try (first | walk1 | (dsimp only; walk1)))
  refine hP _ _ _ [(S, baO _)] F₆ N₆ hoff ⟨_, rfl, by rw [Array.size_setIfInBounds]; exact ha, fun j hj => ?_, ⟨_, rfl⟩, ⟨_, rfl⟩, rfl, ⟨_, rfl⟩⟩
  rw [Array.getElem?_setIfInBounds]
  by_cases hji : j = i
  · subst hji
    rw [if_pos rfl, if_pos (by omega), Array.getElem?_eq_getElem hbi]
  · rw [if_neg (by omega)]
    exact hpre j (by omega)
end
section
theorem afresh_F5 : True := by
  w_top off
  trivial
section
variable {prog : Program} {w : World} {A : Around} {E : Value → Shared → Prop} {s : Shared} {env : Env} {H : Heap} {body : List Stmt} {Q : Flow → Shared → Prop}
/-- a loop over a range that has one number, 0 -/
theorem for_once {x : Str} {px : Pos} {r : Addr} {b c : Int} {t u v : Tok} {m : Str → Option Value} {news : List (Addr × Obj)}
    (hh : A.handled = none) (F : Fr H env.locals s.heap m) (N : News H env.locals s.heap news) (hr : IsRange s.heap r 0 b c t u v) (hsm : Builtin.Range.small 0 b c = true) (hn : Builtin.Range.rangeSize 0 b c = 1) (J : Nat → (Str → Option Value) → List (Addr × Obj) → Prop) (h0 : J 0 m news)
    (turn : ∀ tx m₁ news₁ h₁ tk₁ own, J 0 m₁ news₁ → OwnOff own (news₁.map (·.1)) → Fr H env.locals h₁ m₁ → News H env.locals h₁ (news₁ ++ own) →
      wpAny (model prog w) A (assign (.Name x px) env (.int 0 tx)) (fun _ s₂ => wpAny (model prog w) A (execs body env) (fun f s₃ => f = .next ∧ ∃ h' tk m' news', s₃ = { s with heap := h', toks := tk } ∧ Fr H env.locals h' m' ∧ News H env.locals h' (news' ++ own) ∧ OwnOff own (news'.map (·.1)) ∧ J 1 m' news') E s₂) E { s with heap := h₁, toks := tk₁ })
    (done : ∀ h' tk m' news', Fr H env.locals h' m' → News H env.locals h' news' → J 1 m' news' → Q .next { s with heap := h', toks := tk }) :
    wpAny (model prog w) A (pyIter (.ref r)) (fun it s₂ => TurnsAt prog w A H env (.Name x px) body Q E it s₂) E s := by
  have hLs : env.locals < s.heap.objs.size := F.ns.lt
  refine wpAny_pyIter_range hr hsm ?_
  rw [hn]
  have up : ∀ b' o, s.heap.get? b' = some o → (s.heap.push { cls := .type "range_iterator", data := .fields #[rawInt 0, rawInt 1, rawInt c] }).get? b' = some o := fun b' o e => Heap.get?_push_of_some _ e
  have W := Walks.range (prog := prog) (w := w) hh s.heap.objs.size 0 c 1
  have W2 : Walks prog w A s.heap.objs.size [s.heap.objs.size] [s.heap.objs.size] 1 (fun i v => i < 1 ∧ ∃ t, v = .int (0 + (i : Int) * c) t) _ := ⟨W.sub, W.frame, fun i s Q E hi st hQ => W.item i s Q E hi st fun v h' tk hP => hQ v h' tk ⟨hi, hP⟩, W.done, W.self⟩
  refine turns_of (KTurns.ofWalks (target := .Name x px) W2 fun i v s Q E _ hQ => wpAny_pure hQ) ?_ (F.keeps up) (N.grown up) ?_ ?_ ?_ ?_ J h0 ?_ done
  · show IsRangeIter _ _ _ _ _
    simpa using Heap.get?_push_size _ rfl
  · intro h
    exact Nat.ne_of_lt hLs (List.mem_singleton.mp h)
  · intro b hb
    rw [List.mem_singleton.mp hb]
    exact next_is_new F
  · intro i h st b hb
    rw [List.mem_singleton.mp hb]
    exact ⟨_, st⟩
  · intro p hp h
    exact Nat.ne_of_lt (Heap.lt_size (N p hp).1) (List.mem_singleton.mp h)
  · rintro i v m₁ news₁ h₁ tk₁ own _ ⟨hi, tx, rfl⟩ hJ hoff F₁ N₁
    obtain rfl : i = 0 := by omega
    rw [show (0 + ((0 : Nat) : Int) * c) = 0 by simp]
    exact turn tx m₁ news₁ h₁ tk₁ own hJ hoff F₁ N₁
end
theorem cl_Call1 {M : Model} {A : Around} {E : Value → Shared → Prop} {s : Shared} {env : Env} {x : Str} {px pos : Pos} {e : PySem.Expr} {Q : Value → Shared → Prop}
    (h : wpAny M A (eval (.Name x px) env) (fun f s₁ => wpCl M A (callWith pos f [] [(false, eval e env)] []) Q E s₁) E s) (hs : starEach [e] env = [(false, eval e env)] := by rfl) : wpCl M A (eval (.Call (.Name x px) [e] [] pos) env) Q E s :=
  cl_Call (by rw [hs]; rfl) h
theorem cl_Call2 {M : Model} {A : Around} {E : Value → Shared → Prop} {s : Shared} {env : Env} {x : Str} {px pos : Pos} {e₁ e₂ : PySem.Expr} {Q : Value → Shared → Prop}
    (h : wpAny M A (eval (.Name x px) env) (fun f s₁ => wpCl M A (callWith pos f [] [(false, eval e₁ env), (false, eval e₂ env)] []) Q E s₁) E s) (hs : starEach [e₁, e₂] env = [(false, eval e₁ env), (false, eval e₂ env)] := by rfl) : wpCl M A (eval (.Call (.Name x px) [e₁, e₂] [] pos) env) Q E s :=
  cl_Call (by rw [hs]; rfl) h
theorem swap_cl {w : World} {b : Array UInt8} {n : Nat} (hb : b.size = n) (hn : n = 12 ∨ n = 15) (dp un : Nat) (fr : Option (List Env)) (gd : Option (List Code)) (h0 : Heap) (g : Array GenState) (d : Drawn) (t : Nat) (os : OsState) {Q E : Value → Shared → Prop} {tb tu : Tok}
    (hd : dp + 60 < 600) (hu : un + 300 < 6000) (G : Gd w h0) (hQ : ∀ h' tk t', (∀ b o, h0.get? b = some o → h'.get? b = some o) → Q (.bytes b.reverse t') ⟨h', g, d, tk, os⟩) :
    wpCl (model PySem.Challenge.rw_xp0006_01.row.prog w) ⟨none, dp, fr, gd, un⟩ (call (.ref 133) [.bytes b tb, .int n tu]) Q E ⟨h0, g, d, t, os⟩ := by
  obtain ⟨X, mean, mg, mb, T⟩ := G
  revert X; k_fill; intro X
  k_dflt (refine' enterCl ?k1 ?k2 ?k6 ?k7 ?k8 ?k9 ?kB ?_ ?c2 ?c3 ?c4 ?c5; (case k1 => assumption); (case k2 => exact Top.nolimit (by assumption)); (case k6 => k_is); (case k7 => k_is); (case k8 => k_room); (case k9 => exact BindsTo.of_eq rfl); (case c5 => decide); (case kB => exact locs rfl); (case c2 => exact rfl); (case c3 => exact rfl); (case c4 => exact rfl))
  intro h₁ tk₁ F N
  refine cl_execs (cl_Assign (cl_Call1 ?_))
  iterate 1 (first | walk1 | (dsimp only; walk1))
  refine cl_callWith_type rfl ?_
  refine evalArgs_plain (spliced_cons ?_)
  iterate 7 (first | walk1 | (dsimp only; walk1))
  refine spliced_nil ?_
  with_reducible rename Fr _ _ _ _ => F
  with_reducible rename News _ _ _ _ => N
  dsimp only
  rw [hb]
  refine ba_type_call (by omega) ?_
  intro S h₂ tk₂ k₂ hS gS
  have F₂ := frX F k₂
  have N₂ := newsAdd F (newsX N k₂) hS gS
  dsimp only at F₂ N₂ ⊢
  clear F N
  iterate 1 (first | walk1 | (dsimp only; walk1))
  dsimp only
  refine wpCl_of ?_
  iterate 1 (first | walk1 | (dsimp only; walk1))
  with_reducible rename Fr _ _ _ _ => F
  with_reducible rename News _ _ _ _ => N
  obtain ⟨m₁, F, md, mw, ms⟩ : ∃ m₁, Fr h0 h0.objs.size _ m₁ ∧ m₁ (Str.ofString "data") = some (.bytes b tb) ∧ m₁ (Str.ofString "width") = some (.int n tu) ∧ m₁ (Str.ofString "swapped_data") = some (.ref S) := ⟨_, F, rfl, rfl, rfl⟩
  have em := kst_eq (m := m₁) [(Str.ofString "data", _), (Str.ofString "width", _), (Str.ofString "swapped_data", _)] (by intro p hp; simp only [List.mem_cons, List.not_mem_nil, or_false] at hp; rcases hp with rfl | rfl | rfl <;> assumption)
  refine wpAny_execs_cons ?_
  refine For_turns F ?_
  rw [← em] at F
  iterate 17 (first | walk1 | (dsimp only; walk1))
  with_reducible rename Fr _ _ _ _ => F₇
  with_reducible rename News _ _ _ _ => N₇
  rw [em] at F₇
  with_reducible rename IsRange _ _ _ _ _ _ _ _ => hr
  rw [hb] at hr
  refine for_once (env := envOf _ _ h0.objs.size 133 _) rfl F₇ N₇ hr (by rcases hn with rfl | rfl <;> decide) (by rcases hn with rfl | rfl <;> decide) (fun i m news => (i = 0 ∧ news = [(S, baO (Array.replicate n 0))] ∧ m (Str.ofString "data") = some (.bytes b tb) ∧ m (Str.ofString "width") = some (.int n tu) ∧ m (Str.ofString "swapped_data") = some (.ref S)) ∨ (i = 1 ∧ SJ b n S n m news)) (.inl ⟨rfl, rfl, md, mw, ms⟩) ?_ ?_
  · rintro tx m₂ news₁ h₃ tk₃ own (⟨-, rfl, md, mw, ms⟩ | ⟨h, -⟩) hoff F₃ N₃
    · clear F₇ N₇ hr em
      have em := kst_eq (m := m₂) [(Str.ofString "data", _), (Str.ofString "width", _), (Str.ofString "swapped_data", _)] (by intro p hp; simp only [List.mem_cons, List.not_mem_nil, or_false] at hp; rcases hp with rfl | rfl | rfl <;> assumption)
      rw [← em] at F₃
      clear em
      simp only [List.map_cons, List.map_nil] at hoff
      replace N₃ : News h0 h0.objs.size h₃ ((S, baO (Array.replicate n 0)) :: own) := N₃
      iterate 3 (first | walk1 | (dsimp only; walk1))
      with_reducible rename Fr _ _ _ _ => F₄
      with_reducible rename News _ _ _ _ => N₄
      obtain ⟨m₄, F₄, md, mw, ms, mi⟩ : ∃ m₁, Fr h0 h0.objs.size _ m₁ ∧ m₁ (Str.ofString "data") = some (.bytes b tb) ∧ m₁ (Str.ofString "width") = some (.int n tu) ∧ m₁ (Str.ofString "swapped_data") = some (.ref S) ∧ m₁ (Str.ofString "i") = some (.int 0 tx) := ⟨_, F₄, rfl, rfl, rfl, rfl⟩
      have em := kst_eq (m := m₄) [(Str.ofString "data", _), (Str.ofString "width", _), (Str.ofString "swapped_data", _), (Str.ofString "i", _)] (by intro p hp; simp only [List.mem_cons, List.not_mem_nil, or_false] at hp; rcases hp with rfl | rfl | rfl | rfl <;> assumption)
      refine wpAny_execs_cons ?_
      refine For_turns F₄ ?_
      rw [← em] at F₄
      iterate 7 (first | walk1 | (dsimp only; walk1))
      with_reducible rename Fr _ _ _ _ => F₅
      with_reducible rename News _ _ _ _ => N₅
      with_reducible rename IsRange _ _ _ _ _ _ _ _ => hr
      rw [em] at F₅
      refine for_range (env := envOf _ _ h0.objs.size 133 _) rfl F₅ N₅ hr (by rcases hn with rfl | rfl <;> decide) (k := n) (by rcases hn with rfl | rfl <;> decide) (fun i m news => ∃ news₀ : List (Addr × Obj), news = news₀ ++ own ∧ OwnOff own (news₀.map fun p : Addr × Obj => p.1) ∧ SJ b n S i m news₀) ⟨[(S, baO _)], rfl, hoff, _, rfl, Array.size_replicate, fun j hj => absurd hj (Nat.not_lt_zero _), ⟨_, md⟩, ⟨_, mw⟩, ms, ⟨_, mi⟩⟩ ?_ ?_
      · rintro i ty m₅ _ h₅ tk₅ own₂ hi ⟨news₀, rfl, ho₀, J⟩ ho₂ F₆ N₆
        refine swap_turn (own := own ++ own₂) hb (by omega) (show (Mine.hd.heap_39 w.params).lookup 133 = some _ from by k_is) (by omega) (by omega) X T hi J ?_ F₆ (by rw [List.append_assoc] at N₆; exact N₆) ?_
        · intro p hp x hx
          rcases List.mem_append.mp hp with hp | hp
          · exact ho₀ p hp x hx
          · exact ho₂ p hp x (by rw [List.map_append]; exact List.mem_append_left _ hx)
        · intro h' tk' m' news' F' N' hoff' J'
          refine ⟨rfl, h', tk', m', news' ++ own, rfl, F', by rw [List.append_assoc]; exact N', ?_, news', rfl, fun p hp => hoff' p (List.mem_append_left _ hp), J'⟩
          intro p hp x hx
          rw [List.map_append] at hx
          rcases List.mem_append.mp hx with hx | hx
          · exact hoff' p (List.mem_append_right _ hp) x hx
          · exact ho₂ p hp x (by rw [List.map_append]; exact List.mem_append_right _ hx)
      · rintro h' tk' m' _ F' N' ⟨news₀, rfl, ho₀, J⟩
        dsimp only
        walk1
        exact ⟨rfl, h', tk', m', news₀, rfl, F', N', ho₀, .inr ⟨trivial, J⟩⟩
    · cases h
  · rintro h' tk' m' news' F' N' (⟨h, -⟩ | ⟨-, J⟩)
    · cases h
    · obtain ⟨a, rfl, ha, hpre, ⟨t1, md⟩, ⟨t2, mw⟩, ms, -⟩ := J
      have ea : a = b.reverse := by
        refine Array.ext (by rw [Array.size_reverse]; omega) fun i h1 h2 => ?_
        have := hpre (n - 1 - i) (by omega)
        rw [show n - 1 - (n - 1 - i) = i from Nat.sub_sub_self (by omega), Array.getElem?_eq_getElem h1, Array.getElem?_eq_getElem (by omega)] at this
        rw [Array.getElem_reverse, Option.some.inj this]
        congr 1
        rw [hb]
      subst ea
      have em := kst_eq (m := m') [(Str.ofString "swapped_data", _)] (by intro p hp; rw [List.mem_singleton.mp hp]; exact ms)
      rw [← em] at F'
      dsimp only
      iterate 8 (first | walk1 | (dsimp only; walk1))
      refine ba_bytes (by rw [Array.size_reverse]; omega) (N' _ (.head _)).1 ?_
      intro h₈ tk₈ t₈ k₈
      exact hQ _ _ _ fun d o e => k₈ _ _ (F'.keep _ _ e)
end
section
theorem afresh_F6 : True := by
  w_top off
  trivial
noncomputable def hsF (h : UInt64) (i : Int) : UInt64 := Float64.sub (Float64.mul h 4618441417868443648) (Float64.ofInt i)
noncomputable def hsP (s v : UInt64) : UInt64 := Float64.mul v (Float64.sub 4607182418800017408 s)
noncomputable def hsT (h s v : UInt64) (i : Int) : UInt64 := Float64.mul v (Float64.sub 4607182418800017408 (Float64.mul s (Float64.sub 4607182418800017408 (hsF h i))))
noncomputable def hsParts (h s v : UInt64) (i : Int) : UInt64 × UInt64 × UInt64 := if i = 0 then (v, hsT h s v i, hsP s v) else if i = 2 then (hsP s v, v, hsT h s v i) else (hsT h s v i, hsP s v, v)
theorem hsv_call {w : World} {h s v : UInt64} {t u x : Tok} {i0 : Int} (hi0 : i0 = 0 ∨ i0 = 2 ∨ i0 = 4) (hz : feq s 0 = false) (hN : Float64.isNaN (Float64.mul h 4618441417868443648) = false) (hI : Float64.isInf (Float64.mul h 4618441417868443648) = false) (hT : Flt.toInt Float64.truncOf (Float64.mul h 4618441417868443648) = i0) :
    Call0 w 0 35 [.float h t, .float s u, .float v x] (fun hh h' r => ∃ D t1 t2 t3, r = .ref D ∧ hh.get? D = none ∧ h'.get? D = some { cls := .type "tuple", data := .seq #[.float (hsParts h s v i0).1 t1, .float (hsParts h s v i0).2.1 t2, .float (hsParts h s v i0).2.2 t3] }) := by
  intro dp un fr gd s' Q E hd hu G hQ
  obtain ⟨X, mean, mg, mb, T⟩ := G
  revert X; k_fill; intro X
  k_dflt (refine' enter0 ?k1 ?k2 ?k6 ?k7 ?k8 ?k9 ?kB ?_ ?c2 ?c3 ?c4 ?c5; (case k1 => assumption); (case k2 => exact Top.nolimit (by assumption)); (case k6 => k_is); (case k7 => k_is); (case k8 => k_room); (case k9 => exact BindsTo.of_eq rfl); (case c5 => decide); (case kB => exact locs rfl); (case c2 => exact rfl); (case c3 => exact rfl); (case c4 => exact rfl); k_whole; intro h' tk' F' N'; (try dsimp only))
  iterate 8 (first | walk1 | (dsimp only; walk1))
  · exact absurd (hz.symm.trans (by assumption)) Bool.noConfusion
  · iterate 14 (try (first | walk1 | (dsimp only; walk1)))
    rw [hT]
    clear hT hN hI hz
    rcases hi0 with rfl | rfl | rfl
    all_goals (repeat ((with_reducible show wpAny _ _ _ _ _ _); first | walk1 | (dsimp only; walk1)))
    all_goals (repeat (first | (rw [if_pos (by decide)]; (repeat ((with_reducible show wpAny _ _ _ _ _ _); first | walk1 | (dsimp only; walk1)))) | (rw [if_neg (by decide)]; (repeat ((with_reducible show wpAny _ _ _ _ _ _); first | walk1 | (dsimp only; walk1))))))
    all_goals
      with_reducible rename News _ _ _ _ => N
      have z := N _ (List.Mem.head _)
      exact hQ _ _ _ (Fr.keep (by assumption)) ⟨_, _, _, _, rfl, z.2.2, z.1⟩
end
section
theorem afresh_F7 : True := by
  w_top off
  trivial
noncomputable def frac (n d : Nat) : UInt64 := Float64.ofFrac false n d
noncomputable def toldX (p : UInt64) : UInt64 := Float64.add (Float64.mul (Float64.ofInt 16) p) 4602678819172646912
noncomputable def toldI (p : UInt64) : Int := Flt.toInt Float64.truncOf (toldX p)
noncomputable def partsOf3 (k w sp : Nat) : UInt64 × UInt64 × UInt64 := hsParts (frac k 3) (frac sp (w + sp)) (frac (w + sp) 16) (2 * (k : Int))
noncomputable def tOK (p : UInt64) (e : Nat) : Bool := !Float64.isNaN (toldX p) && !Float64.isInf (toldX p) && toldI p == (e : Int)
noncomputable def exps (k w sp : Nat) (j : Nat) : Nat := if k = j then w + sp else w
noncomputable def hsvOK (k w sp : Nat) : Bool := !Float64.isInf (frac k 3) && !Float64.isInf (frac sp (w + sp)) && !Float64.isInf (frac (w + sp) 16) && !feq (frac sp (w + sp)) 0
  && !Float64.isNaN (Float64.mul (frac k 3) 4618441417868443648) && !Float64.isInf (Float64.mul (frac k 3) 4618441417868443648) && Flt.toInt Float64.truncOf (Float64.mul (frac k 3) 4618441417868443648) == 2 * (k : Int)
  && tOK (partsOf3 k w sp).1 (exps k w sp 0) && tOK (partsOf3 k w sp).2.1 (exps k w sp 1) && tOK (partsOf3 k w sp).2.2 (exps k w sp 2)
theorem hsv_all : (List.range 3).all (fun k => (List.range 8).all fun w => (List.range 4).all fun q => hsvOK k w (q + 4)) = true := by decide +kernel
structure HsvOK (k w sp : Nat) : Prop where
  a1 : Float64.isInf (frac k 3) = false
  a2 : Float64.isInf (frac sp (w + sp)) = false
  a3 : Float64.isInf (frac (w + sp) 16) = false
  a4 : feq (frac sp (w + sp)) 0 = false
  a5 : Float64.isNaN (Float64.mul (frac k 3) 4618441417868443648) = false
  a6 : Float64.isInf (Float64.mul (frac k 3) 4618441417868443648) = false
  a7 : Flt.toInt Float64.truncOf (Float64.mul (frac k 3) 4618441417868443648) = 2 * (k : Int)
  b0 : Float64.isNaN (toldX (partsOf3 k w sp).1) = false ∧ Float64.isInf (toldX (partsOf3 k w sp).1) = false ∧ toldI (partsOf3 k w sp).1 = (exps k w sp 0 : Int)
  b1 : Float64.isNaN (toldX (partsOf3 k w sp).2.1) = false ∧ Float64.isInf (toldX (partsOf3 k w sp).2.1) = false ∧ toldI (partsOf3 k w sp).2.1 = (exps k w sp 1 : Int)
  b2 : Float64.isNaN (toldX (partsOf3 k w sp).2.2) = false ∧ Float64.isInf (toldX (partsOf3 k w sp).2.2) = false ∧ toldI (partsOf3 k w sp).2.2 = (exps k w sp 2 : Int)
theorem hsv_ok {k w sp : Nat} (hk : k < 3) (hw : w < 8) (h4 : 4 ≤ sp) (h8 : sp < 8) : HsvOK k w sp := by
  have h := List.all_eq_true.mp hsv_all k (List.mem_range.mpr hk)
  have h := List.all_eq_true.mp h w (List.mem_range.mpr hw)
  have h := List.all_eq_true.mp h (sp - 4) (List.mem_range.mpr (by omega))
  rw [show sp - 4 + 4 = sp by omega] at h
  unfold hsvOK tOK at h
  simp only [Bool.and_eq_true, Bool.not_eq_true', beq_iff_eq] at h
  obtain ⟨⟨⟨⟨⟨⟨⟨⟨⟨a1, a2⟩, a3⟩, a4⟩, a5⟩, a6⟩, a7⟩, ⟨b1, b2⟩, b3⟩, ⟨c1, c2⟩, c3⟩, ⟨d1, d2⟩, d3⟩ := h
  exact ⟨a1, a2, a3, a4, a5, a6, a7, ⟨b1, b2, b3⟩, ⟨c1, c2, c3⟩, ⟨d1, d2, d3⟩⟩
theorem divN {prog : Program} {w : World} {A : Around} {E : Value → Shared → Prop} {s : Shared} {x y : Int} {n d : Nat} {t u : Tok} {Q : Value → Shared → Prop} (hx : x = (n : Int)) (hy : y = (d : Int)) (hd : 0 < d) (hi : Float64.isInf (frac n d) = false) (h : Q (.float (frac n d) s.toks) { s with toks := s.toks + 1 }) :
    wpAny (model prog w) A (binaryOp .Div (.int x t) (.int y u)) Q E s := by
  subst hx hy
  have e : (Float64.ofFrac (decide ((n : Int) < 0) != decide ((d : Int) < 0)) (n : Int).natAbs (d : Int).natAbs) = frac n d := by
    rw [decide_eq_false (by omega), decide_eq_false (by omega)]
    simp [frac]
  refine AutoIntOps.truediv_2 (by simp; omega) ?_ ?_
  · rw [e, hi]; decide
  · rw [e]; exact h
noncomputable def colOf (c : Int) : Nat × Nat × Nat := ((Int.fmod c 3).toNat, (Int.fmod (Int.fdiv c 3) 8).toNat, (4 + Int.fmod (Int.fdiv c 24) 4).toNat)
theorem colOf_eq (c : Int) : Int.fmod c 3 = ((colOf c).1 : Int) ∧ Int.fmod (Int.fdiv c 3) 8 = ((colOf c).2.1 : Int) ∧ 4 + Int.fmod (Int.fdiv c 24) 4 = ((colOf c).2.2 : Int) ∧ ColOK (colOf c) := by
  have e : ∀ (a b : Int), 0 < b → Int.fmod a b = a % b := fun a b h => Int.fmod_eq_emod_of_nonneg _ (by omega)
  have h1 := Int.emod_nonneg c (b := 3) (by decide)
  have h2 := Int.emod_lt_of_pos c (b := 3) (by decide)
  have h3 := Int.emod_nonneg (Int.fdiv c 3) (b := 8) (by decide)
  have h4 := Int.emod_lt_of_pos (Int.fdiv c 3) (b := 8) (by decide)
  have h5 := Int.emod_nonneg (Int.fdiv c 24) (b := 4) (by decide)
  have h6 := Int.emod_lt_of_pos (Int.fdiv c 24) (b := 4) (by decide)
  unfold colOf ColOK
  rw [e _ 3 (by decide), e _ 8 (by decide), e _ 4 (by decide)]
  dsimp only
  generalize c % 3 = a at *
  generalize Int.fdiv c 3 % 8 = b at *
  generalize Int.fdiv c 24 % 4 = d at *
  clear e
  refine ⟨(Int.toNat_of_nonneg h1).symm, (Int.toNat_of_nonneg h3).symm, (Int.toNat_of_nonneg (by clear h1 h2 h3 h4 h6; omega)).symm, ?_, ?_, ?_, ?_⟩
  · clear h3 h4 h5 h6; omega
  · clear h1 h2 h5 h6; omega
  · clear h1 h2 h3 h4 h6; omega
  · clear h1 h2 h3 h4; omega
end
section
theorem afresh_F8 : True := by
  w_top off
  trivial
section
variable {prog : Program} {w : World} {A : Around} {E : Value → Shared → Prop} {s : Shared} {env : Env} {H : Heap} {body : List Stmt} {Q : Flow → Shared → Prop}
theorem assign_tup {elt iter : PySem.Expr} {x y : Str} {px py : Pos} {ifs : List PySem.Expr} {scope : Scope} {cl : List (Str × Addr)} {pos spos : Pos} (p : Value → Bool) (G : Value → Value → Prop)
    (hsw : swapsWith (.ListComp elt [⟨.Name x px, iter, ifs, 0⟩] scope pos) (some (.Name y py)) spos.line env = pure true)
    (hclos : closureFor scope env = pure cl) (hcell : ∀ z ∈ scope.names, z.2 ≠ .cell) (hkind : scope.kind = .function)
    (hnames : ∀ z ∈ scope.names, z.2 = .local → scope.names.lookup z.1 = some .local) (hx : scope.names.lookup x = some .local)
    (hy : env.kindOf y = some .local) (hp : (env.scope.kind == .class || (env.scope.kind == .module && env.locals != env.globals)) = false) (hh : A.handled = none)
    (h : wpAny (model prog w) A (eval iter env) (fun xv s₁ => ∃ l its m news, xv = .ref l ∧ s₁.heap.IsTuple l its ∧ its.size ≤ sizeLine ∧ Fr H env.locals s₁.heap m ∧ News H env.locals s₁.heap news ∧
      (∀ (i : Nat) v C oC m₃ (s₃ : Shared) (E' : Value → Shared → Prop), its[i]? = some v → LCg.NsObj oC m₃ → m₃ x = some v → Fr H env.locals s₃.heap m → News H env.locals s₃.heap ((C, oC) :: news) →
        wpAny (model prog w) A (forIn ifs true fun c r => if r = true then do let ok ← isTrue c (compEnvC scope cl C env) (eval c (compEnvC scope cl C env)); pure (ForInStep.yield ok) else pure (ForInStep.yield r)) (fun ok s₄ => ok = p v ∧ Keeps s₃ s₄) E' s₃ ∧
        (p v = true → wpAny (model prog w) A (eval elt (compEnvC scope cl C env)) (fun y s₄ => G v y ∧ Keeps s₃ s₄) E' s₃)) ∧
      (∀ D h' tk ys nD, Fr H env.locals h' (fun z => if z = y then some (.ref D) else m z) → News H env.locals h' ((D, listOf ys nD) :: news) → (∀ q ∈ news, q.1 ≠ D) → Paired G (its.toList.filter p) ys.toList → Q .next { s₁ with heap := h', toks := tk })) E s)
    (hs : ∀ x, foldedSetIterable iter env x = pure x := by intro _; rfl) :
    wpAny (model prog w) A (exec (.Assign [.Name y py] (.ListComp elt [⟨.Name x px, iter, ifs, 0⟩] scope pos) spos) env) Q E s := by
  refine wpAny_Assign_ListComp_free p G hsw hclos hcell hkind hnames hx hy hp (wpAny_mono h (fun xv s₁ h₁ => ?_) fun _ _ e => e) hs
  obtain ⟨l, its, m, news, rfl, hL, hz, F, N, hE, hD⟩ := h₁
  obtain ⟨oT, hl, -⟩ := id hL
  have hlt := Heap.lt_size hl
  have hne : l ≠ s₁.heap.objs.size := Nat.ne_of_lt hlt
  refine wpAny_pyIter_tuple hL ?_
  have F₂ := F.push { cls := .type "tuple_iterator", data := .fields #[.ref l, .int 0 0] }
  have N₂ : News H env.locals (s₁.heap.push { cls := .type "tuple_iterator", data := .fields #[.ref l, .int 0 0] }) news := fun p hp => ⟨Heap.get?_push_of_some _ (N p hp).1, (N p hp).2⟩
  have hI0 : H.get? s₁.heap.objs.size = none ∧ s₁.heap.objs.size ≠ env.locals ∧ ∀ q ∈ news, q.1 ≠ s₁.heap.objs.size := ⟨next_is_new F, Nat.ne_of_gt F.ns.lt, fun q hq => Nat.ne_of_lt (Heap.lt_size (N q hq).1)⟩
  have hwr : ∀ b ∈ [s₁.heap.objs.size], H.get? b = none ∧ b ≠ env.locals ∧ ∀ q ∈ news, q.1 ≠ b := fun b hb => by rw [List.mem_singleton.mp hb]; exact hI0
  refine ⟨_, _, _, _, _, _, m, rfl, Walks.tuple hh s₁.heap.objs.size l hne its, hz, ⟨⟨_, Heap.get?_push_size _ rfl, rfl, rfl⟩, hL.at fun o e => Heap.get?_push_of_some _ e⟩, ?_, fun hb => (hwr _ hb).2.1 rfl, F₂.ns, ⟨?_, ?_⟩, ?_⟩
  · intro b hb
    show b < (s₁.heap.push _).objs.size
    rw [Heap.size_push]
    rcases List.mem_cons.mp hb with rfl | hb
    · exact Nat.lt_succ_self _
    · rw [List.mem_singleton.mp hb]; exact Nat.lt_succ_of_lt hlt
  · intro C i v s₃ m₃ E' hC hP hn hm hk _
    obtain ⟨F₃, oC, N₃, hNC⟩ := comp_news F₂ N₂ hC hn hk hwr
    exact (hE i v C oC m₃ s₃ E' hP hNC hm F₃ N₃).1
  · intro C i v s₃ m₃ E' hC hP hp hn hm hk _
    obtain ⟨F₃, oC, N₃, hNC⟩ := comp_news F₂ N₂ hC hn hk hwr
    exact (hE i v C oC m₃ s₃ E' hP hNC hm F₃ N₃).2 hp
  · intro D h' tk ys vs hD0 hl' hpl hlen hPv hF hns hk
    obtain ⟨nD, hDg⟩ := hpl
    have evs : vs = its.toList := by
      refine List.ext_getElem? fun j => ?_
      rcases Nat.lt_or_ge j its.size with hj | hj
      · have h1 := List.getElem?_eq_getElem (l := vs) (i := j) (by omega)
        rw [h1, Array.getElem?_toList]
        exact (hPv j _ h1).symm
      · rw [List.getElem?_eq_none (by omega), Array.getElem?_toList, Array.getElem?_eq_none hj]
    rw [evs] at hF
    obtain ⟨oL, es, ep, ho, _⟩ := F₂.ns
    have hL0 : H.get? env.locals = none := Heap.get?_none_of_le F₂.above
    have hH : ∀ b o, H.get? b = some o → h'.get? b = some o := fun b o e => hk b o (fun q => by rw [q, hL0] at e; cases e) (fun hb => by rw [(hwr b hb).1] at e; cases e) (F₂.keep b o e)
    refine hD D h' tk ys nD ⟨hns, hH, F.above⟩ (fun q hq => ?_) (fun q hq e => ?_) hF
    · rcases List.mem_cons.mp hq with rfl | hq
      · refine ⟨hDg, fun e => ?_, ?_⟩
        · have e' : D = env.locals := e
          rw [e', ho] at hD0; cases hD0
        · cases q : H.get? D with
          | none => rfl
          | some o => rw [F₂.keep _ _ q] at hD0; cases hD0
      · exact ⟨hk _ _ (N₂ q hq).2.1 (fun hb => (hwr _ hb).2.2 q hq rfl) (N₂ q hq).1, (N₂ q hq).2⟩
    · have := (N₂ q hq).1
      rw [e, hD0] at this; cases this
end
theorem row_snoc (cells : List Int) {i : Nat} {c : Int} {k wh sp : Nat} (hi : cells[i]? = some c) (hco : colOf c = (k, wh, sp)) :
    rowOf ((cells.map colOf).take i) ++ byteArr [(exps k wh sp 0 : Int), (exps k wh sp 1 : Int), (exps k wh sp 2 : Int)] = rowOf ((cells.map colOf).take (i + 1)) := by
  have e : byteArr [(exps k wh sp 0 : Int), (exps k wh sp 1 : Int), (exps k wh sp 2 : Int)] = colB (k, wh, sp) := rfl
  rw [e, List.take_succ, List.getElem?_map, hi, Option.map_some, hco]
  unfold rowOf
  rw [List.flatMap_append]
  simp
theorem int_ex {n n' : Int} {t : Tok} (e : n = n') : ∃ u, Value.int n t = Value.int n' u := ⟨t, by rw [e]⟩
/-- what holds between the turns of law's loop -/
noncomputable def WJ (cols : List (Nat × Nat × Nat)) (Cl L : Addr) (cv : Array Value) (nC : Nat) (i : Nat) (m : Str → Option Value) (news : List (Addr × Obj)) : Prop :=
  ∃ o1 o2 o3 o4 v1 v2 v3 v4, news = [(Cl, listOf cv nC), (L + 1 + 1 + 1 + 1, o4), (L + 1 + 1 + 1, o3), (L + 1 + 1, o2), (L + 1, o1)] ∧ o1.data = .cell v1 ∧ o2.data = .cell v2 ∧ o3.data = .cell v3 ∧ o4.data = .cell v4 ∧
    (∃ t, m (Str.ofString "row") = some (.bytes (rowOf (cols.take i)) t)) ∧ m (Str.ofString "cells") = some (.ref Cl)
theorem law_turn {w : World} {cells : List Int} (hlc : cells.length ≤ 5)
    {oc' : Value} {od : Option Addr} {osl : Array (Option Value)} {name : Str} {params : Arguments} {scope : Scope} {pm cdv doc : Value} {s0 s1 s2 s4 s5 s6 : Stmt} {tgt it : PySem.Expr} {body : List Stmt} {p1 : Pos}
    (ho : (Mine.hd.heap_39 w.params).lookup 158 = some ⟨oc', od, .func (Calls.docDef name params [s0, s1, s2, .For tgt it body [] p1, s4, s5, s6] scope pm cdv doc), osl⟩)
    {dp un : Nat} {fr : Option (List Env)} {gd : Option (List Code)} (hd : dp + 40 < 600) (hu : un + 200 < 6000) {H : Heap} {L : Addr} (X : (Mine.hd.heap_39 w.params).In H) {mean : ExcName → Option Value} {mg mb : Str → Option Value} (T : Top Mine.hd.view_39 LO mean mg mb H)
    {Cl : Addr} (hCl : L + 1 + 1 + 1 + 1 ≠ Cl ∧ L + 1 + 1 + 1 ≠ Cl ∧ L + 1 + 1 ≠ Cl ∧ L + 1 ≠ Cl) {cv : Array Value} {nC : Nat} {g : Array GenState} {d : Drawn} {os : OsState} {h₁ : Heap} {tk₁ i : Nat} {c : Int} {tx : Tok} {m : Str → Option Value} {E : Value → Shared → Prop} (hi : cells[i]? = some c)
    {news own : List (Addr × Obj)} (J : WJ (cells.map colOf) Cl L cv nC i m news) (hoff : OwnOff own (news.map (·.1))) (F : Fr H L h₁ m) (N : News H L h₁ (news ++ own))
    {PP : Flow → Shared → Prop} (hP : ∀ h' tk m' news', Fr H L h' m' → News H L h' (news' ++ own) → OwnOff own (news'.map (·.1)) → WJ (cells.map colOf) Cl L cv nC (i + 1) m' news' → PP .next ⟨h', g, d, tk, os⟩) :
    wpAny (model PySem.Challenge.rw_xp0006_01.row.prog w) (Around.deeper ⟨none, dp, fr, gd, un⟩ (envOfC name scope L 158 cdv)) (assign tgt (envOfC name scope L 158 cdv) (.int c tx)) (fun _ s₂ =>
      wpAny (model PySem.Challenge.rw_xp0006_01.row.prog w) (Around.deeper ⟨none, dp, fr, gd, un⟩ (envOfC name scope L 158 cdv)) (execs body (envOfC name scope L 158 cdv)) PP (fun _ _ => False) s₂) (fun _ _ => False) ⟨h₁, g, d, tk₁, os⟩ := by
  revert X; k_fill; intro X
  have e := ho.symm.trans (show (Mine.hd.heap_39 w.params).lookup 158 = some _ from by k_is)
  cases e
  obtain ⟨o1, o2, o3, o4, v1, v2, v3, v4, rfl, d1, d2, d3, d4, ⟨tr, mr⟩, mc⟩ := J
  have em := kst_eq (m := m) [(Str.ofString "row", _), (Str.ofString "cells", _)] (by intro p hp; simp only [List.mem_cons, List.not_mem_nil, or_false] at hp; rcases hp with rfl | rfl <;> assumption)
  rw [← em] at F
  simp only [List.map_cons, List.map_nil] at hoff
  replace N : News H L h₁ ((Cl, listOf cv nC) :: (L + 1 + 1 + 1 + 1, o4) :: (L + 1 + 1 + 1, o3) :: (L + 1 + 1, o2) :: (L + 1, o1) :: own) := N
  obtain ⟨e1, e2, e3, hcol⟩ := colOf_eq c
  obtain ⟨c4, c3, c2, c1⟩ := hCl
  have c4' := Ne.symm c4
  have c3' := Ne.symm c3
  have c2' := Ne.symm c2
  have c1' := Ne.symm c1
  iterate 48 (first | walk1 | (dsimp only; walk1))
  have hs := hsv_ok (k := (colOf c).1) (w := (colOf c).2.1) (sp := (colOf c).2.2) hcol.1 hcol.2.1 hcol.2.2.1 hcol.2.2.2
  generalize hco : colOf c = co at *
  obtain ⟨k, wh, sp⟩ := co
  dsimp only at e1 e2 e3 hs
  have hwsp : (wh : Int) + (sp : Int) = ((wh + sp : Nat) : Int) := by omega
  rw [e1]
  refine divN rfl rfl (by decide) hs.a1 ?_
  dsimp only
  iterate 7 (first | walk1 | (dsimp only; walk1))
  refine divN e3 (by rw [e2, e3]; exact hwsp) (by have := hcol.2.2.1; dsimp only at this; omega) hs.a2 ?_
  dsimp only
  iterate 7 (first | walk1 | (dsimp only; walk1))
  refine divN (by rw [e2, e3]; exact hwsp) rfl (by decide) hs.a3 ?_
  dsimp only
  iterate 1 (first | walk1 | (dsimp only; walk1))
  with_reducible rename Fr _ _ _ _ => F₅
  with_reducible rename News _ _ _ _ => N₅
  refine ⟨X.keeps F₅.keep, ?_⟩
  refine Call0.use (hsv_call (i0 := 2 * (k : Int)) (by have := hcol.1; dsimp only at this; omega) hs.a4 hs.a5 hs.a6 hs.a7) (by exact F₅) (by exact N₅) (by assumption) (by assumption) (by simp only [depth_deeper]; omega) (by simp only [units_deeper]; omega) ?_
  rintro _ h₆ tk₆ k₆ F₆ N₆ ⟨D, u1, u2, u3, rfl, hD0, hDg⟩
  have N₇ := newsAdd F₅ N₆ hD0 hDg
  clear F₅ N₅ N₆
  dsimp only at F₆ N₇ ⊢
  iterate 3 (first | walk1 | (dsimp only; walk1))
  refine assign_tup (H := H) (fun _ => true) (fun v y => ∀ (q : UInt64) (u : Tok), v = .float q u → ∃ z, y = .int (toldI q) z) (by rfl) (by rfl) (by decide) rfl (by decide) (by rfl) (by rfl) (by rfl) rfl ?_
  iterate 1 (first | walk1 | (dsimp only; walk1))
  with_reducible rename Fr _ _ _ _ => F₈
  with_reducible rename News _ _ _ _ => N₈
  refine ⟨_, _, _, _, rfl, ⟨_, (N₈ _ (.head _)).1, rfl, _, rfl⟩, Nat.le_of_ble_eq_true rfl, F₈, N₈, ?_, ?_⟩
  · intro j v C oC m₃ s₃ E' hv hNC hm F₉ N₉
    refine ⟨wpAny_tests_nil ⟨rfl, _, _, rfl, fun _ _ e => e⟩, fun _ => ?_⟩
    obtain ⟨q, uq, rfl, hq1, hq2⟩ : ∃ q uq, v = .float q uq ∧ Float64.isNaN (toldX q) = false ∧ Float64.isInf (toldX q) = false := by
      match j, hv with
      | 0, hv => cases hv; exact ⟨_, _, rfl, hs.b0.1, hs.b0.2.1⟩
      | 1, hv => cases hv; exact ⟨_, _, rfl, hs.b1.1, hs.b1.2.1⟩
      | 2, hv => cases hv; exact ⟨_, _, rfl, hs.b2.1, hs.b2.2.1⟩
    clear F₈ N₈
    unfold toldX at hq1 hq2
    iterate 14 (try (first | walk1 | (dsimp only; walk1)))
    · intro q1 u1 e
      cases e
      exact ⟨_, rfl⟩
    · exact ⟨_, _, rfl, fun _ _ e => e⟩
  · intro D2 h₉ tk₉ ys nD F₉ N₉ hD2 hP2
    rw [List.filter_eq_self.mpr (fun _ _ => rfl)] at hP2
    have hI2 : IntsAre ys.toList [(exps k wh sp 0 : Int), (exps k wh sp 1 : Int), (exps k wh sp 2 : Int)] := by
      rw [← hs.b0.2.2, ← hs.b1.2.2, ← hs.b2.2.2]
      generalize ys.toList = yl at hP2
      cases hP2 with
      | cons g0 r0 => cases r0 with
        | cons g1 r1 => cases r1 with
          | cons g2 r2 =>
            cases r2
            obtain ⟨_, rfl⟩ := g0 _ _ rfl
            obtain ⟨_, rfl⟩ := g1 _ _ rfl
            obtain ⟨_, rfl⟩ := g2 _ _ rfl
            exact .cons _ _ (.cons _ _ (.cons _ _ .nil))
    clear F₈ N₈ hP2
    have hD2n := allNe_of hD2
    simp only [AllNe] at hD2n
    dsimp only at F₉ N₉ ⊢
    iterate 4 (first | walk1 | (dsimp only; walk1))
    refine comp_ints (H := H) (L := L) (fun _ => true) (fun n => if n = (k : Int) then (wh : Int) + sp else wh) (by rfl) (by decide) rfl (by decide) (by rfl) ?_
    iterate 7 (first | walk1 | (dsimp only; walk1))
    with_reducible rename IsRange _ _ _ _ _ _ _ _ => hr
    with_reducible rename Fr _ _ _ _ => F₁₀
    with_reducible rename News _ _ _ _ => N₁₀
    refine it_range rfl F₁₀ N₁₀ hr (k := 3) (by decide) (by decide) (by rw [sizeLine_eq]; decide) ?_
    intro it h₁₁ wr P₁ I
    refine ⟨_, _, _, wr, P₁, I, ?_, ?_⟩
    · intro n tn C oC m₃ s₃ E' hn hNC hm F₁₂ N₁₂
      clear I F₁₀ N₁₀ hr
      refine ⟨wpAny_tests_nil ⟨rfl, _, _, rfl, fun _ _ e => e⟩, fun _ => ?_⟩
      iterate 10 (first | walk1 | (dsimp only; walk1))
      · iterate 4 (first | walk1 | (dsimp only; walk1))
        exact ⟨int_ex (by dsimp only; rw [if_pos (by rw [← e1]; first | assumption | omega | simp_all), e2, e3]), _, _, rfl, fun _ _ e => e⟩
      · iterate 1 (first | walk1 | (dsimp only; walk1))
        exact ⟨int_ex (by dsimp only; rw [if_neg (by rw [← e1]; first | assumption | omega | simp_all), e2]), _, _, rfl, fun _ _ e => e⟩
    · intro D3 h₁₃ tk₁₃ zs nZ F₁₃ N₁₃ hD3 hI3
      have hexp : (List.filter (fun _ => true) ((List.range 3).map fun (i : Nat) => (0 : Int) + (i : Int))).map (fun n => if n = (k : Int) then (wh : Int) + sp else wh) = [(exps k wh sp 0 : Int), (exps k wh sp 1 : Int), (exps k wh sp 2 : Int)] := by
        have hk := hcol.1
        dsimp only at hk
        have hk : k = 0 ∨ k = 1 ∨ k = 2 := by omega
        rcases hk with rfl | rfl | rfl <;> simp [exps, List.range, List.range.loop]
      rw [hexp] at hI3
      clear I F₁₀ N₁₀ hr hexp
      dsimp only at F₁₃ N₁₃ ⊢
      iterate 3 (first | walk1 | (dsimp only; walk1))
      clear hI3 hD3
      iterate 11 (first | walk1 | (dsimp only; walk1))
      with_reducible rename Fr _ _ _ _ => F₁₄
      with_reducible rename News _ _ _ _ => N₁₄
      have hb3 : ∀ n ∈ [(exps k wh sp 0 : Int), (exps k wh sp 1 : Int), (exps k wh sp 2 : Int)], 0 ≤ n ∧ n < 256 := by
        have h1 := hcol.2.1
        have h2 := hcol.2.2.2
        dsimp only at h1 h2
        intro n hn
        simp only [List.mem_cons, List.not_mem_nil, or_false, exps] at hn
        rcases hn with rfl | rfl | rfl <;> split <;> omega
      refine call_bytes_ints (vs := ys.toList) ⟨_, (N₁₄ (D2, _) (by k_mem)).1, rfl, nD, by rw [Array.toArray_toList]⟩ hI2 hb3 (by rw [hI2.length]; exact Nat.le_of_ble_eq_true rfl) rfl ?_
      intro h₁₅ t₁₅ tk₁₅ k₁₅
      have F₁₅ := frX F₁₄ k₁₅
      have N₁₅ := newsX N₁₄ k₁₅
      clear F₁₄ N₁₄
      dsimp only at F₁₅ N₁₅ ⊢
      have hsz : (rowOf (List.take i (List.map colOf cells))).size + (byteArr [(exps k wh sp 0 : Int), (exps k wh sp 1 : Int), (exps k wh sp 2 : Int)]).size ≤ 16777216 := by
        rw [row_size, byteArr_size, List.length_take, List.length_map]
        have := Nat.min_le_right i cells.length
        simp only [List.length_cons, List.length_nil]
        omega
      refine KBy.add_bytes hsz fun t₁₆ k₁₆ => ?_
      rw [row_snoc cells hi hco]
      iterate 3 (first | walk1 | (dsimp only; walk1))
      with_reducible rename Fr _ _ _ _ => F₁₇
      with_reducible rename (Obj.data _ = Data.cell (some (Value.int _ _))) => dA
      revert dA
      with_reducible rename (Obj.data _ = Data.cell (some (Value.int _ _))) => dB
      revert dB
      with_reducible rename (Obj.data _ = Data.cell (some (Value.int _ _))) => dC
      intro dB dA
      with_reducible rename News _ _ _ _ => N₁₇
      exact hP _ _ _ [(Cl, listOf cv nC), (_, _), (_, _), (_, _), (_, _)] F₁₇ (fun p hp => N₁₇ p (.tail _ (.tail _ (.tail _ (.tail _ hp))))) hoff ⟨o1, _, _, _, v1, _, _, _, rfl, d1, dC, dB, dA, ⟨_, rfl⟩, rfl⟩
end
section
theorem afresh_F9 : True := by
  w_top off
  trivial
open LCg in
section
variable {prog : Program} {w : World} {A : Around} {E : Value → Shared → Prop} {s : Shared} {env : Env} {H : Heap}
/-- the places and the ints of a made list, by pairs, through a comprehension that gives ints -/
theorem enum_pairs {l : Addr} {a : Array Value} {na : Nat} {ns : List Int} {m : Str → Option Value} {news : List (Addr × Obj)} {elt : PySem.Expr} {x x₂ y : Str} {scope : Scope} {cl : List (Str × Addr)} {QQ : Shared → Heap → Nat → Prop}
    (hh : A.handled = none) (F : Fr H env.locals s.heap m) (N : News H env.locals s.heap news) (hl : s.heap.get? l = some (listOf a na)) (i1 : IntsAre a.toList ns) (hz : ns.length ≤ sizeLine)
    (hE : ∀ (i : Nat) n ti tn C oC m₃ (s₃ : Shared) (E' : Value → Shared → Prop), ns[i]? = some n → LCg.NsObj oC m₃ → m₃ x = some (.int (i : Int) ti) → m₃ x₂ = some (.int n tn) → Fr H env.locals s₃.heap m → News H env.locals s₃.heap ((C, oC) :: news) →
      wpAny (model prog w) A (eval elt (compEnvC scope cl C env)) (fun v s₄ => (∃ k t, v = Value.int k t) ∧ Keeps s₃ s₄) E' s₃)
    (hD : ∀ D h' tk ys nD is, Fr H env.locals h' (fun z => if z = y then some (.ref D) else m z) → News H env.locals h' ((D, listOf ys nD) :: news) → (∀ q ∈ news, q.1 ≠ D) → ys.size = ns.length → IntsAre ys.toList is → ∀ h₂, QQ { s with heap := h₂ } h' tk) :
    wpAny (model prog w) A (call (.type "enumerate") [.ref l]) (fun xv s₁ => wpAny (model prog w) A (pyIter xv) (fun it s₂ => ∃ I fp wr n Pt St Mid m, it = .ref I ∧ WalksT prog w A I fp wr n Pt St Mid ∧ n ≤ sizeLine ∧ St 0 s₂.heap ∧ (∀ b ∈ fp, b < s₂.heap.objs.size) ∧
      (∀ i vals, Pt i vals → ∃ a b, vals = #[a, b]) ∧ env.locals ∉ wr ∧ s₂.heap.Ns env.locals m ∧ QuietP prog w A env scope cl x x₂ elt wr n Pt (fun _ v => ∃ k t, v = Value.int k t) s₂ ∧
      (∀ D h' tk (ys : Array Value), s₂.heap.get? D = none → h'.PlainList D ys → ys.size = n → (∀ (i : Nat) (y : Value), ys[i]? = some y → ∃ k t, y = Value.int k t) →
        h'.Ns env.locals (fun z => if z = y then some (.ref D) else m z) → (∀ b o, b ≠ env.locals → b ∉ wr → s₂.heap.get? b = some o → h'.get? b = some o) → QQ s₂ h' tk)) E s₁) E s := by
  have e1 : a.size = ns.length := by rw [← i1.length]; simp
  have hI : s.heap.IsList l a := ⟨_, hl, rfl, na, rfl⟩
  have hLs : env.locals < s.heap.objs.size := F.ns.lt
  have hlt : l < s.heap.objs.size := Heap.lt_size hl
  refine call_enumerate_list hI fun h' hE' hit hsz hk => ?_
  refine wpAny_pyIter_enum hE' ?_
  have W := WalksT.enumerate (prog := prog) (w := w) hh (s.heap.objs.size + 1) s.heap.objs.size l (Nat.ne_of_gt (Nat.lt_succ_self _)) (Nat.ne_of_lt (Nat.lt_succ_of_lt hlt)) (Nat.ne_of_lt hlt) a
  have F₂ : Fr H env.locals h' m := F.keeps hk
  have N₂ : News H env.locals h' news := N.grown hk
  have hwr : ∀ b ∈ [s.heap.objs.size + 1, s.heap.objs.size], H.get? b = none ∧ b ≠ env.locals ∧ ∀ q ∈ news, q.1 ≠ b := by
    intro b hb
    have hb' : b = s.heap.objs.size + 1 ∨ b = s.heap.objs.size := by simpa using hb
    rcases hb' with rfl | rfl
    · exact ⟨ktu_new F (Nat.le_add_right _ _), Nat.ne_of_gt (Nat.lt_succ_of_lt hLs), fun q hq => Nat.ne_of_lt (Nat.lt_succ_of_lt (Heap.lt_size (N q hq).1))⟩
    · exact ⟨ktu_new F (Nat.le_refl _), Nat.ne_of_gt hLs, fun q hq => Nat.ne_of_lt (Heap.lt_size (N q hq).1)⟩
  refine ⟨_, _, _, _, _, _, _, m, rfl, W, by rw [e1]; exact hz, ⟨⟨_, hE'⟩, hit, hI.at fun o e => hk l o e⟩, ?_, ?_, fun hb => (hwr _ hb).2.1 rfl, F₂.ns, ⟨?_⟩, ?_⟩
  · intro b hb
    have hb' : b = s.heap.objs.size + 1 ∨ b = s.heap.objs.size ∨ b = l := by simpa using hb
    have : h'.objs.size = s.heap.objs.size + 2 := by first | exact hsz | omega
    rw [this]
    rcases hb' with rfl | rfl | rfl
    · exact Nat.lt_succ_self _
    · exact Nat.lt_succ_of_lt (Nat.lt_succ_self _)
    · exact Nat.lt_succ_of_lt (Nat.lt_succ_of_lt hlt)
  · rintro i vals ⟨t, x, -, rfl⟩
    exact ⟨_, _, rfl⟩
  · rintro C i u v s₃ m₃ E' hC hi ⟨t, z, hz', e⟩ hn hm hm₂ hk₃
    cases e
    obtain ⟨n, tn, rfl, en⟩ := i1.at i v (by simpa using hz')
    obtain ⟨F₃, oC, N₃, hNC⟩ := comp_news F₂ N₂ hC hn hk₃ hwr
    exact hE i n t tn C oC m₃ s₃ E' en hNC hm hm₂ F₃ N₃
  · intro D h'' tk ys hD0 hpl hlen hall hns hk₃
    obtain ⟨nD, hDg⟩ := hpl
    obtain ⟨oL, es, ep, ho, _⟩ := F₂.ns
    have hL0 : H.get? env.locals = none := Heap.get?_none_of_le F₂.above
    have hH : ∀ b o, H.get? b = some o → h''.get? b = some o := fun b o e => hk₃ b o (fun q => by rw [q, hL0] at e; cases e) (fun hb => by rw [(hwr b hb).1] at e; cases e) (F₂.keep b o e)
    refine hD D h'' tk ys nD (numsOf ys.toList) ⟨hns, hH, F.above⟩ (fun q hq => ?_) (fun q hq e => ?_) (by rw [hlen, e1]) (intsAre_of fun v hv => ?_) _
    · rcases List.mem_cons.mp hq with rfl | hq
      · refine ⟨hDg, fun e => ?_, ?_⟩
        · have e' : D = env.locals := e
          rw [e', ho] at hD0; cases hD0
        · cases q : H.get? D with
          | none => rfl
          | some o => rw [F₂.keep _ _ q] at hD0; cases hD0
      · exact ⟨hk₃ _ _ (N₂ q hq).2.1 (fun hb => (hwr _ hb).2.2 q hq rfl) (N₂ q hq).1, (N₂ q hq).2⟩
    · have := (N₂ q hq).1
      rw [e, hD0] at this; cases this
    · obtain ⟨j, hj, rfl⟩ := Array.getElem_of_mem hv
      exact hall j _ (Array.getElem?_eq_getElem hj)
end
end
section
theorem afresh_FB : True := by
  w_top off
  trivial
section
variable {prog : Program} {w : World} {A : Around} {E : Value → Shared → Prop} {s : Shared} {env : Env} {H : Heap}
theorem it_listK {L l : Addr} {its : Array Value} {n : Nat} {ns : List Int} {m : Str → Option Value} {news : List (Addr × Obj)} {Q : Value → Shared → Prop} (hh : A.handled = none) (F : Fr H L s.heap m) (N : News H L s.heap news) (hl : s.heap.get? l = some (listOf its n)) (hi : IntsAre its.toList ns) (hz : ns.length ≤ sizeLine)
    (h : ∀ it h' wr P, IntIt prog w A H L ns m news it { s with heap := h' } wr P → (∀ b o, s.heap.get? b = some o → b ∉ wr ∧ h'.get? b = some o) → Q it { s with heap := h' }) : wpAny (model prog w) A (pyIter (.ref l)) Q E s := by
  have hL : s.heap.IsList l its := ⟨_, hl, rfl, n, rfl⟩
  have hlt := Heap.lt_size hl
  have hne : l ≠ s.heap.objs.size := Nat.ne_of_lt hlt
  have hlen : its.size = ns.length := by rw [← hi.length]; simp
  refine wpAny_pyIter_list hL ?_
  have W := Walks.list (prog := prog) (w := w) hh s.heap.objs.size l hne its
  rw [hlen] at W
  refine h _ _ _ _ ⟨_, _, _, rfl, W, hz, ⟨⟨_, Heap.get?_push_size _ rfl, rfl, rfl⟩, hL.at fun o e => Heap.get?_push_of_some _ e⟩, ?_, ?_, F.push _, fun p hp => ⟨Heap.get?_push_of_some _ (N p hp).1, (N p hp).2⟩, ?_⟩ ?_
  · intro b hb
    show b < (s.heap.push _).objs.size
    rw [Heap.size_push]
    rcases List.mem_cons.mp hb with rfl | hb
    · exact Nat.lt_succ_self _
    · rw [List.mem_singleton.mp hb]; exact Nat.lt_succ_of_lt hlt
  · intro i v hv
    obtain ⟨k, t, e1, e2⟩ := hi.at i v (by simpa using hv)
    exact ⟨k, t, e2, e1⟩
  · intro b hb
    rw [List.mem_singleton.mp hb]
    exact ⟨next_is_new F, Nat.ne_of_gt F.ns.lt, fun q hq => Nat.ne_of_lt (Heap.lt_size (N q hq).1)⟩
  · intro b o e
    exact ⟨fun hb => Nat.ne_of_lt (Heap.lt_size e) (List.mem_singleton.mp hb), Heap.get?_push_of_some _ e⟩
theorem comp_intsK {elt iter : PySem.Expr} {x : Str} {px : Pos} {ifs : List PySem.Expr} {scope : Scope} {cl : List (Str × Addr)} {pos : Pos} {L : Addr} {Q : Value → Shared → Prop} (p : Int → Bool) (f : Int → Int)
    (hclos : closureFor scope env = pure cl) (hcell : ∀ y ∈ scope.names, y.2 ≠ .cell) (hkind : scope.kind = .function)
    (hnames : ∀ y ∈ scope.names, y.2 = .local → scope.names.lookup y.1 = some .local) (hx : scope.names.lookup x = some .local)
    (h : wpAny (model prog w) A (eval iter env) (fun xv s₁ => wpAny (model prog w) A (pyIter xv) (fun it s₂ => ∃ ns m news wr P, IntIt prog w A H L ns m news it s₂ wr P ∧ IntElts prog w A H L env scope cl x ifs elt ns p f m news ∧
      (∀ D h' tk ys nD, Fr H L h' m → News H L h' ((D, listOf ys nD) :: news) → (∀ q ∈ news, q.1 ≠ D) → IntsAre ys.toList ((ns.filter p).map f) → (∀ b o, b ∉ wr → s₂.heap.get? b = some o → h'.get? b = some o) → Q (.ref D) { s₂ with heap := h', toks := tk })) E s₁) E s)
    (hs : ∀ x, foldedSetIterable iter env x = pure x := by intro _; rfl) :
    wpAny (model prog w) A (eval (.ListComp elt [⟨.Name x px, iter, ifs, 0⟩] scope pos) env) Q E s := by
  refine wpAny_ListComp_free (pV p) (fV f) hclos hcell hkind hnames hx (wpAny_mono h (fun xv s₁ h₁ => wpAny_mono h₁ (fun it s₂ h₂ => ?_) fun _ _ e => e) fun _ _ e => e) hs
  obtain ⟨ns, m, news, wr, P, ⟨I, fp, St, rfl, W, hz, hst, hfp, hP, F, N, hwr⟩, hE, hD⟩ := h₂
  refine ⟨I, fp, wr, ns.length, P, St, rfl, W, hz, hst, hfp, quiet_ints F N hP hwr hE, ?_⟩
  intro D h' tk ys vs hD0 hl hpl hlen hPv hF hk
  obtain ⟨nD, hDg⟩ := hpl
  have hH : ∀ b o, H.get? b = some o → h'.get? b = some o := fun b o e => hk b o (fun hb => by rw [(hwr b hb).1] at e; cases e) (F.keep b o e)
  obtain ⟨oL, es, ep, ho, hd, hk', hf⟩ := F.ns
  have hL' := hk _ _ (fun hb => (hwr _ hb).2.1 rfl) ho
  refine hD D h' tk ys nD ⟨⟨oL, es, ep, hL', hd, hk', hf⟩, hH, F.above⟩ (fun q hq => ?_) (fun q hq e => ?_) (filt_ints (fun n t y h => h n t rfl) (ints_of hlen fun j v hj => hP j v (hPv j v hj)) hF) hk
  · rcases List.mem_cons.mp hq with rfl | hq
    · refine ⟨hDg, fun e => ?_, ?_⟩
      · have e' : D = L := e
        rw [e', ho] at hD0; cases hD0
      · cases q : H.get? D with
        | none => rfl
        | some o => rw [F.keep _ _ q] at hD0; cases hD0
    · exact ⟨hk _ _ (fun hb => (hwr _ hb).2.2 q hq rfl) (N q hq).1, (N q hq).2⟩
  · have := (N q hq).1
    rw [e, hD0] at this; cases this

theorem slice_keep {h₀ : Heap} {L : Addr} {m : Str → Option Value} {news : List (Addr × Obj)} {value slice : PySem.Expr} {l : Addr} {items : Array Value} {vl vu vk : Value} {lo hi st : Option Int} {ops : List Value} {Q : Value → Shared → Prop}
    (F : Fr h₀ L s.heap m) (N : News h₀ L s.heap news) (hl : s.heap.IsList l items) (pl : IsPart vl lo) (pu : IsPart vu hi) (pk : IsPart vk st) (h0 : st ≠ some 0) (hsz : items.size ≤ sizeLine)
    (h : ∀ D h', Fr h₀ L h' m → News h₀ L h' ((D, listOf (slicePick items lo hi st) 0) :: news) → (∀ b o, s.heap.get? b = some o → h'.get? b = some o) → (∀ q ∈ news, q.1 ≠ D) → Q (.ref D) { s with heap := h' })
    (hs : subscripted slice false (.ref l) (.ref s.heap.objs.size) = operate ops (getItem (.ref l) (.ref s.heap.objs.size)) := by with_unfolding_all rfl)
    (ht : ∀ r, letTemporaryGo value (.ref l) r = pure () := by intro _; with_unfolding_all rfl) :
    wpAny (model prog w) A (subscriptTail value slice (.ref l) (.ref s.heap.objs.size)) Q E { s with heap := s.heap.push { cls := .type "slice", data := .fields #[vl, vu, vk] } } := by
  refine subscriptTail_ops (Heap.IsList.typeIs (s := { s with heap := s.heap.push { cls := .type "slice", data := .fields #[vl, vu, vk] } }) (hl.push _)) list_getitem_lookup
    (wpAny_getItem_list_slice (hl.push _) (Heap.IsSliceOf.new ..) pl pu pk h0 ?_ hsz) hs ht
  have F1 := F.push { cls := .type "slice", data := .fields #[vl, vu, vk] }
  exact h _ _ (F1.push _) (News.push F1 (N.grown fun _ _ e => Heap.get?_push_of_some _ e) _) (fun _ _ e => Heap.get?_push_of_some _ (Heap.get?_push_of_some _ e)) fun q hq => by
    have h1 := Heap.lt_size (N q hq).1
    rw [Heap.size_push]
    exact Nat.ne_of_lt (Nat.lt_succ_of_lt h1)
theorem sum_keep {h₀ : Heap} {L : Addr} {m : Str → Option Value} {news : List (Addr × Obj)} {l : Addr} {its : Array Value} {ns : List Int} {Q : Value → Shared → Prop} (hh : A.handled = none) (F : Fr h₀ L s.heap m) (N : News h₀ L s.heap news) (hl : s.heap.IsList l its) (hi : IntsAre its.toList ns)
    (h : ∀ k h' tk t', Fr h₀ L h' m → News h₀ L h' news → (∀ b o, s.heap.get? b = some o → h'.get? b = some o) → Q (.int k t') { s with heap := h', toks := tk }) :
    wpAny (model prog w) A (call (.builtin "sum") [.ref l]) Q E s := by
  obtain ⟨xs, hx⟩ := hi.allInts.items
  rw [Array.toArray_toList] at hx
  rw [hx] at hl
  exact sum_intListG hh hl fun h' tk t' hk => h _ h' tk t' (F.keeps hk) (N.grown hk) hk
end
end
section
theorem afresh_FC : True := by
  w_top off
  trivial
noncomputable def flipC (x : Nat × Nat × Nat) : Nat × Nat × Nat := (2 - x.1, x.2.1, x.2.2)
theorem colB_flip {x : Nat × Nat × Nat} (hx : ColOK x) : (colB x).toList.reverse = (colB (flipC x)).toList := by
  obtain ⟨k, wh, sp⟩ := x
  have hk := hx.1
  dsimp only at hk
  have hk : k = 0 ∨ k = 1 ∨ k = 2 := by omega
  rcases hk with rfl | rfl | rfl <;> rfl
theorem row_flip {cols : List (Nat × Nat × Nat)} (h : ∀ x ∈ cols, ColOK x) : (rowOf cols).reverse = rowOf (cols.reverse.map flipC) := by
  unfold rowOf
  rw [List.reverse_toArray]
  congr 1
  induction cols with
  | nil => rfl
  | cons x xs ih =>
    rw [List.flatMap_cons, List.reverse_append, ih fun y hy => h y (.tail _ hy), List.reverse_cons, List.map_append, List.flatMap_append, colB_flip (h x (.head _))]
    simp
theorem flip_ok {x : Nat × Nat × Nat} (hx : ColOK x) : ColOK (flipC x) := by
  obtain ⟨k, wh, sp⟩ := x
  exact ⟨by have := hx.1; simp only [flipC]; omega, hx.2.1, hx.2.2.1, hx.2.2.2⟩
theorem flip_kinds {cols : List (Nat × Nat × Nat)} (h : ∀ x ∈ cols, ColOK x) : ((((cols.map (·.1)).map fun (x : Nat) => (x : Int)).reverse.filter fun _ => true).map fun n => 2 - n) = (((cols.reverse.map flipC).map (·.1)).map fun (x : Nat) => (x : Int)) := by
  rw [List.filter_eq_self.mpr (fun _ _ => rfl), ← List.map_reverse, ← List.map_reverse, List.map_map, List.map_map, List.map_map, List.map_map]
  refine List.map_congr_left fun x hx => ?_
  have := (h x (List.mem_reverse.mp hx)).1
  simp only [Function.comp, flipC]
  omega
theorem eqv_ints : ∀ is : List Int, PyData.eqvAll (is.map .int) (is.map .int) = true
  | [] => by simp [PyData.eqvAll]
  | n :: is => by simp [PyData.eqvAll, PyData.eqv, eqv_ints is]
section
variable {prog : Program} {w : World} {A : Around} {E : Value → Shared → Prop} {s : Shared}
theorem eq_ints {D1 D2 : Addr} {v1 v2 : Array Value} {n1 n2 : Nat} {is : List Int} {Q : Value → Shared → Prop}
    (h1 : s.heap.get? D1 = some (listOf v1 n1)) (h2 : s.heap.get? D2 = some (listOf v2 n2)) (i1 : IntsAre v1.toList is) (i2 : IntsAre v2.toList is) (hu : A.units + 64 < cLine) (h : Q (.bool true) s) :
    wpAny (model prog w) A (compareOp .Eq (.ref D1) (.ref D2)) Q E s := by
  have r1 : Reads s.heap (.ref D1) (.list (is.map PyData.int)) [D1] := reads_newData ⟨_, h1, rfl, n1, by rw [Array.toArray_toList]⟩ (ke_carried i1)
  have r2 : Reads s.heap (.ref D2) (.list (is.map PyData.int)) [D2] := reads_newData ⟨_, h2, rfl, n2, by rw [Array.toArray_toList]⟩ (ke_carried i2)
  refine eq_dataH r1 r2 (by simp [SeqAt.shaped, PyData.canLay0, PyData.canLayAll0, PyData.depth, PyData.depthAll, ke_canLayAll0, ke_depthAll]) (by simp [SeqAt.shaped, PyData.canLay0, PyData.canLayAll0, PyData.depth, PyData.depthAll, ke_canLayAll0, ke_depthAll]) hu ?_
  have e : PyData.eqv (.list (is.map .int)) (.list (is.map .int)) = true := by simp [PyData.eqv, eqv_ints]
  rw [e]; exact h
theorem ne_ints {D1 D2 : Addr} {v1 v2 : Array Value} {n1 n2 : Nat} {is : List Int} {Q : Value → Shared → Prop}
    (h1 : s.heap.get? D1 = some (listOf v1 n1)) (h2 : s.heap.get? D2 = some (listOf v2 n2)) (i1 : IntsAre v1.toList is) (i2 : IntsAre v2.toList is) (hu : A.units + 64 < cLine) (h : Q (.bool false) s) :
    wpAny (model prog w) A (compareOp .NotEq (.ref D1) (.ref D2)) Q E s := by
  have r1 : Reads s.heap (.ref D1) (.list (is.map PyData.int)) [D1] := reads_newData ⟨_, h1, rfl, n1, by rw [Array.toArray_toList]⟩ (ke_carried i1)
  have r2 : Reads s.heap (.ref D2) (.list (is.map PyData.int)) [D2] := reads_newData ⟨_, h2, rfl, n2, by rw [Array.toArray_toList]⟩ (ke_carried i2)
  refine ne_dataH r1 r2 (by simp [SeqAt.shaped, PyData.canLay0, PyData.canLayAll0, PyData.depth, PyData.depthAll, ke_canLayAll0, ke_depthAll]) (by simp [SeqAt.shaped, PyData.canLay0, PyData.canLayAll0, PyData.depth, PyData.depthAll, ke_canLayAll0, ke_depthAll]) hu ?_
  have e : PyData.eqv (.list (is.map .int)) (.list (is.map .int)) = true := by simp [PyData.eqv, eqv_ints]
  rw [e]; exact h
end
theorem rule_use {w : World} {ks : List Nat} (hk : ∀ k ∈ ks, k < 3) (hl5 : ks.length ≤ 5) {A : Around} {s : Shared} {Q E : Value → Shared → Prop} {H : Heap} {L : Addr} {m : Str → Option Value} {news : List (Addr × Obj)} {mean : ExcName → Option Value} {mg mb : Str → Option Value} {R : Addr} {vl : Array Value} {nR : Nat}
    (F : Fr H L s.heap m) (N : News H L s.heap news) (X : (hd.heap_39 w.params).In H) (T : Top hd.view_39 LO mean mg mb H) (hd : A.depth + 20 < 600) (hu : A.units + 100 < 6000) (hR : s.heap.get? R = some (listOf vl nR)) (hi : IntsAre vl.toList (ks.map fun (x : Nat) => (x : Int)))
    (h : ∀ D vs nD h' tk, (∀ b o, s.heap.get? b = some o → h'.get? b = some o) → Fr H L h' m → News H L h' news → s.heap.get? D = none → h'.get? D = some (listOf vs nD) → IntsAre vs.toList ((ruleP ks).map fun (x : Nat) => (x : Int)) → Q (.ref D) { s with heap := h', toks := tk })
    (hA : A.handled = none := by rfl) : wpAny (model PySem.Challenge.rw_xp0006_01.row.prog w) A (call (.ref 153) [.ref R]) Q E s := by
  obtain ⟨hh, dp, fr, gd, un⟩ := A
  dsimp only at hA hd hu
  subst hA
  exact rule_call hk hl5 dp un fr gd s.heap s.gens s.drawn s.toks s.os hd hu ⟨X.keeps F.keep, mean, mg, mb, T.keeps F.keep⟩ hR hi fun D vs nD h' tk k e1 e2 e3 => h D vs nD h' tk k (frX F k) (newsX N k) e1 e2 e3
theorem swap_use {w : World} {b : Array UInt8} {n : Nat} (hb : b.size = n) (hn : n = 12 ∨ n = 15) {A : Around} {s : Shared} {Q E : Value → Shared → Prop} {H : Heap} {L : Addr} {m : Str → Option Value} {news : List (Addr × Obj)} {mean : ExcName → Option Value} {mg mb : Str → Option Value} {tb tu : Tok}
    (F : Fr H L s.heap m) (N : News H L s.heap news) (X : (hd.heap_39 w.params).In H) (T : Top hd.view_39 LO mean mg mb H) (hd : A.depth + 60 < 600) (hu : A.units + 300 < 6000)
    (h : ∀ h' tk t', (∀ b o, s.heap.get? b = some o → h'.get? b = some o) → Fr H L h' m → News H L h' news → Q (.bytes b.reverse t') { s with heap := h', toks := tk })
    (hA : A.handled = none := by rfl) : wpCl (model PySem.Challenge.rw_xp0006_01.row.prog w) A (call (.ref 133) [.bytes b tb, .int n tu]) Q E s := by
  obtain ⟨hh, dp, fr, gd, un⟩ := A
  dsimp only at hA hd hu
  subst hA
  exact swap_cl hb hn dp un fr gd s.heap s.gens s.drawn s.toks s.os hd hu ⟨X.keeps F.keep, mean, mg, mb, T.keeps F.keep⟩ fun h' tk t' k => h h' tk t' k (frX F k) (newsX N k)
end
section
theorem afresh_FD : True := by
  w_top off
  trivial
theorem law_end {w : World} {cols : List (Nat × Nat × Nat)} (hlen : cols.length = 4 ∨ cols.length = 5) (hcs : ∀ x ∈ cols, ColOK x)
    {oc' : Value} {od : Option Addr} {osl : Array (Option Value)} {name : Str} {params : Arguments} {scope : Scope} {pm cdv doc : Value} {s0 s1 s2 s3 s4 s5 s6 : Stmt}
    (ho : (Mine.hd.heap_39 w.params).lookup 158 = some ⟨oc', od, .func (Calls.docDef name params [s0, s1, s2, s3, s4, s5, s6] scope pm cdv doc), osl⟩)
    {dp un : Nat} {fr : Option (List Env)} {gd : Option (List Code)} (hd : dp + 90 < 600) (hu : un + 400 < 6000) {H : Heap} {L : Addr} (X : (Mine.hd.heap_39 w.params).In H) {mean : ExcName → Option Value} {mg mb : Str → Option Value} (T : Top Mine.hd.view_39 LO mean mg mb H)
    {K : Addr} {kv : Array Value} {nK : Nat} {g : Array GenState} {d : Drawn} {os : OsState} {h₁ : Heap} {tk₁ : Nat} {tr : Tok} {m : Str → Option Value} {own : List (Addr × Obj)} {E : Value → Shared → Prop} {QQ : Flow → Shared → Prop}
    (F : Fr H L h₁ m) (N : News H L h₁ ((K, listOf kv nK) :: own)) (mr : m (Str.ofString "row") = some (.bytes (rowOf cols) tr)) (mk : m (Str.ofString "kinds") = some (.ref K)) (hK : IntsAre kv.toList ((cols.map (·.1)).map fun (x : Nat) => (x : Int)))
    (hQ : ∀ h' tk, (∀ b o, H.get? b = some o → h'.get? b = some o) → QQ (.ret (.bool true)) ⟨h', g, d, tk, os⟩) :
    wpCl (model PySem.Challenge.rw_xp0006_01.row.prog w) (Around.deeper ⟨none, dp, fr, gd, un⟩ (envOfC name scope L 158 cdv)) (execs [s5, s6] (envOfC name scope L 158 cdv)) QQ E ⟨h₁, g, d, tk₁, os⟩ := by
  revert X; k_fill; intro X
  have e := ho.symm.trans (show (Mine.hd.heap_39 w.params).lookup 158 = some _ from by k_is)
  cases e
  have em := kst_eq (m := m) [(Str.ofString "row", _), (Str.ofString "kinds", _)] (by intro p hp; simp only [List.mem_cons, List.not_mem_nil, or_false] at hp; rcases hp with rfl | rfl <;> assumption)
  rw [← em] at F
  clear em
  have hks : ∀ k ∈ cols.map (·.1), k < 3 := by
    intro k hk
    obtain ⟨x, hx, rfl⟩ := List.mem_map.mp hk
    exact (hcs x hx).1
  have hl5 : (cols.map (·.1)).length ≤ 5 := by rw [List.length_map]; omega
  refine cl_execs (wpCl_of ?_)
  iterate 8 (first | walk1 | (dsimp only; walk1))
  with_reducible rename Fr _ _ _ _ => F₅
  with_reducible rename News _ _ _ _ => N₅
  refine ⟨X.keeps F₅.keep, ?_⟩
  refine Call0.use (left_call hlen rfl hcs rfl) (by exact F₅) (by exact N₅) (by assumption) (by assumption) (by simp only [depth_deeper]; omega) (by simp only [units_deeper]; omega) ?_
  rintro _ h₆ tk₆ k₆ F₆ N₆ ⟨D1, v1, n1, rfl, hD0, hDg, hi1⟩
  have N₇ := newsAdd F₅ N₆ hD0 hDg
  clear F₅ N₅ N₆
  dsimp only at F₆ N₇ ⊢
  iterate 7 (first | walk1 | (dsimp only; walk1))
  with_reducible rename Fr _ _ _ _ => F₈
  with_reducible rename News _ _ _ _ => N₈
  refine rule_use hks hl5 (by exact F₈) (by exact N₈) (by assumption) (by assumption) (by simp only [depth_deeper]; omega) (by simp only [units_deeper]; omega) (by exact (N₈ (K, _) (by k_mem)).1) hK ?_
  intro D2 v2 n2 h₉ tk₉ k₉ F₉ N₉ hD2 hDg2 hi2
  clear F₈ N₈
  dsimp only at F₉ N₉ ⊢
  refine ne_ints (by exact (N₉ (D1, _) (by k_mem)).1) hDg2 hi1 hi2 (by simp only [units_deeper, cLine]; omega) ?_
  iterate 3 (first | walk1 | (dsimp only; walk1))
  dsimp only
  obtain ⟨o148, f148, e148, d148⟩ : ∃ o fd, (Mine.hd.heap_39 w.params).lookup 148 = some o ∧ o.data = .func fd := ⟨_, _, by k_is, rfl⟩
  obtain ⟨o133, f133, e133, d133⟩ : ∃ o fd, (Mine.hd.heap_39 w.params).lookup 133 = some o ∧ o.data = .func fd := ⟨_, _, by k_is, rfl⟩
  refine cl_execs (cl_Return (cl_Compare (cl_Call1 ?_)))
  iterate 1 (first | walk1 | (dsimp only; walk1))
  refine cl_callWith_fn rfl (Nat.le_of_ble_eq_true rfl) d148 (cl_args (cl_Call2 ?_))
  iterate 1 (first | walk1 | (dsimp only; walk1))
  refine cl_callWith_fn rfl (Nat.le_of_ble_eq_true rfl) d133 (wpCl_of (evalArgs_plain (spliced_cons ?_)))
  iterate 1 (first | walk1 | (dsimp only; walk1))
  refine spliced_cons ?_
  iterate 6 (first | walk1 | (dsimp only; walk1))
  have hrs : (rowOf cols).size = 3 * cols.length := row_size cols
  refine len_bytes (by omega) ?_
  refine spliced_nil ?_
  with_reducible rename Fr _ _ _ _ => F₁₀
  with_reducible rename News _ _ _ _ => N₁₀
  refine ⟨X.keeps F₁₀.keep _ _ e133, ?_⟩
  dsimp only
  refine swap_use rfl (by omega) (by exact F₁₀) (by exact N₁₀) (by assumption) (by assumption) (by simp only [depth_deeper]; omega) (by simp only [units_deeper]; omega) ?_
  intro h₁₁ tk₁₁ t₁₁ k₁₁ F₁₁ N₁₁
  clear F₁₀ N₁₀
  refine spliced_nil ?_
  refine ⟨X.keeps F₁₁.keep _ _ e148, ?_⟩
  dsimp only
  rw [row_flip hcs]
  have hlen' : (cols.reverse.map flipC).length = cols.length := by rw [List.length_map, List.length_reverse]
  have hcs' : ∀ x ∈ cols.reverse.map flipC, ColOK x := by
    intro x hx
    obtain ⟨y, hy, rfl⟩ := List.mem_map.mp hx
    exact flip_ok (hcs y (List.mem_reverse.mp hy))
  refine wpCl_of (Call0.use (left_call hlen hlen' hcs' rfl) (by exact F₁₁) (by exact N₁₁) (by assumption) (by assumption) (by simp only [depth_deeper]; omega) (by simp only [units_deeper]; omega) ?_)
  rintro _ h₁₂ tk₁₂ k₁₂ F₁₂ N₁₂ ⟨D3, v3, n3, rfl, hD3, hDg3, hi3⟩
  have N₁₃ := newsAdd F₁₁ N₁₂ hD3 hDg3
  clear F₁₁ N₁₁ N₁₂
  dsimp only at F₁₂ N₁₃ ⊢
  iterate 4 (first | walk1 | (dsimp only; walk1))
  refine comp_ints (H := H) (L := L) (fun _ => true) (fun n => 2 - n) (by rfl) (by decide) rfl (by decide) (by rfl) ?_
  iterate 9 (first | walk1 | (dsimp only; walk1))
  with_reducible rename Fr _ _ _ _ => F₁₄
  with_reducible rename News _ _ _ _ => N₁₄
  have hkl : kv.size = cols.length := by
    have := hK.length
    rw [Array.length_toList, List.length_map, List.length_map] at this
    exact this
  refine slice_keep (items := kv) (st := some (-1)) (by exact F₁₄) (by exact N₁₄) (by exact ⟨_, (N₁₄ (K, _) (by k_mem)).1, rfl, nK, rfl⟩) IsPart.none IsPart.none (IsPart.int _ _) (by decide) (by rw [sizeLine_eq, hkl]; omega) ?_
  rw [krv_pick]
  intro D4 h₁₅ F₁₅ N₁₅ _k₁₅ _n₁₅
  clear F₁₄ N₁₄
  dsimp only
  refine it_list rfl F₁₅ N₁₅ (by exact (N₁₅ _ (.head _)).1) (by exact hK.reverse) (by rw [sizeLine_eq, List.length_reverse, List.length_map, List.length_map]; omega) ?_
  intro it h₁₆ wr P I
  refine ⟨_, _, _, wr, P, I, ?_, ?_⟩
  · intro n' tn' C' oC' m₇ s₇ E₇ hn' hNC' hm' F₁₆ N₁₆
    clear I F₁₅ N₁₅
    refine ⟨wpAny_tests_nil ⟨rfl, _, _, rfl, fun _ _ e => e⟩, fun _ => ?_⟩
    iterate 4 (first | walk1 | (dsimp only; walk1))
    exact ⟨int_ex rfl, _, _, rfl, fun _ _ e => e⟩
  · intro D5 h₁₇ tk₁₇ ys nD F₁₇ N₁₇ hD5 hI5
    rw [flip_kinds hcs] at hI5
    clear I F₁₅ N₁₅
    dsimp only at F₁₇ N₁₇ ⊢
    iterate 2 (first | walk1 | (dsimp only; walk1))
    have hks' : ∀ k ∈ (cols.reverse.map flipC).map (·.1), k < 3 := by
      intro k hk
      obtain ⟨x, hx, rfl⟩ := List.mem_map.mp hk
      exact (hcs' x hx).1
    have hl5' : ((cols.reverse.map flipC).map (·.1)).length ≤ 5 := by rw [List.length_map, hlen']; omega
    refine rule_use hks' hl5' (by exact F₁₇) (by exact N₁₇) (by assumption) (by assumption) (by simp only [depth_deeper]; omega) (by simp only [units_deeper]; omega) (by exact (N₁₇ _ (.head _)).1) hI5 ?_
    intro D6 v6 n6 h₁₈ tk₁₈ k₁₈ F₁₈ N₁₈ hD6 hDg6 hi6
    clear F₁₇ N₁₇
    dsimp only at F₁₈ N₁₈ ⊢
    refine eq_ints (by exact (N₁₈ (D3, _) (by k_mem)).1) hDg6 hi3 hi6 (by simp only [units_deeper, cLine]; omega) ?_
    exact hQ _ _ F₁₈.keep
end
section
theorem afresh_FE : True := by
  w_top off
  trivial
theorem law_mid {w : World} {cells : List Int} (hlen : cells.length = 4 ∨ cells.length = 5)
    {oc' : Value} {od : Option Addr} {osl : Array (Option Value)} {name : Str} {params : Arguments} {scope : Scope} {pm cdv doc : Value} {s0 s1 s2 s3 s4 s5 s6 : Stmt}
    (ho : (Mine.hd.heap_39 w.params).lookup 158 = some ⟨oc', od, .func (Calls.docDef name params [s0, s1, s2, s3, s4, s5, s6] scope pm cdv doc), osl⟩)
    {dp un : Nat} {fr : Option (List Env)} {gd : Option (List Code)} (hd : dp + 90 < 600) (hu : un + 400 < 6000) {H : Heap} {L : Addr} (X : (Mine.hd.heap_39 w.params).In H) {mean : ExcName → Option Value} {mg mb : Str → Option Value} (T : Top Mine.hd.view_39 LO mean mg mb H)
    {Cl : Addr} (hCl : L + 1 + 1 + 1 + 1 ≠ Cl ∧ L + 1 + 1 + 1 ≠ Cl ∧ L + 1 + 1 ≠ Cl ∧ L + 1 ≠ Cl) {cv : Array Value} {nC : Nat} {g : Array GenState} {d : Drawn} {os : OsState} {h₁ : Heap} {tk₁ : Nat} {m : Str → Option Value} {o1 o2 o3 o4 : Obj} {v1 v2 v3 v4 : Option Value} {QQ : Flow → Shared → Prop}
    (F : Fr H L h₁ m) (N : News H L h₁ [(Cl, listOf cv nC), (L + 1 + 1 + 1 + 1, o4), (L + 1 + 1 + 1, o3), (L + 1 + 1, o2), (L + 1, o1)]) (d1 : o1.data = .cell v1) (d2 : o2.data = .cell v2) (d3 : o3.data = .cell v3) (d4 : o4.data = .cell v4)
    (mc : m (Str.ofString "cells") = some (.ref Cl)) (hC : IntsAre cv.toList cells)
    (hQ : ∀ h' tk, (∀ b o, H.get? b = some o → h'.get? b = some o) → QQ (.ret (.bool true)) ⟨h', g, d, tk, os⟩) :
    wpCl (model PySem.Challenge.rw_xp0006_01.row.prog w) (Around.deeper ⟨none, dp, fr, gd, un⟩ (envOfC name scope L 158 cdv)) (execs [s2, s3, s4, s5, s6] (envOfC name scope L 158 cdv)) QQ (fun _ _ => False) ⟨h₁, g, d, tk₁, os⟩ := by
  revert X; k_fill; intro X
  have hend := @law_end w (cells.map colOf) (by rw [List.length_map]; exact hlen) (by intro x hx; obtain ⟨c, -, rfl⟩ := List.mem_map.mp hx; exact (colOf_eq c).2.2.2)
    oc' od osl name params scope pm cdv doc s0 s1 s2 s3 s4 s5 s6 ho
  have hturn := @law_turn w cells (by omega) oc' od osl name params scope pm cdv doc s0 s1 s2
  have e := ho.symm.trans (show (Mine.hd.heap_39 w.params).lookup 158 = some _ from by k_is)
  cases e
  have em := kst_eq (m := m) [(Str.ofString "cells", _)] (by intro p hp; rw [List.mem_singleton.mp hp]; exact mc)
  rw [← em] at F
  clear em
  refine cl_execs (wpCl_of ?_)
  iterate 3 (first | walk1 | (dsimp only; walk1))
  dsimp only
  with_reducible rename Fr _ _ _ _ => F₂
  with_reducible rename News _ _ _ _ => N₂
  obtain ⟨m₁, F₂, mr, mc⟩ : ∃ m₁, Fr H L _ m₁ ∧ (∃ t, m₁ (Str.ofString "row") = some (.bytes (rowOf ((cells.map colOf).take 0)) t)) ∧ m₁ (Str.ofString "cells") = some (.ref Cl) := ⟨_, F₂, ⟨_, rfl⟩, rfl⟩
  have em := kst_eq (m := m₁) [(Str.ofString "cells", _)] (by intro p hp; rw [List.mem_singleton.mp hp]; exact mc)
  refine cl_execs (wpCl_of ?_)
  refine For_turns F₂ ?_
  rw [← em] at F₂
  iterate 1 (first | walk1 | (dsimp only; walk1))
  rw [em] at F₂
  have hLl : L ≠ Cl := Ne.symm (N₂ _ (.head _)).2.1
  refine for_list (env := envOfC _ _ L 158 _) rfl F₂ N₂ (N₂ _ (.head _)).1 hC hLl (fun i m news => WJ (cells.map colOf) Cl L cv nC i m news) ?_ ⟨o1, o2, o3, o4, v1, v2, v3, v4, rfl, d1, d2, d3, d4, mr, mc⟩ ?_ ?_
  · rintro i m' news' ⟨_, _, _, _, _, _, _, _, rfl, _⟩
    exact .head _
  · intro i x' tx m₂ news₁ h₂ tk₂ own hi hJ hoff F₃ N₃
    refine hturn (E := fun _ _ => False) ho (by omega) (by omega) X T hCl hi hJ hoff F₃ N₃ ?_
    intro h' tk m' news' F' N' hoff' J'
    exact ⟨rfl, h', tk, m', news', rfl, F', N', hoff', J'⟩
  · rintro h₄ tk₄ m₄ news₄ F₄ N₄ ⟨o1', o2', o3', o4', v1', v2', v3', v4', rfl, _, _, _, _, ⟨tr', mr'⟩, mc'⟩
    clear F₂ N₂ em mr mc
    rw [List.take_of_length_le (by rw [List.length_map]; exact Nat.le_refl _)] at mr'
    have em := kst_eq (m := m₄) [(Str.ofString "row", _), (Str.ofString "cells", _)] (by intro p hp; simp only [List.mem_cons, List.not_mem_nil, or_false] at hp; rcases hp with rfl | rfl <;> assumption)
    rw [← em] at F₄
    clear em
    dsimp only
    refine cl_execs (wpCl_of ?_)
    refine assign_ints (H := H) (fun _ => true) (fun n => n.fmod 3) (by rfl) (by rfl) (by decide) rfl (by decide) (by rfl) (by rfl) (by rfl) ?_
    iterate 1 (first | walk1 | (dsimp only; walk1))
    refine it_list rfl F₄ N₄ (by exact (N₄ _ (.head _)).1) hC (by rw [sizeLine_eq]; omega) ?_
    intro it h₅ wr P I
    refine ⟨_, _, _, wr, P, I, ?_, ?_⟩
    · intro n' tn' C' oC' m₇ s₇ E₇ hn' hNC' hm' F₆ N₆
      clear I F₄ N₄
      refine ⟨wpAny_tests_nil ⟨rfl, _, _, rfl, fun _ _ e => e⟩, fun _ => ?_⟩
      iterate 4 (first | walk1 | (dsimp only; walk1))
      exact ⟨int_ex rfl, _, _, rfl, fun _ _ e => e⟩
    · intro D h₆ tk₆ ys nD F₆ N₆ hDn hI
      clear I F₄ N₄
      have e3 : (List.filter (fun _ => true) cells).map (fun n => n.fmod 3) = ((cells.map colOf).map (·.1)).map fun (x : Nat) => (x : Int) := by
        rw [List.filter_eq_self.mpr (fun _ _ => rfl), List.map_map, List.map_map]
        exact List.map_congr_left fun c _ => (colOf_eq c).1
      rw [e3] at hI
      dsimp only at F₆ N₆ ⊢
      exact hend hd hu X T F₆ N₆ rfl rfl hI hQ
end
section
theorem afresh_FA : True := by
  w_top off
  trivial
theorem law_cl {w : World} {l : Addr} {vs : List Value} {ns : List Int} (dp un : Nat) (fr : Option (List Env)) (gd : Option (List Code)) (h0 : Heap) (g : Array GenState) (d : Drawn) (t : Nat) (os : OsState) {Q E : Value → Shared → Prop}
    (hd : dp + 100 < 600) (hu : un + 400 < 6000) (hL : h0.IsList l vs.toArray) (hI : IntsAre vs ns) (hn : ns.length ≤ 63) (G : Gd w h0)
    (hQ : ∀ h' tk, (∀ b o, h0.get? b = some o → h'.get? b = some o) → Q (.bool true) ⟨h', g, d, tk, os⟩) :
    wpCl (model PySem.Challenge.rw_xp0006_01.row.prog w) ⟨none, dp, fr, gd, un⟩ (call (.ref 158) [.ref l]) Q E ⟨h0, g, d, t, os⟩ := by
  obtain ⟨X, mean, mg, mb, T⟩ := G
  revert X; k_fill; intro X
  have ho := show (Mine.hd.heap_39 w.params).lookup 158 = some _ from by k_is
  k_dflt (refine' enterClC ?k1 ?k2 ?k6 ?k7 ?k8 ?k9 ?kB ?kD ?_ ?c2 ?c3 ?c4)
  case k1 => assumption
  case k2 => exact Top.nolimit (by assumption)
  case k6 => k_is
  case k7 => k_is
  case k8 => k_room
  case k9 => exact rfl
  case kB => exact kinds_of (by kinds_ok)
  case kD => decide +kernel
  case c2 => exact rfl
  case c3 => exact rfl
  case c4 => exact rfl
  intro h₁ tk cells F N Y
  k_cells Y
  dsimp only at F N ⊢
  refine cl_execs (wpCl_of ?_)
  refine Assign_ListComp_pair (fun _ v => ∃ k t, v = Value.int k t) rfl (by rfl) (by rfl) (by decide) rfl (by decide) (by rfl) (by rfl) (by decide) (by rfl) (by rfl) ?_
  iterate 18 (first | walk1 | (dsimp only; walk1))
  with_reducible rename Fr _ _ _ _ => F₁
  with_reducible rename News _ _ _ _ => N₁
  refine enum_pairs (ns := [72, 15, 31, 23, 52]) (env := envOfC _ _ h0.objs.size 158 _) (by rfl) (by exact F₁) (by exact N₁) (by exact (N₁ _ (.head _)).1) (by exact (.cons _ _ (.cons _ _ (.cons _ _ (.cons _ _ (.cons _ _ .nil)))))) (by rw [sizeLine_eq]; decide) ?_ ?_
  · intro i n ti tn C oC m₃ s₃ E' hi hNC hm hm₂ F₂ N₂
    clear F₁ N₁
    replace F₂ : Fr h0 h0.objs.size s₃.heap _ := F₂
    replace N₂ : News h0 h0.objs.size s₃.heap _ := N₂
    iterate 6 (first | walk1 | (dsimp only; walk1))
    refine comp_intsK (H := h0) (L := h0.objs.size) (fun _ => true) (fun n => n.fmod 1000000) (by rfl) (by decide) rfl (by decide) (by rfl) ?_
    iterate 8 (first | walk1 | (dsimp only; walk1))
    with_reducible rename Fr _ _ _ _ => F₄
    with_reducible rename News _ _ _ _ => N₄
    refine slice_keep (items := vs.toArray) (by exact F₄) (by exact N₄) (hL.at fun o e => F₄.keep _ _ e) IsPart.none (IsPart.int _ _) IsPart.none (by decide) (by rw [List.size_toArray, sizeLine_eq, hI.length]; omega) ?_
    have hW := kmk_upto hI (y := 63) (by omega)
    have hWl := hW.length
    rw [Array.length_toList, List.length_take] at hWl
    generalize slicePick vs.toArray none (some 63) none = w1 at hW hWl
    intro D1 h₅ F₅ N₅ k₅ _n₅
    clear F₄ N₄
    dsimp only at k₅ ⊢
    iterate 7 (first | walk1 | (dsimp only; walk1))
    with_reducible rename Fr _ _ _ _ => F₆
    with_reducible rename News _ _ _ _ => N₆
    refine slice_keep (items := w1) (by exact F₆) (by exact N₆) (by exact ⟨_, (N₆ _ (.head _)).1, rfl, 0, rfl⟩) (IsPart.int _ _) IsPart.none (IsPart.int _ _) (by decide) (by rw [sizeLine_eq]; omega) ?_
    have hW2 := hW.pick (some (i : Int)) none (some 5)
    rw [Array.toArray_toList] at hW2
    have hpl := length_pickNums_le hW (some (i : Int)) none (some 5)
    rw [List.length_take] at hpl
    generalize slicePick w1 (some (i : Int)) none (some 5) = w2 at hW2
    intro D2 h₆ F₇ N₇ k₆ _n₆
    clear F₆ N₆
    dsimp only at k₆ ⊢
    refine it_listK rfl F₇ N₇ (by exact (N₇ _ (.head _)).1) hW2 (by rw [sizeLine_eq]; omega) ?_
    intro it h₇ wr P I k₇
    refine ⟨_, _, _, wr, P, I, ?_, ?_⟩
    · intro n' tn' C' oC' m₇ s₇ E₇ hn' hNC' hm' F₈ N₈
      clear I F₇ N₇
      refine ⟨wpAny_tests_nil ⟨rfl, _, _, rfl, fun _ _ e => e⟩, fun _ => ?_⟩
      iterate 4 (first | walk1 | (dsimp only; walk1))
      exact ⟨int_ex rfl, _, _, rfl, fun _ _ e => e⟩
    · intro D3 h₉ tk₉ ys nD F₉ N₉ hD3 hI3 k₉
      clear I F₇ N₇
      dsimp only at F₉ N₉ k₉ ⊢
      iterate 1 (first | walk1 | (dsimp only; walk1))
      refine sum_keep (its := ys) rfl F₉ N₉ ⟨_, (N₉ _ (.head _)).1, rfl, nD, rfl⟩ hI3 ?_
      intro kk h₁₀ tk₁₀ t₁₀ F₁₀ N₁₀ k₁₀
      clear F₉ N₉
      dsimp only
      iterate 1 (first | walk1 | (dsimp only; walk1))
      exact ⟨⟨_, _, rfl⟩, _, _, rfl, fun b o e => k₁₀ _ _ (k₉ _ _ (k₇ _ _ (k₆ _ _ (k₅ _ _ e))).1 (k₇ _ _ (k₆ _ _ (k₅ _ _ e))).2)⟩
  · intro D h' tk ys nD is F₂ N₂ hDn hsz hIs h₃
    clear F₁ N₁
    obtain ⟨m₁, F₂, mc⟩ : ∃ m₁, Fr h0 h0.objs.size _ m₁ ∧ m₁ (Str.ofString "cells") = some (.ref D) := ⟨_, F₂, rfl⟩
    have em := kst_eq (m := m₁) [(Str.ofString "cells", _)] (by intro p hp; rw [List.mem_singleton.mp hp]; exact mc)
    rw [← em] at F₂
    clear em
    replace N₂ : News h0 h0.objs.size h' _ := N₂
    have hD := allNe_of hDn
    simp only [AllNe] at hD
    have hys : is.length = 5 := by rw [← hIs.length, Array.length_toList]; exact hsz
    dsimp only
    refine cl_execs (wpCl_of ?_)
    iterate 13 (first | walk1 | (dsimp only; walk1))
    · iterate 10 (first | walk1 | (dsimp only; walk1))
      with_reducible rename Fr _ _ _ _ => F₄
      with_reducible rename News _ _ _ _ => N₄
      refine slice_keep (items := ys) (hi := some 4) (by exact F₄) (by exact N₄) (by exact ⟨_, (N₄ _ (.head _)).1, rfl, nD, rfl⟩) IsPart.none (IsPart.int _ _) IsPart.none (by decide) (by rw [sizeLine_eq, hsz]; decide) ?_
      have hW := kmk_upto (vs := ys.toList) hIs (y := 4) (by omega)
      rw [Array.toArray_toList] at hW
      intro D1 h₅ F₅ N₅ _k₅ n₅
      clear F₄ N₄
      have hn5 := allNe_of n₅
      simp only [AllNe] at hn5
      dsimp only
      iterate 3 (first | walk1 | (dsimp only; walk1))
      with_reducible rename Fr _ _ _ _ => F₆
      with_reducible rename News _ _ _ _ => N₆
      dsimp only
      refine law_mid (dp := dp) (un := un) (fr := fr) (gd := gd) (cells := is.take (4 : Int).toNat) (Or.inl (by rw [List.length_take, hys]; rfl)) ho (by omega) (by omega) X T ⟨?_, ?_, ?_, ?_⟩ F₆ (fun p hp => (List.mem_cons.mp hp).elim (fun e => e ▸ N₆ _ (.head _)) (fun h => N₆ _ (.tail _ (.tail _ (.tail _ h))))) (by assumption) (by assumption) (by assumption) (by assumption) rfl hW ?_
      · exact hn5.2.2.1
      · exact hn5.2.2.2.1
      · exact hn5.2.2.2.2.1
      · exact hn5.2.2.2.2.2.1
      · intro h'' tk'' kk
        exact hQ _ _ kk
    · iterate 2 (first | walk1 | (dsimp only; walk1))
      with_reducible rename Fr _ _ _ _ => F₄
      with_reducible rename News _ _ _ _ => N₄
      dsimp only
      refine law_mid (dp := dp) (un := un) (fr := fr) (gd := gd) (cells := is) (Or.inr hys) ho (by omega) (by omega) X T ⟨?_, ?_, ?_, ?_⟩ F₄ (fun p hp => (List.mem_cons.mp hp).elim (fun e => e ▸ N₄ _ (.head _)) (fun h => N₄ _ (.tail _ (.tail _ h)))) (by assumption) (by assumption) (by assumption) (by assumption) rfl hIs ?_
      · exact hD.2.1
      · exact hD.2.2.1
      · exact hD.2.2.2.1
      · exact hD.2.2.2.2.1
      · intro h'' tk'' kk
        exact hQ _ _ kk
end
section
theorem afresh_FF : True := by
  w_top off
  trivial
theorem law_glob {w : World} {h : Heap} {mg : Str → Option Value} (X : (Mine.hd.heap_39 w.params).In h) (G : h.Ns mainGlobals mg) : mg (Str.ofString "law") = some (.ref 158) := by
  revert X; k_fill; intro X
  refine mg_of X G ?_
  rfl
theorem fin : PySem.Challenge.rw_xp0006_01.Holds := hd (by
  k_fill
  intro w s₀ s₁ mg mb G Y fa o pm cd doc dV kV ho hd' hcd hD hmg hg args vals as hpre hlay hrd hwl hlo
  have KX := kIn_of Y
  refine Ground.open G ?_
  intro T B D TE TW
  wrow_args hpre hlay hrd hwl hlo
  have e := law_glob KX T.g
  have e2 : some (Value.ref fa) = some (.ref 158) := hmg.symm.trans e
  cases e2
  with_reducible rename Heap.IsList _ _ _ => hL
  with_reducible rename IntsAre _ _ => hI
  refine law_cl (w := w) 301 4 (some []) (some []) s₁.heap s₁.gens s₁.drawn s₁.toks s₁.os (by omega) (by omega) (by exact hL) (by exact hI) (by omega) ⟨KX, _, _, _, T⟩ ?_
  intro h' tk kk
  refine ⟨.inl ⟨_, _, [], rfl, fun _ => rfl, ReadsW.bool true, ?_, fun _ => ⟨List.nodup_nil, fun _ hm => (nomatch hm)⟩⟩, OldK.of_keep kk, rfl, .of_eq hg⟩
  first | rfl | wrow_post)
end
end Mine
set_option Elab.async false
set_option maxRecDepth 100000 in
set_option maxHeartbeats 8000000 in
theorem PySem.Challenge.cw_xp0006_01_holds : PySem.Challenge.rw_xp0006_01.Holds := by
  exact Mine.fin
