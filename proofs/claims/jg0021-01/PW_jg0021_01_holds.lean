import PyProof.Rows.All
import Wide.All
import OpenK.AllK
import Wide.FinOn
import Lean
import PySem.Challenge.RW_jg0021_01
set_option Elab.async false
set_option maxRecDepth 100000
set_option compiler.extract_closed false
section
open PySem PySem.W PySem.Calls PyProof.Rows
namespace Mine

/-! The head, for a call that is looked at in the caller's own surroundings alone (bytearray asks the stack). -/

/-- the caller's surroundings: nothing stands below -/
def CC : Ctx := ⟨.builtin "claim.caller" {}, none, none, [], none⟩
def wp0 {α : Type} (prog : Program) (w : World) (t : Sem α) (Q : α → Shared → Prop) (E : Value → Shared → Prop) (s : Shared) : Prop :=
  Sem.wp (model prog w) CC t (fun a _ s' => Q a s') (fun e _ s' => E e s') default s

theorem ends0 {prog : Program} {w : World} {t : Sem Fin} {s : Shared} {R : Result → Shared → Prop} (hreg : s.asleep)
    (h : wp0 prog w t (fun fin s' => ∃ f, fin = .done f ∧ (R (.ok f) s' ∧ leftWithCleanup s'.gens = false)) (fun e s' => R (.error e) s' ∧ leftWithCleanup s'.gens = false) s) :
    ∃ n r s' s'', runN (denote table) prog w n s ⟨t, .builtin "claim.caller" {}, default, []⟩ = .halted (outcomeOf r) s' ∧
      schedN (denote table) prog w n (.single s ⟨t, .builtin "claim.caller" {}, default, []⟩) = .halted (outcomeOf r) s' ∧ s'.forget = s''.forget ∧ R r s'' := by
  have hf : Sem.wp (model prog w) CC t (Sem.finPost (model prog w) CC (fun r s' => R r s' ∧ leftWithCleanup s'.gens = false)) (fun e _ s' => R (.error e) s' ∧ leftWithCleanup s'.gens = false) default s := by
    refine Sem.wp_mono (model prog w) CC t (fun fin p' s' h' => ?_) (fun _ _ _ h' => h') default s h
    obtain ⟨f, rfl, z⟩ := h'
    exact z
  obtain ⟨n, r, s₁, s₂, a, b, c, d⟩ := wp_halts_full (M := model prog w) (R := R) hreg hf
  exact ⟨n, r, s₂, s₁, b, a, c, d⟩

theorem callFrom0 {c : ClaimW} {tree : List Value → Sem Fin} {w : World} {s : Shared} {free : Addr → Prop} {gens : Prop} {kept : Heap → Prop} (hz : s.asleep) (hgens : s.gens = #[])
    (hspec : ∀ args, c.pre args = true → WData.layableAll args = true → ∀ ord : List DictEntry → List DictEntry, (∀ l, (ord l).Perm l) →
      ∃ vs s₁, layAllW c.records (classAt s.heap) w.params ord args s = some (vs, s₁) ∧
        wp0 c.prog w (tree vs) (fun fin s' => ∃ f, fin = .done f ∧ (c.Ends s args vs s₁ (.ok f) s' ∧ s'.os = s.os ∧ AllBare s'.gens ∧ kept s'.heap))
          (fun e s' => c.Ends s args vs s₁ (.error e) s' ∧ s'.os = s.os ∧ AllBare s'.gens ∧ kept s'.heap) s₁) :
    c.CallFrom (fun vs => ⟨tree vs, .builtin "claim.caller" {}, default, []⟩) w free gens kept s := by
  intro args hpre hlay ord hord
  obtain ⟨vs, s₁, hlaid, hcode⟩ := hspec args hpre hlay ord hord
  have hal := layAllW_rest _ _ _ hlaid
  have hq : wp0 c.prog w (tree vs) (fun fin s' => ∃ f, fin = .done f ∧ ((fun (r : Result) (s' : Shared) => c.Ends s args vs s₁ r s' ∧ s'.os = s.os ∧ kept s'.heap) (.ok f) s' ∧ leftWithCleanup s'.gens = false))
      (fun e s' => (fun (r : Result) (s' : Shared) => c.Ends s args vs s₁ r s' ∧ s'.os = s.os ∧ kept s'.heap) (.error e) s' ∧ leftWithCleanup s'.gens = false) s₁ := by
    refine Sem.wp_mono _ _ _ (fun fin p' s' h' => ?_) (fun e p' s' h' => ?_) _ _ hcode
    · obtain ⟨f, e, h1, h2, h3, h4⟩ := h'
      exact ⟨f, e, ⟨h1, h2, h4⟩, leftWithCleanup_false_of_bare h3⟩
    · obtain ⟨h1, h2, h3, h4⟩ := h'
      exact ⟨⟨h1, h2, h4⟩, leftWithCleanup_false_of_bare h3⟩
  obtain ⟨k, r, s', s'', hrun, hsched, hfo, hcase, hos, hkp⟩ := ends0 (s := s₁) (t := tree vs) (prog := c.prog) (w := w) (R := fun r s' => c.Ends s args vs s₁ r s' ∧ s'.os = s.os ∧ kept s'.heap) (Shared.asleep_of_life hal.2.2.2 hz) hq
  obtain ⟨eh, _, _, eo, _⟩ := Shared.forget_eq hfo
  have hcase := hcase.congr eh
  rw [← eh] at hkp
  rw [← eo] at hos
  have hlife : s'.heap.life = s.heap.life := (runN_life _ _ _ hrun).trans hal.2.2.2
  refine ⟨vs, s₁, hlaid, k, _, s', hsched, ?_, (fun _ i x hx => by rw [hgens] at hx; simp at hx), hkp, by rw [hlife], Shared.rest_eq hos⟩
  rcases hcase with ⟨v, rfl, d1, d2, d3, d4, d5⟩ | ⟨e, ob, cls, rfl, d1, d2, d3, d4, d5⟩
  · exact .inl ⟨v, rfl, d1, d2, d3, fun b o y _ => d4 b o y, d5⟩
  · exact .inr ⟨e, ob, cls, rfl, d1, d2, d3, d4, fun b o y _ => d5 b o y⟩

abbrev Walk0 (q : Program) (loose : List Str) (XP : (Str → Option Value) → Heap → Prop) (YP : World → Heap → Prop) (r : RowW) (d : DefRec) (kwd : List (Str × Expr)) : Prop :=
  ∀ (w : World) (s₀ s₁ : Shared) (mg mb : Str → Option Value), Ground q loose r.records XP w s₀ mg mb s₁.heap → YP w s₁.heap → ∀ (a : Addr) (o : Obj) (pm cd doc dV kV : Value), s₁.heap.get? a = some o →
    o.data = .func { docDef d.name d.params d.body d.scope pm cd doc with defaults := dV, kwdefaults := kV } → s₁.heap.CodeRec cd d.name → Dflts mg s₁.heap d.params kwd dV kV → mg d.name = some (.ref a) → s₁.gens = #[] →
    ∀ (args : List WData) (vals : List Value) (as : List Addr), r.claim.pre args = true → WData.layableAll args = true → ReadsAllW r.records (classAt s₀.heap) s₁.heap vals args as → WellAll w.params s₁.heap vals args → (∀ a ∈ as, (a == sysModules) = false) →
      wp0 r.prog w (PySem.call (.ref a) vals) (fun v s' => GoodWG r.claim (classAt s₀.heap) (ExcName.means s₀.heap) args s₁ (.ok (.ret v)) s')
        (fun e s' => GoodWG r.claim (classAt s₀.heap) (ExcName.means s₀.heap) args s₁ (.error e) s') s₁

/-! The head's run in one step of the kernel: from the state that the kit's boot_open tells, by the kit's quick twins of topRun, treeTable and openSeen. -/
abbrev LeftX (p q : Program) (loose : List Str) (Xt : Shared → Bool) {α : Type} (Yf : Shared → α) (Ya : World → α) (N : Nat) : Prop :=
  ∀ w : World, (Nat.ble 600 N && (boot_heap w.params).isNs mainGlobals, fun os : OsState =>
      (PySem.W.Fast.tw14082659384304107361 PySem.W.Fast.tw14364793385576792824 p w (boot_heap w.params).objs.size ((boot_heap w.params).nsMap mainGlobals "__annotations__") N ⟨boot_heap w.params, Array.mk [], boot_drawn, boot_toks, os⟩ (topStub p)).map fun s =>
        (staticsOk (importedModules p.main.body) (boot_heap w.params) s.heap && namesBound p s.heap && gensDone s && laidKept (boot_heap w.params) s.heap,
          PySem.W.Fast.tw4187177175401517315 q loose (importedModules p.main.body) Xt true s, Yf s)) =
    (true, fun _ => some (true, openGood q loose, Ya w))
theorem left_of {p q : Program} {loose : List Str} {Xt : Shared → Bool} {α : Type} {Yf : Shared → α} {Ya : World → α} {N : Nat} (e : opening p = plainProg p.main.scope.names) (f : ∀ s, fenceModules? p s = some s)
    (h : LeftX p q loose Xt Yf Ya N) : LeftO p q loose Xt Yf Ya N := fun w => by
  obtain ⟨hb, h⟩ := Prod.mk.inj (h w)
  obtain ⟨hN, hns⟩ := Bool.and_eq_true_iff.mp hb
  obtain ⟨⟨hp, gs, d, k, os⟩, e1, e2⟩ := Option.map_eq_some_iff.mp (boot_open e hN f w)
  obtain ⟨rfl, rfl, rfl, rfl⟩ : hp = boot_heap w.params ∧ gs = Array.mk [] ∧ d = boot_drawn ∧ k = boot_toks := by simpa using e2
  obtain ⟨s₁, r1, r2⟩ := Option.map_eq_some_iff.mp (congrFun h os)
  obtain ⟨g1, g2⟩ := Prod.mk.inj r2
  rw [← PySem.W.Fast.te14082659384304107361, ← PySem.W.Fast.te14364793385576792824] at r1
  rw [← PySem.W.Fast.te4187177175401517315] at g2
  have t : topFrom treeTable p w N ⟨boot_heap w.params, Array.mk [], boot_drawn, boot_toks, os⟩ = some s₁ := by
    unfold topFrom
    dsimp only
    rw [hns, r1]
    simp only [Option.bind_some, g1]
    rfl
  unfold openEnds
  rw [e1, Option.bind_some, t]
  exact congrArg some g2
theorem prog_opens : opening PySem.Challenge.rw_jg0021_01.row.prog = plainProg PySem.Challenge.rw_jg0021_01.row.prog.main.scope.names := by kernel_rfl
theorem prog_fence : ∀ s, fenceModules? PySem.Challenge.rw_jg0021_01.row.prog s = some s := fun s => by kernel_rfl
theorem law_said : PySem.Challenge.rw_jg0021_01.wellSaid = true := by
  rw [PySem.W.Fast.te9446332074065402090]
  kernel_rfl
theorem row_ok : PySem.Challenge.rw_jg0021_01.row.wellSaid = true := row_said law_said

theorem holds_openG {r : OpenRow} {q : Program} {loose : List Str} {Xt : Shared → Bool} {XP : (Str → Option Value) → Heap → Prop} {α : Type} {Yf : Shared → α} {Ya : World → α} {YP : World → Heap → Prop} {d : DefRec} {kwd : List (Str × Expr)} {N : Nat}
    (left : LeftO r.prog q loose Xt Yf Ya N) (hY : ∀ w s, Yf s = Ya w → YP w s.heap) (hYk : ∀ w h h', YP w h → (∀ b o, h.get? b = some o → h'.get? b = some o) → YP w h')
    (hX : ∀ s, Xt s = true → XP (s.heap.nsMap mainGlobals) s.heap) (hXk : ∀ mg h h', XP mg h → (∀ b o, h.get? b = some o → h'.get? b = some o) → XP mg h')
    (hdef : defOf q r.name = some (d, kwd)) (hp : r.prog.theDef r.name = some (d.params, d.body, d.scope)) (hk : kwWritten? d.params.kwonlyargs d.params.kw_defaults = some kwd) (hRf : ∀ s, Xt s = true → RecFacts r.records s.heap) (hwr : (!r.writes || r.records.isEmpty) = true)
    (k1 : r.wellSaid = true) (ok : (chainsOk q && opensWell r.prog && (frees r.toRowW && r.within.isEmpty)) = true) (hb : r.prog.bare) (hw : r.toRowW.promised)
    (call : Walk0 q loose XP YP r.toRowW d kwd) : r.Holds := by
  obtain ⟨ok1, k56⟩ := Bool.and_eq_true_iff.mp ok
  obtain ⟨hch, o1⟩ := Bool.and_eq_true_iff.mp ok1
  obtain ⟨k5, k6⟩ := Bool.and_eq_true_iff.mp k56
  obtain ⟨hsame, hu, ha, hap, hm⟩ := frees_parts k5
  have B := fun w => left.behind (XP := fun mg h => XP mg h ∧ RecFacts r.records h) (fun s hs => ⟨hX s hs, hRf s hs⟩) hch w
  refine ⟨k1, hw, ⟨hb, o1, by show r.makers.map _ = []; rw [hm]; rfl⟩, hw.witness, fun w => ⟨(B w).1, fun s' hs' => ?_⟩⟩
  obtain ⟨s₀, hf, hg0, s, hT, hz, hgens, hg, G00, y⟩ := (B w).2 s' hs'
  have G0 : Ground q loose [] XP w s (s.heap.nsMap mainGlobals) (s.heap.nsMap builtinsNs) s.heap := ⟨G00.T, G00.B, G00.D, G00.TE, G00.TD, G00.W, G00.X.1, G00.cls, G00.has, G00.apart, G00.once, G00.K⟩
  have RF := G00.X.2
  have hgens : s.gens = #[] := Array.eq_empty_of_size_eq_zero (beq_iff_eq.mp hgens)
  have pin : ∀ n ∈ (if r.pinned then [r.name] else []), isTheDefsW r.prog s.heap n := by
    intro n hn
    obtain rfl : n = r.name := by split at hn <;> simp_all
    exact pinned_of_view hg G0 hdef hp hk
  refine ⟨s₀, hf, hg0, s, hT, pin, RF.1, RF.2.1, ?_⟩
  have G : Ground q loose r.records XP w s _ _ s.heap := RF.ground G0
  refine callFrom0 (c := r.toRowW.claim) hz hgens fun args hpre hlay ord hord => ?_
  obtain ⟨⟨vs, s₁⟩, hlaid⟩ := Option.isSome_iff_exists.mp (layAllW_isSome (P := w.params) (ord := ord) G.has args r.args s (pre_splitW hpre).1)
  have keeps := layAllW_keeps _ _ _ hlaid
  have hal := layAllW_rest _ _ _ hlaid
  obtain ⟨as, hrd, hin, hold⟩ := reads_layAllW hord _ _ _ hlaid hlay s₁.heap (fun _ _ e => e)
  have L : Laid r.records w s s₁ args vs as := ⟨⟨ord, hord, hlaid⟩, hrd, hin, hold, keeps, hal.1.trans hgens, hal.2.2.1⟩
  have G₁ := G.keeps hXk keeps
  obtain ⟨a, o, pm, cd, doc, dV, kV, h1, h2, h3, h4, h5⟩ := G₁.fn hdef
  have main := call w s s₁ _ _ G₁ (hYk _ _ _ (hY w s y) keeps) a o pm cd doc dV kV h2 h3 h4 h5 (defOf_name hdef ▸ h1) L.gens args vs as hpre hlay L.reads L.well (L.low G.low)
  have hi := ident_freeW hu ha hap
  have hwi : r.toRowW.claim.within = [] := List.isEmpty_iff.mp k6
  refine ⟨vs, s₁, hlaid, ?_⟩
  show Sem.wp (model r.prog w) CC (nsGet mainGlobals r.name >>= fun x => match x with | some f => PySem.call f vs >>= fun v => ret v | none => unsupported "claim.caller:no-such-global") _ _ _ _
  rw [Sem.wp_bind', Sem.wp_nsGet _ _ _ _ _ G₁.T.g, h1]
  show Sem.wp (model r.prog w) CC (PySem.call (.ref a) vs >>= fun v => ret v) _ _ _ _
  rw [Sem.wp_bind']
  refine Sem.wp_mono _ _ _ (fun v p' s' g => ?_) (fun e p' s' g => ?_) _ _ main
  · have z := g.laid (c := r.toRowW.claim) hsame hwi hi L
    exact ⟨_, rfl, z.1, z.2.1, z.2.2, fun q => ⟨namesKept_of hT hg _ keeps g.2.1.old, noTable hwr q⟩⟩
  · have z := g.laid (c := r.toRowW.claim) hsame hwi hi L
    exact ⟨z.1, z.2.1, z.2.2, fun q => ⟨namesKept_of hT hg _ keeps g.2.1.old, noTable hwr q⟩⟩

theorem PySem.W.holds_open {q : Program} {loose : List Str} {Xt : Shared → Bool} {XP : (Str → Option Value) → Heap → Prop} {α : Type} {Yf : Shared → α} {Ya : World → α} {YP : World → Heap → Prop} {d : DefRec} {kwd : List (Str × Expr)} {N : Nat}
    (left : LeftX PySem.Challenge.rw_jg0021_01.row.prog q loose Xt Yf Ya N) (hY : ∀ w s, Yf s = Ya w → YP w s.heap) (hYk : ∀ w h h', YP w h → (∀ b o, h.get? b = some o → h'.get? b = some o) → YP w h')
    (hX : ∀ s, Xt s = true → XP (s.heap.nsMap mainGlobals) s.heap) (hXk : ∀ mg h h', XP mg h → (∀ b o, h.get? b = some o → h'.get? b = some o) → XP mg h')
    (hdef : defOf q PySem.Challenge.rw_jg0021_01.row.name = some (d, kwd)) (hp : PySem.Challenge.rw_jg0021_01.row.prog.theDef PySem.Challenge.rw_jg0021_01.row.name = some (d.params, d.body, d.scope)) (hk : kwWritten? d.params.kwonlyargs d.params.kw_defaults = some kwd) (hRf : ∀ s, Xt s = true → RecFacts PySem.Challenge.rw_jg0021_01.row.records s.heap) (hwr : (!PySem.Challenge.rw_jg0021_01.row.writes || PySem.Challenge.rw_jg0021_01.row.records.isEmpty) = true)
    (_k1 : True) (ok : (chainsOk q && opensWell PySem.Challenge.rw_jg0021_01.row.prog && (frees PySem.Challenge.rw_jg0021_01.row.toRowW && PySem.Challenge.rw_jg0021_01.row.within.isEmpty)) = true) (hb : PySem.Challenge.rw_jg0021_01.row.prog.bare) (hw : PySem.Challenge.rw_jg0021_01.row.toRowW.promised)
    (call : Walk0 q loose XP YP PySem.Challenge.rw_jg0021_01.row.toRowW d kwd) : PySem.Challenge.rw_jg0021_01.row.Holds :=
  holds_openG (left_of prog_opens prog_fence left) hY hYk hX hXk hdef hp hk hRf hwr row_ok ok hb hw call

set_option maxHeartbeats 8000000 in
open_top hd for PySem.Challenge.rw_jg0021_01.row
end Mine
end
section
open PySem PySem.W PySem.Calls PyProof.Rows
namespace Mine



section
variable {prog : Program} {w : World} {A A₀ : Around} {s : Shared} {K : Frag} {L : Addr} {h₀ base : Heap} {m mg mb : Str → Option Value} {p : Program} {loose : List Str} {mean : ExcName → Option Value}

/-- enter a def; all that stands when it is called is the ground of its frame -/
theorem code_own {env : Env} {outer : List Env} {R : Result → Shared → Prop} {name qual : Str} {params : Arguments} {body : List Stmt} {scope : Scope} {dV kV doc pm cdv ct oc : Value} {an od : Option Addr} {osl : Array (Option Value)} {f : Addr} {args : Args} {binds : List (Str × Value)}
    (B : Below A₀ base outer h₀) (F : Fr h₀ L s.heap m) (X₀ : K.In h₀) (T : Top p loose mean mg mb h₀) (hA : A.frames = some (env :: outer)) (hf : env.frame = some L) (hke : env.scope.kind = .function)
    (ho : K.lookup f = some ⟨oc, od, .func (fnOf name qual params body scope dV kV doc pm an cdv ct), osl⟩) (hcd : codeIn K cdv qual = true) (hroom : A.depth < recursionLimit)
    (hbind : BindsTo s (fnOf name qual params body scope dV kV doc pm an cdv ct) args binds) (hloc : ∀ y ∈ binds, scope.names.lookup y.1 = some .local)
    (h : ∀ h₁, Fr s.heap s.heap.objs.size h₁ (fun y => binds.reverse.lookup y) → Below A base (env :: outer) s.heap → K.In s.heap → Top p loose mean mg mb s.heap →
      wpAny (model prog w) (A.deeper (envOf qual scope s.heap.objs.size f cdv)) (execs body (envOf qual scope s.heap.objs.size f cdv))
        (fun fl s' => R (.ok (.ret (match fl with | .ret v => v | _ => .none))) s')
        (fun e s' => wpAny (model prog w) (A.deeper (envOf qual scope s.heap.objs.size f cdv)) (leaving (envOf qual scope s.heap.objs.size f cdv) e) (fun _ s'' => R (.error e) s'') (fun e' s'' => R (.error e') s'') s')
        { s with heap := h₁, toks := s.toks + binds.length })
    (hco : scope.isCoroutine = false) (hgen : scope.isGenerator = false) (hk : scope.kind = .function)
    (hcell : ∀ x ∈ scope.names, x.2 ≠ .cell) : codeAny (model prog w) A (.call (.ref f) args) R s := by
  have X := X₀.keeps F.keep
  refine codeAny_call_def (fd := fnOf name qual params body scope dV kV doc pm an cdv ct) (body := body) (binds := binds) hroom (X _ _ ho) rfl (T.nolimit.keeps F.keep) (codeRec_of X hcd) rfl hbind hcell hloc (fun h₁ hns hk₁ => ?_) hco hgen hk
  refine h h₁ ⟨hns, hk₁, Nat.le_refl _⟩ ?_ X (T.keeps F.keep)
  refine ⟨hA, fun b o e => F.keep b o (B.stays b o e), ?_⟩
  have hnew : base.get? L = none := by
    cases hq : base.get? L with
    | none => rfl
    | some o => exact absurd (Nat.lt_of_lt_of_le (Heap.lt_size (B.stays L o hq)) F.above) (Nat.lt_irrefl _)
  exact .cons (by rw [hke]; decide) hf F.ns hnew (B.frames.of_keeps fun b o e _ => ⟨o, F.keep b o e, rfl⟩)

/-- what stood stands -/
def Kept (h h' : Heap) : Prop := ∀ b o, h.get? b = some o → h'.get? b = some o
theorem Kept.refl (h : Heap) : Kept h h := fun _ _ e => e
theorem Kept.trans {a b c : Heap} (x : Kept a b) (y : Kept b c) : Kept a c := fun d o e => y d o (x d o e)
theorem Kept.fr {h h' : Heap} (k : Kept h h') (F : Fr h₀ L h m) : Fr h₀ L h' m := ⟨F.ns.keeps k, fun b o e => k b o (F.keep b o e), F.above⟩
theorem Kept.news {h h' : Heap} {news : List (Addr × Obj)} (k : Kept h h') (N : News h₀ L h news) : News h₀ L h' news := fun p hp => ⟨k _ _ (N p hp).1, (N p hp).2⟩

/-- a contract: in whatever frame it is called; what stood stands; the answer by Post -/
def Con (w : World) (f : Addr) (vs : List Value) (pre : Heap → Prop) (Post : Heap → Heap → Value → Prop) : Prop :=
  ∀ (dp un : Nat) (gd : Option (List Code)) (cn : Str) (cs : Scope) (a : Addr) (ccd : Value) (cl : List (Str × Addr)) (outer : List Env) (A₀ : Around) (base h₀ : Heap) (L : Addr) (m : Str → Option Value) (s : Shared) (Q E : Value → Shared → Prop)
    (p : Program) (loose : List Str) (mean : ExcName → Option Value) (mg mb : Str → Option Value),
    Below A₀ base outer h₀ → Fr h₀ L s.heap m → (hd.heap_1 w.params).In h₀ → Top p loose mean mg mb h₀ → cs.kind = .function → pre s.heap → dp + 4 < recursionLimit → un + 60 < cLine →
    (∀ v h' tk', Kept s.heap h' → Post s.heap h' v → Q v { s with heap := h', toks := tk' }) →
    wpAny (model PySem.Challenge.rw_jg0021_01.row.prog w) (ktrTop dp un gd cn cs L a ccd cl outer) (call (.ref f) vs) Q E s

end

theorem allc {α : Type} {P : α → Prop} {a : α} {r : List α} (h : P a) (t : ∀ x ∈ r, P x) : ∀ x ∈ a :: r, P x := List.forall_mem_cons.mpr ⟨h, t⟩
theorem alln {α : Type} {P : α → Prop} : ∀ x ∈ ([] : List α), P x := List.forall_mem_nil _

section
variable {prog : Program} {w : World} {A : Around} {E : Value → Shared → Prop} {Q : Flow → Shared → Prop} {s : Shared} {env : Env} {h₀ : Heap} {L : Addr}
/-- a while by its state: the letters σ, the ledger, the names, what holds, what falls -/
theorem my_while {σ : Type} {test : Expr} {body : List Stmt} {pos : Pos} {m₀ : Str → Option Value} {news₀ : List (Addr × Obj)} (Led : σ → List (Addr × Obj)) (ps : σ → List (Str × Value)) (stored : List Str) (P : σ → Prop) (μ : σ → Nat)
    (F : Fr h₀ L s.heap m₀) (N : News h₀ L s.heap news₀) (init : ∃ c₀, (∀ p ∈ Led c₀, p ∈ news₀) ∧ (∀ p ∈ ps c₀, m₀ p.1 = some p.2) ∧ P c₀)
    (turn : ∀ (c : σ) (u : Str → Option Value) h tk, P c → Fr h₀ L h (kstB (fun z => if stored.contains z then u z else m₀ z) (ps c)) → News h₀ L h (Led c) →
      wpAny (model prog w) A (isTrue test env (eval test env)) (fun b s₂ =>
        if b = true then wpAny (model prog w) A (execs body env) (KswPost h₀ L s Led ps (fun _ => True) stored m₀ P μ Q c) E s₂ else Q .next s₂) E { s with heap := h, toks := tk })
    (hE : PassesOwn (model prog w) A env E := by passes_own) :
    wpAny (model prog w) A (exec (.While test body [] pos) env) Q E s := by
  obtain ⟨c₀, h1, h2, h3⟩ := init
  exact ksw_while Led ps (fun _ => True) stored P μ c₀ F (fun p hp => N p (h1 p hp)) trivial h2 h3 (fun c u h tk _ hp F N => turn c u h tk hp F N) hE
theorem my_end {σ : Type} {Led : σ → List (Addr × Obj)} {ps : σ → List (Str × Value)} {stored : List Str} {m₀ m' : Str → Option Value} {P : σ → Prop} {μ : σ → Nat} {c : σ} {h' : Heap} {tk : Nat} {news' : List (Addr × Obj)} (c' : σ)
    (F : Fr h₀ L h' m') (N : News h₀ L h' news') (hn : ∀ p ∈ Led c', p ∈ news') (hk : ∀ p ∈ ps c', m' p.1 = some p.2) (hr : ∀ z, (∀ p ∈ ps c', z ≠ p.1) → stored.contains z = false → m' z = m₀ z) (hp : P c') (hm : μ c' < μ c) :
    KswEnd h₀ L s Led ps (fun _ => True) stored m₀ P μ c { s with heap := h', toks := tk } := ksw_end c' F N hn trivial hk hr hp hm
end

section
variable {prog : Program} {w : World} {M : Model} {A : Around} {E : Value → Shared → Prop} {s : Shared} {h₀ : Heap} {L : Addr} {m : Str → Option Value} {news : List (Addr × Obj)}
theorem my_newList {vs : List Value} {Q : Value → Shared → Prop} (F : Fr h₀ L s.heap m) (N : News h₀ L s.heap news)
    (h : ∀ l h', Fr h₀ L h' m → News h₀ L h' ((l, listOf vs.toArray 0) :: news) → (∀ p ∈ news, p.1 < l) → L < l → Q (.ref l) { s with heap := h' }) (hsz : vs.length ≤ sizeLine) : wpAny M A (newList vs) Q E s :=
  newList_N F N (fun h' F' N' => h _ h' F' N' (fun p hp => Heap.lt_size (N p hp).1) F.ns.lt) hsz
abbrev tupleOf (vs : List Value) : Obj := { cls := .type "tuple", data := .seq vs.toArray }
theorem my_newTuple {vs : List Value} {Q : Value → Shared → Prop} (F : Fr h₀ L s.heap m) (N : News h₀ L s.heap news)
    (h : ∀ l h', Fr h₀ L h' m → News h₀ L h' ((l, tupleOf vs) :: news) → (∀ p ∈ news, p.1 < l) → L < l → Q (.ref l) { s with heap := h' }) (hsz : vs.length ≤ sizeLine) : wpAny M A (newTuple vs) Q E s :=
  newTuple_N F N (fun h' F' N' => h _ h' F' N' (fun p hp => Heap.lt_size (N p hp).1) F.ns.lt) hsz
def IntList (D : Addr) (ns : List Int) (h : Heap) : Prop := ∃ vs c, h.get? D = some (listOf vs.toArray c) ∧ IntsAre vs ns
theorem IntList.keeps {D : Addr} {ns : List Int} {h h' : Heap} (x : IntList D ns h) (k : Kept h h') : IntList D ns h' := let ⟨vs, c, e, i⟩ := x; ⟨vs, c, k _ _ e, i⟩
end

section
variable {prog : Program} {w : World} {A : Around} {E : Value → Shared → Prop} {s : Shared} {env : Env} {h₀ : Heap} {x : Str} {body : List Stmt} {Q : Flow → Shared → Prop}
/-- for k in range(n): what holds is said of the number of turns -/
theorem my_range {σ : Type} {r : Addr} {b₀ : Int} {t₀ u₀ v₀ : Tok} {m₀ : Str → Option Value} {news₀ : List (Addr × Obj)} (n : Nat) (Led : σ → List (Addr × Obj)) (ps : σ → List (Str × Value)) (stored : List Str) (P : Nat → σ → Prop)
    (hh : A.handled = none) (hr : IsRange s.heap r 0 b₀ 1 t₀ u₀ v₀) (hb : b₀ = (n : Int)) (hn : n < 2 ^ 62) (F : Fr h₀ env.locals s.heap m₀) (N : News h₀ env.locals s.heap news₀)
    (init : ∃ c₀, (∀ p ∈ Led c₀, p ∈ news₀) ∧ (∀ p ∈ ps c₀, m₀ p.1 = some p.2) ∧ P 0 c₀ ∧ ∀ c, (Led c).map (·.1) = (Led c₀).map (·.1))
    (turn : ∀ (c : σ) (pre : List Int) (i : Nat) t (u : Str → Option Value) h tk own, i < n → pre.length = i → OwnOff own ((Led c).map (·.1)) → P i c →
      Fr h₀ env.locals h (fun y => if y = x then some (.int (i : Int) t) else kstB (fun z => if stored.contains z then u z else m₀ z) (ps c) y) → News h₀ env.locals h (Led c ++ own) →
      wpAny (model prog w) A (execs body env) (InvPostN h₀ env.locals (KstS Led ps (fun _ => True) x stored m₀ (fun l c => P l.length c) (pre ++ [(i : Int)])) own ((Led c).map (·.1)) { s with heap := h, toks := tk } Q) E { s with heap := h, toks := tk })
    (done : ∀ (c : σ) (u : Str → Option Value) h tk, P n c → Fr h₀ env.locals h (fun y => if y = x then u y else kstB (fun z => if stored.contains z then u z else m₀ z) (ps c) y) → News h₀ env.locals h (Led c) → Q .next { s with heap := h, toks := tk }) :
    wpAny (model prog w) A (pyIter (.ref r)) (fun it s₂ => LoopAtV prog w A h₀ env x body Q E it s₂) E s := by
  obtain ⟨c₀, i1, i2, i3, i4⟩ := init
  subst hb
  refine kst_range (n := n) Led ps (fun _ => True) stored (fun l c => P l.length c) c₀ hh hr (small_one (by decide) (by decide) (by omega) (by omega)) (by rw [PyProof.Rows.rangeSize_nat]; simp) F (fun p hp => N p (i1 p hp)) trivial i2 i3 ?_ ?_
  · intro c pre k t u h tk own hk hl hoff _ hP F N
    have e : k = (pre.length : Int) := by omega
    subst e
    rw [← i4 c] at hoff ⊢
    exact turn c pre pre.length t u h tk own hl rfl hoff hP F N
  · intro c u h tk _ hP F N
    rw [rangeKs_length] at hP
    exact done c u h tk hP F N
theorem my_rend {σ : Type} {Led : σ → List (Addr × Obj)} {ps : σ → List (Str × Value)} {stored : List Str} {m₀ : Str → Option Value} {P : List Int → σ → Prop} {pre : List Int} (c : σ) {L : Addr} {m' : Str → Option Value} {own news' : List (Addr × Obj)} {adr : List Addr} {s₁ : Shared} {h' : Heap} {tk : Nat}
    (F : Fr h₀ L h' m') (N : News h₀ L h' news') (hn : ∀ p ∈ Led c, p ∈ news') (ho : ∀ p ∈ own, p ∈ news') (ha : (Led c).map (·.1) = adr) (hk : ∀ p ∈ ps c, m' p.1 = some p.2) (hr : ∀ z, z ≠ x → (∀ p ∈ ps c, z ≠ p.1) → stored.contains z = false → m' z = m₀ z) (hp : P pre c) :
    InvEndN h₀ L (KstS Led ps (fun _ => True) x stored m₀ P pre) own adr s₁ { s₁ with heap := h', toks := tk } := kst_end c F N hn ho ha trivial hk hr hp
end

theorem news_head {h₀ h : Heap} {L a : Addr} {o : Obj} {r : List (Addr × Obj)} (_ : News h₀ L h ((a, o) :: r)) : ∃ D, D = a := ⟨_, rfl⟩
/-! marks: where a walk is to stand -/
theorem mark_ite {c : Prop} {d : Decidable c} {a b : Prop} (h : @ite Prop c d a b) : @ite Prop c d a b := h
theorem mark_while {M : Model} {A : Around} {E : Value → Shared → Prop} {s : Shared} {t : Expr} {b e : List Stmt} {p : Pos} {env : Env} {Q : Flow → Shared → Prop} (h : wpAny M A (exec (.While t b e p) env) Q E s) : wpAny M A (exec (.While t b e p) env) Q E s := h
theorem mark_iter {M : Model} {A : Around} {E : Value → Shared → Prop} {s : Shared} {v : Value} {Q : Value → Shared → Prop} (h : wpAny M A (pyIter v) Q E s) : wpAny M A (pyIter v) Q E s := h
theorem mark_call {M : Model} {A : Around} {E : Value → Shared → Prop} {s : Shared} {a : Addr} {vs : List Value} {Q : Value → Shared → Prop} (h : wpAny M A (call (.ref a) vs) Q E s) : wpAny M A (call (.ref a) vs) Q E s := h
theorem mark_kend {σ : Type} {h₀ : Heap} {L : Addr} {s : Shared} {Led : σ → List (Addr × Obj)} {ps : σ → List (Str × Value)} {Facts : σ → Prop} {stored : List Str} {m₀ : Str → Option Value} {P : σ → Prop} {μ : σ → Nat} {c : σ} {s₂ : Shared} (h : KswEnd h₀ L s Led ps Facts stored m₀ P μ c s₂) : KswEnd h₀ L s Led ps Facts stored m₀ P μ c s₂ := h
theorem mark_rend {h₀ : Heap} {L : Addr} {J : (Str → Option Value) → List (Addr × Obj) → Prop} {own : List (Addr × Obj)} {adr : List Addr} {s₁ s₂ : Shared} (h : InvEndN h₀ L J own adr s₁ s₂) : InvEndN h₀ L J own adr s₁ s₂ := h

end Mine
end
section
open PySem PySem.W PySem.Calls PyProof.Rows
namespace Mine

/-! wpC: as wpAny, but for surroundings in which nothing holds a bytearray. -/
def badIds : List String := ["bytearray.__contains__", "bytearray.__mod__", "bytearray.__rmod__", "_struct.pack_into.held", "bytearray.find.held"] ++ Builtin.Bytes.decodersThatHold
def okCode : Code → Bool
  | .builtin id _ => !badIds.contains id
  | _ => true
def Cl (Γ : Ctx) : Prop := okCode Γ.code = true ∧ ∀ x ∈ Γ.below, okCode x.1 = true
theorem Cl.enter {Γ : Ctx} (h : Cl Γ) {c : Code} (hc : okCode c = true) (e : Option Value) (p : Pos) : Cl (Γ.enter c e p) :=
  ⟨hc, fun x hx => by
    rcases List.mem_cons.mp (show x ∈ (Γ.code, p) :: Γ.below from hx) with rfl | hx
    · exact h.1
    · exact h.2 x hx⟩
theorem Cl.goto {Γ : Ctx} (h : Cl Γ) {c : Code} (hc : okCode c = true) : Cl (Γ.goto c) := ⟨hc, h.2⟩

def wpC {α : Type} (M : Model) (A : Around) (t : Sem α) (Q : α → Shared → Prop) (E : Value → Shared → Prop) (s : Shared) : Prop :=
  ∀ Γ p, Γ.In A → Cl Γ → Sem.wp M Γ t (fun a _ s' => Q a s') (fun e _ s' => E e s') p s
def codeC (M : Model) (A : Around) (c : Code) (R : Result → Shared → Prop) (s : Shared) : Prop :=
  ∀ Γ p, Γ.code = c → Γ.Below A → Cl Γ → wpCode M Γ R p s

section
variable {α β : Type} {M : Model} {A : Around} {E : Value → Shared → Prop} {s : Shared}
theorem wpC_of {t : Sem α} {Q : α → Shared → Prop} (h : wpAny M A t Q E s) : wpC M A t Q E s := fun Γ p hΓ _ => h Γ p hΓ
theorem codeC_of {c : Code} {R : Result → Shared → Prop} (h : codeAny M A c R s) : codeC M A c R s := fun Γ p hc hΓ _ => h Γ p hc hΓ
theorem wpC_mono {t : Sem α} {Q Q' : α → Shared → Prop} {E' : Value → Shared → Prop} (h : wpC M A t Q E s) (hQ : ∀ a s, Q a s → Q' a s) (hE : ∀ e s, E e s → E' e s) : wpC M A t Q' E' s :=
  fun Γ p hΓ hc => Sem.wp_mono M Γ t (fun a _ s => hQ a s) (fun e _ s => hE e s) p s (h Γ p hΓ hc)
theorem wpC_bind {m : Sem α} {f : α → Sem β} {Q : β → Shared → Prop} (h : wpC M A m (fun a s' => wpC M A (f a) Q E s') E s) : wpC M A (m >>= f) Q E s := fun Γ p hΓ hc => by
  rw [Sem.wp_bind']
  exact Sem.wp_mono M Γ m (fun a p' s' h' => h' Γ p' hΓ hc) (fun _ _ _ h' => h') p s (h Γ p hΓ hc)
theorem wpC_bindA {m : Sem α} {f : α → Sem β} {Q : β → Shared → Prop} (h : wpAny M A m (fun a s' => wpC M A (f a) Q E s') E s) : wpC M A (m >>= f) Q E s := wpC_bind (wpC_of h)
theorem wpC_pure {a : α} {Q : α → Shared → Prop} (h : Q a s) : wpC M A (pure a) Q E s := fun _ _ _ _ => h
theorem wpC_holding {vs : List Value} {m : Sem α} {Q : α → Shared → Prop} (h : wpC M A m Q E s) : wpC M A (holding vs m) Q E s :=
  fun Γ p hΓ hc => by rw [Sem.wp_holding]; exact h Γ p hΓ hc
theorem wpC_keep {vs : List Value} {m : Sem α} {Q : α → Shared → Prop} (h : wpC M A m Q E s) : wpC M A (m.keep vs) Q E s :=
  fun Γ p hΓ hc => by rw [Sem.wp_keep]; exact h Γ p hΓ hc
theorem wpC_onRaise {m : Sem α} {k : Value → Sem Unit} {Q : α → Shared → Prop}
    (h : wpC M A m Q (fun e s' => wpAny M A (k e) (fun _ s'' => E e s'') E s') s) : wpC M A (m.onRaise k) Q E s := fun Γ p hΓ hc => by
  rw [Sem.wp_onRaise]
  exact Sem.wp_mono M Γ m (fun _ _ _ h' => h') (fun e p' s' h' => h' Γ p' hΓ) p s (h Γ p hΓ hc)
theorem wpC_of_in1 {t : Sem α} {Q : α → Shared → Prop} (h : wpC M A.in1 t Q E s) : wpC M A t Q E s :=
  fun Γ p hΓ => h Γ p ⟨hΓ.1, hΓ.2.1, hΓ.2.2.1, hΓ.2.2.2.1, Nat.le_succ_of_le hΓ.2.2.2.2⟩
theorem codeC_mono {c : Code} {R R' : Result → Shared → Prop} (h : codeC M A c R s) (hR : ∀ r s, R r s → R' r s) : codeC M A c R' s := fun Γ p hc hΓ hcl =>
  wpCode_mono (fun r s' => hR r s') (h Γ p hc hΓ hcl)
theorem wpC_call {f : Value} {pos : List Value} {kw : List (Str × Value)} {Q : Value → Shared → Prop}
    (hc : codeC M A (.call f ⟨pos, kw⟩) (fun r s' => match r with | .ok (.ret v) => Q v s' | .ok _ => False | .error e => E e s') s) : wpC M A (call f pos kw) Q E s := fun Γ p hΓ hcl => by
  rw [Sem.wp_cmd_call]
  exact hc _ p rfl (hΓ.enter _ none p (by intro x; cases x)) (hcl.enter rfl none p)
theorem codeC_of_tree {c : Code} {R : Result → Shared → Prop}
    (h : wpC M (A.under c) (M.den c) (fun fin s' => match fin with | .done f => R (.ok f) s' | .again c' => c'.quiet = true ∧ okCode c' = true ∧ codeC M A c' R s')
      (fun e s' => R (.error e) s') s) : codeC M A c R s := fun Γ p hc hΓ hcl => by
  rw [wpCode_iff_wp, hc]
  refine Sem.wp_mono M Γ _ (fun fin p' s' h' => ?_) (fun _ _ _ h' => h') p s (h Γ p (hc ▸ hΓ.in) hcl)
  cases fin with
  | done f => exact h'
  | again c' => exact ⟨h'.1, h'.2.2 (Γ.goto c') p' rfl (hΓ.goto c') (hcl.goto h'.2.1)⟩
end

section
variable {prog : Program} {w : World} {A : Around} {E : Value → Shared → Prop} {s : Shared} {R : Result → Shared → Prop} {env : Env}
theorem codeC_builtin {id : String} {args : Args} {b : Builtin} (hb : entryFor table id = some b)
    (h : wpC (model prog w) (A.under (.builtin id args)) (b args) (fun fin s' => match fin with | .done f => R (.ok f) s' | .again c' => c'.quiet = true ∧ okCode c' = true ∧ codeC (model prog w) A c' R s') (fun e s' => R (.error e) s') s) :
    codeC (model prog w) A (.builtin id args) R s := by
  refine codeC_of_tree ?_
  show wpC _ _ (match entryFor table id with | some b => b args | none => unsupported ((withoutEnding? id "#data").getD id)) _ _ s
  rw [hb]; exact h
theorem codeC_func {body : List Stmt}
    (h : wpC (model prog w) (A.deeper env) (execs body env) (fun f s' => R (.ok (.ret (match f with | .ret v => v | _ => .none))) s')
      (fun e s' => wpAny (model prog w) (A.deeper env) (leaving env e) (fun _ s'' => R (.error e) s'') (fun e' s'' => R (.error e') s'') s') s) :
    codeC (model prog w) A (.func body env) R s := by
  refine codeC_of_tree ?_
  show wpC _ (A.deeper env) (do point; match ← (execs body env).onRaise (leaving env) with | .ret v => ret v | _ => ret .none) _ _ s
  refine wpC_bindA (wpAny_point (wpC_bind (wpC_onRaise (wpC_mono h (fun f s' h' => ?_) fun _ _ h' => h'))))
  cases f <;> exact wpC_pure h'
theorem codeC_call_function {a : Addr} {args : Args} {o : Obj} {fd : FuncData} {body : List Stmt} (hroom : A.depth < recursionLimit) (ho : s.heap.get? a = some o)
    (hd' : o.data = .func fd) (hco : fd.scope.isCoroutine = false) (hgen : fd.scope.isGenerator = false) (hbody : fd.body = .stmts body) (hcd : s.heap.CodeRec fd.code fd.qualname)
    (h : wpAny (model prog w) A.in1 (bindArgs fd args) (fun binds s₁ =>
      wpAny (model prog w) A.in1 (newFunctionEnv fd.scope fd.globals fd.closure binds (fd.qualname ++ ".<locals>.") (some a) fd.code none fd.builtins)
        (fun env s₂ => s₂.heap.NoLimit ∧ codeC (model prog w) A (.func body env) R s₂) (fun e s' => R (.error e) s') s₁) (fun e s' => R (.error e) s') s) :
    codeC (model prog w) A (.call (.ref a) args) R s := by
  refine codeC_of_tree ?_
  show wpC _ A.in1 (callAny (.ref a) args) _ _ s
  simp only [callAny]
  refine wpC_bindA (wpAny_load ho ?_)
  obtain ⟨c, oc, vs, tq, hc, hoc, hdc, hq⟩ := hcd
  simp only [hd', callFunction, hco, hgen, hbody, hc]
  rw [hc] at h
  refine wpC_bindA (m := field (.ref c) 1) (wpAny_field hoc hdc hq (wpC_bindA (wpAny_pure ?_)))
  exact wpC_bindA (wpAny_mono h (fun binds s₁ h₁ => wpC_bindA (wpAny_mono h₁ (fun env s₂ h₂ => wpC_bindA (wpAny_enterFrame h₂.1 hroom
    (wpC_pure ⟨rfl, rfl, h₂.2⟩))) fun _ _ h' => h')) fun _ _ h' => h')

theorem wpC_execs_cons {M : Model} {st : Stmt} {rest : List Stmt} {Q : Flow → Shared → Prop}
    (h : wpC M A (exec st env) (fun f s' => match f with | .next => wpC M A (execs rest env) Q E s' | f => Q f s') E s) : wpC M A (execs (st :: rest) env) Q E s := fun Γ p hΓ hc => by
  rw [execs_cons, Sem.wp_bind']
  refine Sem.wp_mono M Γ _ (fun f p' s' h' => ?_) (fun _ _ _ h' => h') _ _ (h Γ p hΓ hc)
  cases f <;> first | exact h' Γ p' hΓ hc | exact h'
theorem wpC_Assign_Name {M : Model} {x : Str} {pos' : Pos} {value : Expr} {pos : Pos} {Q : Flow → Shared → Prop}
    (h : wpC M A (eval value env) (fun v s₁ => wpAny M A (storeName env x v) (fun _ => Q .next) E s₁) E s)
    (hs : swapsWith value (some (.Name x pos')) pos.line env = pure false := by rfl) : wpC M A (exec (.Assign [.Name x pos'] value pos) env) Q E s := fun Γ p hΓ hc => by
  simp only [exec_Assign_Name env x pos' value pos hs, Sem.wp_bind', Sem.wp_cmd_standAt, Sem.wp_bindName, Sem.wp_pure']
  exact Sem.wp_mono M Γ _ (fun v _ s₁ h₁ => h₁ Γ _ hΓ) (fun _ _ _ h' => h') _ _ (h Γ _ hΓ hc)
theorem wpC_Return_some {M : Model} {e : Expr} {pos : Pos} {Q : Flow → Shared → Prop} (h : wpC M A (eval e env) (fun v => Q (.ret v)) E s) : wpC M A (exec (.Return (some e) pos) env) Q E s := fun Γ p hΓ hc => by
  simp only [exec_Return_some, Sem.wp_bind', Sem.wp_cmd_standAt, Sem.wp_pure']; exact h Γ _ hΓ hc
theorem wpC_Call_Name {M : Model} {id : Str} {p pos : Pos} {args : List Expr} {Q : Value → Shared → Prop}
    (h : wpAny M A (eval (.Name id p) env) (fun f s₁ => wpC M A (callWith pos f [] (backTo pos (starEach args env)) []) Q E s₁) E s) :
    wpC M A (eval (.Call (.Name id p) args [] pos) env) Q E s := by
  rw [arm_eval_Call_Name']
  exact wpC_bindA h
theorem wpC_callWith {M : Model} {pos : Pos} {f : Value} {first : List Value} {P : Heap → Prop} {args : List (Bool × Sem Value)} {Q : Value → Shared → Prop} (hplain : args.any (·.1) = false)
    (hk : ∀ h, P h → ∃ k, (k = Keeper.frame ∨ k = Keeper.machine ∨ k = Keeper.boundFrame) ∧ Looks M h (keeperOf f) k)
    (h : wpAny M A (evalArgs f true args []) (fun a s₁ => P s₁.heap ∧ wpC M A (call f (first ++ a.pos) a.kw) Q E s₁) E s) : wpC M A (callWith pos f first args []) Q E s := by
  unfold callWith
  refine wpC_bindA (wpAny_holding (wpAny_mono h (fun a s₁ h₁ => wpC_bindA (wpAny_standAt ?_)) fun _ _ x => x))
  obtain ⟨k, hk', L⟩ := hk _ h₁.1
  simp only [hplain, List.any_nil, Bool.or_false]
  refine wpC_bindA (L.here ?_)
  have tail : ∀ {t : Sem Value}, wpC M A t Q E s₁ → wpC M A (t >>= fun r => holding [r] point >>= fun _ => pure r) Q E s₁ :=
    fun ht => wpC_bind (wpC_mono ht (fun r s₂ hr => wpC_bindA (wpAny_holding (wpAny_point (wpC_pure hr)))) fun _ _ x => x)
  have marked (mk : Value) : wpC M A (callMarked mk f (first ++ a.pos) a.kw) Q E s₁ := by unfold callMarked; exact wpC_keep h₁.2
  rcases hk' with rfl | rfl | rfl <;> dsimp only <;> first | exact tail h₁.2 | (split <;> first | exact tail h₁.2 | exact tail (marked _))
end
end Mine
end
section
open PySem PySem.W PySem.Calls PyProof.Rows
set_option pp.maxSteps 2000
namespace Mine
theorem ba_mro : mroOf (.type "bytearray") = pure [.type "bytearray", .type "object"] := by rw [mroOf_type]; kernel_rfl
theorem ba_lookup_new : typeLookup (.type "bytearray") "__new__" = pure (some (.builtin "bytearray.__new__")) := by rw [typeLookup_type, builtinLookup_eq_fast]; kernel_rfl
theorem ba_slot_init : Slot "bytearray" "__init__" "bytearray.__init__" :=
  .of (owner := "bytearray") (n := "__init__") (by rw [typeLookup_type, builtinLookup_eq_fast]; kernel_rfl) (by decide +kernel) (by decide +kernel) (by decide +kernel)
    (by first | exact .inl (by decide +kernel) | exact .inr (by decide +kernel)) (by rw [isSubtype_type]; kernel_rfl)
theorem ba_called : TypeCalled "bytearray" "bytearray.__new__" "bytearray.__init__" :=
  ⟨by decide +kernel, by decide +kernel, ⟨_, _, ba_mro⟩, madeBy_type ba_mro ba_lookup_new (by decide +kernel), by decide +kernel, by rw [isSubtype_type]; kernel_rfl, ba_slot_init⟩
theorem ba_typeCall (a : Value) : checkTypeCall "bytearray" ⟨[a], []⟩ = pure () := by kernel_rfl
theorem ba_newCall (a : Value) : checkBuiltinCall "bytearray.__new__" ⟨[.type "bytearray", a], []⟩ = pure () := by kernel_rfl
set_option maxHeartbeats 4000000 in
theorem ba_owner : ("bytearray.__new__".splitOn ".__new__").headD "" = "bytearray" := by simp +decide [String.splitOn, String.splitOnAux]
theorem ba_sub : isSubtype (.type "bytearray") (.type "bytearray") = pure true := by rw [isSubtype_type]; kernel_rfl
theorem ba_entry_new : entryFor table "bytearray.__new__" = some Builtin.«list.__new__» := entryFor_alias (id' := "list.__new__") (by kernel_rfl) rfl (by decide +kernel) (by kernel_rfl)
theorem ba_plain_new : plainId "bytearray.__new__" = true := by decide +kernel
theorem ba_plain_init : plainId "bytearray.__init__" = true := by decide +kernel
theorem ba_entry_init : entryFor table "bytearray.__init__" = some Builtin.«bytearray.__init__» := by first | exact entryFor_of_tree (by kernel_rfl) | exact entryFor_of_fast (by kernel_rfl)
theorem ba_look_release : typeLookup (.type "bytearray") "__release_buffer__" = pure (some (.builtin "bytearray.__release_buffer__")) := by rw [typeLookup_type, builtinLookup_eq_fast]; kernel_rfl
theorem ba_bind (v : Value) : Builtin.Bytes.bindOptional "bytearray.__init__" "bytearray" ["source", "encoding", "errors"] [v] [] = pure [some v, none, none] := by kernel_rfl
theorem ba_args (a b : Value) : argsOk "bytearray.__init__" ⟨[a, b], []⟩ := by unfold argsOk; kernel_rfl
abbrev baObj (b : Array UInt8) : Obj := { cls := .type "bytearray", data := .bytearray b }

section
variable {prog : Program} {w : World} {A : Around} {E : Value → Shared → Prop} {s : Shared}
theorem ba_new (a : Value) {Q₁ : Value → Shared → Prop} (h : Q₁ (.ref s.heap.objs.size) { s with heap := s.heap.push (baObj #[]) }) :
    codeAny (model prog w) A (.call (.builtin "bytearray.__new__") ⟨[.type "bytearray", a], []⟩) (wants Q₁ E) s := by
  refine codeAny_of_tree ?_
  show wpAny _ A.in1 (do checkBuiltinCall "bytearray.__new__" ⟨[.type "bytearray", a], []⟩; again (.builtin "bytearray.__new__" ⟨[.type "bytearray", a], []⟩)) _ _ s
  refine wpAny_bind (wpAny_of_eq (ba_newCall a) (wpAny_pure ⟨plainId_quiet ba_plain_new _, codeAny_builtin_stack ba_entry_new rfl fun p st => ?_⟩))
  rw [Around.under_plainId ba_plain_new _]
  have hsub := ba_sub
  have hown := ba_owner
  obtain ⟨hp, g, d, tk, os⟩ := s
  simp only [hown]
  wp_walk
  exact h
end
end Mine
end
section
open PySem PySem.W PySem.Calls PyProof.Rows
set_option pp.maxSteps 3000
namespace Mine
section
variable {prog : Program} {w : World} {A : Around} {E : Value → Shared → Prop} {s : Shared}
theorem exported_clean {M : Model} {v : Value} {Q : Bool → Shared → Prop} (h : Q false s) : wpC M A (Builtin.Bytes.exported v) Q E s := fun Γ p hΓ hc => by
  unfold Builtin.Bytes.exported stack
  rw [Sem.wp_bind', Sem.wp_stack]
  have hall : ∀ x ∈ (Γ.code, p) :: Γ.below, okCode x.1 = true := fun x hx => by
    rcases List.mem_cons.mp hx with rfl | hx
    · exact hc.1
    · exact hc.2 x hx
  refine (show ∀ b : Bool, b = false → Sem.wp M Γ (pure b) (fun a _ s' => Q a s') (fun e _ s' => E e s') p s from fun b e => by subst e; exact h) _ ?_
  rw [List.any_eq_false]
  intro x hx
  have hk := hall x hx
  obtain ⟨c, q⟩ := x
  split <;> simp_all [okCode, badIds]

theorem ba_release {D : Addr} {b : Array UInt8} {Q : Bool → Shared → Prop} (hD : s.heap.get? D = some (baObj b)) (h : Q false s) : wpAny (model prog w) A (Builtin.Bytes.ownRelease (.ref D)) Q E s := by
  have hT : s.TypeIs (.ref D) "bytearray" := ⟨_, hD, rfl⟩
  have key : ∀ x : String, x = "bytearray" → wpAny (model prog w) A (isInstance (.ref D) (.type x)) (fun b s' => b = true ∧ s' = s) E s := fun x hx => by rw [hx]; exact wpAny_isInstance hT ba_sub ⟨rfl, rfl⟩
  unfold Builtin.Bytes.ownRelease Builtin.Bytes.slotIsOwn
  refine wpAny_bind (wpAny_bind (wpAny_specialOf hT ba_look_release ?_))
  dsimp only
  split
  · rename_i hx
    exact absurd hx (by decide +kernel)
  · refine wpAny_mono (key _ (by decide +kernel)) (fun b s' hb => ?_) fun _ _ x => x
    obtain ⟨rfl, rfl⟩ := hb
    exact wpAny_pure h

theorem ba_write {D : Addr} {b : Array UInt8} {f : Array UInt8 → Array UInt8} {Q : Unit → Shared → Prop} (hD : s.heap.get? D = some (baObj b)) (hz : (f b).size ≤ sizeLine)
    (h : (s.heap.update D (Obj.mapBytearray f)).get? D = some (baObj (f b)) → Q () { s with heap := s.heap.update D (Obj.mapBytearray f) }) : wpAny (model prog w) A (Builtin.Bytes.write (.ref D) f) Q E s := by
  show wpAny _ _ (updateBytearray D f) _ _ _
  unfold updateBytearray
  refine wpAny_bind (wpAny_load hD ?_)
  show wpAny _ _ (update D (Obj.mapBytearray f) >>= fun _ => lookBehind D) _ _ _
  refine wpAny_bind (wpAny_update hD ?_)
  have h2 : (s.heap.update D (Obj.mapBytearray f)).get? D = some (baObj (f b)) := Heap.get?_update_self (Obj.mapBytearray f) hD rfl
  refine wpAny_lookBehind h2 ?_ (h h2)
  show (if (f b).size > sizeLine then some "bytearray:memory" else none) = none
  rw [if_neg (by omega)]

theorem okB {id : String} (h : badIds.contains id = false) (args : Args) : okCode (.builtin id args) = true := by show (!badIds.contains id) = true; rw [h]; rfl
theorem takeWhile_ints {p : Value → Bool} (hp : ∀ i t, 0 ≤ i ∧ i < 256 → p (.int i t) = true) : ∀ {vs : List Value} {ns : List Int}, IntsAre vs ns → (∀ n ∈ ns, 0 ≤ n ∧ n < 256) → vs.takeWhile p = vs
  | _, _, .nil, _ => rfl
  | _, _, .cons n t r, h => by
    rw [List.takeWhile_cons, hp n t (h n (.head _)), if_pos rfl, takeWhile_ints hp r fun m hm => h m (.tail _ hm)]
theorem filterMap_ints {f : Value → Option UInt8} (hf : ∀ i t, f (.int i t) = some i.toNat.toUInt8) : ∀ {vs : List Value} {ns : List Int}, IntsAre vs ns → vs.filterMap f = ns.map fun n => n.toNat.toUInt8
  | _, _, .nil => rfl
  | _, _, .cons n t r => by
    rw [List.filterMap_cons, hf n t, List.map_cons, filterMap_ints hf r]

theorem ba_init {l D : Addr} {vs : List Value} {ns : List Int} {Q : Fin → Shared → Prop} (hl : s.heap.IsList l vs.toArray) (hi : IntsAre vs ns) (hr : ∀ n ∈ ns, 0 ≤ n ∧ n < 256) (hz : ns.length ≤ sizeLine)
    (hD : s.heap.get? D = some (baObj #[])) (hlD : l ≠ D)
    (hQ : ∀ h', Heap.SameBut D s.heap h' → h'.get? D = some (baObj (byteArr ns)) → Q (.done (.ret .none)) { s with heap := h' }) :
    wpC (model prog w) A (Builtin.«bytearray.__init__» ⟨[.ref D, .ref l], []⟩) Q E s := by
  have hT : s.TypeIs (.ref l) "list" := hl.typeIs
  obtain ⟨ol, hol, hoc, nl, hod⟩ := id hl
  unfold Builtin.«bytearray.__init__»
  refine wpC_bindA (ba_release hD ?_)
  simp only [Bool.false_eq_true, if_false]
  refine wpC_bindA (wpAny_of_eq (ba_bind _) ?_)
  refine wpC_bindA (wpAny_of_eq (a := ()) rfl ?_)
  refine wpC_bindA (wpAny_of_eq (a := ()) rfl ?_)
  refine wpC_bind ?_
  unfold orM
  refine wpC_bind (exported_clean ?_)
  refine wpC_of ?_
  simp only [toBool]
  refine wpAny_bind ?_
  unfold Builtin.Bytes.exportsOf
  refine wpAny_bind (wpAny_load hD (wpAny_pure (wpAny_pure ?_)))
  show wpC _ _ _ _ _ _
  refine wpC_of ?_
  simp only [Nat.lt_irrefl, decide_false, Bool.false_eq_true, if_false]
  refine wpAny_bind (ba_write hD (Nat.zero_le _) fun hD1 => ?_)
  have sb1 : Heap.SameBut D s.heap (s.heap.update D (Obj.mapBytearray fun _ => #[])) := Heap.SameBut.update ..
  have hl1 : (s.heap.update D (Obj.mapBytearray fun _ => #[])).IsList l vs.toArray := hl.extBut sb1.extBut hlD
  have hol1 := (Heap.get?_update_other s.heap (Obj.mapBytearray fun _ => #[]) (Ne.symm hlD)).trans hol
  generalize s.heap.update D (Obj.mapBytearray fun _ => #[]) = h1 at hD1 sb1 hl1 hol1
  have hT1 : ({ s with heap := h1 } : Shared).TypeIs (.ref l) "list" := ⟨_, hol1, hoc⟩
  refine wpAny_bind (wpAny_bind (wpAny_load hol1 ?_))
  rw [hod]
  refine wpAny_pure ?_
  simp only [Option.isSome_none, Bool.false_eq_true, if_false]
  refine wpAny_bind (wpAny_of_eq (a := ()) rfl ?_)
  refine wpAny_bind (wpAny_specialOf hT1 F.bm_no_index ?_)
  simp only [Option.isSome_none, Bool.false_eq_true, if_false]
  refine wpAny_bind ?_
  unfold Builtin.Bytes.buffer?
  refine wpAny_bind (wpAny_specialOf hT1 F.bm_no_buffer ?_)
  refine wpAny_bind (wpAny_specialOf hT1 F.bm_no_buffer ?_)
  refine wpAny_pure ?_
  dsimp only
  refine wpAny_bind (wpAny_typeOf hT1 ?_)
  rw [if_pos (by decide)]
  refine wpAny_bind ?_
  unfold seqItems?
  refine wpAny_bind (wpAny_load hol1 ?_)
  rw [hod]
  refine wpAny_pure ?_
  dsimp only
  have hlen : vs.length = ns.length := hi.length
  rw [takeWhile_ints (fun i t h => by simp [h.1, h.2]) hi hr]
  have e2 : vs.toArray[vs.length]? = none := by simp
  rw [e2]
  dsimp only
  refine wpAny_bind (wpAny_rule ?_)
  rw [filterMap_ints (fun _ _ => rfl) hi]
  refine wpAny_bind (ba_write hD1 (by simpa using hz) fun hD2 => wpAny_pure ?_)
  exact hQ _ (sb1.trans (Heap.SameBut.update ..)) hD2

/-- bytearray of a list of small ints -/
theorem bytearray_C {l : Addr} {vs : List Value} {ns : List Int} {Q : Value → Shared → Prop} (hl : s.heap.IsList l vs.toArray) (hi : IntsAre vs ns) (hr : ∀ n ∈ ns, 0 ≤ n ∧ n < 256) (hz : ns.length ≤ sizeLine)
    (hQ : ∀ D h' tk, Kept s.heap h' → s.heap.objs.size ≤ D → h'.get? D = some (baObj (byteArr ns)) → Q (.ref D) { s with heap := h', toks := tk }) :
    wpC (model prog w) A (call (.type "bytearray") [.ref l] []) Q E s := by
  refine wpC_call (codeC_of_tree ?_)
  show wpC _ _ (callAny (.type "bytearray") ⟨[.ref l], []⟩) _ _ s
  refine wpC_pure ⟨Code.quiet_builtin _ (by decide +kernel), okB (by decide) _, codeC_builtin F.entry_type_call ?_⟩
  rw [Around.under_plain (weight_type_call_type "bytearray" _ _) rfl]
  have h1 := ba_called.notType
  have h2 := ba_called.canCreate
  have h3 := ba_called.made
  unfold Builtin.«type.__call__»
  simp only [h1, h2, ba_typeCall, ba_mro, h3, pure_bind, Bool.false_eq_true, if_false, List.isEmpty_cons]
  have hlt : l < s.heap.objs.size := by obtain ⟨o, ho, _⟩ := hl; exact Heap.lt_size ho
  refine wpC_bindA (wpAny_holding (wpAny_call (codeAny_mono (ba_new (.ref l) (E := fun e s' => False) (Q₁ := fun v s' => v = .ref s.heap.objs.size ∧ s' = { s with heap := s.heap.push (baObj #[]) }) ⟨rfl, rfl⟩) fun r s' hr' => ?_)))
  have hr2 : r = .ok (.ret (.ref s.heap.objs.size)) ∧ s' = { s with heap := s.heap.push (baObj #[]) } := by
    cases r with
    | error e => exact hr'.elim
    | ok fl => cases fl with
      | ret v => exact ⟨by rw [hr'.1], hr'.2⟩
      | _ => exact hr'.elim
  obtain ⟨rfl, rfl⟩ := hr2
  dsimp only
  have hD : (s.heap.push (baObj #[])).get? s.heap.objs.size = some (baObj #[]) := Heap.get?_push_size _ rfl
  have hT : ({ s with heap := s.heap.push (baObj #[]) } : Shared).TypeIs (.ref s.heap.objs.size) "bytearray" := ⟨_, hD, rfl⟩
  refine wpC_bindA (wpAny_isInstance hT ba_sub ?_)
  simp only [Bool.not_true, Bool.false_eq_true, if_false]
  refine wpC_bind (wpC_holding ?_)
  unfold callSpecial?
  refine wpC_bindA (wpAny_specialOf hT ba_slot_init.lookup ?_)
  dsimp only
  refine wpC_holding (wpC_bindA (wpAny_of_eq (ba_slot_init.bind _) ?_))
  dsimp only
  refine wpC_bind (wpC_call (codeC_of_tree ?_))
  show wpC _ _ (do checkBuiltinCall "bytearray.__init__" ⟨[.ref s.heap.objs.size, .ref l], []⟩; again (.builtin "bytearray.__init__" ⟨[.ref s.heap.objs.size, .ref l], []⟩)) _ _ _
  refine wpC_bindA (ba_slot_init.check _ _ _ _ _ _ _ _ hT (ba_args _ _) (wpC_pure ⟨plainId_quiet ba_plain_init _, okB (by decide) _, codeC_builtin ba_entry_init ?_⟩))
  refine ba_init (hl.push _) hi hr hz hD (Nat.ne_of_lt hlt) fun h' sb hD' => ?_
  refine wpC_pure ?_
  dsimp only
  rw [if_neg (by decide)]
  refine wpC_pure ?_
  refine hQ _ h' _ (fun b o e => ?_) (Nat.le_refl _) hD'
  exact (sb.2 b (Nat.ne_of_lt (Heap.lt_size e))).trans (Heap.get?_push_of_some _ e)
end
section
variable {prog : Program} {w : World} {A A₀ : Around} {s : Shared} {K : Frag} {L : Addr} {h₀ base : Heap} {m mg mb : Str → Option Value} {p : Program} {loose : List Str} {mean : ExcName → Option Value}
theorem code_ownC {env : Env} {outer : List Env} {R : Result → Shared → Prop} {name qual : Str} {params : Arguments} {body : List Stmt} {scope : Scope} {dV kV doc pm cdv ct oc : Value} {an od : Option Addr} {osl : Array (Option Value)} {f : Addr} {args : Args} {binds : List (Str × Value)}
    (B : Below A₀ base outer h₀) (F : Fr h₀ L s.heap m) (X₀ : K.In h₀) (T : Top p loose mean mg mb h₀) (hA : A.frames = some (env :: outer)) (hf : env.frame = some L) (hke : env.scope.kind = .function)
    (ho : K.lookup f = some ⟨oc, od, .func (fnOf name qual params body scope dV kV doc pm an cdv ct), osl⟩) (hcd : codeIn K cdv qual = true) (hroom : A.depth < recursionLimit)
    (hbind : BindsTo s (fnOf name qual params body scope dV kV doc pm an cdv ct) args binds) (hloc : ∀ y ∈ binds, scope.names.lookup y.1 = some .local)
    (h : ∀ h₁, Fr s.heap s.heap.objs.size h₁ (fun y => binds.reverse.lookup y) → Below A base (env :: outer) s.heap → K.In s.heap → Top p loose mean mg mb s.heap →
      wpC (model prog w) (A.deeper (envOf qual scope s.heap.objs.size f cdv)) (execs body (envOf qual scope s.heap.objs.size f cdv))
        (fun fl s' => R (.ok (.ret (match fl with | .ret v => v | _ => .none))) s')
        (fun e s' => wpAny (model prog w) (A.deeper (envOf qual scope s.heap.objs.size f cdv)) (leaving (envOf qual scope s.heap.objs.size f cdv) e) (fun _ s'' => R (.error e) s'') (fun e' s'' => R (.error e') s'') s')
        { s with heap := h₁, toks := s.toks + binds.length })
    (hco : scope.isCoroutine = false) (hgen : scope.isGenerator = false) (hk : scope.kind = .function)
    (hcell : ∀ x ∈ scope.names, x.2 ≠ .cell) : codeC (model prog w) A (.call (.ref f) args) R s := by
  have X := X₀.keeps F.keep
  refine codeC_call_function hroom (X _ _ ho) rfl hco hgen rfl (codeRec_of X hcd) (hbind _ _ _ _ ?_)
  refine wpAny_newFunctionEnv hcell hloc (fun h₁ hns₀ hsb₀ => ⟨(T.nolimit.keeps F.keep).fresh _ hsb₀, codeC_func ?_⟩) hk
  have hk₁ : ∀ b o, s.heap.get? b = some o → h₁.get? b = some o := fun b o e => hsb₀.extBut b o (Nat.ne_of_lt (Heap.lt_size e)) (Heap.get?_push_of_some _ e)
  refine h h₁ ⟨hns₀, hk₁, Nat.le_refl _⟩ ?_ X (T.keeps F.keep)
  refine ⟨hA, fun b o e => F.keep b o (B.stays b o e), ?_⟩
  have hnew : base.get? L = none := by
    cases hq : base.get? L with
    | none => rfl
    | some o => exact absurd (Nat.lt_of_lt_of_le (Heap.lt_size (B.stays L o hq)) F.above) (Nat.lt_irrefl _)
  exact .cons (by rw [hke]; decide) hf F.ns hnew (B.frames.of_keeps fun b o e _ => ⟨o, F.keep b o e, rfl⟩)
theorem wpC_execs_consA {M : Model} {E : Value → Shared → Prop} {env : Env} {st : Stmt} {rest : List Stmt} {Q : Flow → Shared → Prop}
    (h : wpAny M A (exec st env) (fun f s' => match f with | .next => wpC M A (execs rest env) Q E s' | f => Q f s') E s) : wpC M A (execs (st :: rest) env) Q E s := wpC_execs_cons (wpC_of h)

/-- a contract in wpC -/
def ConC (w : World) (f : Addr) (vs : List Value) (pre : Heap → Prop) (Post : Heap → Heap → Value → Prop) : Prop :=
  ∀ (dp un : Nat) (gd : Option (List Code)) (cn : Str) (cs : Scope) (a : Addr) (ccd : Value) (cl : List (Str × Addr)) (outer : List Env) (A₀ : Around) (base h₀ : Heap) (L : Addr) (m : Str → Option Value) (s : Shared) (Q E : Value → Shared → Prop)
    (p : Program) (loose : List Str) (mean : ExcName → Option Value) (mg mb : Str → Option Value),
    Below A₀ base outer h₀ → Fr h₀ L s.heap m → (hd.heap_1 w.params).In h₀ → Top p loose mean mg mb h₀ → cs.kind = .function → pre s.heap → dp + 4 < recursionLimit → un + 60 < cLine →
    (∀ v h' tk', Kept s.heap h' → Post s.heap h' v → Q v { s with heap := h', toks := tk' }) →
    wpC (model PySem.Challenge.rw_jg0021_01.row.prog w) (ktrTop dp un gd cn cs L a ccd cl outer) (call (.ref f) vs) Q E s
end
end Mine
end
section
open PySem PySem.W PySem.Calls PyProof.Rows PySem.Builtin
set_option pp.maxSteps 3000
namespace Mine
theorem li_slot_iadd : Slot "list" (dunderI "add") "list.__iadd__" := F.slot_list_iadd
theorem li_fillsI : fillsInplaceSlot (.type "list") "add" (Operator.Add == .Add) = pure false := by
  unfold fillsInplaceSlot
  show (typeLookup (.type "list") (dunderI "add") >>= fun fi => pure (fi.isSome && !isSeqSlot fi)) = pure false
  rw [F.slot_list_iadd.lookup]
  simp only [pure_bind]
  exact congrArg pure (by decide +kernel)
theorem li_seqI : seqSlot? (.type "list") (dunderI "add") = pure (some (.builtin "list.__iadd__")) := PySem.seqSlot_of F.slot_list_iadd.lookup (by decide +kernel)
theorem li_noRadd : typeLookup (.type "list") (dunderR "add") = pure none := by rw [typeLookup_type, builtinLookup_eq_fast]; kernel_rfl
theorem li_look_add : typeLookup (.type "list") (dunder "add") = pure (some (.builtin "list.__add__")) := by rw [typeLookup_type, builtinLookup_eq_fast]; kernel_rfl
theorem li_fills : fillsNumberSlot (.type "list") "add" = pure false := PySem.fillsNumberSlot_seq (id := "list.__add__") (r := none) li_look_add (by decide +kernel) li_noRadd rfl
theorem by_fills : fillsNumberSlot (.type "bytes") "add" = pure false := KBy.noFill_bytes_add
theorem sub_bytes_self : isSubtype (.type "bytes") (.type "bytes") = pure true := by rw [isSubtype_type]; kernel_rfl

section
variable {prog : Program} {w : World} {A : Around} {E : Value → Shared → Prop} {s : Shared}
/-- the items so far: what stood, and the first i of ks -/
def Grown (vs₀ : List Value) (ks : List Int) (acc : Array Value) (i : Nat) : Prop := ∃ vs, acc.toList = vs₀ ++ vs ∧ IntsAre vs (ks.take i)
theorem Grown.push {vs₀ : List Value} {ks : List Int} {acc : Array Value} {i : Nat} {k : Int} {u : Tok} (h : Grown vs₀ ks acc i) (hk : ks[i]? = some k) : Grown vs₀ ks (acc.push (.int k u)) (i + 1) := by
  obtain ⟨vs, e, hi⟩ := h
  refine ⟨vs ++ [.int k u], by rw [Array.toList_push, e, List.append_assoc], ?_⟩
  rw [List.take_add_one, hk]
  exact IntsAre.append hi (.cons _ _ .nil)
theorem Grown.size {vs₀ : List Value} {ks : List Int} {acc : Array Value} {i : Nat} (h : Grown vs₀ ks acc i) : acc.size ≤ vs₀.length + ks.length := by
  obtain ⟨vs, e, hi⟩ := h
  have h1 : acc.size = acc.toList.length := Array.length_toList.symm
  have h2 := hi.length
  rw [h1, e, List.length_append, h2, List.length_take]
  omega

theorem ext_loop {R : Result → Shared → Prop} {I S : Addr} {fp : List Addr} {ks : List Int} {vs₀ : List Value} {St : Nat → Heap → Prop} (res : Value)
    (W : Walks prog w A.in1 I fp [I] ks.length (fun i v => ∃ u, v = .int (ks.getD i 0) u) St) (hSf : S ∉ fp) (hz : vs₀.length + ks.length ≤ sizeLine) :
    ∀ (k i : Nat) (s : Shared) (acc : Array Value) (c : Nat), ks.length - i = k → i ≤ ks.length → St i s.heap → s.heap.get? S = some (listOf acc c) → Grown vs₀ ks acc i →
      (∀ h' tk acc' c', (∀ b o, b ≠ S → b ≠ I → s.heap.get? b = some o → h'.get? b = some o) → h'.get? S = some (listOf acc' c') → Grown vs₀ ks acc' ks.length → R (.ok (.ret res)) { s with heap := h', toks := tk }) →
      codeAny (model prog w) A (.builtin "list.extend.loop" ⟨[.ref S, .ref I, res], []⟩) R s := by
  have hSI : S ≠ I := fun e => hSf (W.sub _ (by rw [e]; exact .head _))
  intro k
  induction k with
  | zero =>
    intro i s acc c hk hi hst hS hG hR
    have hin : i = ks.length := by omega
    subst hin
    refine codeAny_builtin F.entry_extend_loop ?_
    rw [Around.under_plainId F.plain_extend_loop _]
    show wpAny _ A.in1 (pyNext (.ref I) >>= _) _ _ s
    refine wpAny_bind (W.done s _ _ hst fun h' tk hk => ?_)
    exact wpAny_pure (hR h' tk acc c (fun b o _ hb e => hk b o (by simpa using hb) e) (hk S _ (by simpa using hSI) hS) hG)
  | succ k ih =>
    intro i s acc c hk hi hst hS hG hR
    have hlt : i < ks.length := by omega
    refine codeAny_builtin F.entry_extend_loop ?_
    rw [Around.under_plainId F.plain_extend_loop _]
    show wpAny _ A.in1 (pyNext (.ref I) >>= _) _ _ s
    refine wpAny_bind (W.item i s _ _ hlt hst fun v h' tk hv hst' hk' => ?_)
    obtain ⟨u, rfl⟩ := hv
    have hS' : h'.get? S = some (listOf acc c) := hk' S _ (by simpa using hSI) hS
    have hsz := hG.size
    have hget : ks[i]? = some (ks.getD i 0) := by simp [hlt]
    have hG' := hG.push (u := u) hget
    have hsz' := hG'.size
    show wpAny _ A.in1 (updateSeq S (·.push _) >>= _) _ _ _
    refine wpAny_bind ?_
    refine wpAny_updateSeq (s := { s with heap := h', toks := tk }) hS' rfl (wpAny_pure ⟨plainId_quiet F.plain_extend_loop _, ?_⟩) (by omega) (by omega)
    have hS2 : (h'.update S (Obj.mapSeq (·.push (.int (ks.getD i 0) u)))).get? S = some (listOf (acc.push (.int (ks.getD i 0) u)) (c + 1)) := by
      refine (Heap.get?_update_self _ hS' ?_).trans ?_
      · simp [Obj.mapSeq, Obj.isFreed]
      · simp [Obj.mapSeq]
    refine ih (i + 1) { s with heap := h'.update S (Obj.mapSeq (·.push (.int (ks.getD i 0) u))), toks := tk } _ _ (by omega) hlt ?_ hS2 hG' fun h'' tk' acc' c' hk'' hS'' hG'' => ?_
    · exact W.frame _ _ _ hst' fun b hb o e => (Heap.get?_update_other _ _ (fun e' : S = b => hSf (by rw [e']; exact hb))).trans e
    · refine hR h'' tk' acc' c' (fun b o hb1 hb2 e => hk'' b o hb1 hb2 ?_) hS'' hG''
      exact (Heap.get?_update_other _ _ (Ne.symm hb1)).trans (hk' b o (by simpa using hb2) e)

theorem bytes_walks (hh : A.handled = none) (I : Addr) (b : Array UInt8) (t : Tok) : Walks prog w A I [I] [I] (KBw.bInts b).length (fun i v => ∃ u, v = .int ((KBw.bInts b).getD i 0) u) (fun i h => KBw.IsBytesIter h I b t i) := by
  have W := KBw.walks (prog := prog) (w := w) hh I b t
  rw [← KBw.ints_length b] at W
  refine ⟨W.sub, W.frame, fun i s Q E hi st hQ => W.item i s Q E hi st fun v h' tk hv => ?_, W.done, W.self⟩
  obtain ⟨c, u, hc, rfl⟩ := hv
  refine hQ _ h' tk ⟨u, ?_⟩
  have h1 := KBw.ints_get hc
  rw [List.getD_eq_getElem?_getD, h1]; rfl
theorem no_two {a b : Value} {T U nm : String} {Q : Option Value → Shared → Prop} (hTU : (Value.type T == Value.type U) = false) (ha : s.TypeIs a T) (hb : s.TypeIs b U)
    (hfT : fillsNumberSlot (.type T) nm = pure false) (hfU : fillsNumberSlot (.type U) nm = pure false) (h : Q none s) : wpAny (model prog w) A (binaryOp1 nm a b) Q E s := by
  simp only [binaryOp1]
  refine wpAny_bind (wpAny_typeOf ha (wpAny_bind (wpAny_typeOf hb (wpAny_bind (wpAny_of_eq hfT ?_)))))
  simp only [hTU, Bool.false_eq_true, if_false]
  refine wpAny_bind (wpAny_of_eq hfU ?_)
  simp only [Bool.false_and, Bool.false_eq_true, if_false, pure_bind]
  exact wpAny_pure h

theorem iadd_bytes {D : Addr} {vs : List Value} {c : Nat} {b : Array UInt8} {tb : Tok} {Q : Value → Shared → Prop} (hS : s.heap.get? D = some (listOf vs.toArray c)) (hz : vs.length + b.size ≤ 1000) (hh : A.handled = none)
    (hQ : ∀ h' tk vs' c', (∀ a o, a ≠ D → s.heap.get? a = some o → h'.get? a = some o) → h'.get? D = some (listOf (vs ++ vs').toArray c') → IntsAre vs' (KBw.bInts b) → Q (.ref D) { s with heap := h', toks := tk }) :
    wpAny (model prog w) A (inplaceOp .Add (.ref D) (.bytes b tb)) Q E s := by
  have hT : s.TypeIs (.ref D) "list" := ⟨_, hS, rfl⟩
  have hB := typeIs_bytes s b tb
  unfold inplaceOp
  refine wpAny_holding ?_
  refine wpAny_bind (wpAny_typeOf hT (wpAny_bind (wpAny_of_eq li_fillsI ?_)))
  show wpAny _ A (if false = true then _ else _) Q E s
  rw [if_neg Bool.false_ne_true]
  refine wpAny_bind (no_two (nm := "add") (by decide) hT hB li_fills by_fills ?_)
  refine wpAny_bind (wpAny_of_eq li_seqI ?_)
  refine wpAny_bind (wpAny_rule ?_)
  refine wpAny_call (codeAny_call_builtin F.plain_list_iadd F.entry_list_iadd (F.slot_list_iadd.check _ _ _ _ _ _ _ _ hT (F.args_list_iadd_2 _ _) ?_))
  show wpAny _ A.in1 (Builtin.List.listExtendWith (.ref D) (.bytes b tb) (.ref D)) _ _ s
  unfold Builtin.List.listExtendWith
  refine wpAny_bind (wpAny_typeOf hB ?_)
  have h1 : Builtin.List.listSameRef (.ref D) (.bytes b tb) = false := rfl
  have h2 : (Value.type "bytes" == Value.type "list") = false := by decide
  have h3 : (Value.type "bytes" == Value.type "tuple") = false := by decide
  simp only [h1, h2, h3, Bool.or_false, Bool.false_eq_true, if_false]
  refine wpAny_bind (KBw.pyIter_bytes ?_)
  have hB2 := typeIs_bytes { s with heap := s.heap.push { cls := .type "bytes_iterator", data := .fields #[.bytes b tb, .int 0 0] } } b tb
  refine wpAny_bind (wpAny_holding ?_)
  unfold Builtin.List.listLengthHint
  refine wpAny_bind (wpAny_specialOf hB2 FB.slot_bytes_len.lookup ?_)
  dsimp only
  rw [show splitId "bytes.__len__" = some ("bytes", "__len__") from by decide +kernel]
  dsimp only
  refine wpAny_bind (wpAny_isInstance hB2 sub_bytes_self ?_)
  refine bm_if_false rfl ?_
  refine bm_if_true (by decide +kernel) ?_
  refine wpAny_bind (wpAny_typeOf hB2 ?_)
  refine wpAny_pure ?_
  refine bm_if_false (by decide +kernel) ?_
  have hS2 : (s.heap.push { cls := .type "bytes_iterator", data := .fields #[.bytes b tb, .int 0 0] }).get? D = some (listOf vs.toArray c) := Heap.get?_push_of_some _ hS
  have hDlt := Heap.lt_size hS
  have hlen := KBw.ints_length b
  refine wpAny_pure ⟨plainId_quiet F.plain_extend_loop _, ext_loop (vs₀ := vs) (.ref D) (bytes_walks (prog := prog) (w := w) (A := A.in1) hh s.heap.objs.size b tb) (by simpa using Nat.ne_of_lt hDlt) (by rw [hlen]; have : sizeLine = 16777216 := rfl; omega) _ 0 _ vs.toArray c rfl (Nat.zero_le _)
    ⟨_, Heap.get?_push_size _ rfl, rfl, rfl⟩ hS2 ⟨[], by simp, .nil⟩ fun h' tk acc' c' hk hS' hG => ?_⟩
  obtain ⟨vs', e, hi⟩ := hG
  rw [List.take_length] at hi
  have e' : acc' = (vs ++ vs').toArray := by rw [← e, Array.toArray_toList]
  rw [e'] at hS'
  exact hQ h' tk vs' c' (fun a o ha e => hk a o ha (Nat.ne_of_lt (Heap.lt_size e)) (Heap.get?_push_of_some _ e)) hS' hi
end
end Mine
end
section
open PySem PySem.W PySem.Calls PyProof.Rows PySem.Builtin
set_option pp.maxSteps 3000
namespace Mine
theorem bi_slot_next : Slot "bytearray_iterator" "__next__" "bytearray_iterator.__next__" :=
  .of (owner := "bytearray_iterator") (n := "__next__") (by rw [typeLookup_type, builtinLookup_eq_fast]; kernel_rfl) (by decide +kernel) (by decide +kernel) (by decide +kernel)
    (by first | exact .inl (by decide +kernel) | exact .inr (by decide +kernel)) (by rw [isSubtype_type]; kernel_rfl)
theorem bi_slot_self : Slot "bytearray_iterator" "__iter__" "bytearray_iterator.__iter__" :=
  .of (owner := "bytearray_iterator") (n := "__iter__") (by rw [typeLookup_type, builtinLookup_eq_fast]; kernel_rfl) (by decide +kernel) (by decide +kernel) (by decide +kernel)
    (by first | exact .inl (by decide +kernel) | exact .inr (by decide +kernel)) (by rw [isSubtype_type]; kernel_rfl)
theorem ba_slot_iter : Slot "bytearray" "__iter__" "bytearray.__iter__" :=
  .of (owner := "bytearray") (n := "__iter__") (by rw [typeLookup_type, builtinLookup_eq_fast]; kernel_rfl) (by decide +kernel) (by decide +kernel) (by decide +kernel)
    (by first | exact .inl (by decide +kernel) | exact .inr (by decide +kernel)) (by rw [isSubtype_type]; kernel_rfl)
theorem ba_slot_len : Slot "bytearray" "__len__" "bytearray.__len__" :=
  .of (owner := "bytearray") (n := "__len__") (by rw [typeLookup_type, builtinLookup_eq_fast]; kernel_rfl) (by decide +kernel) (by decide +kernel) (by decide +kernel)
    (by first | exact .inl (by decide +kernel) | exact .inr (by decide +kernel)) (by rw [isSubtype_type]; kernel_rfl)
theorem bi_entry_next : entryFor table "bytearray_iterator.__next__" = some Builtin.«bytearray_iterator.__next__» := entryFor_of_tree (by kernel_rfl)
theorem bi_entry_self : entryFor table "bytearray_iterator.__iter__" = some Builtin.«dict_keyiterator.__iter__» := entryFor_alias (id' := "dict_keyiterator.__iter__") (by kernel_rfl) rfl (by decide +kernel) (by kernel_rfl)
theorem ba_entry_iter : entryFor table "bytearray.__iter__" = some Builtin.«bytearray.__iter__» := entryFor_of_tree (by kernel_rfl)
theorem bi_args_next (a : Value) : argsOk "bytearray_iterator.__next__" ⟨[a], []⟩ := by unfold argsOk; kernel_rfl
theorem bi_args_self (a : Value) : argsOk "bytearray_iterator.__iter__" ⟨[a], []⟩ := by unfold argsOk; kernel_rfl
theorem ba_args_iter (a : Value) : argsOk "bytearray.__iter__" ⟨[a], []⟩ := by unfold argsOk; kernel_rfl

def IsBaIter (h : Heap) (I D : Addr) (i : Nat) : Prop := ∃ o, h.get? I = some o ∧ o.cls = .type "bytearray_iterator" ∧ o.data = .fields #[.ref D, .int i 0]
section
variable {prog : Program} {w : World} {A : Around} {E : Value → Shared → Prop} {s : Shared} {b : Array UInt8} {D : Addr}
theorem bi_type {I : Addr} {i : Nat} (y : IsBaIter s.heap I D i) : s.TypeIs (.ref I) "bytearray_iterator" := let ⟨o, ho, hc, _⟩ := y; ⟨o, ho, hc⟩
theorem ba_pyIter {Q : Value → Shared → Prop} (hD : s.heap.get? D = some (baObj b)) (hQ : Q (.ref s.heap.objs.size) { s with heap := s.heap.push { cls := .type "bytearray_iterator", data := .fields #[.ref D, .int 0 0] } }) : wpAny (model prog w) A (pyIter (.ref D)) Q E s := by
  have hT : s.TypeIs (.ref D) "bytearray" := ⟨_, hD, rfl⟩
  refine wpAny_pyIter_slot hT ba_slot_iter (wpAny_call_entry ba_slot_iter hT ba_entry_iter ?_ (ba_args_iter _))
  show wpAny _ _ (do ret (← newFields "bytearray_iterator" [.ref D, rawInt 0])) _ _ s
  exact wpAny_bind (wpAny_newObj_type (wpAny_pure ⟨_, rfl, "bytearray_iterator", _, ⟨_, Heap.get?_push_size _ rfl, rfl⟩, bi_slot_next.lookup, hQ⟩))
theorem bi_self {it : Addr} {i : Nat} {Q : Value → Shared → Prop} (hit : IsBaIter s.heap it D i) (h : Q (.ref it) s) : wpAny (model prog w) A (pyIter (.ref it)) Q E s := by
  refine wpAny_pyIter_slot (bi_type hit) bi_slot_self (wpAny_call_entry bi_slot_self (bi_type hit) bi_entry_self ?_ (bi_args_self _))
  show wpAny _ _ (ret (.ref it)) _ _ s
  exact wpAny_pure ⟨_, rfl, "bytearray_iterator", _, bi_type hit, bi_slot_next.lookup, h⟩

theorem bi_item {it : Addr} {i : Nat} {c : UInt8} {Q : Option Value → Shared → Prop} (hD : s.heap.get? D = some (baObj b)) (hit : IsBaIter s.heap it D i) (hx : b[i]? = some c)
    (hQ : ∀ h', IsBaIter h' it D (i + 1) → Heap.SameBut it s.heap h' → Q (some (.int (c.toNat : Int) s.toks)) { s with heap := h', toks := s.toks + 1 }) : wpAny (model prog w) A (pyNext (.ref it)) Q E s := by
  obtain ⟨o, ho, hc, hd⟩ := id hit
  unfold pyNext
  refine wpAny_bind (wpAny_attempt (wpAny_callSpecial?_slot (name := PySem.Str.ofString "__next__") (bi_type hit) bi_slot_next
    (wpAny_call_entry bi_slot_next (bi_type hit) bi_entry_next ?_ (bi_args_next _))))
  show wpAny _ _ (field (.ref it) 0 >>= _) _ _ s
  refine wpAny_bind (wpAny_field ho hd (x := .ref D) rfl ?_)
  dsimp only
  refine wpAny_bind (wpAny_load hD ?_)
  dsimp only
  refine wpAny_bind (wpAny_field ho hd (x := .int i 0) rfl ?_)
  simp only [Int.toNat_natCast, hx]
  refine wpAny_bind (wpAny_setField ho hd (by simp) (wpAny_bind (wpAny_mkInt (wpAny_pure ⟨_, rfl, wpAny_pure (hQ _ ?_ (Heap.SameBut.update ..))⟩))))
  exact ⟨_, Heap.get?_update_self _ ho (Obj.isFreed_of_fields (Obj.data_mapFields hd _)), (Obj.cls_mapFields ..).trans hc, by
    rw [Obj.data_mapFields hd]; simp [rawInt]⟩

theorem bi_end {it : Addr} {i : Nat} {Q : Option Value → Shared → Prop} (hh : A.handled = none) (hD : s.heap.get? D = some (baObj b)) (hit : IsBaIter s.heap it D i) (hx : b[i]? = none)
    (hQ : ∀ h', Heap.ExtBut it s.heap h' → Q none { s with heap := h' }) : wpAny (model prog w) A (pyNext (.ref it)) Q E s := by
  obtain ⟨o, ho, hc, hd⟩ := id hit
  unfold pyNext
  refine wpAny_bind (wpAny_attempt (wpAny_callSpecial?_slot (name := PySem.Str.ofString "__next__") (bi_type hit) bi_slot_next
    (wpAny_call_entry bi_slot_next (bi_type hit) bi_entry_next ?_ (bi_args_next _))))
  show wpAny _ _ (field (.ref it) 0 >>= _) _ _ s
  refine wpAny_bind (wpAny_field ho hd (x := .ref D) rfl ?_)
  dsimp only
  refine wpAny_bind (wpAny_load hD ?_)
  dsimp only
  refine wpAny_bind (wpAny_field ho hd (x := .int i 0) rfl ?_)
  simp only [Int.toNat_natCast, hx]
  refine wpAny_bind (wpAny_rule (wpAny_bind (wpAny_setField ho hd (by simp) ?_)))
  refine wpAny_bind (wpAny_letGo ?_)
  show wpAny _ _ (newExc (.type "StopIteration") [] >>= _) _ _ _
  refine wpAny_bind ?_
  simp only [newExc, newTuple]
  refine wpAny_bind (wpAny_newObj_type ?_ (by size_fits))
  refine wpAny_bind (m := firstArgMember _ _) (wpAny_of_eq (a := Value.none) (by first | rfl | (simp only [firstArgMember]; rfl)) ?_)
  refine wpAny_newObj_type ?_ (by size_fits)
  simp only [raiseNew]
  refine wpAny_bind (wpAny_handled ?_)
  rw [show A.in1.handled = none from hh]
  refine wpAny_bind (wpAny_pure (wpAny_throw ?_))
  refine wpAny_bind (wpAny_isInstance (T := "StopIteration") (b := true) ⟨_, Heap.get?_push_size _ rfl, rfl⟩ isSubtype_stop ?_)
  exact wpAny_pure (hQ _ (((Heap.SameBut.update ..).extBut.push _).push _))

theorem ba_walks (hh : A.handled = none) (I D : Addr) (hID : D ≠ I) (b : Array UInt8) : Walks prog w A I [I, D] [I] (KBw.bInts b).length (fun i v => ∃ u, v = .int ((KBw.bInts b).getD i 0) u) (fun i h => IsBaIter h I D i ∧ h.get? D = some (baObj b)) where
  sub := fun c hc => by rw [List.mem_singleton.mp hc]; exact .head _
  frame := fun _ _ _ st hk => let ⟨⟨o, ho, r⟩, hD⟩ := st; ⟨⟨o, hk I (by simp) o ho, r⟩, hk D (by simp) _ hD⟩
  item := fun i s Q E hi st hQ => by
    rw [KBw.ints_length] at hi
    have hx : b[i]? = some b[i] := by simp [hi]
    refine bi_item st.2 st.1 hx fun h' hit' hs' => ?_
    refine hQ _ h' (s.toks + 1) ⟨s.toks, ?_⟩ ⟨hit', (hs'.2 D hID).trans st.2⟩ fun c o hc e => hs'.extBut c o (fun h => hc (by simp [h])) e
    have h1 := KBw.ints_get hx
    rw [List.getD_eq_getElem?_getD, h1]; rfl
  done := fun s Q E st hQ => bi_end hh st.2 st.1 (by rw [KBw.ints_length]; simp) fun h' he' => hQ h' s.toks fun c o hc e => he' c o (fun h => hc (by simp [h])) e
  self := fun _ _ _ _ st hQ => bi_self st.1 hQ

theorem list_ba {Q : Value → Shared → Prop} (hD : s.heap.get? D = some (baObj b)) (hz : b.size ≤ 1000) (hh : A.handled = none)
    (hQ : ∀ S h' tk vs c, Kept s.heap h' → s.heap.objs.size ≤ S → h'.get? S = some (listOf vs.toArray c) → IntsAre vs (KBw.bInts b) → Q (.ref S) { s with heap := h', toks := tk }) :
    wpAny (model prog w) A (call (.type "list") [.ref D]) Q E s := by
  refine callType_codes (Q₁ := fun obj s₁ => obj = .ref s.heap.objs.size ∧ s₁ = { s with heap := s.heap.push { cls := .type "list", data := .seq #[] } }) F.called_list (F.typeCall_list_1 _) F.entry_list_init
    (code_list_new _ ⟨rfl, rfl⟩) fun obj s₁ h₁ => ?_
  obtain ⟨rfl, rfl⟩ := h₁
  have hDlt := Heap.lt_size hD
  have hS : (s.heap.push { cls := .type "list", data := .seq #[] }).get? s.heap.objs.size = some { cls := .type "list", data := .seq #[] } := Heap.get?_push_size _ rfl
  refine ⟨⟨_, hS, rfl⟩, F.args_list_init_2 _ _, ?_⟩
  show wpAny _ A.in1.in1 (do let old ← Builtin.List.listItems (.ref s.heap.objs.size); Builtin.List.listUpdate (.ref s.heap.objs.size) (fun _ => #[]); letGo old.toList.reverse; Builtin.List.listExtendWith (.ref s.heap.objs.size) (.ref D) .none) _ _ _
  refine wpAny_bind ?_
  unfold Builtin.List.listItems
  refine wpAny_bind (wpAny_seqItems hS rfl (wpAny_pure ?_))
  refine wpAny_bind ?_
  show wpAny _ _ (updateSeq s.heap.objs.size (fun _ => #[])) _ _ _
  refine wpAny_updateSeq hS rfl ?_
  have hS₂ := Heap.get?_update_self (Obj.mapSeq (fun _ => (#[] : Array Value))) hS rfl
  have hk₁ : ∀ a o, s.heap.get? a = some o → ((s.heap.push { cls := .type "list", data := .seq #[] }).update s.heap.objs.size (Obj.mapSeq fun _ => #[])).get? a = some o :=
    fun a o e => (Heap.get?_update_other _ _ (Ne.symm (Nat.ne_of_lt (Heap.lt_size e)))).trans (Heap.get?_push_of_some _ e)
  have hsz : ((s.heap.push { cls := .type "list", data := .seq #[] }).update s.heap.objs.size (Obj.mapSeq fun _ => #[])).objs.size = s.heap.objs.size + 1 := by
    have := Heap.size_push s.heap { cls := .type "list", data := .seq #[] }
    simpa [Heap.update] using this
  generalize (s.heap.push { cls := .type "list", data := .seq #[] }).update s.heap.objs.size (Obj.mapSeq fun _ => #[]) = h1 at hS₂ hk₁ hsz
  refine wpAny_bind (wpAny_letGo ?_)
  have hD1 := hk₁ D _ hD
  have hT : ({ s with heap := h1 } : Shared).TypeIs (.ref D) "bytearray" := ⟨_, hD1, rfl⟩
  unfold Builtin.List.listExtendWith
  refine wpAny_bind (wpAny_typeOf hT ?_)
  have h1' : Builtin.List.listSameRef (.ref s.heap.objs.size) (.ref D) = false := by simp [Builtin.List.listSameRef, Nat.ne_of_gt hDlt]
  have h2 : (Value.type "bytearray" == Value.type "list") = false := by decide
  have h3 : (Value.type "bytearray" == Value.type "tuple") = false := by decide
  simp only [h1', h2, h3, Bool.or_false, Bool.false_eq_true, if_false]
  refine wpAny_bind (ba_pyIter (s := { s with heap := h1 }) hD1 ?_)
  have hD2 : (h1.push { cls := .type "bytearray_iterator", data := .fields #[.ref D, .int 0 0] }).get? D = some (baObj b) := Heap.get?_push_of_some _ hD1
  have hT2 : ({ s with heap := h1.push { cls := .type "bytearray_iterator", data := .fields #[.ref D, .int 0 0] } } : Shared).TypeIs (.ref D) "bytearray" := ⟨_, hD2, rfl⟩
  refine wpAny_bind (wpAny_holding ?_)
  unfold Builtin.List.listLengthHint
  refine wpAny_bind (wpAny_specialOf hT2 ba_slot_len.lookup ?_)
  dsimp only
  rw [show splitId "bytearray.__len__" = some ("bytearray", "__len__") from by decide +kernel]
  dsimp only
  refine wpAny_bind (wpAny_isInstance hT2 ba_sub ?_)
  refine bm_if_false rfl ?_
  refine bm_if_true (by decide +kernel) ?_
  refine wpAny_bind (wpAny_typeOf hT2 ?_)
  refine wpAny_pure ?_
  refine bm_if_false (by decide +kernel) ?_
  have hlen := KBw.ints_length b
  have hS3 : (h1.push { cls := .type "bytearray_iterator", data := .fields #[.ref D, .int 0 0] }).get? s.heap.objs.size = some (listOf #[] 0) := Heap.get?_push_of_some _ hS₂
  refine wpAny_pure ⟨plainId_quiet F.plain_extend_loop _, ext_loop (vs₀ := []) .none (ba_walks (prog := prog) (w := w) (A := A.in1.in1) hh h1.objs.size D (by rw [hsz]; exact Nat.ne_of_lt (Nat.lt_succ_of_lt hDlt)) b) (by rw [hsz]; exact fun hm => by rcases List.mem_cons.mp hm with h | h; exact absurd h (Nat.ne_of_lt (Nat.lt_succ_self _)); exact absurd (List.mem_singleton.mp h) (Nat.ne_of_gt hDlt)) (by rw [hlen]; have : sizeLine = 16777216 := rfl; simp only [List.length_nil]; omega) _ 0 _ #[] 0 rfl (Nat.zero_le _)
    ⟨⟨_, Heap.get?_push_size _ rfl, rfl, rfl⟩, hD2⟩ hS3 ⟨[], by simp, .nil⟩ fun h' tk acc' c' hk hS' hG => ?_⟩
  obtain ⟨vs', e, hi⟩ := hG
  rw [List.take_length] at hi
  have e' : acc' = vs'.toArray := by rw [List.nil_append] at e; rw [← e, Array.toArray_toList]
  rw [e'] at hS'
  refine ⟨rfl, hQ _ h' tk vs' c' (fun a o e => ?_) (Nat.le_refl _) hS' hi⟩
  have hlt := Heap.lt_size e
  exact hk a o (Nat.ne_of_lt hlt) (by rw [hsz]; exact Nat.ne_of_lt (Nat.lt_succ_of_lt hlt)) (Heap.get?_push_of_some _ (hk₁ a o e))

theorem iadd_bytes_N {h₀ : Heap} {L : Addr} {m : Str → Option Value} {rest : List (Addr × Obj)} {vs : List Value} {c : Nat} {tb : Tok} {Q : Value → Shared → Prop} (F : Fr h₀ L s.heap m) (N : News h₀ L s.heap ((D, listOf vs.toArray c) :: rest)) (hr : ∀ p ∈ rest, p.1 ≠ D)
    (hz : vs.length + b.size ≤ 1000) (hh : A.handled = none)
    (h : ∀ h' tk vs' c', Fr h₀ L h' m → News h₀ L h' ((D, listOf (vs ++ vs').toArray c') :: rest) → IntsAre vs' (KBw.bInts b) → Q (.ref D) { s with heap := h', toks := tk }) :
    wpAny (model prog w) A (inplaceOp .Add (.ref D) (.bytes b tb)) Q E s := by
  have z := N _ (.head _)
  refine iadd_bytes z.1 hz hh fun h' tk vs' c' hk hD' hi => h h' tk vs' c' ?_ ?_ hi
  · obtain ⟨oL, a1, a2, hL, a3⟩ := F.ns
    refine ⟨⟨oL, a1, a2, hk L oL (Ne.symm z.2.1) hL, a3⟩, fun a o e => hk a o (fun e' => ?_) (F.keep a o e), F.above⟩
    subst e'
    have := z.2.2
    rw [e] at this; cases this
  · intro p hp
    rcases List.mem_cons.mp hp with rfl | hp
    · exact ⟨hD', z.2⟩
    · exact ⟨hk _ _ (hr p hp) (N p (.tail _ hp)).1, (N p (.tail _ hp)).2⟩
end
end Mine
end
section
open PySem PySem.W PySem.Calls PyProof.Rows
namespace Mine
section
variable {prog : Program} {w : World} {A : Around} {E : Value → Shared → Prop} {s : Shared} {h₀ : Heap} {L D b : Addr} {m : Str → Option Value} {news news' : List (Addr × Obj)}
theorem my_insert0 {vs : List Value} {n : Nat} {y : Value} {u : Tok} {Q : Value → Shared → Prop} (F : Fr h₀ L s.heap m) (N : News h₀ L s.heap news)
    (U : Upd D (listOf vs.toArray n) (listOf (y :: vs).toArray (n + 1)) news news') (hz : vs.length ≤ 1000) (h : ∀ h', Fr h₀ L h' m → News h₀ L h' news' → Q .none { s with heap := h' }) :
    wpAny (model prog w) A (call (.builtin "list.insert") [.ref D, .int 0 u, y]) Q E s :=
  kl_insert F N (by decide) (by simp [kl_ins]) U (by have : sizeLine = 16777216 := rfl; simp only [List.toList_toArray]; omega) h
theorem my_extend {vs ws : List Value} {n n2 : Nat} {Q : Value → Shared → Prop} (F : Fr h₀ L s.heap m) (N : News h₀ L s.heap news) (hb : (b, listOf ws.toArray n2) ∈ news) (hne : ws.length ≠ 0)
    (U : Upd D (listOf vs.toArray n) (listOf (vs ++ ws).toArray (n + 1)) news news') (hz : vs.length + ws.length ≤ 1000) (h : ∀ h', Fr h₀ L h' m → News h₀ L h' news' → Q .none { s with heap := h' }) :
    wpAny (model prog w) A (call (.builtin "list.extend") [.ref D, .ref b]) Q E s := by
  have hs : sizeLine = 16777216 := rfl
  refine kl_extend F N hb rfl hne U ?_ (by simp only [List.toList_toArray]; omega) (by simp only [List.size_toArray]; omega) h
  simp [Builtin.List.listTooLong]; omega
theorem News.isList' {vs : List Value} {c : Nat} {h : Heap} (N : News h₀ L h news) (hm : (D, listOf vs.toArray c) ∈ news) : h.IsList D vs.toArray := ⟨_, (N _ hm).1, rfl, c, rfl⟩
theorem size_of_fr {h : Heap} (F : Fr h₀ L h m) : h₀.objs.size ≤ h.objs.size := Nat.le_trans F.above (Nat.le_of_lt F.ns.lt)
theorem mark_iop {M : Model} {A : Around} {E : Value → Shared → Prop} {s : Shared} {op : Operator} {a : Addr} {v : Value} {Q : Value → Shared → Prop} (h : wpAny M A (inplaceOp op (.ref a) v) Q E s) : wpAny M A (inplaceOp op (.ref a) v) Q E s := h
end
end Mine
end
section
open PySem PySem.W PySem.Calls PyProof.Rows
namespace Mine
/-- what a turn leaves -/
def MyEnd (h₀ : Heap) (L : Addr) (own : List (Addr × Obj)) (m : Str → Option Value) (stored : List Str) (acc : Str) (v : Int) (s : Shared) (f : Flow) (s' : Shared) : Prop :=
  f = .next ∧ ∃ h' tk m₂ t, s' = { s with heap := h', toks := tk } ∧ Fr h₀ L h' m₂ ∧ News h₀ L h' own ∧ m₂ acc = some (.int v t) ∧ ∀ z, z ≠ acc → stored.contains z = false → m₂ z = m z
theorem mark_myend {h₀ : Heap} {L : Addr} {own : List (Addr × Obj)} {m : Str → Option Value} {stored : List Str} {acc : Str} {v : Int} {s : Shared} {f : Flow} {s' : Shared} (h : MyEnd h₀ L own m stored acc v s f s') : MyEnd h₀ L own m stored acc v s f s' := h
theorem news_head2 {h₀ h : Heap} {L a : Addr} {vs : List Value} {c : Nat} {r : List (Addr × Obj)} (_ : News h₀ L h ((a, listOf vs.toArray c) :: r)) : ∃ D ws, D = a ∧ ws = vs := ⟨_, _, rfl, rfl⟩
theorem mark_enum {M : Model} {A : Around} {E : Value → Shared → Prop} {s : Shared} {vs : List Value} {Q : Value → Shared → Prop} (h : wpAny M A (call (.type "enumerate") vs) Q E s) : wpAny M A (call (.type "enumerate") vs) Q E s := h
theorem mark_forT {M : Model} {A : Around} {E : Value → Shared → Prop} {s : Shared} {es : List Expr} {x1 : Nat} {pt : Pos} {i : Expr} {b e : List Stmt} {p : Pos} {env : Env} {Q : Flow → Shared → Prop} (h : wpAny M A (exec (.For (.Tuple es x1 pt) i b e p) env) Q E s) : wpAny M A (exec (.For (.Tuple es x1 pt) i b e p) env) Q E s := h
theorem mark_forN {M : Model} {A : Around} {E : Value → Shared → Prop} {s : Shared} {x : Str} {pt : Pos} {i : Expr} {b e : List Stmt} {p : Pos} {env : Env} {Q : Flow → Shared → Prop} (h : wpAny M A (exec (.For (.Name x pt) i b e p) env) Q E s) : wpAny M A (exec (.For (.Name x pt) i b e p) env) Q E s := h
theorem MyEnd.intro {h₀ h' : Heap} {L : Addr} {own : List (Addr × Obj)} {m m₂ : Str → Option Value} {stored : List Str} {acc : Str} {v : Int} {t : Tok} {s : Shared} {tk : Nat} (F : Fr h₀ L h' m₂) (N : News h₀ L h' own) (h1 : m₂ acc = some (.int v t)) (h2 : ∀ z, (∀ p ∈ [(acc, Value.int v t)], z ≠ p.1) → stored.contains z = false → m₂ z = m z) :
    MyEnd h₀ L own m stored acc v s .next { s with heap := h', toks := tk } := ⟨rfl, h', tk, m₂, t, rfl, F, N, h1, fun z hz => h2 z (by simpa using hz)⟩
section
variable {prog : Program} {w : World} {A : Around} {E : Value → Shared → Prop} {s : Shared} {env : Env} {h₀ : Heap} {m : Str → Option Value}
theorem kst_step {m m₂ : Str → Option Value} {stored : List Str} {acc : Str} {v : Int} {t : Tok} (h1 : m₂ acc = some (.int v t)) (h2 : ∀ z, z ≠ acc → stored.contains z = false → m₂ z = m z) :
    m₂ = kstB (fun z => if stored.contains z then m₂ z else m z) [(acc, .int v t)] := by
  funext y
  by_cases hy : y = acc
  · subst hy; simp [kstB, h1]
  · by_cases hs : stored.contains y = true
    · simp only [List.contains_eq_mem, decide_eq_true_eq] at hs
      simp [kstB, hy, hs]
    · rw [h2 y hy (by simpa using hs)]
      simp only [List.contains_eq_mem, decide_eq_true_eq] at hs
      simp [kstB, hy, hs]
/-- for i, x in enumerate(l): one number gathers -/
theorem my_enum {xi xc : Str} {body : List Stmt} {Q : Flow → Shared → Prop} {l : Addr} {vs : List Value} {ns : List Int} (Sz : Nat → Int) (acc : Str) (stored : List Str) (hh : A.handled = none) (hl : s.heap.IsList l vs.toArray) (hi : IntsAre vs ns) (hlL : l ≠ env.locals)
    (F : Fr h₀ env.locals s.heap m) (init : ∃ t, m acc = some (.int (Sz 0) t))
    (turn : ∀ i t1 t2 t3 (u : Str → Option Value) h tk own, i < ns.length →
      Fr h₀ env.locals h (fun y => if y = xc then some (.int (ns.getD i 0) t2) else if y = xi then some (.int (i : Int) t1) else kstB (fun z => if stored.contains z then u z else m z) [(acc, .int (Sz i) t3)] y) → News h₀ env.locals h own →
      wpAny (model prog w) A (execs body env) (MyEnd h₀ env.locals own m stored acc (Sz (i + 1)) { s with heap := h, toks := tk }) E { s with heap := h, toks := tk })
    (done : ∀ t (u : Str → Option Value) h tk, Fr h₀ env.locals h (kstB (fun z => if stored.contains z then u z else m z) [(acc, .int (Sz ns.length) t)]) → Q .next { s with heap := h, toks := tk }) :
    wpAny (model prog w) A (call (.type "enumerate") [.ref l]) (fun xv s₁ => wpAny (model prog w) A (pyIter xv) (fun it s₂ => PairAt3 prog w A h₀ env xi xc body Q E it s₂) E s₁) E s := by
  have hLs : env.locals < s.heap.objs.size := F.ns.lt
  have hab : h₀.objs.size ≤ env.locals := F.above
  have hlt : l < s.heap.objs.size := by obtain ⟨o, e, _⟩ := hl; exact Heap.lt_size e
  refine call_enumerate_list hl fun h' he hit hsz hk => ?_
  have F' : Fr h₀ env.locals h' m := ⟨F.ns.keeps hk, fun b o e => hk b o (F.keep b o e), F.above⟩
  have N' : News h₀ env.locals h' [] := fun p hp => nomatch hp
  refine enumSrc (K := ItemKind.int) (as := ns) (s := { s with heap := h' }) (Draws.list (A := A.in1) hh s.heap.objs.size l (Nat.ne_of_lt hlt) vs.toArray) he ⟨hit, hl.at fun o e => hk l o e⟩ (Nat.succ_ne_self _) ?_ (by simp) ?_
    (Heap.get?_none_of_le (Nat.le_trans hab (Nat.le_of_lt (Nat.lt_succ_of_lt hLs)))) (Heap.get?_none_of_le (Nat.le_trans hab (Nat.le_of_lt hLs))) (by intro _ _ _ hq; exact absurd hq List.not_mem_nil) (by simp [hi.length]) (fun i x hx => hi.areOf.get i x (by simpa using hx)) F' N'
    xi xc body Q (fun i m₁ n₁ => n₁ = [] ∧ ∃ (t : Tok) (u : Str → Option Value), m₁ = kstB (fun z => if stored.contains z then u z else m z) [(acc, .int (Sz i) t)]) ?_ ?_ ?_
  · intro hm
    rcases List.mem_cons.mp hm with e | hm
    · exact Nat.succ_ne_self _ e
    · exact Nat.ne_of_gt (Nat.lt_succ_of_lt hlt) (List.mem_singleton.mp hm)
  · intro hm
    rcases List.mem_cons.mp hm with e | hm
    · exact Nat.ne_of_lt (Nat.lt_succ_of_lt hLs) e
    · rcases List.mem_cons.mp hm with e | hm
      · exact Nat.ne_of_lt hLs e
      · exact hlL (List.mem_singleton.mp hm).symm
  · obtain ⟨t, ht⟩ := init
    exact ⟨rfl, t, m, kst_step ht fun z _ _ => rfl⟩
  · rintro i a t v m₁ n₁ s₁ own ⟨h, tk, rfl⟩ hga hk ⟨rfl, t3, u, rfl⟩ _ _ F₁ N₁
    obtain ⟨t2, rfl⟩ := ItemKind.int_is hk
    obtain ⟨hlt, hgd⟩ := List.getElem?_eq_some_iff.mp hga
    have hgd' : ns.getD i 0 = a := by rw [List.getD_eq_getElem?_getD, hga]; rfl
    rw [List.append_nil] at N₁
    rw [← hgd'] at F₁
    refine wpAny_mono (turn i t t2 t3 u h tk own hlt F₁ N₁) (fun f s' hx => ?_) fun _ _ e => e
    obtain ⟨rfl, h2, tk2, m2, tt, rfl, F2, N2, e1, e2⟩ := hx
    exact ⟨rfl, h2, tk2, m2, [], rfl, F2, by rw [List.append_nil]; exact N2, rfl, rfl, tt, m2, kst_step e1 e2⟩
  · rintro h2 tk m' n' F2 _ _ ⟨_, t, u, rfl⟩
    exact done t u h2 tk F2
/-- for x in l, l a list of the ledger: what holds is said of the numbers seen -/
theorem my_listL {x : Str} {body : List Stmt} {Q : Flow → Shared → Prop} {σ : Type} {l : Addr} {vs : List Value} {ns : List Int} {nn : Nat} {m₀ : Str → Option Value} {news₀ : List (Addr × Obj)} (Led : σ → List (Addr × Obj)) (ps : σ → List (Str × Value)) (stored : List Str) (P : List Int → σ → Prop)
    (hh : A.handled = none) (hl : ∀ c : σ, (l, listOf vs.toArray nn) ∈ Led c) (hi : IntsAre vs ns) (F : Fr h₀ env.locals s.heap m₀) (N : News h₀ env.locals s.heap news₀)
    (init : ∃ c₀, (∀ p ∈ Led c₀, p ∈ news₀) ∧ (∀ p ∈ ps c₀, m₀ p.1 = some p.2) ∧ P [] c₀ ∧ ∀ c, (Led c).map (·.1) = (Led c₀).map (·.1))
    (turn : ∀ (c : σ) pre post n t (u : Str → Option Value) h tk own, ns = pre ++ n :: post → OwnOff own ((Led c).map (·.1)) → P pre c →
      Fr h₀ env.locals h (fun y => if y = x then some (.int n t) else kstB (fun z => if stored.contains z then u z else m₀ z) (ps c) y) → News h₀ env.locals h (Led c ++ own) →
      wpAny (model prog w) A (execs body env) (InvPostN h₀ env.locals (KstS Led ps (fun _ => True) x stored m₀ P (pre ++ [n])) own ((Led c).map (·.1)) { s with heap := h, toks := tk } Q) E { s with heap := h, toks := tk })
    (done : ∀ (c : σ) (u : Str → Option Value) h tk, P ns c → Fr h₀ env.locals h (fun y => if y = x then u y else kstB (fun z => if stored.contains z then u z else m₀ z) (ps c) y) → News h₀ env.locals h (Led c) → Q .next { s with heap := h, toks := tk }) :
    wpAny (model prog w) A (pyIter (.ref l)) (fun it s₂ => LoopAtV prog w A h₀ env x body Q E it s₂) E s := by
  obtain ⟨c₀, i1, i2, i3, i4⟩ := init
  refine kst_listL Led ps (fun _ => True) stored P c₀ hh hl hi F (fun p hp => N p (i1 p hp)) trivial i2 i3 ?_ ?_
  · intro c pre post n t u h tk own hsp _ hoff _ hP F N
    rw [← i4 c] at hoff ⊢
    exact turn c pre post n t u h tk own hsp hoff hP F N
  · intro c u h tk _ hP F N
    exact done c u h tk hP F N
end
end Mine
end
section
open PySem PySem.W PySem.Calls PyProof.Rows
namespace Mine
/-- an exception on its way: of the heap G all but the frames' dicts stands -/
def Flies (G base : Heap) (l : List Env) (e : Addr) (cls : Value) (h : Heap) : Prop :=
  ∃ B a0, base.StaysIn B ∧ (∀ b o, G.get? b = some o → b ∉ l.filterMap (·.frame) → B.get? b = some o) ∧ Heap.FlyingW B l e cls a0 h ∧ G.UpToSlots h
section
variable {M : Model} {A : Around} {E : Value → Shared → Prop} {s' : Shared} {base g g₂ h : Heap} {outer : List Env} {L a e t : Addr} {m : Str → Option Value} {name : Str} {scope : Scope} {cd : Value} {Q : Unit → Shared → Prop} {news : List (Addr × Obj)}
theorem hide_ground (K : Below A base outer g) (F : Fr g L h m) : ∀ b o, g.get? b = some o → b ∉ outer.filterMap (·.frame) → (hideAll h ((envOf name scope L a cd :: outer).filterMap (·.frame))).get? b = some o := fun b o q hb => by
  refine hideAll_get _ (F.keep b o q) fun hm => ?_
  obtain ⟨env, he, hf⟩ := List.mem_filterMap.mp hm
  rcases List.mem_cons.mp he with rfl | he
  · have e1 : L = b := Option.some.inj hf
    have h1 := F.above
    have h2 := Heap.lt_size q
    rw [← e1] at h2
    exact absurd (Nat.lt_of_lt_of_le h2 h1) (Nat.lt_irrefl _)
  · exact hb (List.mem_filterMap.mpr ⟨env, he, hf⟩)
theorem leave_newF {cls : String} (K : Below A base outer g) (hx : Heap.NewExc h s'.heap e cls) (F : Fr g L h m)
    (hQ : ∀ h', Flies g base outer e (.type cls) h' → Q () { s' with heap := h' }) (hk : scope.kind = .function := by rfl) :
    wpAny M (A.deeper (envOf name scope L a cd)) (leaving (envOf name scope L a cd) (.ref e)) Q E s' := by
  have K' := K.push (name := name) (a := a) (cd := cd) F hk
  have hin : ∀ env ∈ (envOf name scope L a cd :: outer), ∀ b, env.frame = some b → b ∈ (envOf name scope L a cd :: outer).filterMap (·.frame) := fun env he b hb => List.mem_filterMap.mpr ⟨env, he, hb⟩
  have st : base.StaysIn (hideAll h ((envOf name scope L a cd :: outer).filterMap (·.frame))) := fun b o q => hideAll_get _ (K'.stays b o q) fun hm => by
    rw [(K'.frames.mem hm).1] at q; cases q
  obtain ⟨ob, tp, he, hcls, hd⟩ := hx.there
  have hen : (hideAll h ((envOf name scope L a cd :: outer).filterMap (·.frame))).get? e = none := by
    cases q : (hideAll h ((envOf name scope L a cd :: outer).filterMap (·.frame))).get? e with
    | none => rfl
    | some o => have := of_hideAll _ q; rw [hx.new] at this; cases this
  refine wpAny_leaving_firstW (a0 := tp) K'.stack ((funFrames_hide K'.frames hin).of_keeps fun b o hb _ => ⟨o, hx.keeps b o hb, rfl⟩) rfl he (fun b o hb => hx.keeps b o (of_hideAll _ hb)) hen hd rfl rfl fun h' hL => ?_
  obtain ⟨k1, ⟨_, _, k2⟩, k3, k4⟩ := hL
  exact hQ h' ⟨_, tp, st, hide_ground K F, ⟨k1, hen, k2, by rw [← hcls]; exact k3⟩, ((Heap.UpToSlots.of_keeps F.keep).trans (Heap.UpToSlots.of_keeps hx.keeps)).trans k4⟩
theorem leave_raiseF {cls : Value} {vs : List Value} (K : Below A base outer g) (hx : Heap.MadeExcOf h s'.heap e cls vs) (F : Fr g L h m)
    (hQ : ∀ h', Flies g base outer e cls h' → Q () { s' with heap := h' }) (hk : scope.kind = .function := by rfl) :
    wpAny M (A.deeper (envOf name scope L a cd)) (leaving (envOf name scope L a cd) (.ref e)) Q E s' := by
  have K' := K.push (name := name) (a := a) (cd := cd) F hk
  have hin : ∀ env ∈ (envOf name scope L a cd :: outer), ∀ b, env.frame = some b → b ∈ (envOf name scope L a cd :: outer).filterMap (·.frame) := fun env he b hb => List.mem_filterMap.mpr ⟨env, he, hb⟩
  have st : base.StaysIn (hideAll h ((envOf name scope L a cd :: outer).filterMap (·.frame))) := fun b o q => hideAll_get _ (K'.stays b o q) fun hm => by
    rw [(K'.frames.mem hm).1] at q; cases q
  exact wpAny_leaves_madeW K'.stack rfl (fun b o q => of_hideAll _ q) (funFrames_hide K'.frames hin) hx fun h' t x1 x2 x3 x4 =>
    hQ h' ⟨_, .ref t, st, hide_ground K F, x1, ((Heap.UpToSlots.of_keeps F.keep).trans (Heap.UpToSlots.of_keeps hx.keeps)).trans x4⟩
/-- in the frame that called it -/
theorem Flies.raisedN {h₀ G h : Heap} {L : Addr} {m : Str → Option Value} {cls : Value} (x : Flies G h₀ [envOf name scope L a cd] e cls h) (N : News h₀ L G news) :
    RaisedN h₀ [envOf name scope L a cd] e cls news h := by
  obtain ⟨B, a0, hB, hk, hf, _⟩ := x
  refine ⟨B, a0, hB, fun q hq => ⟨hk _ _ (N q hq).1 fun hm => ?_, (N q hq).2.2⟩, hf⟩
  obtain ⟨env, he, hf⟩ := List.mem_filterMap.mp hm
  rw [List.mem_singleton.mp he] at hf
  exact (N q hq).2.1 (Option.some.inj hf).symm
theorem Flies.slots {h₀ G h : Heap} {l : List Env} {cls : Value} (x : Flies G h₀ l e cls h) : G.UpToSlots h := let ⟨_, _, _, _, _, u⟩ := x; u
end
theorem mark_leave {M : Model} {A : Around} {E : Value → Shared → Prop} {s : Shared} {env : Env} {v : Value} {Q : Unit → Shared → Prop} (h : wpAny M A (leaving env v) Q E s) : wpAny M A (leaving env v) Q E s := h
section
/-- a contract of a call that raises -/
def Rai (w : World) (f : Addr) (vs : List Value) (pre : Heap → Prop) (cls : Value) : Prop :=
  ∀ (dp un : Nat) (gd : Option (List Code)) (cn : Str) (cs : Scope) (a : Addr) (ccd : Value) (cl : List (Str × Addr)) (outer : List Env) (A₀ : Around) (base h₀ : Heap) (L : Addr) (m : Str → Option Value) (s : Shared) (Q E : Value → Shared → Prop)
    (p : Program) (loose : List Str) (mean : ExcName → Option Value) (mg mb : Str → Option Value),
    Below A₀ base outer h₀ → Fr h₀ L s.heap m → (hd.heap_1 w.params).In h₀ → Top p loose mean mg mb h₀ → cs.kind = .function → pre s.heap → dp + 4 < recursionLimit → un + 60 < cLine →
    (∀ e h' tk', Flies s.heap base (envX cn cs L a ccd cl :: outer) e cls h' → E (.ref e) { s with heap := h', toks := tk' }) →
    wpAny (model PySem.Challenge.rw_jg0021_01.row.prog w) (ktrTop dp un gd cn cs L a ccd cl outer) (call (.ref f) vs) Q E s
end
end Mine
end
section
open PySem PySem.W PySem.Calls PyProof.Rows
namespace Mine
section
variable {prog : Program} {w : World} {A : Around} {E : Value → Shared → Prop} {h : Heap} {g : Array GenState} {d : Drawn} {t : Nat} {os : OsState}
variable {nm q : Str} {C N : Addr} {bs bm : List Value} {hdct : Bool} {sn : List Str} {sub : List Value} {ab : Bool} {col : Option Bool} {dd : Option Addr} {k0 k1 k2 k3 k5 : Option Value} {newId : String} {X NI I : String}
theorem mark_raise {M : Model} {E : Value → Shared → Prop} {s : Shared} {env : Env} {e : Option Expr} {c : Option Expr} {pos : Pos} {Q : Flow → Shared → Prop} (x : wpAny M A (exec (.Raise e c pos) env) Q E s) : wpAny M A (exec (.Raise e c pos) env) Q E s := x
theorem meta_Exc : typeOf (.type "Exception") = pure (.type "type") := by kernel_rfl
theorem isInst_own {M : Model} {e : Addr} {ob : Obj} {Q : Bool → Shared → Prop}
    (hC : h.get? C = some (excClassObj nm q C N bs bm hdct sn sub ab col dd k0 k1 k2 k3 k5 newId)) (hm : bm.contains (.type X) = true) (he : h.get? e = some ob) (hcls : ob.cls = .ref C) (hQ : Q true ⟨h, g, d, t, os⟩) :
    wpAny M A (isInstance (.ref e) (.type X)) Q E ⟨h, g, d, t, os⟩ := by
  have hcont : (Value.ref C :: bm).contains (.type X) = true := by rw [List.contains_cons, hm, Bool.or_true]
  obtain ⟨oc, od, odt, osl⟩ := ob
  have hcls' : oc = .ref C := hcls
  subst hcls'
  unfold isInstance
  repeat (first | with_reducible refine wpAny_loadPart_at he ?_ | (with_reducible refine wpAny_isSubtype_exc hC ?_; rw [hcont]) | wp_step)
  exact hQ
theorem typeOf_own {M : Model} {e : Addr} {ob : Obj} {Q : Value → Shared → Prop} (he : h.get? e = some ob) (hcls : ob.cls = .ref C) (hQ : Q (.ref C) ⟨h, g, d, t, os⟩) :
    wpAny M A (typeOf (.ref e)) Q E ⟨h, g, d, t, os⟩ := by
  obtain ⟨oc, od, odt, osl⟩ := ob
  have hcls' : oc = .ref C := hcls
  subst hcls'
  repeat (first | with_reducible refine wpAny_loadPart_at he ?_ | wp_step)
  exact hQ
theorem nameWhole_own {M : Model} {Q : String → Shared → Prop} (hC : h.get? C = some (excClassObj nm q C N bs bm hdct sn sub ab col dd k0 k1 k2 k3 k5 newId)) (hQ : ∀ x, Q x ⟨h, g, d, t, os⟩) :
    wpAny M A (typeNameWhole (.ref C)) Q E ⟨h, g, d, t, os⟩ := by
  unfold typeNameWhole
  repeat (first | with_reducible refine wpAny_loadPart_at hC ?_ | wp_step)
  exact hQ _
theorem printed_own {M : Model} {whole : Bool} {sig : Manifest.Signature} {e : Addr} {ob : Obj} {Q : String → Shared → Prop} (hs : sig.receiver = .self) (he : h.get? e = some ob) (hcls : ob.cls = .ref C)
    (hC : h.get? C = some (excClassObj nm q C N bs bm hdct sn sub ab col dd k0 k1 k2 k3 k5 newId)) (hQ : ∀ x, Q x ⟨h, g, d, t, os⟩) :
    wpAny M A (Bind.printed "*" whole sig (some (.ref e))) Q E ⟨h, g, d, t, os⟩ := by
  unfold Bind.printed Bind.receiverType
  rw [if_neg (by decide), hs]
  refine wpAny_bind (m := (if (Manifest.Receiver.self == Manifest.Receiver.cls) = true then pure (Value.ref e) else typeOf (Value.ref e))) ?_
  rw [if_neg (by decide)]
  exact typeOf_own he hcls (wpAny_bind (m := typeNameWhole _) (nameWhole_own hC fun x => wpAny_pure (hQ _)))
/-- Exception.__init__(self, ..) for an object of a class of one's own -/
theorem check_initS {M : Model} (hc : ExcClass X NI I) {e : Addr} {ob : Obj} {rest : List Value} {Q : Unit → Shared → Prop}
    (hC : h.get? C = some (excClassObj nm q C N bs bm hdct sn sub ab col dd k0 k1 k2 k3 k5 newId)) (hm : bm.contains (.type X) = true) (he : h.get? e = some ob) (hcls : ob.cls = .ref C) (hQ : Q () ⟨h, g, d, t, os⟩) :
    wpAny M A (checkBuiltinCall I ⟨.ref e :: rest, []⟩) Q E ⟨h, g, d, t, os⟩ := by
  simp only [checkBuiltinCall, hc.initKind, hc.initSplit, hc.initSig]
  refine wpAny_bind (isInst_own hC hm he hcls ?_)
  simp only [Bool.not_true, Bool.false_eq_true, if_false]
  unfold Bind.checkArgs
  dsimp only
  refine wpAny_bind (m := Bind.printed "*" true _ _) (printed_own rfl he hcls hC fun full => ?_)
  refine wpAny_bind (m := Bind.printed X false _ _) (printed_name hc.notStar ?_)
  show wpAny M A (Sem.onRaise (Bind.check _ full X _ []) _) Q E _
  rw [check_varPos]
  exact wpAny_pure hQ
theorem init_own (hc : ExcClass X NI I) {e t0 : Addr} {v : Value} {Q : Value → Shared → Prop}
    (hC : h.get? C = some (excClassObj nm q C N bs bm hdct sn sub ab col dd k0 k1 k2 k3 k5 newId)) (hm : bm.contains (.type X) = true)
    (he : h.get? e = some { cls := .ref C, data := .fields #[.ref t0, .none, .none, .none, .bool false, .none] })
    (hQ : ∀ h', h'.get? e = some { cls := .ref C, data := .fields #[.ref h.objs.size, .none, .none, .none, .bool false, .none] } → h'.get? h.objs.size = some { cls := .type "tuple", data := .seq #[v] } → (∀ b o, b ≠ e → h.get? b = some o → h'.get? b = some o) → Q .none ⟨h', g, d, t, os⟩) :
    wpAny (model prog w) A (call (.builtin I) [.ref e, v]) Q E ⟨h, g, d, t, os⟩ := by
  refine wpAny_call (codeAny_call_builtin hc.init.plain hc.initEntry (check_initS hc hC hm he rfl ?_))
  unfold Builtin.«BaseException.__init__»
  dsimp only
  rw [if_neg (by simp)]
  unfold newTuple Builtin.BaseException.bexcPut
  have he₁ := Heap.get?_push_of_some (h := h) { cls := .type "tuple", data := .seq [v].toArray } he
  have hlt := Heap.lt_size he
  refine wpAny_bind (wpAny_newObj_type (wpAny_bind (wpAny_bind (wpAny_field he₁ rfl rfl (wpAny_bind (wpAny_setField he₁ rfl (by simp) ?_))))) (by show [v].toArray.size ≤ sizeLine; exact Nat.le_of_ble_eq_true rfl))
  refine wpAny_letGo (wpAny_pure (hQ _ ?_ ?_ fun b o hb q => ?_))
  · rw [Heap.get?_update_self _ he₁ rfl]; rfl
  · rw [Heap.get?_update_other _ _ (Nat.ne_of_lt hlt)]
    exact Heap.get?_push_at rfl rfl
  · rw [Heap.get?_update_other _ _ hb.symm]
    exact Heap.get?_push_of_some _ q
end
/-- a name that stands in a namespace of the fragment -/
theorem ns_at {K : Frag} {h : Heap} {N : Addr} {mN : Str → Option Value} {n : Str} {v : Value} (X : K.In h) (G : h.Ns N mN) (e : nsIn K N n = some (some v)) : mN n = some v := by
  obtain ⟨o, es, ep, ho, hd, _, hf⟩ := G
  unfold nsIn at e
  split at e
  · rename_i c d es' n' sl q
    have := X _ _ q
    rw [ho] at this
    cases this
    cases hd
    split at e
    · rename_i en he
      cases e
      rw [← hf]
      unfold nsFind findBy
      rw [← Array.find?_toList, he]
      rfl
    · split at e <;> cases e
  · cases e
section
variable {prog : Program} {w : World} {A : Around} {s : Shared} {K : Frag} {p : Program} {loose : List Str} {mean : ExcName → Option Value} {mg mb : Str → Option Value}
/-- enter a def; the ground of its frame is a part of what stands -/
theorem code_sub {G : Heap} {R : Result → Shared → Prop} {name qual : Str} {params : Arguments} {body : List Stmt} {scope : Scope} {dV kV doc pm cdv ct oc : Value} {an od : Option Addr} {osl : Array (Option Value)} {f : Addr} {args : Args} {binds : List (Str × Value)}
    (hG : Kept G s.heap) (hGs : G.objs.size ≤ s.heap.objs.size) (X : K.In G) (T : Top p loose mean mg mb G)
    (ho : K.lookup f = some ⟨oc, od, .func (fnOf name qual params body scope dV kV doc pm an cdv ct), osl⟩) (hcd : codeIn K cdv qual = true) (hroom : A.depth < recursionLimit)
    (hbind : BindsTo s (fnOf name qual params body scope dV kV doc pm an cdv ct) args binds) (hloc : ∀ y ∈ binds, scope.names.lookup y.1 = some .local)
    (h : ∀ h₁, Fr G s.heap.objs.size h₁ (fun y => binds.reverse.lookup y) → Kept s.heap h₁ →
      wpAny (model prog w) (A.deeper (envOf qual scope s.heap.objs.size f cdv)) (execs body (envOf qual scope s.heap.objs.size f cdv))
        (fun fl s' => R (.ok (.ret (match fl with | .ret v => v | _ => .none))) s')
        (fun e s' => wpAny (model prog w) (A.deeper (envOf qual scope s.heap.objs.size f cdv)) (leaving (envOf qual scope s.heap.objs.size f cdv) e) (fun _ s'' => R (.error e) s'') (fun e' s'' => R (.error e') s'') s')
        { s with heap := h₁, toks := s.toks + binds.length })
    (hco : scope.isCoroutine = false) (hgen : scope.isGenerator = false) (hk : scope.kind = .function)
    (hcell : ∀ x ∈ scope.names, x.2 ≠ .cell) : codeAny (model prog w) A (.call (.ref f) args) R s := by
  have X₁ := X.keeps hG
  exact codeAny_call_def (fd := fnOf name qual params body scope dV kV doc pm an cdv ct) (body := body) (binds := binds) hroom (X₁ _ _ ho) rfl (T.nolimit.keeps hG) (codeRec_of X₁ hcd) rfl hbind hcell hloc
    (fun h₁ hns₁ hk₁ => h h₁ ⟨hns₁, fun b o e => hk₁ b o (hG b o e), hGs⟩ hk₁) hco hgen hk
end
section
variable {M : Model} {A : Around} {E : Value → Shared → Prop} {s : Shared} {env : Env}
/-- what a raise wants of its exception: a class of one's own -/
def RaisableO (E : Value → Shared → Prop) (v : Value) (s₁ : Shared) : Prop :=
  ∃ e t C nm q N bs bm hdct sn sub ab col dd k0 k1 k2 k3 k5 newId, v = .ref e ∧ s₁.heap.get? C = some (excClassObj nm q C N bs bm hdct sn sub ab col dd k0 k1 k2 k3 k5 newId) ∧ bm.contains (.type "BaseException") = true ∧
    s₁.heap.get? e = some { cls := .ref C, data := .fields #[.ref t, .none, .none, .none, .bool false, .none] } ∧ E (.ref e) s₁
theorem RaisableO.intro {e t C : Addr} {nm q : Str} {N : Addr} {bs bm : List Value} {hdct : Bool} {sn : List Str} {sub : List Value} {ab : Bool} {col : Option Bool} {dd : Option Addr} {k0 k1 k2 k3 k5 : Option Value} {newId : String} {s₁ : Shared}
    (hC : s₁.heap.get? C = some (excClassObj nm q C N bs bm hdct sn sub ab col dd k0 k1 k2 k3 k5 newId)) (hb : bm.contains (.type "BaseException") = true)
    (he : s₁.heap.get? e = some { cls := .ref C, data := .fields #[.ref t, .none, .none, .none, .bool false, .none] }) (hE : E (.ref e) s₁) : RaisableO E (.ref e) s₁ :=
  ⟨e, t, C, nm, q, N, bs, bm, hdct, sn, sub, ab, col, dd, k0, k1, k2, k3, k5, newId, rfl, hC, hb, he, hE⟩
theorem Raise_O {e : Expr} {pos : Pos} {Q : Flow → Shared → Prop} (hh : A.handled = none)
    (h : wpAny M A (eval e env) (RaisableO E) E s) : wpAny M A (exec (.Raise (some e) none pos) env) Q E s := by
  show wpAny M A (do standAt pos; raiseStmt env (some (do let v ← eval e env; standAt pos; pure v)) none) Q E s
  refine wpAny_bind (wpAny_standAt ?_)
  unfold raiseStmt
  refine wpAny_bind (wpAny_bind (wpAny_mono h (fun v s₁ h₁ => wpAny_bind (wpAny_standAt (wpAny_pure ?_))) fun _ _ x => x))
  obtain ⟨ea, t, C, nm, q, N, bs, bm, hdct, sn, sub, ab, col, dd, k0, k1, k2, k3, k5, newId, rfl, hC, hbase, he, hE⟩ := h₁
  have hcB : (Value.ref C :: bm).contains (.type "BaseException") = true := by rw [List.contains_cons, hbase, Bool.or_true]
  obtain ⟨hp, g, d, tk, os⟩ := s₁
  repeat (first | with_reducible refine wpAny_loadPart_at he ?_ | with_reducible refine wpAny_loadPart_at hC ?_ | (with_reducible refine wpAny_isSubtype_exc hC ?_; rw [hcB]) | wp_step)
  exact wpAny_raiseNew_none hh hE
end
end Mine
end
section
namespace Mine
/-- groups of seven, the lowest first, each but the last marked; c stands first -/
def encL (c : Int) (n : Nat) : List Int := if h : n = 0 then [c] else (c + 128) :: encL ((n % 128 : Nat) : Int) (n / 128)
termination_by n
decreasing_by omega
theorem encL_zero (c : Int) : encL c 0 = [c] := by rw [encL]; simp
theorem encL_pos (c : Int) {n : Nat} (h : n ≠ 0) : encL c n = (c + 128) :: encL ((n % 128 : Nat) : Int) (n / 128) := by rw [encL]; simp [h]
theorem encL_ne (c : Int) (n : Nat) : encL c n ≠ [] := by
  by_cases h : n = 0
  · subst h; rw [encL_zero]; simp
  · rw [encL_pos c h]; simp
theorem encL_len_pos (c : Int) (n : Nat) : 0 < (encL c n).length := List.length_pos_iff.mpr (encL_ne c n)
theorem encL_len : ∀ (b : Nat) (c : Int) (n : Nat), n < 128 ^ b → (encL c n).length ≤ b + 1 := by
  intro b
  induction b with
  | zero => intro c n h; have : n = 0 := by omega
            subst this; rw [encL_zero]; simp
  | succ b ih =>
    intro c n h
    by_cases hn : n = 0
    · subst hn; rw [encL_zero]; simp
    · rw [encL_pos c hn, List.length_cons]
      have := ih ((n % 128 : Nat) : Int) (n / 128) (by rw [Nat.pow_succ] at h; omega)
      omega
/-- one turn of the loop that marks the last and appends -/
theorem enc_turn {ns pre res : List Int} {x sz : Int} (e : ns = pre ++ [x]) (hr : pre ++ encL x sz.toNat = res) (hz : 0 < sz) :
    ns.set ((ns.length : Int) - 1).toNat (ns.getD ((ns.length : Int) - 1).toNat 0 + 128) = pre ++ [x + 128] ∧ (pre ++ [x + 128]) ++ encL (sz.fmod 128) (sz.fdiv 128).toNat = res := by
  subst e
  have h1 : (((pre ++ [x]).length : Int) - 1).toNat = pre.length := by simp
  rw [h1]
  refine ⟨?_, ?_⟩
  · simp
  · rw [← hr, encL_pos x (by omega)]
    have e1 : sz.fmod 128 = ((sz.toNat % 128 : Nat) : Int) := by rw [Int.fmod_eq_emod_of_nonneg _ (by decide)]; omega
    have e2 : (sz.fdiv 128).toNat = sz.toNat / 128 := by rw [Int.fdiv_eq_ediv_of_nonneg _ (by decide)]; omega
    rw [e1, e2]; simp
end Mine
namespace Mine
/-- what lies below the first number of j + 1 groups -/
def T7 : Nat → Int
  | 0 => 0
  | j + 1 => T7 j + 128 ^ (j + 1)
theorem T7_nonneg : ∀ j, 0 ≤ T7 j
  | 0 => Int.le_refl _
  | j + 1 => by have := T7_nonneg j; have h2 : (0 : Int) < 128 ^ (j + 1) := Int.pow_pos (by decide); unfold T7; omega
theorem T7_small {j : Nat} {d : Int} (h : T7 j ≤ d) (hd : d < 10 ^ 60) : j < 30 := by
  apply Classical.byContradiction
  intro hj
  obtain ⟨i, rfl⟩ : ∃ i, j = i + 1 := ⟨j - 1, by omega⟩
  have h1 : (128 : Int) ^ 30 ≤ 128 ^ (i + 1) := by
    obtain ⟨e, he⟩ : ∃ e, i + 1 = 30 + e := ⟨i + 1 - 30, by omega⟩
    rw [he, Int.pow_add]
    have : (0 : Int) < 128 ^ e := Int.pow_pos (by decide)
    have h30 : (0 : Int) ≤ 128 ^ 30 := by decide
    calc (128 : Int) ^ 30 = 128 ^ 30 * 1 := by omega
      _ ≤ 128 ^ 30 * 128 ^ e := Int.mul_le_mul_of_nonneg_left (by omega) h30
  have h2 := T7_nonneg i
  have h3 : T7 (i + 1) = T7 i + 128 ^ (i + 1) := rfl
  have h4 : (10 : Int) ^ 60 ≤ 128 ^ 30 := by decide
  omega
end Mine
namespace Mine
/-- the k-th of j + 1 groups, the highest first -/
def apV (j : Nat) (r : Int) (k : Nat) : Int := (r.fdiv (128 ^ (j - k))).fmod 128 + 128 * (if k < j then 1 else 0)
end Mine
namespace Mine
theorem p128_ne (n : Nat) : (128 : Int) ^ n ≠ 0 := by have : (0 : Int) < 128 ^ n := Int.pow_pos (by decide); omega
theorem apV_step {j i : Nat} {r : Int} (hi : i < j + 1) : ((r.fdiv (128 ^ ((j : Int) + 1 - 1 - (i : Int)).toNat)).fmod 128 + 128 * (if decide ((i : Int) < (j : Int) + 1 - 1) then 1 else 0)) = apV j r i := by
  have e : ((j : Int) + 1 - 1 - (i : Int)).toNat = j - i := by omega
  unfold apV
  rw [e]
  congr 2
  by_cases h : i < j
  · rw [if_pos h, if_pos]; simp; omega
  · rw [if_neg h, if_neg]; simp; omega
end Mine
namespace Mine
theorem p128_log {n : Nat} (h : n ≤ 1000) : ((128 : Int) ^ n).natAbs.log2 < 9000 := by
  have e : ((128 : Int) ^ n).natAbs = 2 ^ (7 * n) := by
    rw [Int.natAbs_pow, Nat.pow_mul]; rfl
  rw [e]
  have h0 : (2 : Nat) ^ (7 * n) ≠ 0 := Nat.ne_of_gt (Nat.pow_pos (by decide))
  exact (Nat.log2_lt h0).mpr (Nat.pow_lt_pow_right (by decide) (by omega))
end Mine
namespace Mine
/-- the groups in front of the last one: what is left is made one less before each -/
def ofsG (n : Nat) : List Int := if h : n = 0 then [] else ofsG ((n - 1) / 128) ++ [128 + (((n - 1) % 128 : Nat) : Int)]
termination_by n
decreasing_by omega
theorem ofsG_zero : ofsG 0 = [] := by rw [ofsG]; simp
theorem ofsG_pos {n : Nat} (h : n ≠ 0) : ofsG n = ofsG ((n - 1) / 128) ++ [128 + (((n - 1) % 128 : Nat) : Int)] := by rw [ofsG]; simp [h]
def ofsL (n : Nat) : List Int := ofsG (n / 128) ++ [((n % 128 : Nat) : Int)]
def U7 : Nat → Nat
  | 0 => 0
  | j + 1 => 128 * U7 j + 1
theorem ofsG_eq : ∀ (j r : Nat), r < 128 ^ j → ofsG (r + U7 j) = (List.range j).map fun k => ((r / 128 ^ (j - 1 - k) % 128 : Nat) : Int) + 128 := by
  intro j
  induction j with
  | zero => intro r h; have : r = 0 := by omega
            subst this; exact ofsG_zero
  | succ j ih =>
    intro r h
    have hu : U7 (j + 1) = 128 * U7 j + 1 := rfl
    rw [ofsG_pos (by omega)]
    have e1 : (r + U7 (j + 1) - 1) / 128 = r / 128 + U7 j := by omega
    have e2 : (r + U7 (j + 1) - 1) % 128 = r % 128 := by omega
    rw [e1, e2, ih (r / 128) (by rw [Nat.pow_succ] at h; omega), List.range_succ, List.map_append]
    congr 1
    · apply List.map_congr_left
      intro k hk
      have hk' := List.mem_range.mp hk
      have e3 : j + 1 - 1 - k = (j - 1 - k) + 1 := by omega
      rw [e3, Nat.pow_succ, Nat.mul_comm, Nat.div_div_eq_div_mul]
    · simp; omega
theorem T7_U : ∀ j, T7 j = 128 * (U7 j : Int) := by
  have key : ∀ j, T7 (j + 1) = 128 * T7 j + 128 := by
    intro j
    induction j with
    | zero => decide
    | succ j ih =>
      have h1 : T7 (j + 1 + 1) = T7 (j + 1) + 128 ^ (j + 1 + 1) := rfl
      have h2 : T7 (j + 1) = T7 j + 128 ^ (j + 1) := rfl
      rw [h1, ih, Int.pow_succ (128 : Int) (j + 1)]
      omega
  intro j
  induction j with
  | zero => rfl
  | succ j ih =>
    have hu : U7 (j + 1) = 128 * U7 j + 1 := rfl
    rw [key, ih, hu]; omega
theorem apart_eq {j : Nat} {d : Int} (h1 : T7 j ≤ d) (h2 : d < T7 j + 128 ^ (j + 1)) : (List.range (j + 1)).map (apV j (d - T7 j)) = ofsL d.toNat := by
  have hT := T7_U j
  have h0 := T7_nonneg j
  obtain ⟨r, hr⟩ : ∃ r : Nat, d = (r : Int) + T7 j := ⟨(d - T7 j).toNat, by omega⟩
  have hrlt : r < 128 ^ (j + 1) := by
    have : (r : Int) < ((128 ^ (j + 1) : Nat) : Int) := by rw [Int.natCast_pow]; push_cast; omega
    exact_mod_cast this
  have ed : d - T7 j = (r : Int) := by omega
  have en : d.toNat = r + 128 * U7 j := by omega
  unfold ofsL
  have e1 : d.toNat / 128 = r / 128 + U7 j := by omega
  have e2 : d.toNat % 128 = r % 128 := by omega
  rw [e1, e2, ofsG_eq j (r / 128) (by rw [Nat.pow_succ] at hrlt; omega), List.range_succ, List.map_append, ed]
  have cast : ∀ (x e : Nat), ((x : Int).fdiv (128 ^ e)).fmod 128 = ((x / 128 ^ e % 128 : Nat) : Int) := by
    intro x e
    have : (128 : Int) ^ e = ((128 ^ e : Nat) : Int) := by rw [Int.natCast_pow]; rfl
    rw [this, Int.fdiv_eq_ediv_of_nonneg _ (Int.natCast_nonneg _), Int.fmod_eq_emod_of_nonneg _ (by decide)]
    rfl
  congr 1
  · apply List.map_congr_left
    intro k hk
    have hk' := List.mem_range.mp hk
    unfold apV
    rw [if_pos hk', cast]
    have e3 : j - k = (j - 1 - k) + 1 := by omega
    rw [e3, Nat.pow_succ, Nat.mul_comm (128 ^ _) 128, Nat.div_div_eq_div_mul]
    simp
  · simp only [List.map_cons, List.map_nil]
    unfold apV
    rw [if_neg (Nat.lt_irrefl j), cast, Nat.sub_self]
    simp
end Mine
namespace Mine
open _root_.PySem
theorem or128 {c : Int} (h0 : 0 ≤ c) (h1 : c < 128) : Builtin.bitOr c 128 = c + 128 := by
  have key : ∀ i : Fin 128, Builtin.bitOr ((i.val : Nat) : Int) 128 = ((i.val : Nat) : Int) + 128 := by decide +kernel
  have := key ⟨c.toNat, by omega⟩
  have e : ((c.toNat : Nat) : Int) = c := by omega
  simpa [e] using this
theorem or128' {c : Int} (h0 : 0 ≤ c) (h1 : c < 128) : Builtin.bitOr 128 c = 128 + c := by
  have key : ∀ i : Fin 128, Builtin.bitOr 128 ((i.val : Nat) : Int) = 128 + ((i.val : Nat) : Int) := by decide +kernel
  have := key ⟨c.toNat, by omega⟩
  have e : ((c.toNat : Nat) : Int) = c := by omega
  simpa [e] using this
theorem or16 {k c : Int} (hk0 : 0 ≤ k) (hk1 : k < 8) (h0 : 0 ≤ c) (h1 : c < 16) : Builtin.bitOr (k * 16) c = k * 16 + c := by
  have key : ∀ j : Fin 8, ∀ i : Fin 16, Builtin.bitOr (((j.val : Nat) : Int) * 16) ((i.val : Nat) : Int) = ((j.val : Nat) : Int) * 16 + ((i.val : Nat) : Int) := by decide +kernel
  have := key ⟨k.toNat, by omega⟩ ⟨c.toNat, by omega⟩
  have e : ((c.toNat : Nat) : Int) = c := by omega
  have e2 : ((k.toNat : Nat) : Int) = k := by omega
  simpa [e, e2] using this
/-- one turn of pack's loop over the size -/
theorem pack_turn {ns res : List Int} {c sz : Int} (hr : ns ++ encL c sz.toNat = res) (hz : 0 < sz) :
    (ns ++ [c + 128]) ++ encL (sz % 128) (sz.fdiv 128).toNat = res := by
  rw [← hr, encL_pos c (n := sz.toNat) (by omega)]
  have e1 : sz % 128 = ((sz.toNat % 128 : Nat) : Int) := by omega
  have e2 : (sz.fdiv 128).toNat = sz.toNat / 128 := by rw [Int.fdiv_eq_ediv_of_nonneg _ (by decide)]; omega
  rw [e1, e2]; simp
/-- one turn of pack's loop over the distance -/
theorem ofs_turn {ns res : List Int} {d : Int} (hr : ofsG d.toNat ++ ns = res) (hz : 0 < d) :
    ofsG ((d - 1).fdiv 128).toNat ++ ((128 + (d - 1) % 128) :: ns) = res := by
  rw [← hr, ofsG_pos (n := d.toNat) (by omega)]
  have e1 : (d - 1) % 128 = (((d.toNat - 1) % 128 : Nat) : Int) := by omega
  have e2 : ((d - 1).fdiv 128).toNat = (d.toNat - 1) / 128 := by rw [Int.fdiv_eq_ediv_of_nonneg _ (by decide)]; omega
  rw [e1, e2]; simp
theorem ofsG_len : ∀ (b n : Nat), n < 128 ^ b → (ofsG n).length ≤ b := by
  intro b
  induction b with
  | zero => intro n h; have : n = 0 := by omega
            subst this; rw [ofsG_zero]; simp
  | succ b ih =>
    intro n h
    by_cases hn : n = 0
    · subst hn; rw [ofsG_zero]; simp
    · rw [ofsG_pos hn, List.length_append, List.length_singleton]
      have := ih ((n - 1) / 128) (by rw [Nat.pow_succ] at h; omega)
      omega
theorem encL_bytes : ∀ (n : Nat) (c : Int), 0 ≤ c → c < 128 → ∀ x ∈ encL c n, 0 ≤ x ∧ x < 256 := by
  intro n
  induction n using Nat.strongRecOn with
  | ind n ih =>
    intro c h0 h1 x hx
    by_cases hn : n = 0
    · subst hn; rw [encL_zero] at hx; simp at hx; omega
    · rw [encL_pos c hn] at hx
      rcases List.mem_cons.mp hx with rfl | hx
      · omega
      · exact ih (n / 128) (by omega) _ (by omega) (by omega) x hx
theorem ofsG_bytes : ∀ (n : Nat), ∀ x ∈ ofsG n, 128 ≤ x ∧ x < 256 := by
  intro n
  induction n using Nat.strongRecOn with
  | ind n ih =>
    intro x hx
    by_cases hn : n = 0
    · subst hn; rw [ofsG_zero] at hx; simp at hx
    · rw [ofsG_pos hn] at hx
      rcases List.mem_append.mp hx with hx | hx
      · exact ih ((n - 1) / 128) (by omega) x hx
      · simp at hx; omega
theorem ofsL_bytes (n : Nat) : ∀ x ∈ ofsL n, 0 ≤ x ∧ x < 256 := by
  intro x hx
  rcases List.mem_append.mp hx with hx | hx
  · have := ofsG_bytes _ x hx; omega
  · simp at hx; omega
end Mine
end
section
open PySem PySem.W PySem.Calls PyProof.Rows
namespace Mine
theorem bitAnd128 {x : Int} (h0 : 0 ≤ x) (h1 : x < 256) : (Builtin.bitAnd x 128 != 0) = decide (128 ≤ x) := by
  have key : ∀ n : Fin 256, (Builtin.bitAnd ((n : Nat) : Int) 128 != 0) = decide (128 ≤ ((n : Nat) : Int)) := by decide +kernel
  have := key ⟨x.toNat, by omega⟩
  rwa [show (((⟨x.toNat, by omega⟩ : Fin 256) : Nat) : Int) = x by simp; omega] at this
theorem take_mk {T mk : List Int} {last : Int} {j : Nat} (hT : T = mk ++ [last]) (hmk : ∀ x ∈ mk, 128 ≤ x) (h : j < T.length) (h0 : 0 < j) : 128 ≤ T.getD (j - 1) 0 := by
  subst hT
  rw [List.length_append, List.length_singleton] at h
  rw [List.getD_eq_getElem?_getD, List.getElem?_append_left (by omega), List.getElem?_eq_getElem (by omega)]
  exact hmk _ (List.getElem_mem _)
theorem take_last {T mk : List Int} {last : Int} (hT : T = mk ++ [last]) : T.getD (T.length - 1) 0 = last := by
  subst hT
  simp
theorem take_step {T ns : List Int} {vs : List Value} {j : Nat} {t : Tok} (hI : IntsAre vs ns) (hns : ns = T.take j) (h : j < T.length) : IntsAre (vs ++ [.int (T.getD j 0) t]) (T.take (j + 1)) := by
  have e : T.take (j + 1) = ns ++ [T.getD j 0] := by
    rw [hns, List.take_add_one, List.getElem?_eq_getElem h, List.getD_eq_getElem?_getD, List.getElem?_eq_getElem h]; rfl
  rw [e]
  exact IntsAre.append hI (.cons _ _ .nil)
theorem take_cut {ks pre T post : List Int} {v1 : Int} {i j : Nat} (hv1 : v1 = i) (hsp : ks = pre ++ T ++ post) (hpre : pre.length = i) (h : j < T.length) :
    0 < min (clipAt ks.length (v1 + j + 1) - clipAt ks.length (v1 + j)) (ks.length - clipAt ks.length (v1 + j)) ∧
    (ks.drop (clipAt ks.length (v1 + j))).take (clipAt ks.length (v1 + j + 1) - clipAt ks.length (v1 + j)) = [T.getD j 0] := by
  have hl : ks.length = i + T.length + post.length := by rw [hsp]; simp; omega
  have e1 : clipAt ks.length (v1 + j) = i + j := by
    rw [show v1 + (j : Int) = ((i + j : Nat) : Int) by omega, clipAt_nat]; omega
  have e2 : clipAt ks.length (v1 + j + 1) = i + j + 1 := by
    rw [show v1 + (j : Int) + 1 = ((i + j + 1 : Nat) : Int) by omega, clipAt_nat]; omega
  rw [e1, e2]
  refine ⟨by omega, ?_⟩
  rw [show i + j + 1 - (i + j) = 1 by omega, hsp, ← hpre, List.append_assoc, List.drop_append, List.drop_eq_nil_of_le (by omega), List.nil_append, show pre.length + j - pre.length = j by omega, List.drop_append_of_le_length (by omega)]
  rw [List.getD_eq_getElem?_getD, List.getElem?_eq_getElem h, List.drop_eq_getElem_cons h]
  rfl
def decS : List Int → Nat → Int
  | [], _ => 0
  | x :: r, j => Builtin.bitAnd x 127 * 2 ^ (j * 7 + 4) + decS r (j + 1)
theorem decS_step {l : List Int} {i : Nat} : ∀ {j : Nat}, i < l.length → decS (l.take (i + 1)) j = decS (l.take i) j + Builtin.bitAnd (l.getD i 0) 127 * 2 ^ (j * 7 + i * 7 + 4) := by
  induction l generalizing i with
  | nil => intro j h; cases h
  | cons x r ih =>
    intro j h
    cases i with
    | zero => simp [decS]
    | succ i =>
      have := @ih i (j + 1) (by simpa using h)
      simp only [List.take_succ_cons, decS, List.getD_cons_succ]
      rw [this, show (j + 1) * 7 + i * 7 + 4 = j * 7 + (i + 1) * 7 + 4 by omega, Int.add_assoc]
theorem decS_enc (n : Nat) : ∀ (c : Int) (j : Nat), 0 ≤ c → c < 128 → decS (encL c n) j = (c + 128 * n) * 2 ^ (j * 7 + 4) := by
  induction n using Nat.strongRecOn with
  | _ n ih =>
    intro c j h0 h1
    by_cases hn : n = 0
    · subst hn
      rw [encL_zero]
      simp only [decS, bitAnd_m7]
      rw [Int.emod_eq_of_lt h0 h1]; simp
    · rw [encL_pos c hn]
      simp only [decS, bitAnd_m7]
      rw [ih (n / 128) (by omega) _ _ (by omega) (by omega), show (c + 128) % 128 = c by omega, show (j + 1) * 7 + 4 = 7 + (j * 7 + 4) by omega]
      rw [show ((n % 128 : Nat) : Int) + 128 * ((n / 128 : Nat) : Int) = n by omega]
      have e : (2 : Int) ^ (7 + (j * 7 + 4)) = 128 * 2 ^ (j * 7 + 4) := by rw [Int.pow_add]; rfl
      rw [e]
      generalize (2 : Int) ^ (j * 7 + 4) = P
      rw [Int.add_mul, ← Int.mul_assoc, Int.mul_comm (n : Int) 128]
theorem dec_head {k n : Int} (hk1 : 1 ≤ k) (hk2 : k < 8) (hn : 0 ≤ n) : Builtin.bitAnd (((encL (k * 16 + n.fmod 16) (n.fdiv 16).toNat).getD 0 0).fdiv (2 ^ Int.toNat 4)) 7 = k ∧
    Builtin.bitAnd ((encL (k * 16 + n.fmod 16) (n.fdiv 16).toNat).getD 0 0) 15 + decS ((encL (k * 16 + n.fmod 16) (n.fdiv 16).toNat).drop 1) 0 = n := by
  rw [show (2 : Int) ^ Int.toNat 4 = 16 from rfl, bitAnd_m3, bitAnd_m4, Int.fdiv_eq_ediv_of_nonneg _ (by decide), Int.fdiv_eq_ediv_of_nonneg _ (by decide), Int.fmod_eq_emod_of_nonneg _ (by decide)]
  by_cases hz : (n / 16).toNat = 0
  · rw [hz, encL_zero]
    simp only [List.getD_cons_zero, List.drop_succ_cons, List.drop_zero, decS]
    omega
  · rw [encL_pos _ hz]
    simp only [List.getD_cons_zero, List.drop_succ_cons, List.drop_zero]
    rw [decS_enc _ _ _ (by omega) (by omega)]
    rw [show (2 : Int) ^ (0 * 7 + 4) = 16 from rfl]
    omega
def decO (a : Int) (l : List Int) : Int := l.foldl (fun d x => (d + 1) * 128 + Builtin.bitAnd x 127) a
theorem decO_snoc (a : Int) (l : List Int) (x : Int) : decO a (l ++ [x]) = (decO a l + 1) * 128 + Builtin.bitAnd x 127 := by simp [decO]
theorem decO_bd : ∀ (l : List Int) (k : Nat) {a : Int}, 0 ≤ a → a + 1 < 2 ^ (8 * k) → 0 ≤ decO a l ∧ decO a l + 1 < 2 ^ (8 * (k + l.length))
  | [], _, _, h0, h1 => ⟨h0, h1⟩
  | x :: r, k, a, h0, h1 => by
    have h2 := decO_bd r (k + 1) (a := (a + 1) * 128 + Builtin.bitAnd x 127) (by rw [bitAnd_m7]; omega)
      (by rw [bitAnd_m7, show 8 * (k + 1) = 8 + 8 * k by omega, Int.pow_add, show (2 : Int) ^ 8 = 256 from rfl]; omega)
    rw [show k + 1 + r.length = k + (x :: r).length by rw [List.length_cons]; omega] at h2
    exact h2
theorem natAbs_pow {d : Int} {k : Nat} (h0 : 0 ≤ d) (h1 : d + 1 < 2 ^ k) : (d + 1).natAbs < 2 ^ k := by
  have e : ((2 ^ k : Nat) : Int) = 2 ^ k := by rw [Int.natCast_pow]; rfl
  rw [← e] at h1
  omega
/-- what the octets tell -/
def decD : List Int → Int
  | [] => 0
  | x :: r => decO (Builtin.bitAnd x 127) r
theorem decD_eq (ks : List Int) (h : 0 < ks.length) : decO (Builtin.bitAnd (ks.getD 0 0) 127) (ks.drop 1) = decD ks := by
  cases ks with
  | nil => cases h
  | cons x r => rfl
theorem decD_snoc (l : List Int) (x y : Int) : decD (l ++ [x] ++ [y]) = (decD (l ++ [x]) + 1) * 128 + Builtin.bitAnd y 127 := by
  cases l with
  | nil => simp [decD, decO]
  | cons z r => simp [decD, decO]
theorem decD_ofsG (m : Nat) : ∀ z : Int, decD (ofsG m ++ [z]) = m * 128 + z % 128 := by
  induction m using Nat.strongRecOn with
  | _ m ih =>
    intro z
    by_cases hm : m = 0
    · subst hm
      rw [ofsG_zero]
      simp [decD, decO, bitAnd_m7]
    · rw [ofsG_pos hm, decD_snoc, ih _ (by omega), bitAnd_m7]
      omega
theorem decD_ofsL (n : Nat) : decD (ofsL n) = n := by
  unfold ofsL
  rw [decD_ofsG]; omega
theorem take_out {ks pre T : List Int} {v1 : Int} {i j : Nat} (hv1 : v1 = i) (hsp : ks = pre ++ T ++ []) (hpre : pre.length = i) (h : j = T.length) :
    min (clipAt ks.length (v1 + j + 1) - clipAt ks.length (v1 + j)) (ks.length - clipAt ks.length (v1 + j)) = 0 := by
  have hl : ks.length = i + T.length := by rw [hsp]; simp; omega
  have e1 : clipAt ks.length (v1 + j) = i + j := by
    rw [show v1 + (j : Int) = ((i + j : Nat) : Int) by omega, clipAt_nat]; omega
  rw [e1]; omega
theorem gives_ordB (c : UInt8) (t : Tok) : Gives (Builtin.«ord» ⟨[.bytes #[c] t], []⟩) (.int (c.toNat : Int)) := .of_eq rfl
theorem ord_one {prog : Program} {w : World} {A : Around} {E : Value → Shared → Prop} {s : Shared} {b : Array UInt8} {k : Int} {t : Tok} {Q : Value → Shared → Prop} (hb : KBw.bInts b = [k]) (h : Q (.int k s.toks) { s with toks := s.toks + 1 }) : wpAny (model prog w) A (call (.builtin "ord") [.bytes b t]) Q E s := by
  obtain ⟨l⟩ := b
  rw [KBw.ints_list] at hb
  match l, hb with
  | [c], hb =>
    simp only [List.map_cons, List.map_nil, List.cons.injEq, and_true] at hb
    subst hb
    exact call_function_meets F.kind_ord F.plain_ord F.entry_ord (F.args_ord1 _) (gives_ordB c t).meets h
theorem mark_execs {M : Model} {A : Around} {E : Value → Shared → Prop} {s : Shared} {x : Stmt} {xs : List Stmt} {env : Env} {Q : Flow → Shared → Prop} (h : wpAny M A (execs (x :: xs) env) Q E s) : wpAny M A (execs (x :: xs) env) Q E s := h
theorem log_small {a : Int} (h0 : 0 ≤ a) (h1 : a < 4096) : a.natAbs.log2 < 1920 := by
  by_cases hz : a.natAbs = 0
  · rw [hz]; decide
  · have h2 : a.natAbs < 2 ^ 12 := by rw [show (2 : Nat) ^ 12 = 4096 from rfl]; omega
    exact Nat.lt_of_lt_of_le ((Nat.log2_lt hz).mpr h2) (by decide)
theorem pos_fits {a : Int} (h : a.natAbs.log2 < 1920) : (Str.empty ++ Str.ofString "unexpected end of pack data at " ++ Str.ofString (toString a)).length ≤ sizeLine := by
  rw [Str.length_append]
  have h1 := int_text_len_1921 h
  have h2 : (Str.empty ++ Str.ofString "unexpected end of pack data at ").length = 31 := by decide +kernel
  have h3 : sizeLine = 16777216 := rfl
  omega
/-- the numbers of the law -/
abbrev numL (ns : List Int) : List Int := List.map (fun k' => (if k' < 0 then -k' else k').fmod (10 ^ Int.toNat 60)) (List.take 24 ns) ++ List.drop (if (4 : Int) < (ns.length : Int) then (4 : Int) else (ns.length : Int)).toNat [6, 300, 16511, 5]
theorem num_len4 (ns : List Int) : 4 ≤ (numL ns).length := by
  rw [List.length_append, List.length_map, List.length_take, List.length_drop]
  simp only [List.length_cons, List.length_nil]
  split <;> omega
theorem num_len28 (ns : List Int) : (numL ns).length ≤ 28 := by
  rw [List.length_append, List.length_map, List.length_take, List.length_drop]
  simp only [List.length_cons, List.length_nil]
  split <;> omega
theorem num_bd (ns : List Int) : ∀ x ∈ numL ns, 0 ≤ x ∧ x < 10 ^ 60 := by
  intro x hx
  rcases List.mem_append.mp hx with hx | hx
  · obtain ⟨k, _, rfl⟩ := List.mem_map.mp hx
    have h60 : (0 : Int) < 10 ^ Int.toNat 60 := by decide
    rw [Int.fmod_eq_emod_of_nonneg _ (by decide)]
    exact ⟨Int.emod_nonneg _ (by omega), Int.emod_lt_of_pos _ h60⟩
  · have := List.mem_of_mem_drop hx
    simp only [List.mem_cons, List.not_mem_nil, or_false] at this
    rcases this with rfl | rfl | rfl | rfl <;> decide
theorem getD_mem {l : List Int} {i : Nat} (h : i < l.length) : l.getD i 0 ∈ l := by
  rw [List.getD_eq_getElem?_getD, List.getElem?_eq_getElem h]
  exact List.getElem_mem _
theorem base_eq (d : Int) : List.map (fun k' => (d + k').fmod 256) (rangeKs 0 ((20 : Int) - 0).toNat) = (List.range 20).map fun j => (d + ((j : Nat) : Int)).fmod 256 := by
  simp only [rangeKs, List.map_map]
  apply List.map_congr_left
  intro k hk
  simp
theorem base_none {k : Int} {a b : Value} (h6 : k ≠ 6) (h7 : k ≠ 7) : valueAt [((6 : Int), a), ((7 : Int), b)] k = none := by
  simp [valueAt, Ne.symm h6, Ne.symm h7]
theorem ex_len {k d : Int} (h0 : 0 ≤ d) (h1 : d < 10 ^ 60) : (if k = 6 then ofsL d.toNat else if k = 7 then ((List.range 20).map fun j => (d + ((j : Nat) : Int)).fmod 256) else []).length ≤ 41 := by
  split
  · unfold ofsL
    rw [List.length_append, List.length_singleton]
    have := ofsG_len 40 (d.toNat / 128) (by omega)
    omega
  · split
    · rw [List.length_map, List.length_range]; omega
    · simp
theorem ex_bytes {k d : Int} (_h0 : 0 ≤ d) : ∀ x ∈ (if k = 6 then ofsL d.toNat else if k = 7 then ((List.range 20).map fun j => (d + ((j : Nat) : Int)).fmod 256) else []), 0 ≤ x ∧ x < 256 := by
  split
  · exact ofsL_bytes _
  · split
    · intro x hx
      obtain ⟨j, _, rfl⟩ := List.mem_map.mp hx
      rw [Int.fmod_eq_emod_of_nonneg _ (by decide)]
      exact ⟨Int.emod_nonneg _ (by decide), Int.emod_lt_of_pos _ (by decide)⟩
    · intro x hx; cases hx
theorem ofsL_len {d : Int} (h0 : 0 ≤ d) (h1 : d < 10 ^ 60) : (ofsL d.toNat).length ≤ 41 := by
  unfold ofsL
  rw [List.length_append, List.length_singleton]
  have := ofsG_len 40 (d.toNat / 128) (by omega)
  omega
theorem rep_ints {a : Int} (h0 : 0 ≤ a) (h1 : a < 9) (n : Nat) : KBw.bInts (List.replicate n [(200 + a).toNat.toUInt8]).flatten.toArray = List.replicate n (200 + a) := by
  rw [KBw.ints_list]
  have e : ((200 + a).toNat.toUInt8.toNat : Int) = 200 + a := by
    have h2 : (200 + a).toNat < 256 := by omega
    rw [Nat.toUInt8_eq, UInt8.toNat_ofNat', Nat.mod_eq_of_lt (by simpa using h2)]
    omega
  induction n with
  | zero => rfl
  | succ n ih => rw [List.replicate_succ, List.flatten_cons, List.map_append, ih, List.replicate_succ]; simp only [List.map_cons, List.map_nil, List.singleton_append, e]
theorem enc_split (m : Nat) : ∀ (c : Int), 0 ≤ c → c < 128 → ∃ mk last, encL c m = mk ++ [last] ∧ (∀ x ∈ mk, 128 ≤ x) ∧ last < 128 := by
  induction m using Nat.strongRecOn with
  | _ m ih =>
    intro c h0 h1
    by_cases hm : m = 0
    · subst hm
      exact ⟨[], c, encL_zero c, (by intro x hx; cases hx), h1⟩
    · obtain ⟨mk, last, e1, e2, e3⟩ := ih (m / 128) (by omega) ((m % 128 : Nat) : Int) (by omega) (by omega)
      refine ⟨(c + 128) :: mk, last, by rw [encL_pos c hm, e1]; rfl, fun x hx => ?_, e3⟩
      rcases List.mem_cons.mp hx with rfl | hx
      · omega
      · exact e2 x hx
theorem en_split {k n : Int} {en : List Int} (hk1 : 1 ≤ k) (hk2 : k < 8) (_hn : 0 ≤ n) (he : en = encL (k * 16 + n.fmod 16) (n.fdiv 16).toNat) : ∃ mk last, en = mk ++ [last] ∧ (∀ x ∈ mk, 128 ≤ x) ∧ last < 128 := by
  rw [he]
  exact enc_split _ _ (by rw [Int.fmod_eq_emod_of_nonneg _ (by decide)]; omega) (by rw [Int.fmod_eq_emod_of_nonneg _ (by decide)]; omega)
theorem oct_take {oc en ex : List Int} {a : Int} (h : oc = List.replicate a.toNat (200 + a) ++ (en ++ ex) ++ [129, 2]) (h0 : 0 ≤ a) : oc.take (clipAt oc.length (a + en.length)) = List.replicate a.toNat (200 + a) ++ en := by
  have e : clipAt oc.length (a + en.length) = a.toNat + en.length := by
    rw [show a + (en.length : Int) = ((a.toNat + en.length : Nat) : Int) by omega, clipAt_nat, h]
    simp only [List.length_append, List.length_replicate]
    omega
  rw [e, h]
  rw [show List.replicate a.toNat (200 + a) ++ (en ++ ex) ++ [129, 2] = (List.replicate a.toNat (200 + a) ++ en) ++ (ex ++ [129, 2]) by simp only [List.append_assoc]]
  rw [List.take_append_of_le_length (by simp), List.take_of_length_le (by simp)]
theorem ofsG_marks (m : Nat) : ∀ x ∈ ofsG m, 128 ≤ x := by
  induction m using Nat.strongRecOn with
  | _ m ih =>
    intro x hx
    by_cases hm : m = 0
    · subst hm; rw [ofsG_zero] at hx; cases hx
    · rw [ofsG_pos hm] at hx
      rcases List.mem_append.mp hx with hx | hx
      · exact ih _ (by omega) x hx
      · rw [List.mem_singleton.mp hx]; omega
theorem ol_split {ol : List Int} {n : Nat} (h : ol = ofsL n) : ∃ mk last, ol = mk ++ [last] ∧ (∀ x ∈ mk, 128 ≤ x) ∧ 0 ≤ last ∧ last < 128 :=
  ⟨ofsG (n / 128), ((n % 128 : Nat) : Int), h, ofsG_marks _, by omega, by omega⟩
theorem ol_last {ol : List Int} {n : Nat} (h : ol = ofsL n) : 0 ≤ ol.getD (ol.length - 1) 0 ∧ ol.getD (ol.length - 1) 0 < 128 := by
  obtain ⟨mk, last, e, _, h0, h1⟩ := ol_split h
  rw [e]
  simp only [List.length_append, List.length_singleton, Nat.add_sub_cancel]
  rw [List.getD_eq_getElem?_getD, List.getElem?_append_right (Nat.le_refl _), Nat.sub_self]
  exact ⟨h0, h1⟩
theorem ol_dec {ol : List Int} {d : Int} (h : ol = ofsL d.toNat) (h0 : 0 ≤ d) (hl : 0 < ol.length) : decO (Builtin.bitAnd (ol.getD 0 0) 127) (ol.drop 1) = d := by
  rw [decD_eq _ hl, h, decD_ofsL]; omega
theorem ol_mark {ol : List Int} (h0 : 0 < ol.length) (hb : 0 ≤ ol.getD (ol.length - 1) 0 ∧ ol.getD (ol.length - 1) 0 < 128) {ks : List Int}
    (e : ks = List.take ((ol.length : Int) - 1).toNat ol ++ [ol.getD ((ol.length : Int) - 1).toNat 0 + 128]) : ks.length = ol.length ∧ 128 ≤ ks.getD (ks.length - 1) 0 ∧ ks.getD (ks.length - 1) 0 < 256 := by
  have e1 : ((ol.length : Int) - 1).toNat = ol.length - 1 := by omega
  rw [e1] at e
  have hl : (List.take (ol.length - 1) ol).length = ol.length - 1 := by rw [List.length_take]; omega
  have hk : ks.length = ol.length := by rw [e, List.length_append, hl, List.length_singleton]; omega
  have hg : ks.getD (ks.length - 1) 0 = ol.getD (ol.length - 1) 0 + 128 := by
    rw [hk, e, List.getD_eq_getElem?_getD, List.getElem?_append_right (by omega), hl, Nat.sub_self]
    rfl
  rw [hg]
  exact ⟨hk, by omega, by omega⟩
theorem oct_cut {oc en ex mk : List Int} {a last : Int} (h : oc = List.replicate a.toNat (200 + a) ++ (en ++ ex) ++ [129, 2]) (h0 : 0 ≤ a) (he : en = mk ++ [last]) : oc.take (clipAt oc.length (a + en.length - 1)) = List.replicate a.toNat (200 + a) ++ mk ++ [] := by
  have hl : en.length = mk.length + 1 := by rw [he]; simp
  have e : clipAt oc.length (a + en.length - 1) = a.toNat + mk.length := by
    rw [show a + (en.length : Int) - 1 = ((a.toNat + mk.length : Nat) : Int) by omega, clipAt_nat, h]
    simp only [List.length_append, List.length_replicate]
    omega
  rw [e, h, he]
  rw [show List.replicate a.toNat (200 + a) ++ (mk ++ [last] ++ ex) ++ [129, 2] = (List.replicate a.toNat (200 + a) ++ mk) ++ ([last] ++ ex ++ [129, 2]) by simp only [List.append_assoc], List.append_nil]
  rw [List.take_append_of_le_length (by simp), List.take_of_length_le (by simp)]
end Mine
end
section
open PySem PySem.W PySem.Calls PyProof.Rows
namespace Mine
theorem wp0_of {α : Type} {prog : Program} {w : World} {t : Sem α} {Q : α → Shared → Prop} {E : Value → Shared → Prop} {s : Shared} (h : wpC (model prog w) callerA t Q E s) : wp0 prog w t Q E s :=
  h CC default caller_in ⟨rfl, fun x hx => nomatch hx⟩
theorem enter_callC {M : Model} {A : Around} {s : Shared} {f : Value} {pos : List Value} {kw : List (Str × Value)} {c : ClaimW} {cl : Str → Option Addr} {mean : ExcName → Option Value} {args : List WData} {s₁ : Shared}
    (h : codeC M A (.call f ⟨pos, kw⟩) (GoodWG c cl mean args s₁) s) : wpC M A (PySem.call f pos kw) (fun v s' => GoodWG c cl mean args s₁ (.ok (.ret v)) s') (fun e s' => GoodWG c cl mean args s₁ (.error e) s') s :=
  wpC_call (codeC_mono h fun res s' g => by rcases g.1 with ⟨v, _, _, rfl, _⟩ | ⟨e, _, _, rfl, _⟩ <;> exact g)
theorem caller_below : CC.Below callerA :=
  ⟨rfl, by show frameCount [] ≤ 1 + claimMargin; decide +kernel, fun l hl => by cases hl; rfl, fun g hg => by cases hg; rfl, by show unitsOf [] ≤ 4; decide +kernel⟩
/-- what kn_post says of codes holds of results -/
theorem kn_imp {s' s₁ : Shared} {r : Result} {cw : ClaimW} {cl : Str → Option Addr} {mean : ExcName → Option Value} {args : List WData} {tabs : List (Addr × Addr)} {M : Model} (hT : TabsAt tabs s₁.heap) (hr : ∀ a x, cw.raises a x = false)
    (h : GoodW cw cl mean args { s₁ with heap := ghostOf s₁.heap tabs } r s' ∧ GrownAll tabs s'.heap) : GoodWG cw cl mean args s₁ r s' := by
  cases r with
  | ok f =>
    have z := kn_post (M := { M with den := fun _ => pure (.done f) }) (A := callerA) (cd := CC.code) (s := s') hT hr (codeAny_of_tree (wpAny_pure h))
    have z2 := (wpCode_iff_wp _ _ _ _ _).mp (z CC default rfl caller_below)
    rw [Sem.wp_pure'] at z2
    exact z2
  | error e =>
    have z := kn_post (M := { M with den := fun _ => throw e }) (A := callerA) (cd := CC.code) (s := s') hT hr (codeAny_of_tree (wpAny_throw h))
    have z2 := (wpCode_iff_wp _ _ _ _ _).mp (z CC default rfl caller_below)
    rw [Sem.wp_throw] at z2
    exact z2
theorem kn_postC {M : Model} {A : Around} {cd : Code} {s s₁ : Shared} {cw : ClaimW} {cl : Str → Option Addr} {mean : ExcName → Option Value} {args : List WData} {tabs : List (Addr × Addr)} (hT : TabsAt tabs s₁.heap) (hr : ∀ a x, cw.raises a x = false)
    (h : codeC M A cd (fun r s' => GoodW cw cl mean args { s₁ with heap := ghostOf s₁.heap tabs } r s' ∧ GrownAll tabs s'.heap) s) : codeC M A cd (GoodWG cw cl mean args s₁) s :=
  codeC_mono h fun _ _ x => kn_imp (M := M) hT hr x
/-- enter a def with cells, in the caller's own context -/
theorem call_cellsC {prog : Program} {w : World} {A : Around} {R : Result → Shared → Prop} {s : Shared} {name : Str} {params : Arguments} {body : List Stmt} {scope : Scope}
    {pm cd doc : Value} {a : Addr} {o : Obj} {args : List Value} {binds : List (Str × Value)}
    (hroom : A.depth < recursionLimit) (ho : s.heap.get? a = some o) (hdata : o.data = .func (Calls.docDef name params body scope pm cd doc)) (hlim : s.heap.NoLimit) (hcd : s.heap.CodeRec cd name)
    (hbind : bindArgs (Calls.docDef name params body scope pm cd doc) ⟨args, []⟩ = pure binds)
    (hkind : ∀ x ∈ binds, scope.names.lookup x.1 = some .local ∨ (scope.names.lookup x.1 = some .cell ∧ ((cellsFrom (s.heap.objs.size + 1) scope.names []).lookup x.1).isSome = true))
    (hnd : ((cellsFrom 0 scope.names []).map (·.1)).Nodup)
    (h : ∀ h₁ tk cells, Fr s.heap s.heap.objs.size h₁ (bindL (envOfC name scope s.heap.objs.size a cd).kindOf binds fun _ => none) → News s.heap s.heap.objs.size h₁ cells →
      CellsAre (bindC (envOfC name scope s.heap.objs.size a cd).kindOf binds fun _ => none) (cellsFrom (s.heap.objs.size + 1) scope.names []) cells →
      wpC (model prog w) (A.deeper (envOfC name scope s.heap.objs.size a cd)) (execs body (envOfC name scope s.heap.objs.size a cd))
        (fun f s' => R (.ok (.ret (match f with | .ret v => v | _ => .none))) s')
        (fun e s' => wpAny (model prog w) (A.deeper (envOfC name scope s.heap.objs.size a cd)) (leaving (envOfC name scope s.heap.objs.size a cd) e)
          (fun _ s'' => R (.error e) s'') (fun e' s'' => R (.error e') s'') s')
        { s with heap := h₁, toks := tk })
    (hco : scope.isCoroutine = false := by rfl) (hgen : scope.isGenerator = false := by rfl) (hk : scope.kind = .function := by rfl) :
    codeC (model prog w) A (.call (.ref a) ⟨args, []⟩) R s := by
  refine codeC_call_function hroom ho hdata hco hgen rfl hcd ?_
  rw [hbind]
  refine wpAny_pure (wpAny_newFunctionEnv_cells hk hkind fun env' he s' x => ?_)
  subst he
  refine ⟨hlim.keeps x.toInCall.keep, codeC_func ?_⟩
  obtain ⟨h₁, tk, rfl, _⟩ := x.done
  obtain ⟨cells, NC, Y⟩ := PyProof.Rows.Cl.news (h₀ := s.heap) (Nat.le_refl _) fun n c hm => ⟨x.cell n c (lookup_of_mem_nodup (cellsFrom_names scope.names 0 (s.heap.objs.size + 1) [] [] rfl ▸ hnd) hm), x.above n c hm⟩
  exact h h₁ tk cells ⟨x.toInCall.ns, x.toInCall.keep, Nat.le_refl _⟩ NC Y
theorem mark_tailL {M : Model} {A : Around} {E : Value → Shared → Prop} {s : Shared} {es : List Expr} {p : Pos} {sl : Expr} {a b : Value} {Q : Value → Shared → Prop} (h : wpAny M A (subscriptTail (.List es p) sl a b) Q E s) : wpAny M A (subscriptTail (.List es p) sl a b) Q E s := h
section
variable {M : Model} {A : Around} {E : Value → Shared → Prop} {s : Shared} {env : Env}
theorem cutC {st : Stmt} {rest : List Stmt} {Q : Flow → Shared → Prop} (J : Shared → Prop) (h1 : wpAny M A (exec st env) (fun f s' => f = .next ∧ J s') E s) (h2 : ∀ s', J s' → wpC M A (execs rest env) Q E s') : wpC M A (execs (st :: rest) env) Q E s :=
  wpC_execs_consA (wpAny_mono h1 (fun f s' ⟨hf, hj⟩ => by subst hf; exact h2 s' hj) fun _ _ e => e)
theorem cutCC {st : Stmt} {rest : List Stmt} {Q : Flow → Shared → Prop} (J : Shared → Prop) (h1 : wpC M A (exec st env) (fun f s' => f = .next ∧ J s') E s) (h2 : ∀ s', J s' → wpC M A (execs rest env) Q E s') : wpC M A (execs (st :: rest) env) Q E s :=
  wpC_execs_cons (wpC_mono h1 (fun f s' ⟨hf, hj⟩ => by subst hf; exact h2 s' hj) fun _ _ e => e)
theorem cutA {st : Stmt} {rest : List Stmt} {Q : Flow → Shared → Prop} (J : Shared → Prop) (h1 : wpAny M A (exec st env) (fun f s' => f = .next ∧ J s') E s) (h2 : ∀ s', J s' → wpAny M A (execs rest env) Q E s') : wpAny M A (execs (st :: rest) env) Q E s :=
  wpAny_execs_cons (wpAny_mono h1 (fun f s' ⟨hf, hj⟩ => by subst hf; exact h2 s' hj) fun _ _ e => e)
end
/-- what the walker is not to open -/
def Hid (P : Prop) : Prop := P
/-- the state between two statements -/
def St (G : Heap) (L : Addr) (s : Shared) (ps : List (Str × Value)) (led : List (Addr × Obj)) (s' : Shared) : Prop :=
  ∃ h' tk u, s' = { s with heap := h', toks := tk } ∧ Fr G L h' (kstB u ps) ∧ News G L h' led
theorem St.intro {G h' : Heap} {L : Addr} {s : Shared} {tk : Nat} {m : Str → Option Value} {ps : List (Str × Value)} {led led' : List (Addr × Obj)} (F : Fr G L h' m) (N : News G L h' led') (hp : ∀ p ∈ ps, m p.1 = some p.2) (hl : ∀ p ∈ led, p ∈ led') :
    St G L s ps led { s with heap := h', toks := tk } := by
  refine ⟨h', tk, m, rfl, ?_, fun p hp => N p (hl p hp)⟩
  have e : kstB m ps = m := by
    funext z
    exact kstB_eq hp fun _ => rfl
  rw [e]; exact F
theorem mark_St {G : Heap} {L : Addr} {s : Shared} {ps : List (Str × Value)} {led : List (Addr × Obj)} {s' : Shared} (h : St G L s ps led s') : St G L s ps led s' := h
theorem get_int {prog : Program} {w : World} {A : Around} {E : Value → Shared → Prop} {s : Shared} {G : Heap} {L d : Addr} {o : Obj} {news : List (Addr × Obj)} {kvs : List (Int × Value)} {i : Int} {t : Tok} {Q : Value → Shared → Prop}
    (N : News G L s.heap news) (hm : (d, o) ∈ news) (hd : o.IsDictOf (intKind prog w) kvs) (lo : (d == sysModules) = false) (h : Q ((valueAt kvs i).getD .none) { s with toks := s.toks + 1 }) :
    wpAny (model prog w) A (call (.builtin "dict.get") [.ref d, .int i t]) Q E s := by
  have hD : s.heap.DictOf (intKind prog w) d kvs := Heap.dictOf_iff.mpr ⟨o, (N _ hm).1, hd⟩
  exact call_meetsIn PySem.F.slot_dict_get hD.typeIs PySem.F.entry_dict_get (PySem.F.args_dict_get_2 _ _) (meets_dict_get (intKind prog w) d (intKind_is prog w i t) lo) ⟨_, hD.mapOf, h⟩
theorem mark_bcall {M : Model} {A : Around} {E : Value → Shared → Prop} {s : Shared} {vs : List Value} {Q : Value → Shared → Prop} (id : String) (h : wpAny M A (call (.builtin id) vs) Q E s) : wpAny M A (call (.builtin id) vs) Q E s := h
theorem news_made {G h h' : Heap} {L D : Addr} {o : Obj} {m : Str → Option Value} {news : List (Addr × Obj)} (F : Fr G L h m) (N : News G L h' news) (hob : h'.get? D = some o) (hsz : h.objs.size ≤ D) : News G L h' ((D, o) :: news) := by
  have hL : L < D := Nat.lt_of_lt_of_le F.ns.lt hsz
  intro p hp
  rcases List.mem_cons.mp hp with rfl | hp
  · exact ⟨hob, Nat.ne_of_gt hL, Heap.get?_none_of_le (Nat.le_trans F.above (Nat.le_of_lt hL))⟩
  · exact N p hp
theorem news_lt {G h : Heap} {L D : Addr} {news : List (Addr × Obj)} (N : News G L h news) (hsz : h.objs.size ≤ D) : ∀ p ∈ news, p.1 < D := fun p hp => Nat.lt_of_lt_of_le (Heap.lt_size (N p hp).1) hsz
theorem mark_tcall {M : Model} {A : Around} {E : Value → Shared → Prop} {s : Shared} {vs : List Value} {Q : Value → Shared → Prop} (id : String) (h : wpAny M A (call (.type id) vs) Q E s) : wpAny M A (call (.type id) vs) Q E s := h
theorem mark_badd {M : Model} {A : Around} {E : Value → Shared → Prop} {s : Shared} {b c : Array UInt8} {t u : Tok} {Q : Value → Shared → Prop} (h : wpAny M A (binaryOp .Add (.bytes b t) (.bytes c u)) Q E s) : wpAny M A (binaryOp .Add (.bytes b t) (.bytes c u)) Q E s := h
theorem mark_note {M : Model} {A : Around} {E : Value → Shared → Prop} {s : Shared} {v : Value} {env : Env} {Q : Unit → Shared → Prop} (h : wpAny M A (noteFrame v env) Q E s) : wpAny M A (noteFrame v env) Q E s := h
theorem mark_cw {M : Model} {A : Around} {E : Value → Shared → Prop} {s : Shared} {pos : Pos} {q : Addr} {f : List Value} {args : List (Bool × Sem Value)} {kw : List (Option Str × Sem Value)} {Q : Value → Shared → Prop} (h : wpAny M A (callWith pos (.ref q) f args kw) Q E s) : wpAny M A (callWith pos (.ref q) f args kw) Q E s := h
end Mine
end
section
open PySem PySem.W PySem.Calls PyProof.Rows
namespace Mine
section
variable {prog : Program} {w : World} {A₀ : Around} {E : Value → Shared → Prop} {s' : Shared} {G h : Heap} {outer : List Env} {L a e : Addr} {m : Str → Option Value} {name : Str} {scope : Scope} {cd : Value} {cl : List (Str × Addr)}
  {b₀ : Stmt} {suite : List Stmt} {pos np : Pos} {rest : List ExceptHandler} {Q : Flow → Shared → Prop} {news : List (Addr × Obj)} {KF : Frag}
  {p : Program} {loose : List Str} {mean : ExcName → Option Value} {mg mb : Str → Option Value} {x : Str} {X T' : String}
/-- except X: the exception came out of a call; the frame has cells -/
theorem caughtX_B (hA : A₀.frames = some []) (F : Fr G L h m) (N : News G L h news) (R : Flies h G [envX name scope L a cd cl] e (.type X) s'.heap)
    (XX : KF.In G) (T : TopRead p loose mg mb G) (ex : nsIn KF mainGlobals x = some none) (hv : bootBuiltins x = some (.type T')) (hn : x ≠ "__name__")
    (hexc : isSubtype (.type T') (.type "BaseException") = pure true) (hnt : isSubtype (.type ((Manifest.find? T').elim "type" fun y => y.metatype)) (.type "tuple") = pure false) (hsub : isSubtype (.type X) (.type T') = pure true)
    (k : ∀ h', Fr G L h' m → News G L h' news →
      wpAny (model prog w) ((A₀.deeper (envX name scope L a cd cl)).mark (some (.ref e))) (execs (b₀ :: suite) (envX name scope L a cd cl)) Q E { s' with heap := h' })
    (hk : scope.kind = .function := by rfl) (hx : (envX name scope L a cd cl).kindOf x = some .globalImplicit := by rfl) (hd : (x == ("__debug__" : Str)) = false := by decide)
    (hE : PassesOwnAt (model prog w) ((A₀.deeper (envX name scope L a cd cl)).mark (some (.ref e))) (A₀.deeper (envX name scope L a cd cl)) (envX name scope L a cd cl) E := by passes_own) :
    wpAny (model prog w) (A₀.deeper (envX name scope L a cd cl)) (noteFrame (.ref e) (envX name scope L a cd cl))
      (fun _ s₂ => wpAny (model prog w) (A₀.deeper (envX name scope L a cd cl)) (setFlight (.ref e) none) (fun _ s₃ =>
        wpAny (model prog w) (A₀.deeper (envX name scope L a cd cl)) (handleBy (.ref e) (envX name scope L a cd cl) (.ExceptHandler (some (.Name x np)) none (b₀ :: suite) pos :: rest)) Q E s₃) E s₂) E s' := by
  obtain ⟨B, a0, hB, hkp, hfl, hsm⟩ := R
  have hL : B.get? L = none := by
    obtain ⟨_, ⟨L', _, hf, hn', _⟩, _⟩ := hfl.2.2.1
    obtain rfl : L = L' := Option.some.inj hf
    exact hn'
  have hl : ∀ q ∈ news, B.get? q.1 = some q.2 := fun q hq => hkp _ _ (N q hq).1 fun hm => by
    obtain ⟨env, he, hf⟩ := List.mem_filterMap.mp hm
    rw [List.mem_singleton.mp he] at hf
    exact (N q hq).2.1 (Option.some.inj hf).symm
  refine wpAny_looks_onW (Around.frames_deeper hA) rfl hfl fun h₄ hheld₄ hsm₄ => ?_
  refine wpAny_landsW hheld₄ fun h₅ hheld hsm₅' => ?_
  have hsm₅ := hsm₄.trans hsm₅'
  have hheld' := flyingW_base hB hheld
  have F₅ := F.of_stays hheld'.1 (hsm.trans hsm₅)
  obtain ⟨ob, hob, hobc⟩ := hheld'.there
  refine wpAny_handleBy_builtin (X := X) (T := T') (b := true) hexc hnt hsub (nameX_B F₅ XX T ex hv hn ⟨rfl, ⟨ob, hob, hobc⟩, ?_⟩ hk hx hd)
  refine lands_againW hheld fun h₆ hfl₆ hsm₆ => ?_
  have F₆ := F.of_stays (flyingW_base hB hfl₆).1 ((hsm.trans hsm₅).trans hsm₆)
  exact wpAny_passesOwnAt hE (k h₆ F₆ fun q hq => ⟨hfl₆.1 _ _ (hl q hq), (fun z => by have := hl q hq; rw [z, hL] at this; cases this), (N q hq).2.2⟩)
/-- except C, C a class of one's own -/
theorem caughtX_O {C Nn : Addr} {nm q : Str} {bs bm : List Value} {hdct : Bool} {sn : List Str} {sub : List Value} {ab : Bool} {col : Option Bool} {dd : Option Addr} {k0 k1 k2 k3 k5 : Option Value} {newId : String}
    (hA : A₀.frames = some []) (F : Fr G L h m) (N : News G L h news) (R : Flies h G [envX name scope L a cd cl] e (.ref C) s'.heap)
    (XX : KF.In G) (T : TopRead p loose mg mb G) (ex : nsIn KF mainGlobals x = some (some (.ref C))) (hC : G.get? C = some (excClassObj nm q C Nn bs bm hdct sn sub ab col dd k0 k1 k2 k3 k5 newId)) (hbase : bm.contains (.type "BaseException") = true)
    (k : ∀ h', Fr G L h' m → News G L h' news →
      wpAny (model prog w) ((A₀.deeper (envX name scope L a cd cl)).mark (some (.ref e))) (execs (b₀ :: suite) (envX name scope L a cd cl)) Q E { s' with heap := h' })
    (hk : scope.kind = .function := by rfl) (hx : (envX name scope L a cd cl).kindOf x = some .globalImplicit := by rfl) (hd : (x == ("__debug__" : Str)) = false := by decide)
    (hE : PassesOwnAt (model prog w) ((A₀.deeper (envX name scope L a cd cl)).mark (some (.ref e))) (A₀.deeper (envX name scope L a cd cl)) (envX name scope L a cd cl) E := by passes_own) :
    wpAny (model prog w) (A₀.deeper (envX name scope L a cd cl)) (noteFrame (.ref e) (envX name scope L a cd cl))
      (fun _ s₂ => wpAny (model prog w) (A₀.deeper (envX name scope L a cd cl)) (setFlight (.ref e) none) (fun _ s₃ =>
        wpAny (model prog w) (A₀.deeper (envX name scope L a cd cl)) (handleBy (.ref e) (envX name scope L a cd cl) (.ExceptHandler (some (.Name x np)) none (b₀ :: suite) pos :: rest)) Q E s₃) E s₂) E s' := by
  obtain ⟨B, a0, hB, hkp, hfl, hsm⟩ := R
  have hL : B.get? L = none := by
    obtain ⟨_, ⟨L', _, hf, hn', _⟩, _⟩ := hfl.2.2.1
    obtain rfl : L = L' := Option.some.inj hf
    exact hn'
  have hl : ∀ q ∈ news, B.get? q.1 = some q.2 := fun q hq => hkp _ _ (N q hq).1 fun hm => by
    obtain ⟨env, he, hf⟩ := List.mem_filterMap.mp hm
    rw [List.mem_singleton.mp he] at hf
    exact (N q hq).2.1 (Option.some.inj hf).symm
  refine wpAny_looks_onW (Around.frames_deeper hA) rfl hfl fun h₄ hheld₄ hsm₄ => ?_
  refine wpAny_landsW hheld₄ fun h₅ hheld hsm₅' => ?_
  have hsm₅ := hsm₄.trans hsm₅'
  have hheld' := flyingW_base hB hheld
  have F₅ := F.of_stays hheld'.1 (hsm.trans hsm₅)
  obtain ⟨ob, hob, hobc⟩ := hheld'.there
  refine wpAny_handleBy_cons (codeAny_handlers_test (nameX_K F₅ XX T ex ?_ hk hx hd)) (by intro q; cases q)
  refine wpAny_excMatches_sub_self (F₅.keep _ _ hC) hob hobc hbase (codeAny_handlers_suite ?_)
  refine lands_againW hheld fun h₆ hfl₆ hsm₆ => ?_
  have F₆ := F.of_stays (flyingW_base hB hfl₆).1 ((hsm.trans hsm₅).trans hsm₆)
  exact wpAny_passesOwnAt hE (k h₆ F₆ fun q hq => ⟨hfl₆.1 _ _ (hl q hq), (fun z => by have := hl q hq; rw [z, hL] at this; cases this), (N q hq).2.2⟩)
/-- except X, in a frame that is not the lowest: what stands of the heap is told by the heap itself -/
theorem caught_mid (hA : A₀.frames = some outer) (F : Fr G L h m) (R : Flies h G (envX name scope L a cd cl :: outer) e (.type X) s'.heap)
    (XX : KF.In G) (T : TopRead p loose mg mb G) (ex : nsIn KF mainGlobals x = some none) (hv : bootBuiltins x = some (.type T')) (hn : x ≠ "__name__")
    (hexc : isSubtype (.type T') (.type "BaseException") = pure true) (hnt : isSubtype (.type ((Manifest.find? T').elim "type" fun y => y.metatype)) (.type "tuple") = pure false) (hsub : isSubtype (.type X) (.type T') = pure true)
    (k : ∀ h', Fr G L h' m → (∀ b o, h.get? b = some o → b ∉ (envX name scope L a cd cl :: outer).filterMap (·.frame) → h'.get? b = some o) → G.StaysIn h' → h.UpToSlots h' →
      wpAny (model prog w) ((A₀.deeper (envX name scope L a cd cl)).mark (some (.ref e))) (execs (b₀ :: suite) (envX name scope L a cd cl)) Q E { s' with heap := h' })
    (hk : scope.kind = .function := by rfl) (hx : (envX name scope L a cd cl).kindOf x = some .globalImplicit := by rfl) (hd : (x == ("__debug__" : Str)) = false := by decide)
    (hE : PassesOwnAt (model prog w) ((A₀.deeper (envX name scope L a cd cl)).mark (some (.ref e))) (A₀.deeper (envX name scope L a cd cl)) (envX name scope L a cd cl) E := by passes_own) :
    wpAny (model prog w) (A₀.deeper (envX name scope L a cd cl)) (noteFrame (.ref e) (envX name scope L a cd cl))
      (fun _ s₂ => wpAny (model prog w) (A₀.deeper (envX name scope L a cd cl)) (setFlight (.ref e) none) (fun _ s₃ =>
        wpAny (model prog w) (A₀.deeper (envX name scope L a cd cl)) (handleBy (.ref e) (envX name scope L a cd cl) (.ExceptHandler (some (.Name x np)) none (b₀ :: suite) pos :: rest)) Q E s₃) E s₂) E s' := by
  obtain ⟨B, a0, hB, hkp, hfl, hsm⟩ := R
  refine wpAny_looks_onW (Around.frames_deeper hA) rfl hfl fun h₄ hheld₄ hsm₄ => ?_
  refine wpAny_landsW hheld₄ fun h₅ hheld hsm₅' => ?_
  have hsm₅ := hsm₄.trans hsm₅'
  have hheld' := flyingW_base hB hheld
  have F₅ := F.of_stays hheld'.1 (hsm.trans hsm₅)
  obtain ⟨ob, hob, hobc⟩ := hheld'.there
  refine wpAny_handleBy_builtin (X := X) (T := T') (b := true) hexc hnt hsub (nameX_B F₅ XX T ex hv hn ⟨rfl, ⟨ob, hob, hobc⟩, ?_⟩ hk hx hd)
  refine lands_againW hheld fun h₆ hfl₆ hsm₆ => ?_
  have hS := (flyingW_base hB hfl₆).1
  have U := (hsm.trans hsm₅).trans hsm₆
  exact wpAny_passesOwnAt hE (k h₆ (F.of_stays hS U) (fun b o q hb => hfl₆.1 _ _ (hkp b o q hb)) hS U)
end
end Mine
end
section
open PySem PySem.W PySem.Calls PyProof.Rows Builtin
namespace Mine
theorem slot_bytes_lt : Slot "bytes" (cmpInfo .Lt).2.1 "bytes.__lt__" :=
  .of (owner := "bytes") (n := "__lt__") (by rw [typeLookup_type, builtinLookup_eq_fast]; kernel_rfl) (by decide +kernel) (by decide +kernel) (by decide +kernel)
    (by first | exact .inl (by decide +kernel) | exact .inr (by decide +kernel)) (by rw [isSubtype_type]; kernel_rfl)
theorem slot_bytes_gt : Slot "bytes" (cmpInfo .Gt).2.1 "bytes.__gt__" :=
  .of (owner := "bytes") (n := "__gt__") (by rw [typeLookup_type, builtinLookup_eq_fast]; kernel_rfl) (by decide +kernel) (by decide +kernel) (by decide +kernel)
    (by first | exact .inl (by decide +kernel) | exact .inr (by decide +kernel)) (by rw [isSubtype_type]; kernel_rfl)
theorem entry_bytes_lt : entryFor table "bytes.__lt__" = some Builtin.«bytes.__lt__» := entryFor_of_tree (by kernel_rfl)
theorem entry_bytes_gt : entryFor table "bytes.__gt__" = some Builtin.«bytes.__gt__» := entryFor_of_tree (by kernel_rfl)
theorem args_bytes_lt (a b : Value) : argsOk "bytes.__lt__" ⟨[a, b], []⟩ := by unfold argsOk; kernel_rfl
theorem args_bytes_gt (a b : Value) : argsOk "bytes.__gt__" ⟨[a, b], []⟩ := by unfold argsOk; kernel_rfl
theorem gives_bytes_lt (b c : Array UInt8) (t u : Tok) : Gives («bytes.__lt__» ⟨[.bytes b t, .bytes c u], []⟩) (.val (.bool (Bytes.order b.toList c.toList == .lt))) := by
  refine .of_wp fun M A E s Q hq => ?_
  show wpAny M A (isInstance (.bytes c u) (.type "bytes") >>= fun r => _) _ E s
  refine wpAny_bind (wpAny_isInstance (W.typeIs_bytes s c u) F.sub_bytes_bytes ?_)
  exact wpAny_pure ⟨_, rfl, hq⟩
theorem gives_bytes_gt (b c : Array UInt8) (t u : Tok) : Gives («bytes.__gt__» ⟨[.bytes b t, .bytes c u], []⟩) (.val (.bool (Bytes.order b.toList c.toList == .gt))) := by
  refine .of_wp fun M A E s Q hq => ?_
  show wpAny M A (isInstance (.bytes c u) (.type "bytes") >>= fun r => _) _ E s
  refine wpAny_bind (wpAny_isInstance (W.typeIs_bytes s c u) F.sub_bytes_bytes ?_)
  exact wpAny_pure ⟨_, rfl, hq⟩
section
variable {prog : Program} {w : World} {A : Around} {E : Value → Shared → Prop} {s : Shared} {b c : Array UInt8} {t u : Tok}
theorem lt_bytes {Q : Value → Shared → Prop} (h : Q (.bool (Bytes.order b.toList c.toList == .lt)) s) : wpAny (model prog w) A (compareOp .Lt (.bytes b t) (.bytes c u)) Q E s :=
  compareOp_gives (op := .Lt) (W.typeIs_bytes s b t) (W.typeIs_bytes s c u) slot_bytes_lt entry_bytes_lt (args_bytes_lt _ _) (gives_bytes_lt b c t u) (fun e => nomatch e) h
theorem gt_bytes {Q : Value → Shared → Prop} (h : Q (.bool (Bytes.order b.toList c.toList == .gt)) s) : wpAny (model prog w) A (compareOp .Gt (.bytes b t) (.bytes c u)) Q E s :=
  compareOp_gives (op := .Gt) (W.typeIs_bytes s b t) (W.typeIs_bytes s c u) slot_bytes_gt entry_bytes_gt (args_bytes_gt _ _) (gives_bytes_gt b c t u) (fun e => nomatch e) h
end
end Mine
namespace Mine
theorem ord_eq : ∀ a b : List UInt8, Bytes.order a b = .eq → a = b
  | [], [], _ => rfl
  | [], _ :: _, h => nomatch h
  | _ :: _, [], h => nomatch h
  | x :: a, y :: b, h => by
    simp only [Bytes.order] at h
    split at h
    · cases h
    · split at h
      · cases h
      · rename_i h1 h2
        have : x = y := UInt8.le_antisymm (UInt8.not_lt.mp h2) (UInt8.not_lt.mp h1)
        rw [this, ord_eq a b h]
theorem ord_self : ∀ a : List UInt8, Bytes.order a a = .eq
  | [] => rfl
  | x :: a => by simp only [Bytes.order]; rw [if_neg (UInt8.lt_irrefl x), if_neg (UInt8.lt_irrefl x)]; exact ord_self a
theorem ord_swap : ∀ a b : List UInt8, Bytes.order a b = .lt → Bytes.order b a = .gt
  | [], [], h => nomatch h
  | [], _ :: _, _ => rfl
  | _ :: _, [], h => nomatch h
  | x :: a, y :: b, h => by
    simp only [Bytes.order] at h ⊢
    by_cases h1 : x < y
    · rw [if_neg (UInt8.lt_asymm h1), if_pos h1]
    · rw [if_neg h1] at h
      by_cases h2 : x > y
      · rw [if_pos h2] at h; cases h
      · rw [if_neg h2] at h
        rw [if_neg h2, if_neg h1]
        exact ord_swap a b h
theorem ord_swap' : ∀ a b : List UInt8, Bytes.order a b = .gt → Bytes.order b a = .lt
  | [], [], h => nomatch h
  | [], _ :: _, h => nomatch h
  | _ :: _, [], _ => rfl
  | x :: a, y :: b, h => by
    simp only [Bytes.order] at h ⊢
    by_cases h1 : x < y
    · rw [if_pos h1] at h; cases h
    · rw [if_neg h1] at h
      by_cases h2 : x > y
      · rw [if_pos h2]
      · rw [if_neg h2] at h
        rw [if_neg h2, if_neg h1]
        exact ord_swap' a b h
theorem ord_trans : ∀ a b c : List UInt8, Bytes.order a b = .lt → Bytes.order b c = .lt → Bytes.order a c = .lt
  | [], [], _, h, _ => nomatch h
  | [], _ :: _, [], _, h => nomatch h
  | [], _ :: _, _ :: _, _, _ => rfl
  | _ :: _, [], _, h, _ => nomatch h
  | _ :: _, _ :: _, [], _, h => nomatch h
  | x :: a, y :: b, z :: c, h, g => by
    simp only [Bytes.order] at h g ⊢
    by_cases h1 : x < y
    · by_cases g1 : y < z
      · rw [if_pos (UInt8.lt_trans h1 g1)]
      · rw [if_neg g1] at g
        by_cases g2 : y > z
        · rw [if_pos g2] at g; cases g
        · have e : y = z := UInt8.le_antisymm (UInt8.not_lt.mp g2) (UInt8.not_lt.mp g1)
          rw [← e, if_pos h1]
    · rw [if_neg h1] at h
      by_cases h2 : x > y
      · rw [if_pos h2] at h; cases h
      · rw [if_neg h2] at h
        have e : x = y := UInt8.le_antisymm (UInt8.not_lt.mp h2) (UInt8.not_lt.mp h1)
        rw [e]
        by_cases g1 : y < z
        · rw [if_pos g1]
        · rw [if_neg g1] at g ⊢
          by_cases g2 : y > z
          · rw [if_pos g2] at g; cases g
          · rw [if_neg g2] at g ⊢
            exact ord_trans a b c h g
/-- the names, strictly rising -/
def Rising (bs : List (Array UInt8)) : Prop := ∀ i j, i < j → j < bs.length → Bytes.order (bs.getD i #[]).toList (bs.getD j #[]).toList = .lt
end Mine
end
section
open PySem PySem.W PySem.Calls PyProof.Rows
namespace Mine
/-! a set of bytes: its keys, and how its table is kept -/
abbrev setObj (es : Array (Int × Value)) (ep : Nat) (t : SetTable) : Obj := { cls := .type "set", dict := none, data := .set es ep t, slots := #[] }
def keyB (e : Int × Value) : List UInt8 := match e.2 with | .bytes b _ => b.toList | _ => []
def EntB (P : Params) (e : Int × Value) : Prop := ∃ (k : List UInt8) (t : Tok), e = (hashW P (.bytes k), .bytes k.toArray t)
def SetB (w : World) (h : Heap) (a : Addr) (ks : List (List UInt8)) (led : Bool) : Prop :=
  ∃ es ep t, h.get? a = some (setObj es ep t) ∧ (∀ e ∈ es.toList, EntB w.params e) ∧ (es.toList.map keyB).Perm ks ∧ es.size < scanBound ∧ t.fits es.size = true ∧ t.led = led ∧ (ks ≠ [] → t.plain = false)

theorem put_led (t : SetTable) (j : Nat) : (t.put j).1.led = t.led ∧ (t.put j).1.plain = t.plain := ⟨rfl, rfl⟩
theorem orStandIn_led (t : SetTable) (n : Nat) : (t.orStandIn n).led = t.led := by unfold SetTable.orStandIn; split <;> rfl
theorem orStandIn_plain (t : SetTable) (n : Nat) (h : t.plain = false) : (t.orStandIn n).plain = false := by unfold SetTable.orStandIn; split <;> first | exact h | rfl
theorem layNew_led (t : SetTable) (es : Array (Int × Value)) (h : Int) (x : Value) : (layNew t es h x).2.1.led = t.led := by
  unfold layNew
  split
  · exact (orStandIn_led _ _).trans (put_led t _).1
  · rfl
theorem layNew_plain (t : SetTable) (es : Array (Int × Value)) (h : Int) (x : Value) (hp : t.plain = false) : (layNew t es h x).2.1.plain = false := by
  unfold layNew
  split
  · exact orStandIn_plain _ _ ((put_led t _).2.trans hp)
  · rfl
theorem relaid_led {t t' : SetTable} {hs : Array Int} {n : Nat} {o : Array Nat} (h : t.relaid hs n = some (t', o)) : t'.led = t.led ∧ t'.plain = t.plain := by
  unfold SetTable.relaid SetTable.laid at h
  simp only [Option.bind_eq_bind, Option.bind_eq_some_iff, Option.pure_def, Option.some.injEq, Prod.mk.injEq] at h
  obtain ⟨_, _, e, _⟩ := h
  rw [← e]; exact ⟨rfl, rfl⟩
theorem relayAll_led (t : SetTable) (es : Array (Int × Value)) (n : Nat) : (relayAll t es n).2.1.led = t.led := by
  unfold relayAll
  split
  · rename_i h
    dsimp only
    split
    · exact (relaid_led h).1
    · rfl
  · rfl
theorem relayAll_plain (t : SetTable) (es : Array (Int × Value)) (n : Nat) (hp : t.plain = false) : (relayAll t es n).2.1.plain = false := by
  unfold relayAll
  split
  · rename_i h
    dsimp only
    split
    · rw [(relaid_led h).2]; exact hp
    · rfl
  · rfl

section
variable {prog : Program} {w : World} {A : Around} {E : Value → Shared → Prop} {s : Shared} {a : Addr} {led : Bool} {ks : List (List UInt8)}
theorem ents_elems {es : List (Int × Value)} (h : ∀ e ∈ es, EntB w.params e) : ElemsOf (bytesKind prog w) es := fun e he => by
  obtain ⟨k, t, rfl⟩ := h e he
  exact ⟨⟨k, bytesKind_is prog w k t, rfl⟩, rfl⟩
theorem store_setB {h : Heap} {es : Array (Int × Value)} {ep : Nat} {t : SetTable} (es' : Array (Int × Value)) (t' : SetTable) (ho : h.get? a = some (setObj es ep t)) :
    (h.update a (Obj.putSet es' t')).get? a = some (setObj es' (ep + 1) t') := by
  have := Heap.get?_update_self (Obj.putSet es' t') ho (by rw [putSet_of es' t' (rfl : (setObj es ep t).data = .set es ep t)]; rfl)
  rw [putSet_of es' t' (rfl : (setObj es ep t).data = .set es ep t)] at this; exact this

theorem addTailB {g : Bool → Sem Unit} (hg : ∀ (b : Bool) (s₁ : Shared) (Q' : Unit → Shared → Prop), Q' () s₁ → wpAny (model prog w) A (g b) Q' E s₁)
    {es : Array (Int × Value)} {ep : Nat} {t : SetTable} (ho : s.heap.get? a = some (setObj es ep t))
    {es1 : Array (Int × Value)} {t2 : SetTable} (hel1 : ∀ e ∈ es1.toList, EntB w.params e) (hp1 : (es1.toList.map keyB).Perm ks) (hb1 : es1.size < scanBound) (hf2 : t2.fits es1.size = true) (hl2 : t2.led = led) (hpl : t2.plain = false)
    {wasDummy : Bool} {R : Option Bool → Shared → Prop} (h : ∀ h', Heap.SameBut a s.heap h' → SetB w h' a ks led → R (some true) { s with heap := h' }) :
    wpAny (model prog w) A (do
        storeSet a es1 t2
        if (!wasDummy && t2.tooFull) = true then do
            g (relayAll t2 es1 (SetTable.grown es1.size)).2.2
            storeSet a (relayAll t2 es1 (SetTable.grown es1.size)).1 (relayAll t2 es1 (SetTable.grown es1.size)).2.1
            pure (some true)
          else pure (some true)) R E s := by
  refine wpAny_bind (wpAny_storeSet_of ho rfl ?_ (fits_of_scanBound hb1))
  have ho1 := store_setB es1 t2 ho
  have hsb1 := Heap.SameBut.update s.heap a (Obj.putSet es1 t2)
  split
  · have hp := relayAll_perm t2 es1 (SetTable.grown es1.size)
    have hfr := relayAll_fits t2 es1 (SetTable.grown es1.size)
    have hlr := relayAll_led t2 es1 (SetTable.grown es1.size)
    have hpr := relayAll_plain t2 es1 (SetTable.grown es1.size) hpl
    generalize hRl : relayAll t2 es1 (SetTable.grown es1.size) = Rl at hp hfr hlr hpr ⊢
    obtain ⟨es2, t3, gave2⟩ := Rl
    dsimp only at hp hfr hlr hpr ⊢
    have hsz : es2.size = es1.size := by rw [← Array.length_toList, hp.length_eq, Array.length_toList]
    have hb2 : es2.size < scanBound := by rw [hsz]; exact hb1
    refine wpAny_bind (hg _ _ _ ?_)
    refine wpAny_bind (wpAny_storeSet_of ho1 rfl ?_ (fits_of_scanBound hb2))
    exact wpAny_pure (h _ (hsb1.trans (Heap.SameBut.update _ a _)) ⟨es2, _, t3, store_setB es2 t3 ho1, fun e he => hel1 e (hp.mem_iff.mp he), (hp.map _).trans hp1, hb2, hfr, hlr.trans hl2, fun _ => hpr⟩)
  · exact wpAny_pure (h _ hsb1 ⟨es1, _, t2, ho1, hel1, hp1, hb1, hf2, hl2, fun _ => hpl⟩)

theorem add_bytes {Q : Bool → Shared → Prop} {k : List UInt8} {t0 : Tok} (hS : SetB w s.heap a ks led) (hroom : ks.length + 1 < scanBound)
    (h : ∀ b h', Heap.SameBut a s.heap h' → SetB w h' a (if ks.contains k then ks else ks ++ [k]) led → Q b { s with heap := h' }) :
    wpAny (model prog w) A (setAddHashed a (.bytes k.toArray t0) (hashW w.params (.bytes k))) Q E s := by
  obtain ⟨es, ep, t, ho, hel, hpm, hb, hf, hl, hpl⟩ := hS
  have hkey := bytesKind_is prog w k t0
  have hn : es.size = ks.length := by rw [← hpm.length_eq]; simp
  have hb1 : es.size + 1 < scanBound := by rw [hn]; exact hroom
  have hE := ents_elems (prog := prog) hel
  unfold setAddHashed setAddHashedIn
  refine wpAny_holding (wpAny_bind (wpAny_setState_of ho rfl hf ?_))
  dsimp only
  rw [byScan_of (knd := bytesKind prog w) rfl hb hE]
  simp only [↓reduceIte]
  unfold setAddByScan
  refine wpAny_bind ?_
  refine wpAny_bind (wpAny_rule ?_)
  refine wpAny_bind (wpAny_setScan_of (knd := bytesKind prog w) (k := k) hkey ho rfl hf hE ?_)
  have hmem : ks.contains k = true ↔ ∃ e ∈ es.toList, (bytesKind prog w).is k e.2 = true := by
    rw [List.contains_iff_mem, ← hpm.mem_iff, List.mem_map]
    constructor
    · rintro ⟨e, he, rfl⟩
      obtain ⟨k', t', rfl⟩ := hel e he
      exact ⟨_, he, by simpa [keyB] using bytesKind_is prog w k' t'⟩
    · rintro ⟨e, he, hk⟩
      obtain ⟨k', t', rfl⟩ := hel e he
      refine ⟨_, he, ?_⟩
      have := (bytesKind prog w).inj _ _ _ hk (bytesKind_is prog w k' t')
      simp [keyB, this]
  cases hr : List.findIdx? (fun e => (bytesKind prog w).is k e.2) es.toList with
  | some j =>
    dsimp only
    obtain ⟨hj, hpj, _⟩ := List.findIdx?_eq_some_iff_getElem.mp hr
    have hSk : ks.contains k = true := hmem.mpr ⟨es.toList[j], List.getElem_mem hj, hpj⟩
    refine wpAny_pure (wpAny_pure ?_)
    have e : s = { s with heap := s.heap } := by cases s; rfl
    rw [e]
    refine h _ s.heap (Heap.SameBut.refl a s.heap) ?_
    rw [if_pos hSk]
    exact ⟨es, ep, t, ho, hel, hpm, hb, hf, hl, hpl⟩
  | none =>
    dsimp only
    have hSk : ¬ ks.contains k = true := fun hk => by
      obtain ⟨e, he, hp⟩ := hmem.mp hk; have := List.findIdx?_eq_none_iff.mp hr e he; rw [hp] at this; exact Bool.noConfusion this
    rw [if_neg hSk] at h
    have hgw : ∀ (b : Bool) {s₁ : Shared} {Q' : Unit → Shared → Prop}, Q' () s₁ → wpAny (model prog w) A (match b with | true => rule "set.scan.the-table-gave-way" | false => pure ()) Q' E s₁ :=
      fun b s₁ Q' hq => by cases b <;> first | exact wpAny_pure hq | exact wpAny_rule hq
    have hperm := layNew_perm t es (hashW w.params (.bytes k)) (.bytes k.toArray t0)
    have hfits := layNew_fits t es (hashW w.params (.bytes k)) (.bytes k.toArray t0)
    have hled := layNew_led t es (hashW w.params (.bytes k)) (.bytes k.toArray t0)
    have hplain := layNew_plain t es (hashW w.params (.bytes k)) (.bytes k.toArray t0)
    generalize hL : layNew t es (hashW w.params (.bytes k)) (.bytes k.toArray t0) = L at hperm hfits hled hplain ⊢
    obtain ⟨es1, t1, wasDummy, gave⟩ := L
    dsimp only at hperm hfits hled hplain ⊢
    rw [Array.toList_push] at hperm
    have hel1 : ∀ e ∈ es1.toList, EntB w.params e := fun e he => by
      rcases List.mem_append.mp (hperm.mem_iff.mp he) with he | he
      · exact hel e he
      · rw [List.mem_singleton] at he; subst he; exact ⟨k, t0, rfl⟩
    have hp1 : (es1.toList.map keyB).Perm (ks ++ [k]) := by
      refine (hperm.map keyB).trans ?_
      rw [List.map_append]
      exact List.Perm.append hpm (by simp [keyB])
    have hb1' : es1.size < scanBound := by rw [← Array.length_toList, hperm.length_eq, List.length_append, Array.length_toList]; simpa using hb1
    refine wpAny_bind (hgw _ ?_)
    split
    · refine wpAny_bind ?_
      rw [hashByValue_scannable 8 rfl]
      refine wpAny_pure ?_
      refine addTailB (ks := ks ++ [k]) (led := led) ?_ ho hel1 hp1 hb1' ?_ ?_ ?_ ?_
      · intro b s₁ Q' hq; cases b <;> first | exact wpAny_pure hq | exact wpAny_rule hq
      · exact SetTable.fits_plain_off hfits
      · exact hled.trans hl
      · rfl
      · intro h' hsb hS'; dsimp only; exact wpAny_pure (h _ h' hsb hS')
    · rename_i hpf
      refine wpAny_bind (wpAny_pure ?_)
      simp only [↓reduceIte]
      refine addTailB (ks := ks ++ [k]) (led := led) ?_ ho hel1 hp1 hb1' hfits (hled.trans hl) ?_ ?_
      · intro b s₁ Q' hq; cases b <;> first | exact wpAny_pure hq | exact wpAny_rule hq
      · exact Bool.eq_false_iff.mpr hpf
      · intro h' hsb hS'; dsimp only; exact wpAny_pure (h _ h' hsb hS')
end
end Mine
namespace Mine
/-- the keys met first, in their order -/
def firstB (val : Nat → List UInt8) : Nat → List (List UInt8)
  | 0 => []
  | i + 1 => if (firstB val i).contains (val i) then firstB val i else firstB val i ++ [val i]
theorem firstB_len (val : Nat → List UInt8) : ∀ i, (firstB val i).length ≤ i
  | 0 => Nat.le_refl _
  | i + 1 => by
    have ih := firstB_len val i
    unfold firstB
    split
    · omega
    · rw [List.length_append, List.length_singleton]; omega
theorem firstB_has (val : Nat → List UInt8) (i : Nat) (k : List UInt8) : (firstB val (i + 1)).contains k = ((firstB val i).contains k || decide (k = val i)) := by
  have e : firstB val (i + 1) = if (firstB val i).contains (val i) then firstB val i else firstB val i ++ [val i] := rfl
  rw [e]
  by_cases h : (firstB val i).contains (val i) = true
  · rw [if_pos h]
    by_cases q : k = val i
    · subst q; rw [h]; simp
    · simp [q]
  · rw [if_neg h]
    by_cases q : k = val i
    · simp [q]
    · simp [q]
theorem firstB_size (val : Nat → List UInt8) (i : Nat) : (firstB val (i + 1)).length = if (firstB val i).contains (val i) then (firstB val i).length else (firstB val i).length + 1 := by
  have e : firstB val (i + 1) = if (firstB val i).contains (val i) then firstB val i else firstB val i ++ [val i] := rfl
  rw [e]; split <;> simp
theorem firstB_nodup (val : Nat → List UInt8) : ∀ i, (firstB val i).Nodup
  | 0 => List.nodup_nil
  | i + 1 => by
    have ih := firstB_nodup val i
    unfold firstB
    split
    · exact ih
    · rename_i h
      rw [List.nodup_append]
      refine ⟨ih, by simp, fun a ha b hb => ?_⟩
      rw [List.mem_singleton] at hb
      subst hb
      rintro rfl
      exact h (List.contains_iff_mem.mpr ha)
theorem SetB.frame {w : World} {h h' : Heap} {a : Addr} {ks : List (List UInt8)} {led : Bool} (x : SetB w h a ks led) (e : ∀ o, h.get? a = some o → h'.get? a = some o) : SetB w h' a ks led :=
  let ⟨es, ep, t, ho, r⟩ := x; ⟨es, ep, t, e _ ho, r⟩
section
variable {prog : Program} {w : World} {A : Around} {R : Result → Shared → Prop} {I : Addr} {fp wr : List Addr} {G : Array GenState → Array GenState → Prop} {n : Nat} {P : Nat → Value → Prop} {St : Nat → Shared → Prop}
/-- set.update over bytes -/
theorem set_loop_bytes (W : WalksS prog w A.in1 I fp wr G n P St) (S : Addr) (hSf : S ∉ fp) (led : Bool)
    (val : Nat → List UInt8) (hval : ∀ i v, P i v → ∃ t, v = .bytes (val i).toArray t) (hb : n + 1 < scanBound) :
    ∀ (k i : Nat) (s : Shared), n - i = k → i ≤ n → St i s → SetB w s.heap S (firstB val i) led →
      (∀ s', Moved (S :: wr) G s s' → SetB w s'.heap S (firstB val n) led → R (.ok (.ret .none)) s') →
      codeAny (model prog w) A (.builtin "set.update.loop" ⟨[.ref S, .ref I], []⟩) R s := by
  have hSw : S ∉ wr := fun h => hSf (W.sub _ h)
  have hsub : ∀ b ∈ wr, b ∈ S :: wr := fun b hb => List.mem_cons_of_mem _ hb
  intro k
  induction k with
  | zero =>
    intro i s hk hi hst hS hR
    obtain rfl : i = n := by omega
    refine codeAny_builtin F.entry_set_update_loop ?_
    rw [Around.under_plainId F.plain_set_update_loop _]
    show wpAny _ A.in1 (pyNext (.ref I) >>= _) _ _ s
    refine wpAny_bind (W.done s _ _ hst fun s' hm => ?_)
    show wpAny _ A.in1 (ret Value.none) _ _ s'
    exact wpAny_pure (hR s' (hm.mono hsub) (hS.frame fun o e => hm.heap S _ hSw e))
  | succ k ih =>
    intro i s hk hi hst hS hR
    have hlt : i < n := by omega
    refine codeAny_builtin F.entry_set_update_loop ?_
    rw [Around.under_plainId F.plain_set_update_loop _]
    show wpAny _ A.in1 (pyNext (.ref I) >>= _) _ _ s
    refine wpAny_bind (W.item i s _ _ hlt hst fun v s' hP hst' hm => ?_)
    obtain ⟨t, rfl⟩ := hval i v hP
    have hS' := hS.frame fun o e => hm.heap S _ hSw e
    have his : (bytesKind prog w).is (val i) (.bytes (val i).toArray t) = true := bytesKind_is prog w _ _
    show wpAny _ A.in1 (holding [Value.bytes (val i).toArray t] (setAdd S (.bytes (val i).toArray t)) >>= _) _ _ s'
    refine wpAny_bind (wpAny_holding ?_)
    unfold setAdd
    refine wpAny_holding ?_
    refine wpAny_bind ((bytesKind prog w).pyHash (k := val i) his ?_)
    have hroom : (firstB val i).length + 1 < scanBound := by have := firstB_len val i; omega
    refine add_bytes (s := { s' with toks := s'.toks + 1 }) hS' hroom fun bb h' hsb hS2 => ?_
    refine wpAny_pure ⟨plainId_quiet F.plain_set_update_loop _, ih (i + 1) _ (by omega) hlt (W.frame _ s' _ _ hst' (Nat.le_succ _) fun b hb o e => ?_) hS2 fun s'' hm'' hS'' => ?_⟩
    · rw [hsb.2 b (fun h : b = S => hSf (by rw [← h]; exact hb))]; exact e
    · refine hR s'' (Moved.trans W.gtrans ((hm.mono hsub).then_heap (Nat.le_succ _) fun b o hb e => ?_) hm'') hS''
      rw [hsb.2 b (fun h : b = S => hb (by rw [h]; exact List.mem_cons_self))]; exact e
end
section
variable {prog : Program} {w : World} {A : Around} {E : Value → Shared → Prop} {s : Shared}
abbrev ledOf (w : World) : Bool := !w.params.followText "set-order"
theorem set_newB (a : Value) {Q₁ : Value → Shared → Prop}
    (h : Q₁ (.ref s.heap.objs.size) { s with heap := s.heap.push { cls := .type "set", dict := none, data := .set #[] 0 (.fresh 0 0 (ledOf w)) } }) :
    codeAny (model prog w) A (.call (.builtin "set.__new__") ⟨[.type "set", a], []⟩) (wants Q₁ E) s := by
  refine codeAny_of_tree ?_
  show wpAny _ A.in1 (do checkBuiltinCall "set.__new__" ⟨[.type "set", a], []⟩; again (.builtin "set.__new__" ⟨[.type "set", a], []⟩)) _ _ s
  refine wpAny_bind (wpAny_of_eq (F.newCall_set_1 a) (wpAny_pure ⟨plainId_quiet F.plain_set_new _, codeAny_builtin F.entry_set_new ?_⟩))
  rw [Around.under_plainId F.plain_set_new _]
  unfold Builtin.«set.__new__» Builtin.Frozenset.newClass
  have hsub := sub_set_self
  obtain ⟨hp, g, d, tk, os⟩ := s
  dsimp only
  wp_walk
  refine wpAny_askSetting (wpAny_pure ?_)
  dsimp only
  simp only [newObj]
  refine wpAny_bind (wpAny_alloc (wpAny_pure ?_))
  exact wpAny_pure h
theorem fresh_setB {h : Heap} {a : Addr} {led : Bool} (e : h.get? a = some { cls := .type "set", dict := none, data := .set #[] 0 (.fresh 0 0 led) }) : SetB w h a [] led :=
  ⟨#[], 0, .fresh 0 0 led, e, fun _ h => by simp at h, by simp, by decide, rfl, rfl, fun h => absurd rfl h⟩
set_option maxHeartbeats 3200000 in
/-- set(l), l a list of bytes -/
theorem call_set_bytes {l : Addr} {items : Array Value} {Q : Value → Shared → Prop} (val : Nat → List UInt8)
    (hh : A.handled = none) (hl : s.heap.IsList l items) (hi : ∀ (i : Nat) (v : Value), items[i]? = some v → ∃ t, v = .bytes (val i).toArray t) (hb : items.size + 1 < scanBound)
    (h : ∀ (h' : Heap) (tk : Nat), SetB w h' s.heap.objs.size (firstB val items.size) (ledOf w) →
      (∀ b o, b < s.heap.objs.size → s.heap.get? b = some o → h'.get? b = some o) → Q (.ref s.heap.objs.size) { s with heap := h', toks := tk }) :
    wpAny (model prog w) A (call (.type "set") [.ref l]) Q E s := by
  obtain ⟨c, tl, hmro⟩ := F.called_set.mro
  have hmade := F.called_set.made
  have hsub := F.called_set.sub
  refine wpAny_call (codeAny_of_tree ?_)
  show wpAny _ _ (callAny (.type "set") _) _ _ _
  refine wpAny_pure ⟨Code.quiet_builtin _ (by decide +kernel), codeAny_builtin F.entry_type_call ?_⟩
  rw [Around.under_plain (weight_type_call_type "set" [.ref l] []) rfl]
  have h1 := F.called_set.notType
  have h2 := F.called_set.canCreate
  have hct := F.typeCall_set_1 (.ref l)
  repeat (any_goals (first | assumption | wp_step))
  refine codeAny_mono (set_newB (.ref l) (E := E) (Q₁ := fun obj s₁ => obj = .ref s.heap.objs.size ∧ s₁ = { s with heap := s.heap.push { cls := .type "set", dict := none, data := .set #[] 0 (.fresh 0 0 (ledOf w)) } }) ⟨rfl, rfl⟩) fun r s₁ hr => ?_
  cases r with
  | error e => exact hr
  | ok fl =>
    cases fl with
    | ret obj =>
      obtain ⟨rfl, rfl⟩ := hr
      obtain ⟨led, hled⟩ : ∃ led, led = ledOf w := ⟨_, rfl⟩
      rw [← hled]
      have hS : (s.heap.push { cls := .type "set", dict := none, data := .set #[] 0 (.fresh 0 0 led) }).get? s.heap.objs.size = some { cls := .type "set", dict := none, data := .set #[] 0 (.fresh 0 0 led) } := Heap.get?_push_size _ rfl
      have hT : Shared.TypeIs { s with heap := s.heap.push { cls := .type "set", dict := none, data := .set #[] 0 (.fresh 0 0 led) } } (.ref s.heap.objs.size) "set" := ⟨_, hS, rfl⟩
      have hli := F.called_set.init.lookup
      have hbi := F.called_set.init.bind (.ref s.heap.objs.size)
      repeat (any_goals (first | assumption | wp_step))
      refine codeAny_mono (codeAny_call_builtin (R := wants (fun r s₂ => r = .none ∧ ∃ h' tk, s₂ = { s with heap := h', toks := tk } ∧
          SetB w h' s.heap.objs.size (firstB val items.size) (ledOf w) ∧
          (∀ b o, b < s.heap.objs.size → s.heap.get? b = some o → h'.get? b = some o)) E) F.called_set.init.plain F.entry_set_init (check_set_init_1 hT ?_)) fun r₂ s₂ hr₂ => ?_
      · obtain ⟨ol, hol, hcl, nl, hdl⟩ := hl
        obtain ⟨ocls, odict, odata, oslots⟩ := ol
        simp only at hcl hdl
        subst hcl; subst hdl
        have hol' : (s.heap.push { cls := .type "set", dict := none, data := .set #[] 0 (.fresh 0 0 led) }).get? l = some { cls := .type "list", dict := odict, data := .seq items nl, slots := oslots } := Heap.get?_push_of_some _ hol
        have hsls := F.sub_list_set
        have hslf := F.sub_list_frozenset
        have hne : (Value.type "list" == Value.type "dict") = false := by decide
        have hl1 : (s.heap.push { cls := .type "set", dict := none, data := .set #[] 0 (.fresh 0 0 led) }).IsList l items := ⟨_, hol', rfl, nl, rfl⟩
        unfold Builtin.«set.__init__» noKeywords Builtin.Frozenset.updateFrom
        generalize hPI : pyIter = PI
        wp_walk
        subst hPI
        refine wpAny_pyIter_list hl1 ?_
        refine wpAny_bind (wpAny_runValue ?_)
        have hlS : l < s.heap.objs.size := Heap.lt_size hol
        have hh3 : A.in1.in1.in1.handled = none := by simp [hh]
        have hneI : l ≠ (s.heap.push { cls := .type "set", dict := none, data := .set #[] 0 (.fresh 0 0 led) }).objs.size := by
          rw [Heap.size_push]; exact Nat.ne_of_lt (Nat.lt_succ_of_lt hlS)
        have hSf : s.heap.objs.size ∉ [(s.heap.push { cls := .type "set", dict := none, data := .set #[] 0 (.fresh 0 0 led) }).objs.size, l] := by
          rw [Heap.size_push]; simp only [List.mem_cons, List.mem_singleton, List.not_mem_nil, or_false, not_or]
          exact ⟨Nat.ne_of_lt (Nat.lt_succ_self _), Nat.ne_of_gt hlS⟩
        refine set_loop_bytes ((Walks.list hh3 _ l hneI items).toS) s.heap.objs.size
          hSf (ledOf w) val hi hb (items.size - 0) 0 _ (by omega) (Nat.zero_le _)
          ⟨⟨_, Heap.get?_push_size _ rfl, rfl, rfl⟩, (hl1.push _)⟩ ?hS0 ?hR
        case hS0 =>
          have hget : ((s.heap.push { cls := .type "set", dict := none, data := .set #[] 0 (.fresh 0 0 led) }).push { cls := .type "list_iterator", data := .fields #[.ref l, .int 0 0] }).get? s.heap.objs.size
              = some { cls := .type "set", dict := none, data := .set #[] 0 (.fresh 0 0 led) } := Heap.get?_push_of_some _ hS
          subst hled; exact fresh_setB hget
        case hR =>
          intro s' hm hS'
          obtain ⟨h', g', d', tk', os'⟩ := s'
          have eg : g' = s.gens := hm.gens
          have ed : d' = s.drawn := hm.drawn
          have eo : os' = s.os := hm.os
          subst eg; subst ed; subst eo
          show wpAny _ _ _ _ _ _
          refine wpAny_pure ?_
          show wpAny _ _ (ret Value.none) _ _ _
          refine wpAny_pure ⟨rfl, h', tk', rfl, hS', fun b o hb e => ?_⟩
          have hb1 : b ≠ s.heap.objs.size := Nat.ne_of_lt hb
          have hb2 : b ≠ (s.heap.push { cls := .type "set", dict := none, data := .set #[] 0 (.fresh 0 0 led) }).objs.size := by
            rw [Heap.size_push]; exact Nat.ne_of_lt (Nat.lt_succ_of_lt hb)
          exact hm.heap b o (by simp only [List.mem_cons, List.mem_singleton, List.not_mem_nil, or_false, not_or]; exact ⟨hb1, hb2⟩) (Heap.get?_push_of_some _ (Heap.get?_push_of_some _ e))
      · cases r₂ with
        | error e => exact hr₂
        | ok fl₂ =>
          cases fl₂ with
          | ret r =>
            obtain ⟨rfl, h', tk, rfl, hS', hk'⟩ := hr₂
            repeat (any_goals (first | assumption | wp_step))
            exact h _ _ hS' hk'
          | _ => exact hr₂.elim
    | _ => exact hr.elim
end
end Mine
end
section
open PySem PySem.W PySem.Calls PyProof.Rows
namespace Mine
/-! iterating over a set -/
theorem owner_set_iterator : Manifest.owners.lookup (String.ofList ['r', 'o', 't', 'a', 'r', 'e', 't', 'i', '_', 't', 'e', 's'].reverse) = some Manifest.sig_set_iterator := by kernel_rfl
theorem slot_setit_next : Slot "set_iterator" "__next__" "set_iterator.__next__" :=
  .of (owner := "set_iterator") (n := "__next__") (by rw [typeLookup_type, builtinLookup_eq_fast]; kernel_rfl) (by decide +kernel) (by decide +kernel) (by decide +kernel)
    (by first | exact .inl (by decide +kernel) | exact .inr (by decide +kernel)) (by rw [isSubtype_type]; kernel_rfl)
theorem entry_setit_next : entryFor table "set_iterator.__next__" = some Builtin.«set_iterator.__next__» := entryFor_of_tree (by kernel_rfl)
theorem args_setit_next (a : Value) : argsOk "set_iterator.__next__" ⟨[a], []⟩ := by
  unfold argsOk; rw [signature?_of (id := "set_iterator.__next__") (n := ['_', '_', 't', 'x', 'e', 'n', '_', '_']) (o := ['r', 'o', 't', 'a', 'r', 'e', 't', 'i', '_', 't', 'e', 's']) (by kernel_rfl) owner_set_iterator]; kernel_rfl
theorem slot_setit_iter : Slot "set_iterator" "__iter__" "set_iterator.__iter__" :=
  .of (owner := "set_iterator") (n := "__iter__") (by rw [typeLookup_type, builtinLookup_eq_fast]; kernel_rfl) (by decide +kernel) (by decide +kernel) (by decide +kernel)
    (by first | exact .inl (by decide +kernel) | exact .inr (by decide +kernel)) (by rw [isSubtype_type]; kernel_rfl)
theorem args_setit_iter (a : Value) : argsOk "set_iterator.__iter__" ⟨[a], []⟩ := by
  unfold argsOk; rw [signature?_of (id := "set_iterator.__iter__") (n := ['_', '_', 'r', 'e', 't', 'i', '_', '_']) (o := ['r', 'o', 't', 'a', 'r', 'e', 't', 'i', '_', 't', 'e', 's']) (by kernel_rfl) owner_set_iterator]; kernel_rfl
theorem entry_setit_iter : entryFor table "set_iterator.__iter__" = some Builtin.«dict_keyiterator.__iter__» :=
  entryFor_alias (id' := "dict_keyiterator.__iter__") (by kernel_rfl) rfl (by decide +kernel) (by kernel_rfl)
theorem entry_set_iter : entryFor table "set.__iter__" = some Builtin.«frozenset.__iter__» :=
  entryFor_alias (id' := "frozenset.__iter__") (by kernel_rfl) rfl (by decide +kernel) (by kernel_rfl)
abbrev itObj (first : Value) (i : Nat) (S : Addr) (n ep : Nat) : Obj := { cls := .type "set_iterator", data := .fields #[first, .int i 0, .ref S, .int n 0, .int ep 0] }
section
variable {prog : Program} {w : World} {A : Around} {E : Value → Shared → Prop} {s : Shared} {I S : Addr} {es : Array (Int × Value)} {ep : Nat} {t : SetTable} {i : Nat}
theorem next_set {first : Value} {Q : Option Value → Shared → Prop} (hit : s.heap.get? I = some (itObj first i S es.size ep)) (hS : s.heap.get? S = some (setObj es ep t)) (hf : t.fits es.size = true)
    (h : wpAny (model prog w) A.in1 (do
        if let .int slot _ := first then
          match ← setNext S slot.toNat i ep with
          | some (x, next) =>
            setField (.ref I) 0 (rawInt next)
            setField (.ref I) 1 (rawInt ((i : Int) + 1))
            ret x
          | none => setField (.ref I) 2 .none; raiseNew (← newExc (.type "StopIteration") [])
        else
          let some places ← seqItems? first | unsupported "internal:set_iterator"
          match places[i]? with
          | some (.int place _) =>
            let x ← setNextDrawn S place.toNat ep
            setField (.ref I) 1 (rawInt ((i : Int) + 1))
            ret x
          | some _ => unsupported "internal:set_iterator"
          | none => setField (.ref I) 0 (rawInt 0); setField (.ref I) 2 .none; raiseNew (← newExc (.type "StopIteration") []))
      (fun fin s' => ∃ v, fin = .done (.ret v) ∧ Q (some v) s') (fun e s' => wpAny (model prog w) A (do if ← isInstance e (.type "StopIteration") then pure none else throw e) Q E s') s) :
    wpAny (model prog w) A (pyNext (.ref I)) Q E s := by
  have hT : s.TypeIs (.ref I) "set_iterator" := ⟨_, hit, rfl⟩
  unfold pyNext
  refine wpAny_bind (wpAny_attempt (wpAny_callSpecial?_slot (name := Str.ofString "__next__") hT slot_setit_next
    (wpAny_call_entry slot_setit_next hT entry_setit_next ?_ (args_setit_next _))))
  unfold Builtin.«set_iterator.__next__»
  refine wpAny_bind (m := slotArgs "__next__" 0 _) (wpAny_pure ?_)
  refine wpAny_bind (wpAny_fieldsOf hit rfl ?_)
  show wpAny _ _ (setEntries S >>= _) _ _ _
  refine wpAny_bind (wpAny_setEntries_of hS rfl hf ?_)
  rw [if_neg (by simp)]
  refine wpAny_mono h (fun fin s' hq => ?_) (fun e s' hq => ?_)
  · obtain ⟨v, rfl, hq⟩ := hq
    exact ⟨v, rfl, wpAny_pure hq⟩
  · exact hq
theorem upd_field {h : Heap} {a : Addr} {o : Obj} {vs : Array Value} (ho : h.get? a = some o) (hd : o.data = .fields vs) (j : Nat) (x : Value) :
    (h.update a (Obj.mapFields (·.setIfInBounds j x))).get? a = some { o with data := .fields (vs.setIfInBounds j x) } := by
  have e : Obj.mapFields (·.setIfInBounds j x) o = { o with data := .fields (vs.setIfInBounds j x) } := by
    obtain ⟨c, d, dt, sl⟩ := o; cases dt <;> cases hd; rfl
  have := Heap.get?_update_self (Obj.mapFields (·.setIfInBounds j x)) ho (Obj.isFreed_of_fields (Obj.data_mapFields hd _))
  rw [e] at this; exact this
theorem stop_set {Q : Option Value → Shared → Prop} (hh : A.handled = none) {Qf : Fin → Shared → Prop} (h : ∀ h', (∀ b o, s.heap.get? b = some o → h'.get? b = some o) → Q none { s with heap := h' }) :
    wpAny (model prog w) A.in1 (do raiseNew (← newExc (.type "StopIteration") [])) Qf (fun e s' => wpAny (model prog w) A (do if ← isInstance e (.type "StopIteration") then pure none else throw e) Q E s') s := by
  show wpAny _ _ (newExc (.type "StopIteration") [] >>= _) _ _ _
  refine wpAny_bind ?_
  simp only [newExc, newTuple]
  refine wpAny_bind (wpAny_newObj_type ?_ (by size_fits))
  refine wpAny_bind (m := firstArgMember _ _) (wpAny_of_eq (a := Value.none) (by first | rfl | (simp only [firstArgMember]; rfl)) ?_)
  refine wpAny_newObj_type ?_ (by size_fits)
  simp only [raiseNew]
  refine wpAny_bind (wpAny_handled ?_)
  rw [show A.in1.handled = none from hh]
  refine wpAny_bind (wpAny_pure (wpAny_throw ?_))
  refine wpAny_bind (wpAny_isInstance (T := "StopIteration") (b := true) ⟨_, Heap.get?_push_size _ rfl, rfl⟩ isSubtype_stop ?_)
  exact wpAny_pure (h _ fun b o e => Heap.get?_push_of_some _ (Heap.get?_push_of_some _ e))
theorem next_int_item {sl nx : Nat} {x : Value} {Q : Option Value → Shared → Prop} (hit : s.heap.get? I = some (itObj (.int sl 0) i S es.size ep)) (hS : s.heap.get? S = some (setObj es ep t)) (hf : t.fits es.size = true)
    (hN : ∀ (E' : Value → Shared → Prop) (Q' : Option (Value × Nat) → Shared → Prop), Q' (some (x, nx)) s → wpAny (model prog w) A.in1 (setNext S sl i ep) Q' E' s)
    (hQ : ∀ h', h'.get? I = some (itObj (.int nx 0) (i + 1) S es.size ep) → (∀ b o, b ≠ I → s.heap.get? b = some o → h'.get? b = some o) → Q (some x) { s with heap := h' }) :
    wpAny (model prog w) A (pyNext (.ref I)) Q E s := by
  refine next_set hit hS hf ?_
  show wpAny _ _ (setNext S sl i ep >>= _) _ _ _
  refine wpAny_bind (hN _ _ ?_)
  show wpAny _ _ (setField (.ref I) 0 (rawInt nx) >>= _) _ _ _
  refine wpAny_bind (wpAny_setField hit rfl (by simp) ?_)
  have h1 := upd_field hit rfl 0 (rawInt nx)
  refine wpAny_bind (wpAny_setField h1 rfl (by simp) ?_)
  have h2 := upd_field h1 rfl 1 (rawInt ((i : Int) + 1))
  exact wpAny_pure ⟨x, rfl, hQ _ h2 fun b o hb e => (Heap.get?_update_other _ _ (Ne.symm hb)).trans ((Heap.get?_update_other _ _ (Ne.symm hb)).trans e)⟩
theorem next_int_end {sl : Nat} {Q : Option Value → Shared → Prop} (hh : A.handled = none) (hit : s.heap.get? I = some (itObj (.int sl 0) i S es.size ep)) (hS : s.heap.get? S = some (setObj es ep t)) (hf : t.fits es.size = true)
    (hN : ∀ (E' : Value → Shared → Prop) (Q' : Option (Value × Nat) → Shared → Prop), Q' none s → wpAny (model prog w) A.in1 (setNext S sl i ep) Q' E' s)
    (hQ : ∀ h', (∀ b o, b ≠ I → s.heap.get? b = some o → h'.get? b = some o) → Q none { s with heap := h' }) :
    wpAny (model prog w) A (pyNext (.ref I)) Q E s := by
  refine next_set hit hS hf ?_
  show wpAny _ _ (setNext S sl i ep >>= _) _ _ _
  refine wpAny_bind (hN _ _ ?_)
  show wpAny _ _ (setField (.ref I) 2 .none >>= _) _ _ _
  refine wpAny_bind (wpAny_setField hit rfl (by simp) ?_)
  exact stop_set hh fun h' hk => hQ h' fun b o hb e => hk b o ((Heap.get?_update_other _ _ (Ne.symm hb)).trans e)
theorem next_drawn_item {T : Addr} {oT : Obj} {pl : Array Value} {c p : Nat} {tk : Tok} {hsh : Int} {x : Value} {Q : Option Value → Shared → Prop} (hit : s.heap.get? I = some (itObj (.ref T) i S es.size ep)) (hS : s.heap.get? S = some (setObj es ep t)) (hf : t.fits es.size = true)
    (hT : s.heap.get? T = some oT) (hTd : oT.data = .seq pl c) (hp : pl[i]? = some (.int (p : Int) tk)) (hx : es[p]? = some (hsh, x))
    (hQ : ∀ h', h'.get? I = some (itObj (.ref T) (i + 1) S es.size ep) → (∀ b o, b ≠ I → s.heap.get? b = some o → h'.get? b = some o) → Q (some x) { s with heap := h' }) :
    wpAny (model prog w) A (pyNext (.ref I)) Q E s := by
  refine next_set hit hS hf ?_
  show wpAny _ _ (seqItems? (.ref T) >>= _) _ _ _
  refine wpAny_bind (wpAny_seqItems hT hTd ?_)
  dsimp only
  rw [hp]
  show wpAny _ _ (setNextDrawn S p ep >>= _) _ _ _
  refine wpAny_bind ?_
  unfold setNextDrawn
  refine wpAny_bind (wpAny_setState_of hS rfl hf ?_)
  dsimp only
  rw [if_neg (by simp), hx]
  refine wpAny_pure ?_
  show wpAny _ _ (setField (.ref I) 1 (rawInt ((i : Int) + 1)) >>= _) _ _ _
  refine wpAny_bind (wpAny_setField hit rfl (by simp) ?_)
  have h2 := upd_field hit rfl 1 (rawInt ((i : Int) + 1))
  exact wpAny_pure ⟨x, rfl, hQ _ h2 fun b o hb e => (Heap.get?_update_other _ _ (Ne.symm hb)).trans e⟩
theorem next_drawn_end {T : Addr} {oT : Obj} {pl : Array Value} {c : Nat} {Q : Option Value → Shared → Prop} (hh : A.handled = none) (hit : s.heap.get? I = some (itObj (.ref T) i S es.size ep)) (hS : s.heap.get? S = some (setObj es ep t)) (hf : t.fits es.size = true)
    (hT : s.heap.get? T = some oT) (hTd : oT.data = .seq pl c) (hp : pl[i]? = none)
    (hQ : ∀ h', (∀ b o, b ≠ I → s.heap.get? b = some o → h'.get? b = some o) → Q none { s with heap := h' }) :
    wpAny (model prog w) A (pyNext (.ref I)) Q E s := by
  refine next_set hit hS hf ?_
  show wpAny _ _ (seqItems? (.ref T) >>= _) _ _ _
  refine wpAny_bind (wpAny_seqItems hT hTd ?_)
  dsimp only
  rw [hp]
  show wpAny _ _ (setField (.ref I) 0 (rawInt 0) >>= _) _ _ _
  refine wpAny_bind (wpAny_setField hit rfl (by simp) ?_)
  have h1 := upd_field hit rfl 0 (rawInt 0)
  show wpAny _ _ (setField (.ref I) 2 .none >>= _) _ _ _
  refine wpAny_bind (wpAny_setField h1 rfl (by simp) ?_)
  exact stop_set hh fun h' hk => hQ h' fun b o hb e => hk b o ((Heap.get?_update_other _ _ (Ne.symm hb)).trans ((Heap.get?_update_other _ _ (Ne.symm hb)).trans e))
end
theorem erase_perm {α : Type} : ∀ (l : List α) (i : Nat) (x : α), l[i]? = some x → (x :: l.eraseIdx i).Perm l
  | [], i, x, h => by simp at h
  | a :: l, 0, x, h => by simp at h; subst h; exact .refl _
  | a :: l, i + 1, x, h => by
    simp only [List.getElem?_cons_succ] at h
    have ih := erase_perm l i x h
    simp only [List.eraseIdx_cons_succ]
    exact (List.Perm.swap a x _).trans (ih.cons a)
theorem go_perm {α : Type} (next : Nat → Nat) : ∀ (f k : Nat) (l : List α) (out : Array α), l.length ≤ f → (pickOrder.go next f k l out).toList.Perm (out.toList ++ l)
  | 0, k, l, out, h => by
    have : l = [] := List.eq_nil_of_length_eq_zero (by omega)
    subst this; unfold pickOrder.go; simp
  | f + 1, k, l, out, h => by
    unfold pickOrder.go
    split
    · rename_i x hx
      have hp := erase_perm l _ x hx
      have hl := hp.length_eq
      rw [List.length_cons] at hl
      refine (go_perm next f (k + 1) _ (out.push x) (by omega)).trans ?_
      rw [Array.toList_push, List.append_assoc]
      exact List.Perm.append_left _ hp
    · rename_i hx
      have : l = [] := by
        cases l with
        | nil => rfl
        | cons a r =>
          have hlt : next k % (a :: r).length < (a :: r).length := Nat.mod_lt _ (by simp)
          rw [List.getElem?_eq_getElem hlt] at hx; cases hx
      subst this; simp
theorem pick_perm {α : Type} (next : Nat → Nat) (xs : Array α) : (pickOrder next xs).toList.Perm xs.toList := by
  unfold pickOrder
  exact (go_perm next xs.size 0 xs.toList #[] (by simp)).trans (by simp)
section
variable {M : Model} {A : Around} {s : Shared}
theorem choose_any {E : Value → Shared → Prop} {src : Source} {n : Nat} {Q : Nat → Shared → Prop} (hn : n ≠ 0) (h : ∀ i d, i < n → Q i { s with drawn := d }) : wpAny M A (choose src n) Q E s := fun Γ p hΓ => by
  unfold choose
  rw [Sem.wp_choose]
  refine ⟨hn, ?_⟩
  exact h _ _ (Nat.mod_lt _ (Nat.pos_of_ne_zero hn))
theorem drawOrder_any {α : Type} {E : Value → Shared → Prop} : ∀ (n : Nat) (xs : List α) (s : Shared) (Q : List α → Shared → Prop), xs.length ≤ n → (∀ ys d, ys.Perm xs → Q ys { s with drawn := d }) → wpAny M A (drawOrder n xs) Q E s
  | 0, xs, s, Q, hl, h => by
    have : xs = [] := List.eq_nil_of_length_eq_zero (by omega)
    subst this; unfold drawOrder
    exact wpAny_pure (h [] s.drawn (.refl _))
  | n + 1, [], s, Q, hl, h => by
    unfold drawOrder
    exact wpAny_pure (h [] s.drawn (.refl _))
  | n + 1, a :: r, s, Q, hl, h => by
    unfold drawOrder
    refine wpAny_bind (choose_any (by simp) fun i d hi => ?_)
    have hx : (a :: r)[i]? = some (a :: r)[i] := List.getElem?_eq_getElem hi
    rw [hx]
    dsimp only
    have hp := erase_perm _ _ _ hx
    have hlen := hp.length_eq
    simp only [List.length_cons] at hlen hl
    refine wpAny_bind (drawOrder_any n _ _ _ (by omega) fun ys d' hys => ?_)
    exact wpAny_pure (h _ d' ((hys.cons _).trans hp))
end
section
variable {prog : Program} {w : World} {A : Around} {E : Value → Shared → Prop} {s : Shared} {I S : Addr} {es : Array (Int × Value)} {ep : Nat} {t : SetTable} {i : Nat}
theorem setNext_text {sl : Nat} {Q : Option (Value × Nat) → Shared → Prop} (hw : w.params.followText "set-order" = true) (hS : s.heap.get? S = some (setObj es ep t)) (hf : t.fits es.size = true)
    (h : Q (((pickOrder (w.params.setOrder S ep) es)[i]?).map fun e => (e.2, sl)) s) : wpAny (model prog w) A (setNext S sl i ep) Q E s := by
  unfold setNext setsByText
  refine wpAny_bind (wpAny_setState_of hS rfl hf ?_)
  dsimp only
  refine wpAny_bind (wpAny_bind (wpAny_askSetting (wpAny_pure ?_)))
  dsimp only
  rw [if_pos (show (model prog w).w.params.followText "set-order" = true from hw), if_neg (by simp)]
  unfold setWalk setsByText
  refine wpAny_bind (wpAny_bind (wpAny_setState_of hS rfl hf ?_))
  dsimp only
  refine wpAny_bind (wpAny_bind (wpAny_askSetting (wpAny_pure ?_)))
  dsimp only
  rw [if_pos (show (model prog w).w.params.followText "set-order" = true from hw)]
  refine wpAny_bind (wpAny_askSetting (wpAny_pure ?_))
  exact wpAny_pure h
theorem setNext_led {sl : Nat} {Q : Option (Value × Nat) → Shared → Prop} (hw : w.params.followText "set-order" = false) (hS : s.heap.get? S = some (setObj es ep t)) (hf : t.fits es.size = true) (h1 : es.size ≤ 1) (hl : t.led = true)
    (h : Q (match es[SetTable.below t.place sl]?, t.place[SetTable.below t.place sl]? with | some (_, x), some j => some (x, j + 1) | _, _ => none) s) : wpAny (model prog w) A (setNext S sl i ep) Q E s := by
  unfold setNext setsByText
  refine wpAny_bind (wpAny_setState_of hS rfl hf ?_)
  dsimp only
  refine wpAny_bind (wpAny_bind (wpAny_askSetting (wpAny_pure ?_)))
  dsimp only
  rw [if_neg (show ¬ (model prog w).w.params.followText "set-order" = true from by rw [show (model prog w).w.params.followText "set-order" = false from hw]; decide)]
  show wpAny _ _ (if (!t.plain && decide (es.size > 1)) = true then _ else _) _ _ _
  rw [if_neg (by rw [decide_eq_false (by omega), Bool.and_false]; decide)]
  show wpAny _ _ ((if (!t.led && !es.isEmpty) = true then unsupported "set:maker-not-led" else pure ()) >>= _) _ _ _
  rw [if_neg (by rw [hl]; simp)]
  refine wpAny_bind (wpAny_pure ?_)
  exact wpAny_pure h
theorem self_set {first : Value} {n : Nat} {Q : Value → Shared → Prop} (hit : s.heap.get? I = some (itObj first i S n ep)) (h : Q (.ref I) s) : wpAny (model prog w) A (pyIter (.ref I)) Q E s := by
  have hT : s.TypeIs (.ref I) "set_iterator" := ⟨_, hit, rfl⟩
  refine wpAny_pyIter_slot hT slot_setit_iter (wpAny_call_entry slot_setit_iter hT entry_setit_iter ?_ (args_setit_iter _))
  show wpAny _ _ (ret (.ref I)) _ _ s
  exact wpAny_pure ⟨_, rfl, "set_iterator", _, hT, slot_setit_next.lookup, h⟩
theorem walks_text (hw : w.params.followText "set-order" = true) (hh : A.handled = none) (hne : S ≠ I) (hf : t.fits es.size = true) :
    Walks prog w A I [I, S] [I] es.size (fun i v => ((pickOrder (w.params.setOrder S ep) es).toList.map (·.2))[i]? = some v)
      (fun i h => h.get? I = some (itObj (.int 0 0) i S es.size ep) ∧ h.get? S = some (setObj es ep t)) where
  sub := fun b hb => by simp at hb; simp [hb]
  frame := fun i h h' st hk => ⟨hk I (by simp) _ st.1, hk S (by simp) _ st.2⟩
  item := fun i s Q E hi st hQ => by
    have hlen : (pickOrder (w.params.setOrder S ep) es).toList.length = es.size := by rw [(pick_perm _ es).length_eq, Array.length_toList]
    have hlt : i < (pickOrder (w.params.setOrder S ep) es).size := by rw [← Array.length_toList, hlen]; exact hi
    have hx : (pickOrder (w.params.setOrder S ep) es)[i]? = some (pickOrder (w.params.setOrder S ep) es)[i] := Array.getElem?_eq_getElem hlt
    refine next_int_item (nx := 0) (x := ((pickOrder (w.params.setOrder S ep) es)[i]).2) st.1 st.2 hf (fun E' Q' h => setNext_text (sl := 0) hw st.2 hf (by rw [hx]; exact h)) fun h' h1 h2 => ?_
    refine hQ _ h' s.toks ?_ ⟨h1, h2 S _ hne st.2⟩ fun b o hb e => h2 b o (by simpa using hb) e
    rw [List.getElem?_map, Array.getElem?_toList, hx]; rfl
  done := fun s Q E st hQ => by
    have hlen : (pickOrder (w.params.setOrder S ep) es).size = es.size := by rw [← Array.length_toList, (pick_perm _ es).length_eq, Array.length_toList]
    refine next_int_end (sl := 0) hh st.1 st.2 hf (fun E' Q' h => setNext_text (sl := 0) hw st.2 hf (by rw [Array.getElem?_eq_none (by omega)]; exact h)) fun h' h2 => ?_
    exact hQ h' s.toks fun b o hb e => h2 b o (by simpa using hb) e
  self := fun i s Q E st hQ => self_set st.1 hQ
theorem below_zero {p : Array Nat} (h : p.size ≤ 1) : SetTable.below p 0 = 0 := by
  unfold SetTable.below
  rcases Nat.le_one_iff_eq_zero_or_eq_one.mp h with e | e <;> rw [e] <;> simp [SetTable.below.go]
theorem below_one {p : Array Nat} (h : p.size = 1) : SetTable.below p (p.getD 0 0 + 1) = 1 := by
  unfold SetTable.below
  have e : p[0]? = some p[0] := Array.getElem?_eq_getElem (by omega)
  rw [h]; simp [SetTable.below.go, Array.getD_eq_getD_getElem?, e]
theorem walks_led (hw : w.params.followText "set-order" = false) (hh : A.handled = none) (hne : S ≠ I) (hf : t.fits es.size = true) (h1 : es.size ≤ 1) (hl : t.led = true) :
    Walks prog w A I [I, S] [I] es.size (fun i v => (es.toList.map (·.2))[i]? = some v)
      (fun i h => (∃ sl, h.get? I = some (itObj (.int (sl : Nat) 0) i S es.size ep) ∧ (i = 0 → sl = 0) ∧ (i = 1 → sl = t.place.getD 0 0 + 1)) ∧ h.get? S = some (setObj es ep t)) where
  sub := fun b hb => by simp at hb; simp [hb]
  frame := fun i h h' st hk => ⟨let ⟨sl, a, b⟩ := st.1; ⟨sl, hk I (by simp) _ a, b⟩, hk S (by simp) _ st.2⟩
  item := fun i s Q E hi st hQ => by
    obtain ⟨⟨sl, st1, e0, e1⟩, st2⟩ := st
    have hi0 : i = 0 := by omega
    have hsz : t.place.size = es.size := by
      simp only [SetTable.fits, Bool.and_eq_true, beq_iff_eq] at hf; exact hf.1
    have hs0 : sl = 0 := e0 hi0
    subst hs0; subst hi0
    have hb := below_zero (p := t.place) (by omega)
    have hp : t.place[0]? = some (t.place.getD 0 0) := by
      rw [Array.getD_eq_getD_getElem?, Array.getElem?_eq_getElem (by omega)]; rfl
    have hx : es[0]? = some es[0] := Array.getElem?_eq_getElem hi
    refine next_int_item (sl := 0) (nx := t.place.getD 0 0 + 1) (x := (es[0]).2) st1 st2 hf (fun E' Q' h => setNext_led (sl := 0) hw st2 hf h1 hl (by rw [hb, hp, hx]; exact h)) fun h' h1 h2 => ?_
    refine hQ _ h' s.toks ?_ ⟨⟨_, h1, fun h => by omega, fun _ => rfl⟩, h2 S _ hne st2⟩ fun b o hb e => h2 b o (by simpa using hb) e
    rw [List.getElem?_map, Array.getElem?_toList, hx]; rfl
  done := fun s Q E st hQ => by
    obtain ⟨⟨sl, st1, e0, e1⟩, st2⟩ := st
    have hsz : t.place.size = es.size := by
      simp only [SetTable.fits, Bool.and_eq_true, beq_iff_eq] at hf; exact hf.1
    refine next_int_end (sl := sl) hh st1 st2 hf (fun E' Q' h => setNext_led (sl := sl) hw st2 hf h1 hl ?_) fun h' h2 => ?_
    · rcases Nat.le_one_iff_eq_zero_or_eq_one.mp h1 with e | e
      · rw [Array.getElem?_eq_none (xs := es) (by omega)]; exact h
      · rw [e1 e, below_one (by omega), Array.getElem?_eq_none (xs := es) (by omega)]; exact h
    · exact hQ h' s.toks fun b o hb e => h2 b o (by simpa using hb) e
  self := fun i s Q E st hQ => let ⟨⟨sl, a, _⟩, _⟩ := st; self_set a hQ
theorem walks_drawn {T : Addr} {pl : List Nat} (hh : A.handled = none) (hne : S ≠ I) (hTI : T ≠ I) (hf : t.fits es.size = true) (hpl : pl.Perm (List.range es.size)) :
    Walks prog w A I [I, S, T] [I] es.size (fun i v => (pl.map fun p => (es.getD p (0, .none)).2)[i]? = some v)
      (fun i h => h.get? I = some (itObj (.ref T) i S es.size ep) ∧ h.get? S = some (setObj es ep t) ∧ h.get? T = some (tupleOf (pl.map fun i : Nat => rawInt i))) where
  sub := fun b hb => by simp at hb; simp [hb]
  frame := fun i h h' st hk => ⟨hk I (by simp) _ st.1, hk S (by simp) _ st.2.1, hk T (by simp) _ st.2.2⟩
  item := fun i s Q E hi st hQ => by
    have hlen : pl.length = es.size := by rw [hpl.length_eq, List.length_range]
    have hi' : i < pl.length := by omega
    have hp : pl[i]? = some pl[i] := List.getElem?_eq_getElem hi'
    have hm : pl[i] < es.size := List.mem_range.mp (hpl.mem_iff.mp (List.getElem_mem hi'))
    have hx : es[pl[i]]? = some es[pl[i]] := Array.getElem?_eq_getElem hm
    refine next_drawn_item (p := pl[i]) (tk := 0) (hsh := (es[pl[i]]).1) (x := (es[pl[i]]).2) st.1 st.2.1 hf st.2.2 rfl (by simp [hp, rawInt]) hx fun h' h1 h2 => ?_
    refine hQ _ h' s.toks ?_ ⟨h1, h2 S _ hne st.2.1, h2 T _ hTI st.2.2⟩ fun b o hb e => h2 b o (by simpa using hb) e
    rw [List.getElem?_map, hp]; simp [Array.getD_eq_getD_getElem?, hx]
  done := fun s Q E st hQ => by
    have hlen : pl.length = es.size := by rw [hpl.length_eq, List.length_range]
    refine next_drawn_end hh st.1 st.2.1 hf st.2.2 rfl (by simp; omega) fun h' h2 => ?_
    exact hQ h' s.toks fun b o hb e => h2 b o (by simpa using hb) e
  self := fun i s Q E st hQ => self_set st.1 hQ
end
end Mine
end
section
open PySem PySem.W PySem.Calls PyProof.Rows
namespace Mine
theorem range_snd (es : Array (Int × Value)) : (List.range es.size).map (fun p => (es.getD p (0, .none)).2) = es.toList.map (·.2) := by
  apply List.ext_getElem
  · simp
  · intro i h1 h2
    simp only [List.length_map, List.length_range] at h1
    simp [Array.getD_eq_getD_getElem?, Array.getElem?_eq_getElem h1]
section
variable {prog : Program} {w : World} {A : Around} {E : Value → Shared → Prop} {s : Shared} {S : Addr} {es : Array (Int × Value)} {ep : Nat} {t : SetTable}
/-- iter(a set): its order is drawn, or the text's, or the table's -/
theorem iter_set {Q : Value → Shared → Prop} (hh : A.handled = none) (hS : s.heap.get? S = some (setObj es ep t)) (hf : t.fits es.size = true) (hled : t.led = ledOf w) (hpl : 0 < es.size → t.plain = false) (hsz : es.size < scanBound)
    (hQ : ∀ (ord : List Value) (I : Addr) (fp : List Addr) (St : Nat → Heap → Prop) (h' : Heap) (d' : _), ord.Perm (es.toList.map (·.2)) → (∀ B : Around, B.handled = none → Walks prog w B I fp [I] es.size (fun i v => ord[i]? = some v) St) → St 0 h' →
      (∀ b o, s.heap.get? b = some o → h'.get? b = some o) → s.heap.objs.size ≤ I → I ∈ fp → (∀ b ∈ fp, b < h'.objs.size) → (∀ b ∈ fp, b = S ∨ s.heap.objs.size ≤ b) → Q (.ref I) { s with heap := h', drawn := d' }) :
    wpAny (model prog w) A (pyIter (.ref S)) Q E s := by
  have hT : s.TypeIs (.ref S) "set" := ⟨_, hS, rfl⟩
  have hSl : S < s.heap.objs.size := Heap.lt_size hS
  refine wpAny_pyIter_slot hT F.slot_set_iter (wpAny_call_entry F.slot_set_iter hT entry_set_iter ?_ (F.args_set_iter_1 _))
  unfold Builtin.«frozenset.__iter__» Builtin.Frozenset.slot0 slotArgs
  simp only [List.isEmpty_nil, Bool.not_true, Bool.false_eq_true, ↓reduceIte, bind_assoc, List.length_nil, bne_self_eq_false]
  unfold Builtin.Frozenset.addrOf Builtin.Frozenset.sizeOf
  refine wpAny_bind (wpAny_pure ?_)
  try dsimp only
  refine wpAny_bind (wpAny_pure ?_)
  refine wpAny_bind (wpAny_bind (wpAny_setEntries_of hS rfl hf (wpAny_pure ?_)))
  unfold setDrawn setsByText
  refine wpAny_bind (wpAny_bind (wpAny_setState_of hS rfl hf ?_))
  dsimp only
  refine wpAny_bind (wpAny_bind (wpAny_askSetting (wpAny_pure ?_)))
  refine wpAny_pure ?_
  show wpAny _ _ (if (!w.params.followText "set-order" && (!t.plain && decide (es.size > 1))) = true then _ else _) _ _ _
  by_cases hd : (!w.params.followText "set-order" && (!t.plain && decide (es.size > 1))) = true
  · -- drawn
    rw [if_pos hd]
    refine wpAny_bind (drawOrder_any es.size (List.range es.size) s _ (by simp) fun pl d hp => ?_)
    refine wpAny_bind ?_
    simp only [newTuple]
    refine wpAny_newObj_type ?_ (by show (pl.map fun i : Nat => rawInt i).toArray.size ≤ sizeLine; rw [List.size_toArray, List.length_map, hp.length_eq, List.length_range]; exact fits_of_scanBound hsz)
    have hS' : (s.heap.push (tupleOf (pl.map fun i : Nat => rawInt i))).get? S = some (setObj es ep t) := Heap.get?_push_of_some _ hS
    unfold setEpoch
    refine wpAny_bind (wpAny_bind (wpAny_setState_of (s := { s with heap := s.heap.push (tupleOf (pl.map fun i : Nat => rawInt i)), drawn := d }) hS' rfl hf (wpAny_pure ?_)))
    refine wpAny_bind (wpAny_newObj_type (wpAny_pure ⟨_, rfl, "set_iterator", _, ⟨_, Heap.get?_push_size _ rfl, rfl⟩, slot_setit_next.lookup, ?_⟩))
    have hsz1 : (s.heap.push (tupleOf (pl.map fun i : Nat => rawInt i))).objs.size = s.heap.objs.size + 1 := Heap.size_push ..
    refine hQ (pl.map fun p => (es.getD p (0, .none)).2) (s.heap.push (tupleOf (pl.map fun i : Nat => rawInt i))).objs.size [(s.heap.push (tupleOf (pl.map fun i : Nat => rawInt i))).objs.size, S, s.heap.objs.size] (fun i h => h.get? (s.heap.push (tupleOf (pl.map fun i : Nat => rawInt i))).objs.size = some (itObj (.ref s.heap.objs.size) i S es.size ep) ∧ h.get? S = some (setObj es ep t) ∧ h.get? s.heap.objs.size = some (tupleOf (pl.map fun i : Nat => rawInt i))) _ d ?_ ?_ ?_ ?_ ?_ (.head _) ?_ ?_
    · rw [← range_snd]; exact hp.map _
    · intro B hB
      exact walks_drawn hB (by rw [hsz1]; exact Nat.ne_of_lt (Nat.lt_succ_of_lt hSl)) (by rw [hsz1]; exact Nat.ne_of_lt (Nat.lt_succ_self _)) hf hp
    · exact ⟨Heap.get?_push_size _ rfl, Heap.get?_push_of_some _ hS', Heap.get?_push_of_some _ (Heap.get?_push_size _ rfl)⟩
    · intro b o e
      exact Heap.get?_push_of_some _ (Heap.get?_push_of_some _ e)
    · rw [hsz1]; omega
    · intro b hb
      simp only [List.mem_cons, List.not_mem_nil, or_false] at hb
      rw [Heap.size_push, hsz1]
      rcases hb with rfl | rfl | rfl
      · rw [hsz1]; exact Nat.lt_succ_self _
      · exact Nat.lt_succ_of_lt (Nat.lt_succ_of_lt hSl)
      · exact Nat.lt_succ_of_lt (Nat.lt_succ_self _)
    · intro b hb
      simp only [List.mem_cons, List.not_mem_nil, or_false] at hb
      rcases hb with rfl | rfl | rfl
      · right; rw [hsz1]; exact Nat.le_succ _
      · exact .inl rfl
      · exact .inr (Nat.le_refl _)
  · rw [if_neg hd]
    refine wpAny_bind (wpAny_pure ?_)
    unfold setEpoch
    refine wpAny_bind (wpAny_bind (wpAny_setState_of hS rfl hf (wpAny_pure ?_)))
    refine wpAny_bind (wpAny_newObj_type (wpAny_pure ⟨_, rfl, "set_iterator", _, ⟨_, Heap.get?_push_size _ rfl, rfl⟩, slot_setit_next.lookup, ?_⟩))
    have hne : S ≠ s.heap.objs.size := Nat.ne_of_lt hSl
    have f1 : ∀ b ∈ [s.heap.objs.size, S], b < (s.heap.push (itObj (rawInt 0) 0 S es.size ep)).objs.size := by
      intro b hb
      simp only [List.mem_cons, List.not_mem_nil, or_false] at hb
      rw [Heap.size_push]
      rcases hb with rfl | rfl
      · exact Nat.lt_succ_self _
      · exact Nat.lt_succ_of_lt hSl
    have f2 : ∀ b ∈ [s.heap.objs.size, S], b = S ∨ s.heap.objs.size ≤ b := by
      intro b hb
      simp only [List.mem_cons, List.not_mem_nil, or_false] at hb
      rcases hb with rfl | rfl
      · exact .inr (Nat.le_refl _)
      · exact .inl rfl
    by_cases hw : w.params.followText "set-order" = true
    · exact hQ ((pickOrder (w.params.setOrder S ep) es).toList.map (·.2)) s.heap.objs.size [s.heap.objs.size, S] (fun i h => h.get? s.heap.objs.size = some (itObj (.int 0 0) i S es.size ep) ∧ h.get? S = some (setObj es ep t)) _ s.drawn
        ((pick_perm _ es).map _) (fun B hB => walks_text hw hB hne hf) ⟨Heap.get?_push_size _ rfl, Heap.get?_push_of_some _ hS⟩ (fun b o e => Heap.get?_push_of_some _ e) (Nat.le_refl _) (.head _) f1 f2
    · have hw' : w.params.followText "set-order" = false := Bool.eq_false_iff.mpr hw
      have h1 : es.size ≤ 1 := by
        rw [hw'] at hd
        by_cases h0 : 0 < es.size
        · rw [hpl h0] at hd
          simp only [Bool.not_false, Bool.true_and, decide_eq_true_eq] at hd
          omega
        · omega
      have hl : t.led = true := by rw [hled]; unfold ledOf; rw [hw']; rfl
      exact hQ (es.toList.map (·.2)) s.heap.objs.size [s.heap.objs.size, S] (fun i h => (∃ sl, h.get? s.heap.objs.size = some (itObj (.int (sl : Nat) 0) i S es.size ep) ∧ (i = 0 → sl = 0) ∧ (i = 1 → sl = t.place.getD 0 0 + 1)) ∧ h.get? S = some (setObj es ep t)) _ s.drawn
        (.refl _) (fun B hB => walks_led hw' hB hne hf h1 hl) ⟨⟨0, Heap.get?_push_size _ rfl, fun _ => rfl, fun h => by cases h⟩, Heap.get?_push_of_some _ hS⟩ (fun b o e => Heap.get?_push_of_some _ e) (Nat.le_refl _) (.head _) f1 f2
theorem hint_set {r : Addr} {Q : Bool → Shared → Prop} (hT : s.TypeIs (.ref r) "set") (h : Q false s) : wpAny (model prog w) A (Builtin.List.listLengthHint (.ref r)) Q E s := by
  unfold Builtin.List.listLengthHint
  refine wpAny_bind (wpAny_specialOf hT F.slot_set_len.lookup ?_)
  generalize hid : ("set.__len__" : String) = id0
  wp_delta
  rw [show splitId id0 = some ("set", "__len__") from by subst hid; decide +kernel]
  subst hid
  refine wpAny_bind (wpAny_isInstance (T := "set") (b := true) hT (by rw [isSubtype_type]; kernel_rfl) ?_)
  refine wpAny_ite_split (fun hab => absurd hab (by decide)) (fun _ => ?_)
  refine wpAny_ite_split (fun _ => ?_) (fun hab => absurd (by decide +kernel) hab)
  refine wpAny_bind (wpAny_typeOf hT ?_)
  exact wpAny_pure h
/-- a set's items, in the order drawn -/
theorem collect_set {Q : List Value → Shared → Prop} (hh : A.handled = none) (hS : s.heap.get? S = some (setObj es ep t)) (hf : t.fits es.size = true) (hled : t.led = ledOf w) (hpl : 0 < es.size → t.plain = false) (hsz : es.size < scanBound)
    (hQ : ∀ (ord : List Value) (h' : Heap) (tk : Nat) (d' : Drawn), ord.Perm (es.toList.map (·.2)) → (∀ b o, s.heap.get? b = some o → h'.get? b = some o) → Q ord { s with heap := h', toks := tk, drawn := d' }) :
    wpAny (model prog w) A (collect (.ref S)) Q E s := by
  have hSl : S < s.heap.objs.size := Heap.lt_size hS
  unfold collect
  refine wpAny_bind (wpAny_runValue (codeAny_builtin entry_proto_collect' ?_))
  rw [Around.under_plainId F.plain_proto_collect _]
  show wpAny _ A.in1 (newList [] >>= fun l => again (.builtin "list.__iadd__" ⟨[l, .ref S], []⟩)) _ _ s
  refine wpAny_bind (wpAny_newObj_type ?_)
  refine wpAny_pure ⟨plainId_quiet F.plain_list_iadd _, codeAny_builtin entry_list_iadd' ?_⟩
  rw [Around.under_plainId F.plain_list_iadd _]
  show wpAny _ A.in1 (Builtin.List.listExtendWith (.ref s.heap.objs.size) (.ref S) (.ref s.heap.objs.size)) _ _ _
  have hS₁ : (s.heap.push { cls := .type "list", data := .seq ([] : List Value).toArray }).get? s.heap.objs.size = some { cls := .type "list", data := .seq #[] } := Heap.get?_push_size _ rfl
  have hS1 : (s.heap.push { cls := .type "list", data := .seq ([] : List Value).toArray }).get? S = some (setObj es ep t) := Heap.get?_push_of_some _ hS
  unfold Builtin.List.listExtendWith
  refine wpAny_bind (wpAny_typeOf (T := "set") ⟨_, hS1, rfl⟩ ?_)
  have h1 : Builtin.List.listSameRef (.ref s.heap.objs.size) (.ref S) = false := by
    simp only [Builtin.List.listSameRef, beq_eq_false_iff_ne]; exact Nat.ne_of_gt hSl
  have h2 : (Value.type "set" == Value.type "list") = false := by decide
  have h3 : (Value.type "set" == Value.type "tuple") = false := by decide
  simp only [h1, h2, h3, Bool.or_false, Bool.false_eq_true, if_false]
  have hsz1 : (s.heap.push { cls := .type "list", data := .seq ([] : List Value).toArray }).objs.size = s.heap.objs.size + 1 := Heap.size_push ..
  refine wpAny_bind (iter_set (s := { s with heap := s.heap.push { cls := .type "list", data := .seq ([] : List Value).toArray } }) (A := A.in1) hh hS1 hf hled hpl hsz fun ord I fp St h' d' hp W st hk hIs hI hfp hfs => ?_)
  refine wpAny_bind (wpAny_holding (hint_set ⟨_, hk _ _ hS1, rfl⟩ ?_))
  have hLf : s.heap.objs.size ∉ fp := fun hm => by
    rcases hfs _ hm with e | e
    · exact absurd e (Nat.ne_of_gt hSl)
    · rw [show ({ s with heap := s.heap.push { cls := .type "list", data := .seq ([] : List Value).toArray } } : Shared).heap.objs.size = s.heap.objs.size + 1 from hsz1] at e
      exact absurd e (Nat.not_succ_le_self _)
  refine wpAny_ite_split (fun _ => ?_) (fun hab => absurd (by decide +kernel) hab)
  refine wpAny_bind (wpAny_rule ?_)
  refine wpAny_bind ?_
  show wpAny _ _ (updateSeq s.heap.objs.size (·.push .none) >>= fun _ => updateSeq s.heap.objs.size (·.pop)) _ _ _
  refine wpAny_bind (wpAny_updateSeq (hk _ _ hS₁) rfl ?_)
  have hS₂ := Heap.get?_update_self (Obj.mapSeq (·.push Value.none)) (hk _ _ hS₁) rfl
  refine wpAny_updateSeq (hz := by seq_fits) hS₂ rfl ?_
  have hS₃ := Heap.get?_update_self (Obj.mapSeq (·.pop)) hS₂ rfl
  have oth : ∀ b o, b ≠ s.heap.objs.size → h'.get? b = some o →
      ((h'.update s.heap.objs.size (Obj.mapSeq (·.push Value.none))).update s.heap.objs.size (Obj.mapSeq (·.pop))).get? b = some o :=
    fun b o hb e => (Heap.get?_update_other _ _ (Ne.symm hb)).trans ((Heap.get?_update_other _ _ (Ne.symm hb)).trans e)
  refine wpAny_pure ⟨plainId_quiet F.plain_extend_loop _, codeAny_extend_loopS (W A.in1 hh).toS (fits_of_scanBound hsz) _ hLf _ es.size 0 _ #[] _ rfl (Nat.zero_le _)
    ((W A.in1 hh).frame 0 _ _ st fun b hb o e => oth b o (fun h => hLf (h ▸ hb)) e) hS₃ (ItemsOf.nil _) fun s' acc' c' hm hS' hacc => ?_⟩
  show wpAny _ A (load s.heap.objs.size >>= _) _ _ s'
  refine wpAny_bind (wpAny_load hS' ?_)
  rw [Moved.eq_with hm]
  have hol : ord.length = es.size := by rw [hp.length_eq]; simp
  have ho : acc'.toList = ord := by
    apply List.ext_getElem?
    intro j
    by_cases hj : j < es.size
    · have e1 : acc'.toList[j]? = some (acc'.toList[j]'(by rw [Array.length_toList, hacc.1]; exact hj)) := List.getElem?_eq_getElem _
      rw [e1, hacc.2 j _ (by rw [← Array.getElem?_toList]; exact e1)]
    · rw [List.getElem?_eq_none (by rw [Array.length_toList, hacc.1]; omega), List.getElem?_eq_none (by omega)]
  refine wpAny_pure ?_
  show Q acc'.toList _
  rw [ho]
  refine hQ ord s'.heap s'.toks d' hp fun b o e => ?_
  have hbl := Heap.lt_size e
  refine hm.heap b o (fun hmem => ?_) (oth b o (Nat.ne_of_lt hbl) (hk b o (Heap.get?_push_of_some _ e)))
  rcases List.mem_cons.mp hmem with e' | hmem
  · exact absurd e' (Nat.ne_of_lt hbl)
  · rw [List.mem_singleton.mp hmem] at hbl
    exact absurd (Nat.lt_of_lt_of_le (Nat.lt_of_lt_of_le hbl (Nat.le_succ _)) (show s.heap.objs.size + 1 ≤ I from Nat.le_trans (Nat.le_of_eq hsz1.symm) hIs)) (Nat.lt_irrefl _)
end
end Mine
end
section
open PySem PySem.W PySem.Calls PyProof.Rows
namespace Mine
/-! sorting bytes -/
theorem ord_neg (a b c : List UInt8) (h : Builtin.Bytes.order a c = .lt) : Builtin.Bytes.order a b = .lt ∨ Builtin.Bytes.order b c = .lt := by
  cases e : Builtin.Bytes.order a b with
  | lt => exact .inl rfl
  | eq => rw [ord_eq _ _ e] at h; exact .inr h
  | gt => exact .inr (ord_trans _ _ _ (ord_swap' _ _ e) h)
@[reducible] def bytesSort : PyProof.Rows.KeyKind where
  α := List UInt8
  blt a b := Builtin.Bytes.order a b == .lt
  irrefl a := by rw [ord_self]; rfl
  trans a b c h1 h2 := by rw [beq_iff_eq] at *; exact ord_trans _ _ _ h1 h2
  negTrans a b c h := by rw [beq_iff_eq] at h; rw [beq_iff_eq, beq_iff_eq]; exact ord_neg _ _ _ h
  total a b h1 h2 := by
    cases e : Builtin.Bytes.order a b with
    | lt => rw [e] at h1; exact absurd h1 (by decide)
    | eq => exact ord_eq _ _ e
    | gt => rw [ord_swap' _ _ e] at h2; exact absurd h2 (by decide)
  keyOf v := match v with | .bytes b _ => some b.toList | _ => none
  dflt := []
section
variable {prog : Program} {w : World} {A : Around} {E : Value → Shared → Prop} {s : Shared}
theorem call_bytes_lt {a b : Array UInt8} {t u : Tok} {Q : Value → Shared → Prop} (h : Q (.bool (Builtin.Bytes.order a.toList b.toList == .lt)) s) :
    wpAny (model prog w) A (call (.builtin "bytes.__lt__") [.bytes a t, .bytes b u]) Q E s := by
  refine wpAny_call_entry slot_bytes_lt (W.typeIs_bytes s a t) entry_bytes_lt ?_ (args_bytes_lt _ _)
  show wpAny _ _ (isInstance (.bytes b u) (.type "bytes") >>= fun r => _) _ _ s
  refine wpAny_bind (wpAny_isInstance (W.typeIs_bytes s b u) F.sub_bytes_bytes ?_)
  exact wpAny_pure ⟨_, rfl, h⟩
theorem oneLt_bytes {a b : Array UInt8} {t u : Tok} {Q : Bool → Shared → Prop} (h : Q (Builtin.Bytes.order a.toList b.toList == .lt) s) : wpAny (model prog w) A (oneLt' true (.bytes a t) (.bytes b u)) Q E s := by
  rw [oneLt'_eq]
  simp only [if_true]
  refine wpAny_bind (wpAny_cRoomFor_byValue rfl ?_)
  refine wpAny_bind (wpAny_callSpecialIfBound?_slot (W.typeIs_bytes s a t) slot_bytes_lt (call_bytes_lt ?_))
  exact wpAny_truthy_bool h
end
theorem bytesSort_oneLt : bytesSort.OneLt := by
  intro prog w A E s x y a b Q ha hb h
  cases x <;> simp only [bytesSort, reduceCtorEq, Option.some.injEq] at ha
  cases y <;> simp only [bytesSort, reduceCtorEq, Option.some.injEq] at hb
  cases ha; cases hb
  exact oneLt_bytes h
def IsB (v : Value) : Prop := ∃ b t, v = .bytes b t
def keyV (v : Value) : List UInt8 := match v with | .bytes b _ => b.toList | _ => []
theorem mapM_first_b : ∀ {vs : List Value}, (∀ v ∈ vs, IsB v) → vs.mapM firstOfTuple' = pure (vs.map fun _ => none)
  | [], _ => by simp
  | v :: vs, h => by
    obtain ⟨b, t, rfl⟩ := h _ (List.mem_cons_self ..)
    rw [List.mapM_cons, show firstOfTuple' (.bytes b t) = pure none from rfl, mapM_first_b fun v hv => h v (List.mem_cons_of_mem _ hv)]; simp
theorem mapM_type_b : ∀ {vs : List Value}, (∀ v ∈ vs, IsB v) → vs.mapM typeOf = pure (vs.map fun _ => Value.type "bytes")
  | [], _ => by simp
  | v :: vs, h => by
    obtain ⟨b, t, rfl⟩ := h _ (List.mem_cons_self ..)
    rw [List.mapM_cons, mapM_type_b fun v hv => h v (List.mem_cons_of_mem _ hv)]
    show (pure (Value.type "bytes") >>= fun b => pure _ >>= fun bs => pure (b :: bs)) = _
    simp
theorem keyKind_b {v₁ v₂ : Value} {vs : List Value} (hS : ∀ v ∈ v₁ :: v₂ :: vs, IsB v) : keyKind' (v₁ :: v₂ :: vs).toArray = pure oneType' := by
  rw [keyKind'_eq, List.mapM_toArray, mapM_first_b hS]
  simp only [map_pure, pure_bind]
  rw [if_neg (by simp), if_neg (by simp)]
  rw [oneTypeOnly'_eq, List.mapM_toArray, mapM_type_b hS]
  simp only [map_pure, pure_bind]
  have hall : ((List.map (fun _ => Value.type "bytes") (v₁ :: v₂ :: vs)).toArray.all fun x => x == Value.type "bytes") = true := by
    simp only [List.all_toArray, List.all_map, List.all_eq_true]
    intro _ _
    rfl
  have h0 : (List.map (fun _ => Value.type "bytes") (v₁ :: v₂ :: vs)).toArray[0]? = some (Value.type "bytes") := by simp
  rw [h0]
  simp only [hall, if_true, pure_bind, Option.isSome_some]
/-- a list's values are these bytes -/
def BytesAre (vs : List Value) (bs : List (Array UInt8)) : Prop := vs.length = bs.length ∧ ∀ i, i < bs.length → ∃ t, vs[i]? = some (.bytes (bs.getD i #[]) t)
theorem bytesAre_map {vs : List Value} (h : ∀ v ∈ vs, IsB v) : BytesAre vs (vs.map fun v => (keyV v).toArray) := by
  refine ⟨by simp, fun i hi => ?_⟩
  simp only [List.length_map] at hi
  have e : vs[i]? = some vs[i] := List.getElem?_eq_getElem hi
  obtain ⟨b, t, hb⟩ := h _ (List.getElem_mem hi)
  exact ⟨t, by rw [e, hb]; simp [List.getD_eq_getElem?_getD, e, hb, keyV]⟩
theorem sorted_out_b {vs : List Value} (hS : ∀ v ∈ vs, IsB v) (hnd : (vs.map keyV).Nodup) {xs : Array Keyed} (hp : xs.Perm (pairsOf vs)) (hs : SortedToK bytesSort xs (pairsOf vs).size) :
    ∃ bs, BytesAre (xs.map (·.2)).toList bs ∧ (bs.map (·.toList)).Perm (vs.map keyV) ∧ Rising bs := by
  have hl : xs.toList.Perm (vs.zip vs) := by rw [← pairsOf_toList]; exact Array.perm_iff_toList_perm.mp hp
  have hmem : ∀ p, p ∈ xs.toList → p.1 = p.2 ∧ p.1 ∈ vs := fun p hp' => mem_zip_self (hl.mem_iff.mp hp')
  have e : (xs.map (·.2)).toList = xs.toList.map (·.1) := by
    rw [Array.toList_map]; exact List.map_congr_left fun p hp' => (hmem p hp').1.symm
  have hall : ∀ v ∈ (xs.map (·.2)).toList, IsB v := by
    intro v hv
    rw [e] at hv
    obtain ⟨p, hp', rfl⟩ := List.mem_map.mp hv
    exact hS _ (hmem p hp').2
  have hperm : ((xs.map (·.2)).toList.map keyV).Perm (vs.map keyV) := by
    rw [e]
    have h1 := (hl.map Prod.fst).map keyV
    rwa [List.map_fst_zip (Nat.le_refl _)] at h1
  have hnd' : ((xs.map (·.2)).toList.map keyV).Nodup := hperm.nodup_iff.mpr hnd
  refine ⟨_, bytesAre_map hall, ?_, ?_⟩
  · rw [List.map_map]
    exact (List.Perm.of_eq (List.map_congr_left fun v _ => by simp)).trans hperm
  · intro i j hij hj
    simp only [List.length_map] at hj
    have hi : i < (xs.map (·.2)).toList.length := Nat.lt_trans hij hj
    have hj' : j < xs.size := by simpa using hj
    have hi' : i < xs.size := by simpa using hi
    have k1 : ∀ k (hk : k < xs.size), KK bytesSort xs k = keyV (xs[k]).2 := fun k hk => by
      unfold KK; rw [getElem?_pos xs k hk]
      obtain ⟨q1, q2⟩ := hmem xs[k] (by simp)
      obtain ⟨b, t, eb⟩ := hS _ q2
      show (bytesSort.keyOf (xs[k]).1).getD [] = _
      rw [← q1, eb]; rfl
    have g1 : ∀ k (hk : k < xs.size), (((xs.map (·.2)).toList.map fun v => (keyV v).toArray).getD k #[]).toList = keyV (xs[k]).2 := fun k hk => by
      simp [List.getD_eq_getElem?_getD, hk]
    rw [g1 i hi', g1 j hj']
    have h1 := hs i j (Nat.le_of_lt hij) (by rw [← hp.size_eq]; exact hj')
    rw [k1 i hi', k1 j hj'] at h1
    change (Builtin.Bytes.order (keyV (xs[j]).2) (keyV (xs[i]).2) == .lt) = false at h1
    cases q : Builtin.Bytes.order (keyV (xs[i]).2) (keyV (xs[j]).2) with
    | lt => rfl
    | eq =>
      have := ord_eq _ _ q
      have hne := (List.pairwise_iff_getElem.mp hnd') i j (by simpa using hi') (by simpa using hj') hij
      simp only [List.getElem_map, Array.getElem_toList, Array.getElem_map] at hne
      exact absurd this hne
    | gt => rw [ord_swap' _ _ q] at h1; exact absurd h1 (by decide)
section
variable {prog : Program} {w : World} {A : Around} {E : Value → Shared → Prop} {s : Shared} {h₀ : Heap} {L : Addr} {m : Str → Option Value} {news : List (Addr × Obj)}
/-- sorted(a set of bytes): the keys, rising -/
theorem sorted_set {S : Addr} {ks : List (List UInt8)} {Q : Value → Shared → Prop} (hh : A.handled = none) (F : Fr h₀ L s.heap m) (N : News h₀ L s.heap news) (hS : SetB w s.heap S ks (ledOf w)) (hnd : ks.Nodup) (h64 : ks.length < 64)
    (h : ∀ (D : Addr) (h' : Heap) (tk : Nat) (d' : Drawn) (vs : List Value) (bs : List (Array UInt8)) (c : Nat), Fr h₀ L h' m → News h₀ L h' ((D, listOf vs.toArray c) :: news) → (∀ q ∈ news, q.1 < D) → L < D →
      BytesAre vs bs → Rising bs → (bs.map (·.toList)).Perm ks → Q (.ref D) { s with heap := h', toks := tk, drawn := d' }) :
    wpAny (model prog w) A (call (.builtin "sorted") [.ref S]) Q E s := by
  obtain ⟨es, ep, t, ho, hel, hpm, hb, hf, hl, hpl⟩ := hS
  have hn : es.size = ks.length := by rw [← hpm.length_eq]; simp
  refine Calls.call_function_entry kind_sorted plain_sorted entry_sorted (args_sorted1 _) ?_
  unfold Builtin.«sorted»
  refine wpAny_bind (m := checkCount "sorted" 1 1 _) (wpAny_pure ?_)
  refine wpAny_bind (collect_set (A := A.in1) hh ho hf hl (fun h0 => hpl (fun e => by rw [hn, e] at h0; exact Nat.lt_irrefl _ h0)) hb fun ord h' tk d' hp hk => ?_)
  have hol : ord.length = ks.length := by rw [hp.length_eq, List.length_map, Array.length_toList, hn]
  have hB : ∀ v ∈ ord, IsB v := fun v hv => by
    obtain ⟨e, he, rfl⟩ := List.mem_map.mp (hp.mem_iff.mp hv)
    obtain ⟨k, t, rfl⟩ := hel e he
    exact ⟨_, _, rfl⟩
  have hkp : (ord.map keyV).Perm ks := by
    refine (hp.map keyV).trans ?_
    rw [List.map_map]
    exact hpm
  refine wpAny_bind (wpAny_newList ?_ (by rw [hol]; exact fits_of_scanBound (by rw [← hn]; exact hb)))
  have hoL : (h'.push (seqObj "list" ord.toArray 0)).get? h'.objs.size = some (seqObj "list" ord.toArray 0) := Heap.get?_push_size _ rfl
  show wpAny _ _ _ _ _ { s with heap := h'.push (seqObj "list" ord.toArray 0), toks := tk, drawn := d' }
  refine wpAny_bind (wpAny_holding (wpAny_call_entry slot_list_sort ⟨_, hoL, rfl⟩ entry_list_sort (list_sort_treeK bytesSort_oneLt hoL (fun p hp' => ?_) (fun v₁ v₂ rest e => keyKind_b (by rw [← e]; exact hB)) (by rw [hol]; exact h64) fun st' a1 a2 => ⟨_, rfl, ?_⟩) (args_list_sort _)))
  · rw [pairsOf_toList] at hp'
    obtain ⟨b, t, e⟩ := hB _ (mem_zip_self hp').2
    exact ⟨b.toList, by rw [e]⟩
  · refine wpAny_pure ⟨_, rfl, ?_⟩
    obtain ⟨bs, b1, b2, b3⟩ := sorted_out_b hB (hkp.nodup_iff.mpr hnd) a1 a2
    obtain ⟨c, hc⟩ := sortedHeap_at (out := (arrOf st').map (·.2)) hoL
    have hold : ∀ b o, s.heap.get? b = some o → (sortedHeap (h'.push (seqObj "list" ord.toArray 0)) h'.objs.size ord ((arrOf st').map (·.2))).get? b = some o := fun b o e => by
      have e1 := hk b o e
      have hlt := Heap.lt_size e1
      rw [sortedHeap_old (Nat.ne_of_lt hlt) (by rw [size_push']; exact Nat.lt_succ_of_lt hlt)]
      exact Heap.get?_push_of_some _ e1
    have hLD : L < h'.objs.size := by obtain ⟨o, _, _, x, _⟩ := F.ns; exact Heap.lt_size (hk _ _ x)
    refine h h'.objs.size _ tk d' ((arrOf st').map (·.2)).toList bs c (F.kept hold) (fun p hp' => ?_) (fun q hq => Heap.lt_size (hk _ _ (N q hq).1)) hLD b1 b3 (b2.trans hkp)
    rcases List.mem_cons.mp hp' with rfl | hp'
    · refine ⟨hc, Nat.ne_of_gt hLD, ?_⟩
      cases hq : h₀.get? h'.objs.size with
      | none => rfl
      | some o' => exact absurd (Heap.lt_size (hk _ _ (F.keep _ _ hq))) (Nat.lt_irrefl _)
    · exact ⟨hold _ _ (N p hp').1, (N p hp').2⟩
end
end Mine
end
section
open PySem PySem.W PySem.Calls PyProof.Rows
namespace Mine
/-! a comprehension whose items are bytes -/
inductive BytesL : List Value → List (List UInt8) → Prop
  | nil : BytesL [] []
  | cons {vs : List Value} {ks : List (List UInt8)} (k : List UInt8) (t : Tok) (h : BytesL vs ks) : BytesL (.bytes k.toArray t :: vs) (k :: ks)
theorem BytesL.snoc {k : List UInt8} {t : Tok} : ∀ {vs : List Value} {ks : List (List UInt8)}, BytesL vs ks → BytesL (vs ++ [.bytes k.toArray t]) (ks ++ [k])
  | _, _, .nil => .cons k t .nil
  | _, _, .cons z u r => .cons z u r.snoc
theorem BytesL.length : ∀ {vs : List Value} {ks : List (List UInt8)}, BytesL vs ks → vs.length = ks.length
  | _, _, .nil => rfl
  | _, _, .cons _ _ r => by rw [List.length_cons, List.length_cons, r.length]
theorem BytesL.at : ∀ {vs : List Value} {ks : List (List UInt8)}, BytesL vs ks → ∀ (i : Nat) (v : Value), vs[i]? = some v → ∃ t, v = .bytes (ks.getD i []).toArray t
  | _, _, .nil, i, v, h => by simp at h
  | _, _, .cons k t r, 0, v, h => by simp at h; exact ⟨t, by rw [← h]; rfl⟩
  | _, _, .cons k t r, i + 1, v, h => by
    simp only [List.getElem?_cons_succ] at h
    obtain ⟨t', e⟩ := r.at i v h
    exact ⟨t', by rw [e]; simp⟩
/-- a number's name -/
def nameB (k : Int) : List UInt8 := [k.fmod 256, (k.fdiv 256).fmod 3].map fun n => n.toNat.toUInt8
def KBEl (news : List (Addr × Obj)) (r : List UInt8) (y : Value) (news' : List (Addr × Obj)) : Prop := news' = news ∧ ∃ t : Tok, y = .bytes r.toArray t
section
variable {prog : Program} {w : World} {A : Around} {h₀ : Heap} {L : Addr} {m : Str → Option Value} {env : Env} {elt : Expr} {x : Str} {scope : Scope} {cl : List (Str × Addr)} {s : Shared} {S : List (Addr × Obj) → Prop} {P : Nat → Value → Prop} {Fin : List Value → List (Addr × Obj) → Prop} {news : List (Addr × Obj)}
theorem kcb_rest {n : Nat} {ks : List Int} (g : Int → List UInt8) (hks : ks.length = n) (hP : ∀ i v, i < n → P i v → ∃ k t, ks[i]? = some k ∧ v = .int k t)
    (turn : ∀ k t I oI C oC D m₂ ys h tk (E' : Value → Shared → Prop), k ∈ ks → LCg.NsObj oC m₂ → m₂ x = some (.int k t) → Fr h₀ L h m → News h₀ L h ((I, oI) :: (C, oC) :: (D, LCg.lst ys) :: news) → LCg.Off3 I C D news → ((@Ne Nat I C) ∧ (@Ne Nat I D) ∧ (@Ne Nat C D)) →
      wpAny (model prog w) A (eval elt (compEnvC scope cl C env)) (LCg.CompEnd h₀ L m { s with heap := h, toks := tk } I oI C oC D (LCg.lst ys) S (fun y news' => KBEl news (g k) y news')) E' { s with heap := h, toks := tk })
    (fin : ∀ ys, BytesL ys (ks.map g) → Fin ys news) : LCg.CompRest prog w A h₀ L m env elt x scope cl s S P Fin n 0 [] news := by
  have key : ∀ (j i : Nat) (ys : List Value), i + j = n → BytesL ys ((ks.take i).map g) → LCg.CompRest prog w A h₀ L m env elt x scope cl s S P Fin j i ys news := by
    intro j
    induction j with
    | zero =>
      intro i ys hi hy
      have e : i = ks.length := by omega
      subst e
      rw [List.take_length] at hy
      exact LCg.CompRest.zero (fin ys hy)
    | succ j ih =>
      intro i ys hi hy
      refine LCg.CompRest.succ ?_
      intro v I oI C oC D m₂ h tk E' hv hC hx F N off ne
      obtain ⟨k, t, hk, hv'⟩ := hP i v (by omega) hv
      rw [hv'] at hx
      refine wpAny_mono (turn k t I oI C oC D m₂ ys h tk E' (List.mem_of_getElem? hk) hC hx F N off ne) (fun y s₂ hq => ?_) fun _ _ e => e
      obtain ⟨h', tk', nw, e, F', N', off', hS, hn, t', hy'⟩ := hq
      rw [hn] at N' off' hS
      refine ⟨h', tk', news, e, F', N', off', hS, ?_⟩
      rw [hy']
      refine ih (i + 1) _ (by omega) ?_
      rw [List.take_add_one, hk]
      simpa using hy.snoc
  exact key n 0 [] (by omega) (by simp only [List.take_zero, List.map_nil]; exact .nil)
theorem kcb_list {vs : List Value} {ns : List Int} (g : Int → List UInt8) (hi : IntsAre vs ns)
    (turn : ∀ k t I oI C oC D m₂ ys h tk (E' : Value → Shared → Prop), k ∈ ns → LCg.NsObj oC m₂ → m₂ x = some (.int k t) → Fr h₀ L h m → News h₀ L h ((I, oI) :: (C, oC) :: (D, LCg.lst ys) :: news) → LCg.Off3 I C D news → ((@Ne Nat I C) ∧ (@Ne Nat I D) ∧ (@Ne Nat C D)) →
      wpAny (model prog w) A (eval elt (compEnvC scope cl C env)) (LCg.CompEnd h₀ L m { s with heap := h, toks := tk } I oI C oC D (LCg.lst ys) S (fun y news' => KBEl news (g k) y news')) E' { s with heap := h, toks := tk })
    (fin : ∀ ys, BytesL ys (ns.map g) → Fin ys news) : LCg.CompRest prog w A h₀ L m env elt x scope cl s S (fun i v => vs.toArray[i]? = some v) Fin vs.toArray.size 0 [] news :=
  kcb_rest (ks := ns) g (by rw [List.size_toArray]; exact hi.length.symm) (fun i v _ hv => by
    obtain ⟨k, t, e, hk⟩ := IntsAre.at hi i v (by simpa using hv)
    exact ⟨k, t, hk, e⟩) turn fin
theorem mark_stn {M : Model} {E : Value → Shared → Prop} {y : Str} {v : Value} {Q : Unit → Shared → Prop} (h : wpAny M A (storeName env y v) Q E s) : wpAny M A (storeName env y v) Q E s := h
theorem mark_lc {M : Model} {E : Value → Shared → Prop} {Q : Value → Shared → Prop} {gs : List Comprehension} {sc : Scope} {ps : Pos} (h : wpAny M A (eval (.ListComp elt gs sc ps) env) Q E s) : wpAny M A (eval (.ListComp elt gs sc ps) env) Q E s := h
theorem mark_csrc {FinS : Shared → List Value → List (Addr × Obj) → Prop} {xv : Value} {s₁ : Shared} (h : LCg.CompSrc prog w A h₀ L m env elt x scope cl FinS xv s₁) : LCg.CompSrc prog w A h₀ L m env elt x scope cl FinS xv s₁ := h
theorem my_set {E : Value → Shared → Prop} {l : Addr} {ys : List Value} {ks : List (List UInt8)} {Q : Value → Shared → Prop} (hys : BytesL ys ks) (hh : A.handled = none) (hl : s.heap.IsList l ys.toArray) (hb : ks.length < 64)
    (h : ∀ (Sa : Addr) (h' : Heap) (tk : Nat) (kf : List (List UInt8)), SetB w h' Sa kf (ledOf w) → kf.Nodup → kf.length < 64 → kf.length ≤ ks.length → Kept s.heap h' → Q (.ref Sa) { s with heap := h', toks := tk }) :
    wpAny (model prog w) A (call (.type "set") [.ref l]) Q E s := by
  have hyl := hys.length
  have hf := firstB_len (fun i => ks.getD i []) ys.toArray.size
  rw [List.size_toArray, hyl] at hf
  refine call_set_bytes (fun i => ks.getD i []) hh hl (fun i v hv => hys.at i v (by simpa using hv)) (by unfold scanBound; rw [List.size_toArray]; omega) ?_
  intro h' tk hS hk
  refine h _ h' tk _ hS (firstB_nodup _ _) ?_ ?_ fun b o e => hk b o (Heap.lt_size e) e
  · rw [List.size_toArray, hyl]; omega
  · rw [List.size_toArray, hyl]; exact hf
end
end Mine
end
section
open PySem PySem.W PySem.Calls PyProof.Rows
namespace Mine
/-! a for whose target is any (a cell), over a list that stands -/
section
variable {prog : Program} {w : World} {A : Around} {E : Value → Shared → Prop} {Q : Flow → Shared → Prop} {s : Shared} {env : Env} {G : Heap} {L : Addr}
def ItAt (o : Obj) (l : Addr) (i : Nat) : Prop := o.cls = .type "list_iterator" ∧ o.data = .fields #[.ref l, .int i 0]
/-- a turn's end -/
def ForEnd {σ : Type} (G : Heap) (L : Addr) (s₁ : Shared) (Led : σ → List (Addr × Obj)) (P : σ → Prop) (I : Addr) (oI : Obj) (Q : Flow → Shared → Prop) (f : Flow) (s₃ : Shared) : Prop := match f with
  | .next | .cont => ∃ c' h' tk' m', s₃ = { s₁ with heap := h', toks := tk' } ∧ Fr G L h' m' ∧ News G L h' ((I, oI) :: Led c') ∧ P c' ∧ (∀ p ∈ Led c', p.1 ≠ I)
  | .brk => False
  | .ret v => Q (.ret v) s₃
theorem ForEnd.next {σ : Type} {G : Heap} {L : Addr} {s₁ : Shared} {Led : σ → List (Addr × Obj)} {P : σ → Prop} {I : Addr} {oI : Obj} {Q : Flow → Shared → Prop} {h' : Heap} {tk' : Nat} {m' : Str → Option Value} (c' : σ) (F : Fr G L h' m') (N : News G L h' ((I, oI) :: Led c')) (hP : P c') (hI : ∀ p ∈ Led c', p.1 ≠ I) :
    ForEnd G L s₁ Led P I oI Q .next { s₁ with heap := h', toks := tk' } := ⟨c', h', tk', m', rfl, F, N, hP, hI⟩
def ForC (prog : Program) (w : World) (A : Around) (G : Heap) (L : Addr) (env : Env) (target : Expr) (body : List Stmt) (Q : Flow → Shared → Prop) (E : Value → Shared → Prop) (xv : Value) (s₁ : Shared) : Prop :=
  ∃ (σ : Type) (Led : σ → List (Addr × Obj)) (P : σ → Prop) (l : Addr) (vals : List Value) (k : Nat) (c₀ : σ) (m : Str → Option Value),
    xv = .ref l ∧ A.handled = none ∧ Fr G L s₁.heap m ∧ News G L s₁.heap (Led c₀) ∧ P c₀ ∧ (∀ c, (l, listOf vals.toArray k) ∈ Led c)  ∧
    (∀ (c : σ) (v : Value) (I : Addr) (oI : Obj) (h : Heap) (tk : Nat) (u : Str → Option Value), v ∈ vals → P c → (∀ p ∈ Led c, p.1 ≠ I) → L < I → Fr G L h (kstB u []) → News G L h ((I, oI) :: Led c) →
      wpAny (model prog w) A (assign target env v) (fun _ s₂ => wpAny (model prog w) A (execs body env) (ForEnd G L s₁ Led P I oI Q) E s₂) E { s₁ with heap := h, toks := tk }) ∧
    ∀ (c : σ) (h : Heap) (tk : Nat) (u : Str → Option Value), P c → Fr G L h (kstB u []) → News G L h (Led c) → Q .next { s₁ with heap := h, toks := tk }
theorem kstB_nil (m : Str → Option Value) : kstB m [] = m := rfl
theorem my_forC {target iter : Expr} {body : List Stmt} {pos : Pos} (hL : env.locals = L)
    (h : wpAny (model prog w) A (eval iter env) (ForC prog w A G L env target body Q E) E s)
    (hs : ∀ x, foldedSetIterable iter env x = pure x := by intro _; rfl) (ht : ∀ it v, letOwnedTupleGo target it v = pure () := by intro _ _; rfl)
    (hE : PassesOwn (model prog w) A env E := by passes_own) : wpAny (model prog w) A (exec (.For target iter body [] pos) env) Q E s := by
  refine wpAny_For (wpAny_mono h (fun xv s₁ h₁ => ?_) fun _ _ e => e) hs
  obtain ⟨σ, Led, P, l, vals, k, c₀, m, rfl, hh, F, N, hp, hl, turn, done⟩ := h₁
  have hls : s₁.heap.IsList l vals.toArray := ⟨_, (N _ (hl c₀)).1, rfl, _, rfl⟩
  refine wpAny_pyIter_list hls ?_
  obtain ⟨I, hI⟩ : ∃ I, I = s₁.heap.objs.size := ⟨_, rfl⟩
  rw [← hI]
  have hlt : ∀ p ∈ Led c₀, p.1 ≠ I := fun p hp => by rw [hI]; exact Nat.ne_of_lt (Heap.lt_size (N p hp).1)
  have hLI : L < I := by rw [hI]; exact F.ns.lt
  have hGI : G.get? I = none := by
    cases e : G.get? I with
    | none => rfl
    | some o => have := Heap.lt_size (F.keep _ _ e); rw [← hI] at this; exact absurd this (Nat.lt_irrefl _)
  refine codeAny_forLoop
    (fun k' s' => ∃ c oI i h tk m', s' = { s₁ with heap := h, toks := tk } ∧ i ≤ vals.length ∧ k' = vals.length + 1 - i ∧ ItAt oI l i ∧ Fr G L h m' ∧ News G L h ((I, oI) :: Led c) ∧ P c ∧ (∀ p ∈ Led c, p.1 ≠ I)) ?_ (vals.length + 1)
    ⟨c₀, { cls := .type "list_iterator", data := .fields #[.ref l, .int 0 0] }, 0, _, s₁.toks, m, rfl, Nat.zero_le _, rfl, ⟨rfl, rfl⟩, F.push _, fun p hp => ?_, hp, hlt⟩ (ht _)
  · rintro k' s' ⟨c, oI, i, h, tk, m', rfl, hi, rfl, hit, F', N', hP, hIc⟩
    have hit' : h.IsListIter I l i := ⟨oI, (N' _ (.head _)).1, hit.1, hit.2⟩
    have hl' : h.IsList l vals.toArray := ⟨_, (N' _ (.tail _ (hl c))).1, rfl, _, rfl⟩
    by_cases hin : i < vals.length
    · have hx : vals.toArray[i]? = some vals[i] := by simp [hin]
      refine wpAny_pyNext_list_item (s := { s₁ with heap := h, toks := tk }) hit' hl' hx fun h' hit2 hsb => ?_
      obtain ⟨oI', he, hc1, hd1⟩ := hit2
      have hk : ∀ b o, b ∉ [I] → h.get? b = some o → h'.get? b = some o := fun b o hb e => (hsb.2 b (by simpa using hb)).trans e
      have F2 : Fr G L h' m' := LCg.fr_but F' hk (Nat.ne_of_lt hLI) hGI
      have N2 : News G L h' ((I, oI') :: Led c) := fun p hp => by
        rcases List.mem_cons.mp hp with rfl | hp
        · exact ⟨he, Nat.ne_of_gt hLI, hGI⟩
        · exact ⟨hk _ _ (by simpa using hIc p hp) (N' p (.tail _ hp)).1, (N' p (.tail _ hp)).2⟩
      refine wpAny_mono (wpAny_passesOwn hE (turn c vals[i] I oI' h' tk m' (List.getElem_mem _) hP hIc hLI F2 N2)) (fun _ s₂ hq => wpAny_mono (wpAny_passesOwn hE hq) (fun f s₃ hf => ?_) fun _ _ e => e) fun _ _ e => e
      cases f with
      | next =>
        obtain ⟨c', h3, tk3, m3, rfl, F3, N3, hP3, hI3⟩ := hf
        exact ⟨vals.length + 1 - (i + 1), by omega, c', oI', i + 1, h3, tk3, m3, rfl, hin, rfl, ⟨hc1, hd1⟩, F3, N3, hP3, hI3⟩
      | cont =>
        obtain ⟨c', h3, tk3, m3, rfl, F3, N3, hP3, hI3⟩ := hf
        exact ⟨vals.length + 1 - (i + 1), by omega, c', oI', i + 1, h3, tk3, m3, rfl, hin, rfl, ⟨hc1, hd1⟩, F3, N3, hP3, hI3⟩
      | brk => exact hf.elim
      | ret v => exact hf
    · have e : i = vals.length := by omega
      subst e
      refine wpAny_pyNext_list_end (s := { s₁ with heap := h, toks := tk }) hh hit' hl' (by simp) fun h' hk => wpAny_execs_nil ?_
      have hk' : ∀ b o, b ∉ [I] → h.get? b = some o → h'.get? b = some o := fun b o hb e => hk b o (by simpa using hb) e
      exact done c h' tk m' hP (LCg.fr_but F' hk' (Nat.ne_of_lt hLI) hGI) (fun p hp => ⟨hk' _ _ (by simpa using hIc p hp) (N' p (.tail _ hp)).1, (N' p (.tail _ hp)).2⟩)
  · rcases List.mem_cons.mp hp with rfl | hp
    · exact ⟨by show Heap.get? _ I = _; rw [hI]; exact Heap.get?_push_size _ rfl, Nat.ne_of_gt hLI, hGI⟩
    · exact ⟨Heap.get?_push_of_some _ (N p hp).1, (N p hp).2⟩
theorem mark_forC {target : Expr} {body : List Stmt} {xv : Value} {s₁ : Shared} (h : ForC prog w A G L env target body Q E xv s₁) : ForC prog w A G L env target body Q E xv s₁ := h
end
end Mine
end
section
open PySem PySem.W PySem.Calls PyProof.Rows
namespace Mine
section
variable {prog : Program} {w : World} {A : Around} {E : Value → Shared → Prop} {s : Shared} {h₀ : Heap} {L : Addr} {m : Str → Option Value} {news : List (Addr × Obj)}
theorem my_addL {l b : Addr} {vs ws : List Value} {Q : Value → Shared → Prop} (F : Fr h₀ L s.heap m) (N : News h₀ L s.heap news) (hl : s.heap.IsList l vs.toArray) (hb : s.heap.IsList b ws.toArray)
    (h : ∀ l' h' zs, zs = vs ++ ws → Fr h₀ L h' m → News h₀ L h' ((l', listOf zs.toArray 0) :: news) → (∀ p ∈ news, p.1 < l') → L < l' → Q (.ref l') { s with heap := h' })
    (hsz : vs.length + ws.length ≤ 1000) : wpAny (model prog w) A (binaryOp .Add (.ref l) (.ref b)) Q E s :=
  add_lists F N hl hb (fun h' F' N' => h _ h' _ rfl F' N' (fun p hp => Heap.lt_size (N p hp).1) F.ns.lt) (by rw [sizeLine_eq]; omega)
theorem eqv_of_rc {a b : Value} {k : Bool} {Q : Value → Shared → Prop} (h : SeqAt.RcNeAt A s a b k) (hq : Q (.bool k) s) : wpAny (model prog w) A (compareOp .NotEq a b) Q E s := h prog w E Q hq
theorem ne_nil {l b : Addr} {vs : List Value} {Q : Value → Shared → Prop} (hl : s.heap.IsList l vs.toArray) (hb : s.heap.IsList b #[]) (hu : A.units < cLine)
    (h : Q (.bool (decide (0 < vs.length))) s) : wpAny (model prog w) A (compareOp .NotEq (.ref l) (.ref b)) Q E s := by
  by_cases e : vs.length = 0
  · refine eqv_of_rc (SeqAt.RcNeAt.lists (e := fun _ => true) hl hb (by simp [e]) hu fun j h1 h2 => by simp at h2) ?_
    have : vs = [] := List.eq_nil_of_length_eq_zero e
    subst this; exact h
  · refine eqv_of_rc (SeqAt.RcNeAt.lists_lengths hl hb (by simpa using e) hu) ?_
    rw [decide_eq_true (Nat.pos_of_ne_zero e)] at h; exact h
theorem mark_add2 {a b : Value} {Q : Value → Shared → Prop} {M : Model} (h : wpAny M A (binaryOp .Add a b) Q E s) : wpAny M A (binaryOp .Add a b) Q E s := h
theorem mark_ne2 {a b : Value} {Q : Value → Shared → Prop} {M : Model} (h : wpAny M A (compareOp .NotEq a b) Q E s) : wpAny M A (compareOp .NotEq a b) Q E s := h
end
theorem BytesAre.isB {vs : List Value} {bs : List (Array UInt8)} (h : BytesAre vs bs) : ∀ v ∈ vs, IsB v := fun v hv => by
  obtain ⟨i, hi, rfl⟩ := List.getElem_of_mem hv
  obtain ⟨t, e⟩ := h.2 i (by rw [← h.1]; exact hi)
  rw [List.getElem?_eq_getElem hi] at e
  exact ⟨_, t, Option.some.inj e⟩
theorem isB_snoc {vs : List Value} {b : Array UInt8} {t : Tok} (h : ∀ v ∈ vs, IsB v) : ∀ v ∈ vs ++ [.bytes b t], IsB v := fun v hv => by
  rcases List.mem_append.mp hv with hv | hv
  · exact h v hv
  · rw [List.mem_singleton] at hv; exact ⟨b, t, hv⟩
section
variable {prog : Program} {w : World} {A : Around} {E : Value → Shared → Prop} {s : Shared} {h₀ : Heap} {L : Addr} {m : Str → Option Value} {news : List (Addr × Obj)}
theorem len_b {l : Addr} {vs : List Value} {bs : List (Array UInt8)} {c : Nat} {Q : Value → Shared → Prop} (hb : BytesAre vs bs) (N : News h₀ L s.heap news) (hm : (l, listOf vs.toArray c) ∈ news) (hz : bs.length ≤ 1000)
    (h : Q (.int (bs.length : Nat) (s.toks + 1)) { s with toks := s.toks + 1 + 1 }) : wpAny (model prog w) A (call (.builtin "len") [.ref l]) Q E s := by
  have e : vs.toArray.size = bs.length := by rw [List.size_toArray, hb.1]
  refine Calls.call_len_list (News.isList' N hm) (by rw [e]; omega) ?_
  rw [e]; exact h
end
end Mine
end
section
open PySem PySem.W PySem.Calls PyProof.Rows
namespace Mine
/-! a lambda made again and again: its code is made once -/
def LamAt (base P ca : Addr) (co to : Obj) (ln col : Nat) (qual : Str) : Prop :=
  (ca = P ∧ co = tabObj #[] ∧ to = tabObj #[]) ∨ (base < ca ∧ to = tabObj #[rawInt ln, rawInt col, .ref ca] ∧ ∃ vs t, co.data = .fields vs ∧ vs[1]? = some (.str qual t))
theorem lam_ne {base P ca x : Addr} {co to : Obj} {ln col : Nat} {qual : Str} (h : LamAt base P ca co to ln col qual) (hx : @LE.le Nat _ x base) (hP : @Ne Nat x P) : @Ne Nat x ca := by
  rcases h with ⟨rfl, _⟩ | ⟨hb, _⟩
  · exact hP
  · exact Nat.ne_of_lt (Nat.lt_of_le_of_lt hx hb)
theorem updF_last {P : Addr} {o : Obj} : ∀ {rest : List (Addr × Obj)}, (∀ p ∈ rest, p.1 ≠ P) → UpdF P o (rest ++ [(P, o)]) (fun o' => rest ++ [(P, o')])
  | [], _ => .head fun _ h => nomatch h
  | q :: r, h => .tail (h q (.head _)) (updF_last fun p hp => h p (.tail _ hp))
section
variable {M : Model} {A : Around} {E : Value → Shared → Prop} {s : Shared} {h₀ : Heap} {L a c P ca base : Addr} {m mg mb : Str → Option Value} {cn : Str} {cs : Scope} {ccd : Value} {cl : List (Str × Addr)} {rest : List (Addr × Obj)} {co to : Obj}
  {p : Program} {loose : List Str} {mean : ExcName → Option Value} {params : Arguments} {body : Expr} {scope : Scope} {pos : Pos} {clos : List (Str × Addr)}
theorem my_lam {Q : Value → Shared → Prop} (F : Fr h₀ L s.heap m) (N : News h₀ L s.heap (rest ++ [(ca, co), (P, to)])) (hnP : ∀ q ∈ rest, q.1 ≠ P) (hnc : ∀ q ∈ rest, q.1 ≠ ca) (T : Top p loose mean mg mb h₀) (C : CodeHd h₀ c P) (hcd : ccd = .ref c)
    (hL : LamAt base P ca co to pos.line pos.col ((envX cn cs L a ccd cl).qual ++ "<lambda>")) (hbase : ∃ q ∈ rest, q.1 = base) (hdef : defaultsOf params (envX cn cs L a ccd cl) = ([], [])) (hcl : closureFor scope (envX cn cs L a ccd cl) = pure clos)
    (ht : ∀ x : Addr, TriplesOk [rawInt pos.line, rawInt pos.col, .ref x]) (hf : ∀ x : Addr, codeAmong pos [rawInt pos.line, rawInt pos.col, .ref x] = some (.ref x)) (h0 : TriplesOk []) (hn0 : codeAmong pos [] = none)
    (h : ∀ f ca' co' ctv h' tk, Fr h₀ L h' m → News h₀ L h' ((f, kla_obj "<lambda>" ((envX cn cs L a ccd cl).qual ++ "<lambda>") params body scope clos ((mg "__name__").getD .none) ca' ctv) :: (rest ++ [(ca', co'), (P, tabObj #[rawInt pos.line, rawInt pos.col, .ref ca'])])) → base < ca' →
      (∃ vs t, co'.data = .fields vs ∧ vs[1]? = some (.str ((envX cn cs L a ccd cl).qual ++ "<lambda>") t)) → (∀ q ∈ rest, q.1 ≠ ca') → (∀ q ∈ rest, q.1 < f) → ca' < f → Q (.ref f) { s with heap := h', toks := tk }) :
    wpAny M A (eval (.Lambda params body scope pos) (envX cn cs L a ccd cl)) Q E s := by
  refine kla_eval hdef ?_
  rcases hL with ⟨rfl, rfl, rfl⟩ | ⟨hb, rfl, vs, t, hd, hv⟩
  · have N2 : News h₀ L s.heap (rest ++ [(ca, tabObj #[])]) := fun q hq => N q (by
      rcases List.mem_append.mp hq with hq | hq
      · exact List.mem_append_left _ hq
      · exact List.mem_append_right _ (by rw [List.mem_singleton.mp hq]; exact .head _))
    refine kla_nest F N2 T C hcd (updF_last hnP) h0 hn0 hcl fun f c' oc vs t ctv h' tk F' N' hd hv hlt hcf => ?_
    have hq : ∀ q ∈ rest, q.1 < c' := fun q hq => hlt q (List.mem_append_left _ hq)
    obtain ⟨qb, hqb, e⟩ := hbase
    refine h f c' oc ctv h' tk F' (fun q hq' => N' q ?_) (by rw [← e]; exact hq qb hqb) ⟨vs, t, hd, hv⟩ (fun q hq' => Nat.ne_of_lt (hq q hq')) (fun q hq' => Nat.lt_trans (hq q hq') hcf) hcf
    rcases List.mem_cons.mp hq' with rfl | hq'
    · exact .head _
    · refine .tail _ ?_
      rcases List.mem_append.mp hq' with hq' | hq'
      · exact .tail _ (List.mem_append_left _ hq')
      · rcases List.mem_cons.mp hq' with rfl | hq'
        · exact .head _
        · rw [List.mem_singleton.mp hq']
          exact .tail _ (List.mem_append_right _ (.head _))
  · refine kla_hit (c' := ca) F N T C hcd (List.mem_append_right _ (.tail _ (.head _))) (ht ca) (hf ca) hcl fun f ctv h' tk F' N' hlt => ?_
    exact h f ca co ctv h' tk F' N' hb ⟨vs, t, hd, hv⟩ hnc (fun q hq => hlt q (List.mem_append_left _ hq)) (hlt (ca, co) (List.mem_append_right _ (.head _)))
theorem mark_lam {Q : Value → Shared → Prop} {env : Env} (h : wpAny M A (eval (.Lambda params body scope pos) env) Q E s) : wpAny M A (eval (.Lambda params body scope pos) env) Q E s := h
end
section
variable {prog : Program} {w : World} {A A₀ : Around} {s : Shared} {K : Frag} {L : Addr} {h₀ base : Heap} {m mg mb : Str → Option Value} {p : Program} {loose : List Str} {mean : ExcName → Option Value}
/-- enter a lambda; all that stands when it is called is the ground of its frame -/
theorem lam_own {env : Env} {outer : List Env} {R : Result → Shared → Prop} {name qual : Str} {params : Arguments} {body : Expr} {scope : Scope} {cl : List (Str × Addr)} {pm ctv : Value} {c' : Addr} {f : Addr} {args : Args} {binds : List (Str × Value)}
    (B : Below A₀ base outer h₀) (F : Fr h₀ L s.heap m) (X₀ : K.In h₀) (T : Top p loose mean mg mb h₀) (hA : A.frames = some (env :: outer)) (hf : env.frame = some L) (hke : env.scope.kind = .function)
    (ho : s.heap.get? f = some (kla_obj name qual params body scope cl pm c' ctv)) (hcd : s.heap.CodeRec (.ref c') qual) (hroom : A.depth < recursionLimit)
    (hbind : bindArgs (kla_fn name qual params body scope cl pm (.ref c') ctv) args = pure binds) (hloc : ∀ y ∈ binds, scope.names.lookup y.1 = some .local)
    (h : ∀ h₁, Fr s.heap s.heap.objs.size h₁ (fun y => binds.reverse.lookup y) →
      wpAny (model prog w) (A.deeper (envX qual scope s.heap.objs.size f (.ref c') cl)) (eval body (envX qual scope s.heap.objs.size f (.ref c') cl))
        (fun v s' => R (.ok (.ret v)) s')
        (fun e s' => wpAny (model prog w) (A.deeper (envX qual scope s.heap.objs.size f (.ref c') cl)) (leaving (envX qual scope s.heap.objs.size f (.ref c') cl) e) (fun _ s'' => R (.error e) s'') (fun e' s'' => R (.error e') s'') s')
        { s with heap := h₁, toks := s.toks + binds.length })
    (hco : scope.isCoroutine = false) (hgen : scope.isGenerator = false) (hk : scope.kind = .function)
    (hcell : ∀ x ∈ scope.names, x.2 ≠ .cell) : codeAny (model prog w) A (.call (.ref f) args) R s := by
  refine kla_callFunE hroom ho rfl hco hgen rfl hcd ?_
  rw [hbind]
  refine wpAny_pure (wpAny_newFunctionEnv hcell hloc (fun h₁ hns hsb => ⟨((T.nolimit).keeps F.keep).fresh _ hsb, ?_⟩) hk)
  show codeAny _ _ (.expr body (envX qual scope s.heap.objs.size f (.ref c') cl)) _ _
  have hk₁ : ∀ b o, s.heap.get? b = some o → h₁.get? b = some o := fun b o e => hsb.extBut b o (Nat.ne_of_lt (Heap.lt_size e)) (Heap.get?_push_of_some _ e)
  exact kla_codeExpr (h h₁ ⟨hns, fun b o e => hk₁ b o e, Nat.le_refl _⟩)
end
/-- what the lambda wants to stand: itself, its code, the cell of the names, the names -/
def LamPre (f c' cc Dn : Addr) (name qual : Str) (params : Arguments) (body : Expr) (sc : Scope) (clos : List (Str × Addr)) (pm ctv : Value) (vs : List Value) (h : Heap) : Prop :=
  h.get? f = some (kla_obj name qual params body sc clos pm c' ctv) ∧ h.CodeRec (.ref c') qual ∧ h.IsCell cc (some (.ref Dn)) ∧ h.IsList Dn vs.toArray
theorem LamPre.keeps {f c' cc Dn : Addr} {name qual : Str} {params : Arguments} {body : Expr} {sc : Scope} {clos : List (Str × Addr)} {pm ctv : Value} {vs : List Value} {h h' : Heap} (k : Kept h h') (x : LamPre f c' cc Dn name qual params body sc clos pm ctv vs h) :
    LamPre f c' cc Dn name qual params body sc clos pm ctv vs h' := by
  obtain ⟨a, ⟨c, oc, ws, t, e, h1, h2, h3⟩, ⟨o, h4, h5⟩, ⟨ol, h6, h7⟩⟩ := x
  exact ⟨k _ _ a, ⟨c, oc, ws, t, e, k _ _ h1, h2, h3⟩, ⟨o, k _ _ h4, h5⟩, ⟨ol, k _ _ h6, h7⟩⟩
theorem lam_con (w : World) {f c' cc Dn : Addr} {name qual : Str} {params : Arguments} {p1 p2 p3 : Pos} {sc : Scope} {clos : List (Str × Addr)} {pm ctv : Value} {vs : List Value} {bs : List (Array UInt8)} (hBA : BytesAre vs bs) (hz : bs.length ≤ 1000)
    (hk : sc.kind = .function) (hco : sc.isCoroutine = false) (hgen : sc.isGenerator = false) (hcell : ∀ x ∈ sc.names, x.2 ≠ .cell) (hkl : sc.names.lookup (Str.ofString "k") = some .local) (hnf : sc.names.lookup (Str.ofString "names") = some .free)
    (hcl : clos.lookup (Str.ofString "names") = some cc)
    (hbind : ∀ v, bindArgs (kla_fn name qual params (.Subscript (.Name (Str.ofString "names") p1) (.Name (Str.ofString "k") p2) p3) sc clos pm (.ref c') ctv) ⟨[v], []⟩ = pure [(Str.ofString "k", v)])
    (i : Int) (t : Tok) (hi : 0 ≤ i) (hi2 : i < (bs.length : Int)) :
    Con w f [.int i t] (LamPre f c' cc Dn name qual params (.Subscript (.Name (Str.ofString "names") p1) (.Name (Str.ofString "k") p2) p3) sc clos pm ctv vs) (fun h h' v => ∃ t', v = .bytes (bs.getD i.toNat #[]) t') := by
  intro dp un gd cn cs a ccd cl outer A₀ base h₀ L m s Q E p loose mean mg mb B F X T hks hpre hdp hun hret
  obtain ⟨hf, hcd, hcc, hl⟩ := hpre
  refine wpAny_call ?_
  refine lam_own B F X T rfl rfl hks hf hcd (show dp < recursionLimit by omega) (hbind _) (fun y hy => ?_) (fun h₁ F1 => ?_) hco hgen hk hcell
  · rw [List.mem_singleton.mp hy]; exact hkl
  · have k1 : Kept s.heap h₁ := F1.keep
    have hcc1 : h₁.IsCell cc (some (.ref Dn)) := let ⟨o, e, d⟩ := hcc; ⟨o, k1 _ _ e, d⟩
    have hl1 : h₁.IsList Dn vs.toArray := let ⟨o, e, d⟩ := hl; ⟨o, k1 _ _ e, d⟩
    refine wpAny_Subscript_Name list_getitem_lookup (wpAny_Name (wpAny_loadName_free (c := cc) hk hnf hcl hcc1 ?_))
    refine wpAny_Name (wpAny_loadName_local (v := .int i t) hk hkl F1.ns rfl ?_)
    refine ⟨hl1.typeIs, ?_⟩
    obtain ⟨j, rfl⟩ := Int.eq_ofNat_of_zero_le hi
    obtain ⟨t', ht'⟩ := hBA.2 j (by omega)
    refine wpAny_getItem_list hl1 hi (by omega) (x := .bytes (bs.getD j #[]) t') (by simpa using ht') ?_
    exact hret _ _ _ k1 ⟨t', rfl⟩
end Mine
end
section
open PySem PySem.W PySem.Calls PyProof.Rows
namespace Mine
/-! the places of a name -/
theorem rising_inj {bs : List (Array UInt8)} (h : Rising bs) {i j : Nat} (hi : i < bs.length) (hj : j < bs.length) (e : (bs.getD i #[]).toList = (bs.getD j #[]).toList) : i = j := by
  rcases Nat.lt_trichotomy i j with q | q | q
  · have := h i j q hj
    rw [e, ord_self] at this; cases this
  · exact q
  · have := h j i q hi
    rw [e, ord_self] at this; cases this
def isNm (bs : List (Array UInt8)) (x : Array UInt8) (k : Int) : Bool := decide ((bs.getD k.toNat #[]).toList = x.toList)
def stepNm (bs : List (Array UInt8)) (x : Array UInt8) (l : List Int) (k : Int) : List Int := if isNm bs x k = true then l ++ [k] else l
theorem stepNm_grows (bs : List (Array UInt8)) (x : Array UInt8) : KPfGrows (stepNm bs x) := fun l k => by
  unfold stepNm; split
  · rw [List.length_append, List.length_singleton]; exact Nat.le_refl _
  · exact Nat.le_succ _
theorem stepNm_foldl (bs : List (Array UInt8)) (x : Array UInt8) : ∀ (ks l : List Int), ks.foldl (stepNm bs x) l = l ++ ks.filter (isNm bs x)
  | [], l => by simp
  | k :: r, l => by
    rw [List.foldl_cons, stepNm_foldl bs x r, List.filter_cons]
    unfold stepNm
    split <;> simp
theorem rangeKs_snoc (n : Nat) : rangeKs 0 (n + 1) = rangeKs 0 n ++ [(n : Int)] := by
  unfold rangeKs; rw [List.range_succ, List.map_append]; simp
theorem filter_none (bs : List (Array UInt8)) (x : Array UInt8) (n : Nat) (h : ∀ j, j < n → (bs.getD j #[]).toList ≠ x.toList) : (rangeKs 0 n).filter (isNm bs x) = [] := by
  rw [List.filter_eq_nil_iff]
  intro k hk
  obtain ⟨h1, h2⟩ := mem_rangeKs hk
  unfold isNm
  simp only [decide_eq_true_eq]
  exact h k.toNat (by omega)
theorem filter_one (bs : List (Array UInt8)) (x : Array UInt8) (j : Nat) (hj : (bs.getD j #[]).toList = x.toList) : ∀ n, j < n → (∀ i, i < n → (bs.getD i #[]).toList = x.toList → i = j) → (rangeKs 0 n).filter (isNm bs x) = [(j : Int)]
  | 0, h, _ => absurd h (Nat.not_lt_zero _)
  | n + 1, h, hu => by
    rw [rangeKs_snoc, List.filter_append]
    by_cases e : j = n
    · subst e
      rw [filter_none bs x j (fun i hi q => Nat.ne_of_lt hi (hu i (Nat.lt_succ_of_lt hi) q))]
      have : isNm bs x (j : Int) = true := by unfold isNm; simpa using hj
      rw [List.filter_cons, if_pos this]; rfl
    · rw [filter_one bs x j hj n (by omega) (fun i hi q => hu i (Nat.lt_succ_of_lt hi) q)]
      have : ¬ isNm bs x (n : Int) = true := by
        unfold isNm
        simp only [decide_eq_true_eq, Int.toNat_natCast]
        exact fun q => e (hu n (Nat.lt_succ_self _) q).symm
      rw [List.filter_cons, if_neg this]; rfl
/-- what is found is the place, or none -/
def FoundAt (bs : List (Array UInt8)) (x : Array UInt8) (fv : Value) : Prop :=
  (∃ j t, j < bs.length ∧ (bs.getD j #[]).toList = x.toList ∧ fv = Value.int (j : Nat) t) ∨ ((∀ j, j < bs.length → (bs.getD j #[]).toList ≠ x.toList) ∧ fv = Value.none)
theorem places {bs : List (Array UInt8)} (hr : Rising bs) {x : Array UInt8} {fv : Value} (hf : FoundAt bs x fv) {ys : List Value} (hy : IntsAre ys ((rangeKs 0 bs.length).foldl (stepNm bs x) [])) :
    (∃ (j : Nat) (t t' : Tok), fv = .int (j : Int) t ∧ ys = [.int (j : Int) t']) ∨ (fv = .none ∧ ys = []) := by
  rw [stepNm_foldl, List.nil_append] at hy
  rcases hf with ⟨j, t, hj, e, rfl⟩ | ⟨hno, rfl⟩
  · rw [filter_one bs x j e bs.length hj (fun i hi q => rising_inj hr hi hj (q.trans e.symm))] at hy
    cases hy with
    | cons n t' h =>
      cases h
      exact .inl ⟨j, t, t', rfl, rfl⟩
  · rw [filter_none bs x bs.length hno] at hy
    cases hy
    exact .inr ⟨rfl, rfl⟩
section
variable {prog : Program} {w : World} {A : Around} {E : Value → Shared → Prop} {s : Shared} {h₀ : Heap} {L : Addr} {m : Str → Option Value} {news : List (Addr × Obj)} {env : Env}
theorem item_any {value slice : Expr} {l : Addr} {items : Array Value} {k : Int} {t : Tok} {x : Value} {Q : Value → Shared → Prop} (hl : s.heap.IsList l items) (h0 : 0 ≤ k) (hfit : k < 2 ^ 63) (hx : items[k.toNat]? = some x)
    (hs : subscripted slice false (.ref l) (.int k t) = operate [.ref l, .int k t] (getItem (.ref l) (.int k t))) (h : Q x s) : wpAny (model prog w) A (subscriptTail value slice (.ref l) (.int k t)) Q E s :=
  kba_turn (value' := .Name (Str.ofString "_") ⟨0, 0, 0, 0⟩) (fun _ => rfl) (subscriptTail_builtin hl.typeIs list_getitem_lookup (wpAny_getItem_list hl h0 hfit hx h) hs (fun _ => rfl))
theorem item_b {value slice : Expr} {l : Addr} {vs : List Value} {bs : List (Array UInt8)} {c : Nat} {k : Int} {t : Tok} {Q : Value → Shared → Prop} (hb : BytesAre vs bs) (N : News h₀ L s.heap news) (hm : (l, listOf vs.toArray c) ∈ news) (hz : bs.length ≤ 1000) (h0 : 0 ≤ k) (h1 : k < (bs.length : Int))
    (hs : subscripted slice false (.ref l) (.int k t) = operate [.ref l, .int k t] (getItem (.ref l) (.int k t))) (h : ∀ t', Q (.bytes (bs.getD k.toNat #[]) t') s) : wpAny (model prog w) A (subscriptTail value slice (.ref l) (.int k t)) Q E s := by
  obtain ⟨j, rfl⟩ := Int.eq_ofNat_of_zero_le h0
  obtain ⟨t', ht'⟩ := hb.2 j (by omega)
  exact item_any (News.isList' N hm) h0 (by omega) (x := .bytes (bs.getD j #[]) t') (by simpa using ht') hs (h t')
theorem mark_lc2 {M : Model} {elt : Expr} {gs : List Comprehension} {sc : Scope} {ps : Pos} {Q : Value → Shared → Prop} (h : wpAny M A (eval (.ListComp elt gs sc ps) env) Q E s) : wpAny M A (eval (.ListComp elt gs sc ps) env) Q E s := h
theorem mark_csrcT {ct elt : Expr} {x : Str} {scope : Scope} {cl : List (Str × Addr)} {FinS : Shared → List Value → List (Addr × Obj) → Prop} {xv : Value} {s₁ : Shared} (h : LCt.CompSrcT prog w A h₀ L m env ct elt x scope cl FinS xv s₁) : LCt.CompSrcT prog w A h₀ L m env ct elt x scope cl FinS xv s₁ := h
theorem mark_st {value slice : Expr} {a b : Value} {M : Model} {Q : Value → Shared → Prop} (h : wpAny M A (subscriptTail value slice a b) Q E s) : wpAny M A (subscriptTail value slice a b) Q E s := h
theorem mark_eq2 {a b : Value} {Q : Value → Shared → Prop} {M : Model} (h : wpAny M A (compareOp .Eq a b) Q E s) : wpAny M A (compareOp .Eq a b) Q E s := h
end
end Mine
end
section
open PySem PySem.W PySem.Calls PyProof.Rows
set_option maxHeartbeats 8000000
namespace Mine
local macro_rules | `(tactic| k_ne) => `(tactic| (refine neN ?_; (try dsimp only); first | with_reducible assumption | with_reducible exact Ne.symm (by assumption) | with_reducible exact Nat.ne_of_lt (by assumption) | with_reducible exact Nat.ne_of_gt (by assumption) | fail "no such fact"))
local macro_rules | `(tactic| k_lt $h:ident) => `(tactic| (replace $h := allLt_of $h; dsimp only [AllLt] at $h:ident))
local macro_rules | `(tactic| walk_at "my_enter") => `(tactic| (
  (case kA => exact rfl); (case kF => exact rfl); (case kK => assumption); (case k1 => k_asm); (case k2 => k_asm); (case k3 => k_asm); (case k5 => k_asm); (case k6 => k_is); (case k7 => k_is); (case k8 => ktr_room); (case k9 => exact BindsTo.of_eq rfl); (case c5 => decide); (case kB => exact locs rfl); (case c2 => exact rfl); (case c3 => exact rfl); (case c4 => exact rfl); k_whole))
local macro_rules | `(tactic| walk_at "my_step") => `(tactic| first | (k_unfold; (try dsimp only)) | (k_end; wrow_close) | walk1 | (dsimp only; walk1) | (leave1; (try dsimp only)))
local macro_rules | `(tactic| walk_at "newList") => `(tactic| (k_here; k_dflt (refine' my_newList ?k1 ?k2 ?_ ?k3; (case k1 => k_asm); (case k2 => k_asm); (case k3 => size_fits); k_whole); intro l' h' F' N' l1 l2; (try k_lt l1); (try k_lt2 l2); (try k_sweep)))
local macro_rules | `(tactic| walk_at "newTuple") => `(tactic| (k_here; k_dflt (refine' my_newTuple ?k1 ?k2 ?_ ?k3; (case k1 => k_asm); (case k2 => k_asm); (case k3 => exact Nat.le_of_ble_eq_true rfl); k_whole); intro l' h' F' N' l1 l2; (try k_lt l1); (try k_lt2 l2); (try k_sweep)))
local macro_rules | `(tactic| walk_at "exec Assign cons List") => `(tactic| refine wpAny_Assign_Name ?_)
local macro_rules | `(tactic| walk_at "execs cons Assign cons") => `(tactic| refine wpAny_execs_cons ?_)
local macro_rules | `(tactic| walk_at "binaryOp FloorDiv int int") => `(tactic| refine floordiv_int (p128_ne _) ?_ (Or.inl (PyProof.noPylong_of_log2 (p128_log (by omega)))))
local macro_rules | `(tactic| walk_at "call builtin:list.insert") => `(tactic| (k_here; k_dflt (refine' my_insert0 ?F ?N ?U ?z ?_; (case F => k_asm); (case N => k_asm); (case U => k_upd); (case z => omega)); intro h' F' N'))
local macro_rules | `(tactic| walk_at "call builtin:list.extend") => `(tactic| (k_here; k_dflt (refine' my_extend ?F ?N ?b ?ne ?U ?z ?_; (case F => k_asm); (case N => k_asm); (case b => k_mem); (case U => k_upd); (case ne => omega); (case z => (simp only [List.length_append, List.length_cons, List.length_nil]; omega))); intro h' F' N'))
local macro_rules | `(tactic| walk_at "binaryOp LShift int int") => `(tactic| refine lshift_int_small (by omega) (by omega) (by rw [bitAnd_m7]; omega) ?_)
local macro_rules | `(tactic| walk_at "inplaceOp LShift int int") => `(tactic| refine ilshift_int (by decide) (by assumption) ?_)
local macro_rules | `(tactic| walk_at "exec Raise some none") => `(tactic| (k_here; (with_reducible show wpAny _ _ (exec (Stmt.Raise (some (Expr.Name ("AssertionError" : Str) _)) none _) _) _ _ _); (with_reducible rename Fr _ _ _ _ => kF); k_dflt (refine' Raise_classB ?hh excClass_AssertionError ?hs ?hx ?_; (case hh => rfl); (case hs => (rw [isSubtype_type]; kernel_rfl)); (case hx => (refine' name_B kF ?k1 ?k2 ?k3 ?k4 ?k5 ?_; (case k1 => k_asm); (case k2 => k_asm); (case k3 => k_is); (case k4 => boot_by_name); (case k5 => decide); exact ⟨rfl, rfl⟩))); intro h' e' x'))
local macro_rules | `(tactic| walk_at "getMethod type:Exception") => `(tactic| (k_here; refine' method_type ?F ?X ?m (by decide +kernel) ?e ?h ?_; (case F => k_asm); (case X => k_asm); (case m => exact meta_Exc); (case e => k_dflt k_is); (case h => k_handed)))
local macro_rules | `(tactic| walk_at "formatField int") => `(tactic| ((try dsimp only); refine wpAny_formatField_int (by assumption) ?_))
local macro_rules | `(tactic| walk_at "le") => `(tactic| exact pos_fits (by assumption))
local macro_rules | `(tactic| walk_at "joinParts") => `(tactic| ((with_reducible show wpAny _ _ (joinParts _ (evalEach [] _)) _ _ _); refine joinParts_nilE (joinParts_nil ?_ (pos_fits (by assumption)))))
local macro_rules | `(tactic| walk_at "compareOp Lt bytes bytes") => `(tactic| refine lt_bytes ?_)
local macro_rules | `(tactic| walk_at "compareOp Gt bytes bytes") => `(tactic| refine gt_bytes ?_)
local macro_rules | `(tactic| walk_at "call builtin:len") => `(tactic| (k_here; (with_reducible rename BytesAre _ _ => kBA); (refine' len_b kBA ?N ?m ?z ?_; (case N => k_asm); (case m => k_mem); (case z => omega))))
theorem reset_sized : True := by
  w_top off
  trivial
structure LS where
  sz : Int
  t : Tok
  vs : List Value
  ns : List Int
  c : Nat
theorem sized_con (w : World) (k n : Int) (t1 t2 : Tok) (hk1 : 1 ≤ k) (hk2 : k < 8) (hn : 0 ≤ n) (hn2 : n < 10 ^ 60) : Con w 115 [.int k t1, .int n t2] (fun _ => True)
    (fun h h' v => ∃ D, v = .ref D ∧ h.objs.size ≤ D ∧ IntList D (encL (k * 16 + n.fmod 16) (n.fdiv 16).toNat) h') := by
  unfold Con
  k_fill
  intro dp un gd cn cs a ccd cl outer A₀ base h₀ L m s Q E p loose mean mg mb B F X T hk _ hdp hun hret
  have hres : (encL (k * 16 + n.fmod 16) (n.fdiv 16).toNat).length ≤ 31 := encL_len 30 _ _ (by rw [Int.fdiv_eq_ediv_of_nonneg _ (by decide)]; omega)
  generalize hre : encL (k * 16 + n.fmod 16) (n.fdiv 16).toNat = res at hret hres
  refine wpAny_call ?_
  k_dflt (refine' code_own (binds := [(Str.ofString "kind", .int k t1), (Str.ofString "size", .int n t2)]) ?k1 ?k2 ?k3 ?k5 ?kA ?kF ?kK ?k6 ?k7 ?k8 ?k9 ?kB ?_ ?c2 ?c3 ?c4 ?c5; walk_at "my_enter")
  intro h' F' B' X' T'
  have N' : News s.heap s.heap.objs.size h' [] := News.nil
  clear B F X T
  (try dsimp only)
  (try k_fold)
  (repeat (fail_if_success (with_reducible refine mark_while ?_)); walk_at "my_step")
  rename_i D hx1 lx1 hLD hx2 hz FF NN
  refine my_while (σ := LS) (Led := fun c => [(D, listOf c.vs.toArray c.c)]) (ps := fun c => [(Str.ofString "octets", .ref D), (Str.ofString "size", .int c.sz c.t)]) (stored := []) (P := fun c => IntsAre c.vs c.ns ∧ 0 ≤ c.sz ∧ ∃ pre x, c.ns = pre ++ [x] ∧ pre ++ encL x c.sz.toNat = res) (μ := fun c => c.sz.toNat) FF NN ?_ ?_
  · exact ⟨⟨n.fdiv 16, _, [_], [_], _⟩, allc (.head _) alln, allc rfl (allc rfl alln), .cons _ _ .nil, Int.fdiv_nonneg hn (by decide), [], _, rfl, hre⟩
  rintro ⟨sz, t, vs, ns, c⟩ u h tk ⟨hI, h0, pre, x, hnx, hpx⟩ FF NN
  dsimp only at hI h0 hnx hpx FF NN
  have hl : 0 < ns.length := by rw [hnx]; simp
  have hb : ns.length < 100 := by
    have h1 := encL_len_pos x sz.toNat
    have h2 := congrArg List.length hpx
    rw [List.length_append] at h2
    rw [hnx, List.length_append, List.length_singleton]; omega
  have mk := kstMark
  have hvl := IntsAre.length hI
  (try k_fold)
  (repeat (fail_if_success (with_reducible refine mark_ite ?_)); walk_at "my_step")
  by_cases hz : 0 < sz
  · simp only [hz, decide_true, if_true]
    (try k_fold)
    (repeat (fail_if_success (with_reducible refine mark_kend ?_)); walk_at "my_step")
    rename News _ _ _ _ => NE
    rename Fr _ _ _ _ => FE
    rename IntsAre _ _ => hI2
    obtain ⟨t1, t2⟩ := enc_turn hnx hpx hz
    rw [t1] at hI2
    simp only [List.push_toArray] at NE
    exact my_end ⟨sz.fdiv 128, _, _, _, _⟩ FE NE (allc (.head _) alln) (allc rfl (allc rfl alln)) (by (intro z h2 h3; (simp only [List.forall_mem_cons, List.not_mem_nil, false_implies, implies_true, and_true, ne_eq] at h2); (simp only [List.contains_cons, List.contains_nil, Bool.or_false, Bool.or_eq_false_iff, beq_eq_false_iff_ne, ne_eq] at h3); simp [kstB, h2, h3])) ⟨IntsAre.append hI2 (.cons _ _ .nil), Int.fdiv_nonneg h0 (by decide), _, _, rfl, t2⟩
      (by dsimp only; rw [Int.fdiv_eq_ediv_of_nonneg _ (by decide)]; omega)
  simp only [hz, decide_false]
  (repeat walk_at "my_step")
  have hsz : sz.toNat = 0 := by omega
  rw [hsz, encL_zero, ← hnx] at hpx
  exact hret _ _ _ FF.keep ⟨D, rfl, Nat.le_of_lt hLD, vs, c, (NN _ (.head _)).1, hpx ▸ hI⟩
theorem reset_apart : True := by
  w_top off
  trivial
structure LA where
  j : Nat
  t : Tok
  u : Tok
structure LB where
  vs : List Value
  c : Nat
theorem apart_con (w : World) (v0 : Int) (t0 : Tok) (hv : 0 ≤ v0) (hv2 : v0 < 10 ^ 60) : Con w 122 [.int v0 t0] (fun _ => True)
    (fun h h' v => ∃ D, v = .ref D ∧ h.objs.size ≤ D ∧ IntList D (ofsL v0.toNat) h') := by
  unfold Con
  k_fill
  intro dp un gd cn cs a ccd cl outer A₀ base h₀ L m s Q E p loose mean mg mb B F X T hk hpre hdp hun hret
  refine wpAny_call ?_
  k_dflt (refine' code_own (binds := [(Str.ofString "distance", .int v0 t0)]) ?k1 ?k2 ?k3 ?k5 ?kA ?kF ?kK ?k6 ?k7 ?k8 ?k9 ?kB ?_ ?c2 ?c3 ?c4 ?c5; walk_at "my_enter")
  intro h' F' B' X' T'
  have N' : News s.heap s.heap.objs.size h' [] := News.nil
  have mk := kstMark
  clear B F X T
  (try dsimp only)
  (try k_fold)
  (repeat (fail_if_success (with_reducible refine mark_while ?_)); walk_at "my_step")
  rename Fr _ _ _ _ => FF
  rename News _ _ _ _ => NN
  refine my_while (σ := LA) (Led := fun c => []) (ps := fun c => [(Str.ofString "count", .int (c.j + 1) c.t), (Str.ofString "least", .int (T7 c.j) c.u)]) (stored := []) (P := fun c => T7 c.j ≤ v0) (μ := fun c => (v0 - T7 c.j).toNat) FF NN ?_ ?_
  · exact ⟨⟨0, _, _⟩, alln, allc rfl (allc rfl alln), hv⟩
  rintro ⟨j, t, u'⟩ u h tk hP FF NN
  dsimp only at hP FF NN
  have hj := T7_small hP hv2
  (try k_fold)
  (repeat (fail_if_success (with_reducible refine mark_ite ?_)); walk_at "my_step")
  have hc1 : ((j : Int) + 1).toNat = j + 1 := by omega
  rw [hc1]
  have e1 : T7 (j + 1) = T7 j + 128 ^ (j + 1) := rfl
  have hp : (0 : Int) < 128 ^ (j + 1) := Int.pow_pos (by decide)
  by_cases hz : T7 j + 128 ^ (j + 1) ≤ v0
  · simp only [hz, decide_true, if_true]
    (try k_fold)
    (repeat (fail_if_success (with_reducible refine mark_kend ?_)); walk_at "my_step")
    rename News _ _ _ _ => NE
    rename Fr _ _ _ _ => FE
    rw [hc1] at FE
    exact my_end ⟨j + 1, _, _⟩ FE NE alln (allc rfl (allc rfl alln)) (by (intro z h2 h3; (simp only [List.forall_mem_cons, List.not_mem_nil, false_implies, implies_true, and_true, ne_eq] at h2); (simp only [List.contains_cons, List.contains_nil, Bool.or_false, Bool.or_eq_false_iff, beq_eq_false_iff_ne, ne_eq] at h3); simp [kstB, h2, h3])) (by rw [e1]; exact hz) (by dsimp only; rw [e1]; omega)
  simp only [hz, decide_false]
  (repeat (fail_if_success (with_reducible refine mark_iter ?_)); walk_at "my_step")
  rename Fr _ _ _ _ => FF
  rename News _ _ _ _ => NN
  rename IsRange _ _ _ _ _ _ _ _ => HR
  rename (_ < (_ : Addr)) => hLD
  obtain ⟨D, rfl⟩ := news_head NN
  refine my_range (σ := LB) (j + 1) (fun c => [(D, listOf c.vs.toArray c.c)]) (fun c => []) [] (fun i c => IntsAre c.vs ((List.range i).map (apV j (v0 - T7 j)))) rfl HR (by omega) (by omega) FF NN ?_ ?_ ?_
  · exact ⟨⟨[], _⟩, allc (.head _) alln, alln, .nil, fun _ => rfl⟩
  · rintro ⟨vs, c⟩ pre i t3 u3 h3 tk3 own hi hpre hoff hI F3 N3
    dsimp only at hoff hI F3 N3
    have hvl := IntsAre.length hI
    rw [List.length_map, List.length_range] at hvl
    (try k_fold)
    (repeat (fail_if_success (with_reducible refine mark_rend ?_)); walk_at "my_step")
    rename News _ _ _ _ => NE
    rename Fr _ _ _ _ => FE
    rw [apV_step hi] at NE
    simp only [List.push_toArray, List.singleton_append] at NE
    refine my_rend ⟨_, _⟩ FE NE (allc (.head _) alln) (fun p hp => .tail _ hp) rfl alln (by (intro z h1 h2 h3; (simp only [List.forall_mem_cons, List.not_mem_nil, false_implies, implies_true, and_true, ne_eq] at h2); (simp only [List.contains_cons, List.contains_nil, Bool.or_false, Bool.or_eq_false_iff, beq_eq_false_iff_ne, ne_eq] at h3); simp [kstB, h1, h2, h3])) ?_
    dsimp only
    rw [List.length_append, hpre, List.length_singleton, List.range_succ, List.map_append]
    exact IntsAre.append hI (.cons _ _ .nil)
  · rintro ⟨vs, c⟩ u3 h3 tk3 hI F3 N3
    dsimp only at hI
    (try k_fold)
    (repeat walk_at "my_step")
    have hI' : IntsAre vs (ofsL v0.toNat) := by rw [← apart_eq hP (by omega)]; exact hI
    exact hret _ _ _ F3.keep ⟨D, rfl, Nat.le_of_lt hLD, vs, c, (N3 _ (.head _)).1, hI'⟩
theorem reset_pack : True := by
  w_top off
  trivial
structure LP where
  cc : Int
  sz : Int
  t : Tok
  t' : Tok
  vs : List Value
  ns : List Int
  c : Nat
structure LQ where
  sz : Int
  t : Tok
  vs : List Value
  ns : List Int
  c : Nat
theorem pack_con (w : World) (k n : Int) (bv : Value) (t1 t2 : Tok) (hk1 : 1 ≤ k) (hk2 : k < 8) (hn : 0 ≤ n) (hn2 : n < 10 ^ 60) (ex : List Int) (hb6 : k = 6 → ∃ d td, bv = .int d td ∧ 0 ≤ d ∧ d < 10 ^ 60 ∧ ex = ofsL d.toNat) (hb7 : k = 7 → ∃ b tb, bv = .bytes b tb ∧ b.size = 20 ∧ ex = KBw.bInts b) (hb0 : k ≠ 6 → k ≠ 7 → ex = []) : ConC w 77 [.int k t1, bv, .int n t2, .ref 107] (fun _ => True)
    (fun h h' v => ∃ D b, v = .ref D ∧ h.objs.size ≤ D ∧ h'.get? D = some (baObj b) ∧ KBw.bInts b = encL (k * 16 + n.fmod 16) (n.fdiv 16).toNat ++ ex) := by
  unfold ConC
  k_fill
  intro dp un gd cn cs a ccd cl outer A₀ base h₀ L m s Q E p loose mean mg mb B F X T hk _ hdp hun hret
  have hres : (encL (k * 16 + n.fmod 16) (n.fdiv 16).toNat).length ≤ 31 := encL_len 30 _ _ (by rw [Int.fdiv_eq_ediv_of_nonneg _ (by decide)]; omega)
  have hrb : ∀ x ∈ encL (k * 16 + n.fmod 16) (n.fdiv 16).toNat, 0 ≤ x ∧ x < 256 := encL_bytes _ _ (by rw [Int.fmod_eq_emod_of_nonneg _ (by decide)]; omega) (by rw [Int.fmod_eq_emod_of_nonneg _ (by decide)]; omega)
  generalize hre : encL (k * 16 + n.fmod 16) (n.fdiv 16).toNat = res at hret hres hrb
  refine wpC_call ?_
  k_dflt (refine' code_ownC (binds := [(Str.ofString "type_num", .int k t1), (Str.ofString "delta_base", bv), (Str.ofString "size", .int n t2), (Str.ofString "object_format", .ref 107)]) ?k1 ?k2 ?k3 ?k5 ?kA ?kF ?kK ?k6 ?k7 ?k8 ?k9 ?kB ?_ ?c2 ?c3 ?c4 ?c5; walk_at "my_enter")
  intro h' F' B' X' T'
  have N' : News s.heap s.heap.objs.size h' [] := News.nil
  have mk := kstMark
  clear B F X T
  (try dsimp only)
  (refine wpC_execs_consA ?_; (try k_fold); (repeat walk_at "my_step"))
  (refine wpC_execs_consA ?_; (try k_fold); (repeat walk_at "my_step"))
  (refine wpC_execs_consA ?_; (try k_fold); (repeat walk_at "my_step"))
  refine wpC_execs_consA ?_
  rename Fr _ _ _ _ => FF
  rename News _ _ _ _ => NN
  rename (_ < (_ : Addr)) => hLD
  obtain ⟨D, rfl⟩ := news_head NN
  have hc0 : Builtin.bitOr (k * 2 ^ Int.toNat 4) (Builtin.bitAnd n 15) = k * 16 + n.fmod 16 := by
    rw [bitAnd_m4, Int.fmod_eq_emod_of_nonneg _ (by decide)]
    exact or16 (by omega) hk2 (by omega) (by omega)
  rw [hc0] at FF
  have hcR : 0 ≤ k * 16 + n.fmod 16 ∧ k * 16 + n.fmod 16 < 128 := by rw [Int.fmod_eq_emod_of_nonneg _ (by decide)]; omega
  refine my_while (σ := LP) (Led := fun c => [(D, listOf c.vs.toArray c.c)]) (ps := fun c => [(Str.ofString "c", .int c.cc c.t), (Str.ofString "size", .int c.sz c.t')]) (stored := []) (P := fun c => IntsAre c.vs c.ns ∧ 0 ≤ c.cc ∧ c.cc < 128 ∧ 0 ≤ c.sz ∧ c.ns ++ encL c.cc c.sz.toNat = res) (μ := fun c => c.sz.toNat) FF NN ?_ ?_
  · exact ⟨⟨_, _, _, _, [], [], _⟩, allc (.head _) alln, allc rfl (allc rfl alln), .nil, hcR.1, hcR.2, Int.fdiv_nonneg hn (by decide), hre⟩
  rintro ⟨cc, sz, t, t', vs, ns, c⟩ u h tk ⟨hI, hc1, hc2, h0, hpx⟩ FF NN
  dsimp only at hI hc1 hc2 h0 hpx FF NN
  have hb : ns.length < 100 := by
    have h1 := encL_len_pos cc sz.toNat
    have h2 := congrArg List.length hpx
    rw [List.length_append] at h2; omega
  have hvl := IntsAre.length hI
  (try k_fold)
  (repeat (fail_if_success (with_reducible refine mark_ite ?_)); walk_at "my_step")
  by_cases hz : sz = 0
  · subst hz
    simp only [bne_self_eq_false, Bool.false_eq_true, if_false]
    rw [show ((0 : Int).toNat) = 0 from rfl, encL_zero] at hpx
    refine wpC_execs_consA ?_
    (try k_fold)
    (repeat walk_at "my_step")
    rename Fr _ _ _ _ => F3
    rename News _ _ _ _ => N3
    simp only [List.push_toArray] at N3
    have hI3 : IntsAre (vs ++ [.int cc t]) res := hpx ▸ IntsAre.append hI (.cons _ _ .nil)
    refine wpC_execs_consA ?_
    (try k_fold)
    (repeat (fail_if_success (with_reducible refine mark_ite ?_)); walk_at "my_step")
    by_cases h6 : k = 6
    · obtain ⟨d, td, rfl, hd0, hd1, hex⟩ := hb6 h6
      have h6' : (k == 6) = true := by simpa using h6
      rw [if_pos h6']
      (try k_fold)
      (repeat (fail_if_success (with_reducible refine mark_while ?_)); walk_at "my_step")
      rename Fr _ _ _ _ => F4
      rename News _ _ _ _ => N4
      rename (_ < (_ : Addr)) => hLR
      obtain ⟨R, rfl⟩ := news_head N4
      rw [bitAnd_m7] at N4
      have hle : (ofsG (d.fdiv 128).toNat).length ≤ 40 := ofsG_len 40 _ (by rw [Int.fdiv_eq_ediv_of_nonneg _ (by decide)]; omega)
      refine my_while (σ := LQ) (Led := fun q => [(R, listOf q.vs.toArray q.c), (D, listOf (vs ++ [Value.int cc t]).toArray (c + 1))]) (ps := fun q => [(Str.ofString "delta_base", .int q.sz q.t)]) (stored := []) (P := fun q => IntsAre q.vs q.ns ∧ 0 ≤ q.sz ∧ ofsG q.sz.toNat ++ q.ns = ofsL d.toNat) (μ := fun q => q.sz.toNat) F4 N4 ?_ ?_
      · refine ⟨⟨d.fdiv (2 ^ Int.toNat 7), _, [_], [_], _⟩, allc (.head _) (allc (.tail _ (.head _)) alln), allc rfl alln, .cons _ _ .nil, Int.fdiv_nonneg hd0 (by decide), ?_⟩
        dsimp only
        unfold ofsL
        have e1 : (d.fdiv (2 ^ Int.toNat 7)).toNat = d.toNat / 128 := by
          rw [show ((2 : Int) ^ Int.toNat 7) = 128 from rfl, Int.fdiv_eq_ediv_of_nonneg _ (by decide)]; omega
        have e2 : d % 128 = ((d.toNat % 128 : Nat) : Int) := by omega
        rw [e1, e2]
      rintro ⟨d', td', vr, nr, cr⟩ ur hr tkr ⟨hIr, hd', hpr⟩ FR NR
      dsimp only at hIr hd' hpr FR NR
      have hvr := IntsAre.length hIr
      have hbr : nr.length < 100 := by
        have h2 := congrArg List.length hpr
        have h3 := ofsG_len 40 (d.toNat / 128) (by omega)
        unfold ofsL at h2
        rw [List.length_append, List.length_append, List.length_singleton] at h2
        omega
      (try k_fold)
      (repeat (fail_if_success (with_reducible refine mark_ite ?_)); walk_at "my_step")
      by_cases hz : d' = 0
      · subst hz
        rw [if_neg (by simp)]
        rw [show ((0 : Int).toNat) = 0 from rfl, ofsG_zero, List.nil_append] at hpr
        have hnr : nr.length ≠ 0 := by rw [hpr]; unfold ofsL; simp
        have hvs2 : vr.length ≠ 0 := by omega
        (try k_fold)
        (repeat walk_at "my_step")
        (refine wpC_execs_cons (wpC_Return_some (wpC_Call_Name ?_)); (try k_fold); (repeat walk_at "my_step"); refine wpC_callWith (P := fun _ => True) rfl (fun _ _ => ⟨.machine, .inr (.inl rfl), Looks.of_pure rfl⟩) ?_; refine evalArgs_plain ?_; refine spliced_cons ?_; (show wpAny _ _ (eval _ _) _ _ _); (try k_fold); (repeat walk_at "my_step"); trivial)
        have hr6 : ∀ x ∈ res ++ nr, 0 ≤ x ∧ x < 256 := fun x hx => by
          rcases List.mem_append.mp hx with hx | hx
          · exact hrb x hx
          · rw [hpr] at hx; exact ofsL_bytes _ x hx
        rename News _ _ _ _ => N9
        rename Fr _ _ _ _ => F9
        refine bytearray_C (News.isList' N9 (.tail _ (.head _))) (IntsAre.append hI3 hIr) (hr6) (by simp only [List.length_append]; have : sizeLine = 16777216 := rfl; omega) fun D9 h9 tk9 hk9 hle9 hD9 => ?_
        refine hret _ _ _ (Kept.trans F9.keep hk9) ⟨D9, _, rfl, ?_, hD9, ?_⟩
        · exact Nat.le_trans (size_of_fr F9) hle9
        · rw [KBa.ints_make (fun x hx => hr6 x hx)]; rw [hpr, hex]
      rw [if_pos (by simpa using hz)]
      (try k_fold)
      (repeat (fail_if_success (with_reducible refine mark_kend ?_)); walk_at "my_step")
      rename News _ _ _ _ => NE
      rename Fr _ _ _ _ => FE
      rw [bitAnd_m7, or128' (Int.emod_nonneg _ (by decide)) (Int.emod_lt_of_pos _ (by decide))] at NE
      exact my_end ⟨(d' - 1).fdiv 128, _, _, _, _⟩ FE NE (allc (.head _) (allc (.tail _ (.head _)) alln)) (allc rfl alln) (by (intro z h2 h3; (simp only [List.forall_mem_cons, List.not_mem_nil, false_implies, implies_true, and_true, ne_eq] at h2); (simp only [List.contains_cons, List.contains_nil, Bool.or_false, Bool.or_eq_false_iff, beq_eq_false_iff_ne, ne_eq] at h3); simp [kstB, h2, h3])) ⟨.cons _ _ hIr, Int.fdiv_nonneg (by omega) (by decide), ofs_turn hpr (by omega)⟩
        (by dsimp only; rw [Int.fdiv_eq_ediv_of_nonneg _ (by decide)]; omega)
    have h6' : (k == 6) = false := by simpa using h6
    rw [h6', if_neg (by simp)]
    (try k_fold)
    (repeat (fail_if_success (with_reducible refine mark_ite ?_)); walk_at "my_step")
    by_cases h7 : k = 7
    · obtain ⟨b, tb, rfl, hbs, hex⟩ := hb7 h7
      have h7' : (k == 7) = true := by simpa using h7
      rw [if_pos h7']
      (try k_fold)
      (repeat (fail_if_success (with_reducible refine mark_ite ?_)); walk_at "my_step")
      rw [if_pos (by simp)]
      (try k_fold)
      (repeat (fail_if_success (with_reducible refine mark_ite ?_)); walk_at "my_step")
      rw [if_pos (by simp [hbs])]
      (try k_fold)
      (repeat (fail_if_success (with_reducible refine mark_iop ?_)); walk_at "my_step")
      rename Fr _ _ _ _ => F4
      rename News _ _ _ _ => N4
      refine iadd_bytes_N F4 N4 alln (by rw [hbs, List.length_append, List.length_singleton]; omega) rfl ?_
      intro h5 tk5 vs5 c5 F5 N5 hI5
      (try k_fold)
      (repeat walk_at "my_step")
      (refine wpC_execs_cons (wpC_Return_some (wpC_Call_Name ?_)); (try k_fold); (repeat walk_at "my_step"); refine wpC_callWith (P := fun _ => True) rfl (fun _ _ => ⟨.machine, .inr (.inl rfl), Looks.of_pure rfl⟩) ?_; refine evalArgs_plain ?_; refine spliced_cons ?_; (show wpAny _ _ (eval _ _) _ _ _); (try k_fold); (repeat walk_at "my_step"); trivial)
      have hr7 : ∀ x ∈ res ++ KBw.bInts b, 0 ≤ x ∧ x < 256 := fun x hx => by
        rcases List.mem_append.mp hx with hx | hx
        · exact hrb x hx
        · exact KBw.ints_in hx
      rename News _ _ _ _ => N9
      rename Fr _ _ _ _ => F9
      refine bytearray_C (News.isList' N9 (.head _)) (IntsAre.append hI3 hI5) (hr7) (by simp only [List.length_append]; have : sizeLine = 16777216 := rfl; have := KBw.ints_length b; omega) fun D9 h9 tk9 hk9 hle9 hD9 => ?_
      refine hret _ _ _ (Kept.trans F9.keep hk9) ⟨D9, _, rfl, ?_, hD9, ?_⟩
      · exact Nat.le_trans (size_of_fr F9) hle9
      · rw [KBa.ints_make (fun x hx => hr7 x hx)]; rw [hex]
    have h7' : (k == 7) = false := by simpa using h7
    rw [h7', if_neg (by simp)]
    (try k_fold)
    (repeat walk_at "my_step")
    (refine wpC_execs_cons (wpC_Return_some (wpC_Call_Name ?_)); (try k_fold); (repeat walk_at "my_step"); refine wpC_callWith (P := fun _ => True) rfl (fun _ _ => ⟨.machine, .inr (.inl rfl), Looks.of_pure rfl⟩) ?_; refine evalArgs_plain ?_; refine spliced_cons ?_; (show wpAny _ _ (eval _ _) _ _ _); (try k_fold); (repeat walk_at "my_step"); trivial)
    rename News _ _ _ _ => N9
    rename Fr _ _ _ _ => F9
    refine bytearray_C (News.isList' N9 (.head _)) hI3 (hrb) (by have : sizeLine = 16777216 := rfl; omega) fun D9 h9 tk9 hk9 hle9 hD9 => ?_
    refine hret _ _ _ (Kept.trans F9.keep hk9) ⟨D9, _, rfl, ?_, hD9, ?_⟩
    · exact Nat.le_trans (size_of_fr F9) hle9
    · rw [KBa.ints_make (fun x hx => hrb x hx)]; rw [hb0 h6 h7, List.append_nil]
  · have hz' : (sz != 0) = true := by simpa using hz
    rw [if_pos hz']
    (try k_fold)
    (repeat (fail_if_success (with_reducible refine mark_kend ?_)); walk_at "my_step")
    rename News _ _ _ _ => NE
    rename Fr _ _ _ _ => FE
    rw [or128 hc1 hc2] at NE
    rw [bitAnd_m7] at FE
    simp only [List.push_toArray] at NE
    exact my_end ⟨sz % 128, sz.fdiv 128, _, _, _, _, _⟩ FE NE (allc (.head _) alln) (allc rfl (allc rfl alln)) (by (intro z h2 h3; (simp only [List.forall_mem_cons, List.not_mem_nil, false_implies, implies_true, and_true, ne_eq] at h2); (simp only [List.contains_cons, List.contains_nil, Bool.or_false, Bool.or_eq_false_iff, beq_eq_false_iff_ne, ne_eq] at h3); simp [kstB, h2, h3])) ⟨IntsAre.append hI (.cons _ _ .nil), Int.emod_nonneg _ (by decide), Int.emod_lt_of_pos _ (by decide), Int.fdiv_nonneg h0 (by decide), pack_turn hpx (by omega)⟩
      (by dsimp only; rw [Int.fdiv_eq_ediv_of_nonneg _ (by decide)]; omega)
theorem reset_take : True := by
  w_top off
  trivial
structure LT where
  j : Nat
  t : Tok
  vs : List Value
  c : Nat
theorem take_con (w : World) (v0 : Array UInt8) (t0 : Tok) (v1 : Int) (t1 : Tok) (ks T : List Int) (i : Nat) (hv1 : v1 = i) (hb : KBw.bInts v0 = ks) (hks : ks.length < 1000) (last : Int) (pre mk post : List Int) (hT : T = mk ++ [last]) (hsp : ks = pre ++ T ++ post) (hpl : pre.length = i) (hmk : ∀ x ∈ mk, 128 ≤ x) (hl : last < 128) : Con w 49 [.bytes v0 t0, .int v1 t1] (fun h => True) (fun h h' v => ∃ D R tt, v = .ref R ∧ h.objs.size ≤ D ∧ h.objs.size ≤ R ∧ IntList D T h' ∧ h'.get? R = some (tupleOf [.ref D, .int (i + T.length) tt])) := by
  unfold Con
  k_fill
  intro dp un gd cn cs a ccd cl outer A₀ base h₀ L m s Q E p loose mean mg mb B F X Tp hk hpre hdp hun hret
  refine wpAny_call ?_
  k_dflt (refine' code_own (binds := [(Str.ofString "contents", .bytes v0 t0), (Str.ofString "offset", .int v1 t1)]) ?k1 ?k2 ?k3 ?k5 ?kA ?kF ?kK ?k6 ?k7 ?k8 ?k9 ?kB ?_ ?c2 ?c3 ?c4 ?c5; walk_at "my_enter")
  intro h' F' B' X' T'
  have N' : News s.heap s.heap.objs.size h' [] := News.nil
  have mk := kstMark
  clear B F X Tp
  (try dsimp only)
  (try k_fold)
  (repeat (fail_if_success (with_reducible refine mark_while ?_)); walk_at "my_step")
  rename Fr _ _ _ _ => FF
  rename News _ _ _ _ => NN
  rename (_ < (_ : Addr)) => hLD
  obtain ⟨D, rfl⟩ := news_head NN
  refine my_while (σ := LT) (Led := fun q => [(D, listOf q.vs.toArray q.c)]) (ps := fun q => [(Str.ofString "pos", .int (v1 + q.j) q.t)]) (stored := [Str.ofString "b"]) (P := fun q => q.j ≤ T.length ∧ IntsAre q.vs (T.take q.j)) (μ := fun q => T.length - q.j) FF NN ?_ ?_
  · exact ⟨⟨0, _, [], _⟩, allc (.head _) alln, allc (by simp; exact rfl) alln, Nat.zero_le _, .nil⟩
  rintro ⟨j, t, vs, c⟩ u h tk ⟨hj, hI⟩ FF NN
  dsimp only at hj hI FF NN
  have hvl := IntsAre.length hI
  have hTl : T.length ≤ ks.length := by rw [hsp]; simp; omega
  obtain ⟨ns, hns⟩ : ∃ ns, ns = T.take j := ⟨_, rfl⟩
  have hnl : ns.length = j := by rw [hns, List.length_take, Nat.min_eq_left hj]
  rw [← hns] at hI hvl
  have hnb : ns.length < 1000 := by omega
  (try k_fold)
  (repeat (fail_if_success (with_reducible refine mark_ite ?_)); walk_at "my_step")
  by_cases hj0 : j = 0
  · have hlt : j < T.length := by rw [hj0, hT]; simp
    obtain ⟨hcut, hone⟩ := take_cut hv1 hsp hpl hlt
    rw [if_pos (by rw [hnl, hj0]; rfl)]
    (try k_fold)

    (repeat walk_at "my_step")
    refine ord_one (k := T.getD j 0) (by rw [‹KBw.bInts (KBy.picked v0 _ _) = _›]; exact hone) ?_
    (try k_fold)
    (repeat (fail_if_success (with_reducible refine mark_kend ?_)); walk_at "my_step")
    rename News _ _ _ _ => NE
    rename Fr _ _ _ _ => FE
    simp only [List.push_toArray] at NE
    rw [show v1 + (j : Int) + 1 = v1 + ((j + 1 : Nat) : Int) by omega] at FE
    exact my_end ⟨j + 1, _, _, _⟩ FE NE (allc (.head _) alln) (allc rfl alln) (by (intro z h2 h3; (simp only [List.forall_mem_cons, List.not_mem_nil, false_implies, implies_true, and_true, ne_eq] at h2); (simp only [List.contains_cons, List.contains_nil, Bool.or_false, Bool.or_eq_false_iff, beq_eq_false_iff_ne, ne_eq] at h3); simp [kstB, h2, h3])) ⟨hlt, take_step hI hns hlt⟩ (by dsimp only; omega)
  rw [if_neg (by rw [hnl]; simpa using hj0)]
  (try k_fold)
  (repeat (fail_if_success (with_reducible refine mark_ite ?_)); walk_at "my_step")
  have hx : ns.getD (-1 + (ns.length : Int)).toNat 0 = T.getD (j - 1) 0 := by
    rw [hnl, show (-1 + (j : Int)).toNat = j - 1 by omega, hns, List.getD_eq_getElem?_getD, List.getD_eq_getElem?_getD, List.getElem?_take_of_lt (by omega)]
  have hr : 0 ≤ T.getD (j - 1) 0 ∧ T.getD (j - 1) 0 < 256 := by
    refine KBw.ints_in (b := v0) ?_
    rw [hb, hsp]
    rw [List.getD_eq_getElem?_getD, List.getElem?_eq_getElem (show j - 1 < T.length by omega)]
    exact List.mem_append_left _ (List.mem_append_right _ (List.getElem_mem _))
  rw [hx, bitAnd128 hr.1 hr.2]
  by_cases hlt : j < T.length
  · obtain ⟨hcut, hone⟩ := take_cut hv1 hsp hpl hlt
    rw [if_pos (by simpa using take_mk hT hmk hlt (by omega))]
    (try k_fold)

    (repeat walk_at "my_step")
    refine ord_one (k := T.getD j 0) (by rw [‹KBw.bInts (KBy.picked v0 _ _) = _›]; exact hone) ?_
    (try k_fold)
    (repeat (fail_if_success (with_reducible refine mark_kend ?_)); walk_at "my_step")
    rename News _ _ _ _ => NE
    rename Fr _ _ _ _ => FE
    simp only [List.push_toArray] at NE
    rw [show v1 + (j : Int) + 1 = v1 + ((j + 1 : Nat) : Int) by omega] at FE
    exact my_end ⟨j + 1, _, _, _⟩ FE NE (allc (.head _) alln) (allc rfl alln) (by (intro z h2 h3; (simp only [List.forall_mem_cons, List.not_mem_nil, false_implies, implies_true, and_true, ne_eq] at h2); (simp only [List.contains_cons, List.contains_nil, Bool.or_false, Bool.or_eq_false_iff, beq_eq_false_iff_ne, ne_eq] at h3); simp [kstB, h2, h3])) ⟨hlt, take_step hI hns hlt⟩ (by dsimp only; omega)
  have hje : j = T.length := by omega
  rw [if_neg (by rw [hje, take_last hT]; simpa using hl)]
  (try k_fold)
  (repeat walk_at "my_step")
  rename News _ _ _ _ => N9
  rename Fr _ _ _ _ => F9
  rename (_ < (_ : Addr)) => hLR
  refine hret _ _ _ F9.keep ⟨D, _, t, rfl, Nat.le_of_lt hLD, Nat.le_of_lt hLR, ⟨vs, c, (N9 _ (.tail _ (.head _))).1, ?_⟩, ?_⟩
  · rw [hns, hje, List.take_of_length_le (Nat.le_refl _)] at hI; exact hI
  · have e : (i : Int) + (T.length : Nat) = v1 + (j : Int) := by rw [hv1, hje]
    rw [e]; exact (N9 _ (.head _)).1
theorem reset_taker : True := by
  w_top off
  trivial
structure LT2 where
  j : Nat
  t : Tok
  vs : List Value
  c : Nat
theorem take_rai (w : World) (v0 : Array UInt8) (t0 : Tok) (v1 : Int) (t1 : Tok) (ks T : List Int) (i : Nat) (hv1 : v1 = i) (hb : KBw.bInts v0 = ks) (hks : ks.length < 1000) (pre : List Int) (hsp : ks = pre ++ T ++ []) (hpl : pre.length = i) (hmk : ∀ x ∈ T, 128 ≤ x) : Rai w 49 [.bytes v0 t0, .int v1 t1] (fun h => True) (.type "AssertionError") := by
  unfold Rai
  k_fill
  intro dp un gd cn cs a ccd cl outer A₀ base h₀ L m s Q E p loose mean mg mb B F X Tp hk hpre hdp hun hret
  refine wpAny_call ?_
  k_dflt (refine' code_own (binds := [(Str.ofString "contents", .bytes v0 t0), (Str.ofString "offset", .int v1 t1)]) ?k1 ?k2 ?k3 ?k5 ?kA ?kF ?kK ?k6 ?k7 ?k8 ?k9 ?kB ?_ ?c2 ?c3 ?c4 ?c5; walk_at "my_enter")
  intro h' F' B' X' T'
  have N' : News s.heap s.heap.objs.size h' [] := News.nil
  have mk := kstMark
  clear B F X Tp
  (try dsimp only)
  (try k_fold)
  (repeat (fail_if_success (with_reducible refine mark_while ?_)); walk_at "my_step")
  rename Fr _ _ _ _ => FF
  rename News _ _ _ _ => NN
  rename (_ < (_ : Addr)) => hLD
  obtain ⟨D, rfl⟩ := news_head NN
  refine my_while (σ := LT2) (Led := fun q => [(D, listOf q.vs.toArray q.c)]) (ps := fun q => [(Str.ofString "pos", .int (v1 + q.j) q.t)]) (stored := [Str.ofString "b"]) (P := fun q => q.j ≤ T.length ∧ IntsAre q.vs (T.take q.j)) (μ := fun q => T.length - q.j) FF NN ?_ ?_
  · exact ⟨⟨0, _, [], _⟩, allc (.head _) alln, allc (by simp; exact rfl) alln, Nat.zero_le _, .nil⟩
  rintro ⟨j, t, vs, c⟩ u h tk ⟨hj, hI⟩ FF NN
  dsimp only at hj hI FF NN
  have hvl := IntsAre.length hI
  have hTl : T.length ≤ ks.length := by rw [hsp]; simp
  obtain ⟨ns, hns⟩ : ∃ ns, ns = T.take j := ⟨_, rfl⟩
  have hnl : ns.length = j := by rw [hns, List.length_take, Nat.min_eq_left hj]
  rw [← hns] at hI hvl
  have hnb : ns.length < 1000 := by omega
  (try k_fold)
  (repeat (fail_if_success (with_reducible refine mark_ite ?_)); walk_at "my_step")
  by_cases hj0 : j = 0
  · rw [if_pos (by rw [hnl, hj0]; rfl)]
    (try k_fold)

    by_cases hlt : j < T.length
    · obtain ⟨hcut, hone⟩ := take_cut hv1 hsp hpl hlt
      (repeat walk_at "my_step")
      refine ord_one (k := T.getD j 0) (by rw [‹KBw.bInts (KBy.picked v0 _ _) = _›]; exact hone) ?_
      (try k_fold)
      (repeat (fail_if_success (with_reducible refine mark_kend ?_)); walk_at "my_step")
      rename News _ _ _ _ => NE
      rename Fr _ _ _ _ => FE
      simp only [List.push_toArray] at NE
      rw [show v1 + (j : Int) + 1 = v1 + ((j + 1 : Nat) : Int) by omega] at FE
      exact my_end ⟨j + 1, _, _, _⟩ FE NE (allc (.head _) alln) (allc rfl alln) (by (intro z h2 h3; (simp only [List.forall_mem_cons, List.not_mem_nil, false_implies, implies_true, and_true, ne_eq] at h2); (simp only [List.contains_cons, List.contains_nil, Bool.or_false, Bool.or_eq_false_iff, beq_eq_false_iff_ne, ne_eq] at h3); simp [kstB, h2, h3])) ⟨hlt, take_step hI hns hlt⟩ (by dsimp only; omega)
    have hcut := take_out hv1 hsp hpl (by omega : j = T.length)
    (repeat (fail_if_success (with_reducible refine mark_execs ?_)); walk_at "my_step")
    refine wpAny_execs_cons ?_
    (try k_fold)
    (repeat (fail_if_success (with_reducible refine mark_ite ?_)); walk_at "my_step")
    rw [if_pos (by rw [hcut]; rfl)]
    have hlog := log_small (a := v1 + (j : Int)) (by omega) (by have := congrArg List.length hsp; simp only [List.length_append, List.length_nil] at this; omega)
    (try k_fold)
    (repeat (fail_if_success (with_reducible refine mark_leave ?_)); walk_at "my_step")
    rename Fr _ _ _ _ => F9
    refine leave_newF B' (by assumption) F9 fun h9 hf => ?_
    exact hret _ _ _ hf
  rw [if_neg (by rw [hnl]; simpa using hj0)]
  (try k_fold)
  (repeat (fail_if_success (with_reducible refine mark_ite ?_)); walk_at "my_step")
  have hx : ns.getD (-1 + (ns.length : Int)).toNat 0 = T.getD (j - 1) 0 := by
    rw [hnl, show (-1 + (j : Int)).toNat = j - 1 by omega, hns, List.getD_eq_getElem?_getD, List.getD_eq_getElem?_getD, List.getElem?_take_of_lt (by omega)]
  have hm : T.getD (j - 1) 0 ∈ T := by
    rw [List.getD_eq_getElem?_getD, List.getElem?_eq_getElem (show j - 1 < T.length by omega)]
    exact List.getElem_mem _
  have hr : 0 ≤ T.getD (j - 1) 0 ∧ T.getD (j - 1) 0 < 256 := by
    refine KBw.ints_in (b := v0) ?_
    rw [hb, hsp]
    exact List.mem_append_left _ (List.mem_append_right _ hm)
  rw [hx, bitAnd128 hr.1 hr.2]
  rw [if_pos (by simpa using hmk _ hm)]
  (try k_fold)

  by_cases hlt : j < T.length
  · obtain ⟨hcut, hone⟩ := take_cut hv1 hsp hpl hlt
    (repeat walk_at "my_step")
    refine ord_one (k := T.getD j 0) (by rw [‹KBw.bInts (KBy.picked v0 _ _) = _›]; exact hone) ?_
    (try k_fold)
    (repeat (fail_if_success (with_reducible refine mark_kend ?_)); walk_at "my_step")
    rename News _ _ _ _ => NE
    rename Fr _ _ _ _ => FE
    simp only [List.push_toArray] at NE
    rw [show v1 + (j : Int) + 1 = v1 + ((j + 1 : Nat) : Int) by omega] at FE
    exact my_end ⟨j + 1, _, _, _⟩ FE NE (allc (.head _) alln) (allc rfl alln) (by (intro z h2 h3; (simp only [List.forall_mem_cons, List.not_mem_nil, false_implies, implies_true, and_true, ne_eq] at h2); (simp only [List.contains_cons, List.contains_nil, Bool.or_false, Bool.or_eq_false_iff, beq_eq_false_iff_ne, ne_eq] at h3); simp [kstB, h2, h3])) ⟨hlt, take_step hI hns hlt⟩ (by dsimp only; omega)
  have hcut := take_out hv1 hsp hpl (by omega : j = T.length)
  (repeat (fail_if_success (with_reducible refine mark_execs ?_)); walk_at "my_step")
  refine wpAny_execs_cons ?_
  (try k_fold)
  (repeat (fail_if_success (with_reducible refine mark_ite ?_)); walk_at "my_step")
  rw [if_pos (by rw [hcut]; rfl)]
  have hlog := log_small (a := v1 + (j : Int)) (by omega) (by have := congrArg List.length hsp; simp only [List.length_append, List.length_nil] at this; omega)
  (try k_fold)
  (repeat (fail_if_success (with_reducible refine mark_leave ?_)); walk_at "my_step")
  rename Fr _ _ _ _ => F9
  refine leave_newF B' (by assumption) F9 fun h9 hf => ?_
  exact hret _ _ _ hf
theorem reset_dech : True := by
  w_top off
  trivial
theorem dech_con (w : World) (l0 : Addr) (vs0 : List Value) (c0 : Nat) (ks : List Int) (h1 : 0 < ks.length) (hks : ks.length < 100) (hI0 : IntsAre vs0 ks) : Con w 63 [.ref l0] (fun h => h.get? l0 = some (listOf vs0.toArray c0)) (fun h h' v => ∃ R t1 t2, v = .ref R ∧ h.objs.size ≤ R ∧ h'.get? R = some (tupleOf [.int (Builtin.bitAnd ((ks.getD 0 0).fdiv (2 ^ Int.toNat 4)) 7) t1, .int (Builtin.bitAnd (ks.getD 0 0) 15 + decS (ks.drop 1) 0) t2])) := by
  unfold Con
  k_fill
  intro dp un gd cn cs a ccd cl outer A₀ base h₀ L m s Q E p loose mean mg mb B F X Tp hk hpre hdp hun hret
  refine wpAny_call ?_
  k_dflt (refine' code_own (binds := [(Str.ofString "raw", .ref l0)]) ?k1 ?k2 ?k3 ?k5 ?kA ?kF ?kK ?k6 ?k7 ?k8 ?k9 ?kB ?_ ?c2 ?c3 ?c4 ?c5; walk_at "my_enter")
  intro h' F' B' X' T'
  have N' : News s.heap s.heap.objs.size h' [] := News.nil
  have mk := kstMark
  clear B F X Tp
  have hl0 : s.heap.IsList l0 vs0.toArray := ⟨_, hpre, rfl, _, rfl⟩
  have hvl := IntsAre.length hI0
  (try dsimp only)
  (try k_fold)
  (repeat (fail_if_success (with_reducible refine mark_forT ?_)); walk_at "my_step")
  rename Fr _ _ _ _ => FF
  refine For_pair3F FF rfl (by with_unfolding_all rfl) (by with_unfolding_all rfl) (by with_unfolding_all rfl) ?_ (by intro _; with_unfolding_all rfl)
  (try k_fold)
  (repeat (fail_if_success (with_reducible refine mark_enum ?_)); walk_at "my_step")
  rename Fr _ _ _ _ => F2
  rename News _ _ _ _ => N2
  obtain ⟨D, rfl⟩ := news_head N2
  rename IntsAre _ (List.drop 1 ks) => hI1
  refine my_enum (fun i => Builtin.bitAnd (ks.getD 0 0) 15 + decS ((ks.drop 1).take i) 0) (Str.ofString "size") [Str.ofString "i", Str.ofString "byte"] (by with_unfolding_all rfl) (News.isList' N2 (.head _)) hI1 (N2 _ (.head _)).2.1 F2 ⟨_, by simp only [List.take_zero, decS, Int.add_zero]; exact rfl⟩ ?_ ?_
  · intro i t1 t2 t3 u h tk own hi F3 N3
    clear F2 N2
    (try dsimp only at F3)
    (try k_fold)
    (repeat (fail_if_success (with_reducible refine mark_myend ?_)); walk_at "my_step")
    rename News _ _ _ _ => NE
    rename Fr _ _ _ _ => FE
    rw [show ((i : Int) * 7 + 4).toNat = 0 * 7 + i * 7 + 4 by omega] at FE
    refine MyEnd.intro FE NE (by rw [decS_step hi, ← Int.add_assoc]; exact rfl) (by (intro z h2 h3; (simp only [List.forall_mem_cons, List.not_mem_nil, false_implies, implies_true, and_true, ne_eq] at h2); (simp only [List.contains_cons, List.contains_nil, Bool.or_false, Bool.or_eq_false_iff, beq_eq_false_iff_ne, ne_eq] at h3); simp [kstB, h2, h3]))
  · intro t u h tk F3
    clear F2 N2
    have N3 : News s.heap s.heap.objs.size h [] := News.nil
    (try k_fold)
    (repeat walk_at "my_step")
    rename News _ _ _ _ => N9
    rename Fr _ _ _ _ => F9
    have hl1 : (List.drop 1 ks).length = ks.length - 1 := by rw [List.length_drop]
    rw [List.take_length] at N9
    rename (_ < (_ : Addr)) => hLR
    refine hret _ _ _ F9.keep ⟨_, _, _, rfl, Nat.le_of_lt hLR, (N9 _ (.head _)).1⟩
theorem reset_deco : True := by
  w_top off
  trivial
structure LD where
  d : Int
  t : Tok
theorem deco_con (w : World) (l0 : Addr) (vs0 : List Value) (c0 : Nat) (ks : List Int) (h1 : 0 < ks.length) (hks : ks.length < 100) (hI0 : IntsAre vs0 ks) (hl0' : 0 ≤ ks.getD (ks.length - 1) 0) (hl1' : ks.getD (ks.length - 1) 0 < 256) (hne : decO (Builtin.bitAnd (ks.getD 0 0) 127) (ks.drop 1) ≠ 0) (hlast0 : ks.getD (ks.length - 1) 0 < 128) : Con w 70 [.ref l0] (fun h => h.get? l0 = some (listOf vs0.toArray c0)) (fun h h' v => ∃ t, v = .int (decO (Builtin.bitAnd (ks.getD 0 0) 127) (ks.drop 1)) t) := by
  unfold Con
  k_fill
  intro dp un gd cn cs a ccd cl outer A₀ base h₀ L m s Q E p loose mean mg mb B F X Tp hk hpre hdp hun hret
  refine wpAny_call ?_
  k_dflt (refine' code_own (binds := [(Str.ofString "raw", .ref l0)]) ?k1 ?k2 ?k3 ?k5 ?kA ?kF ?kK ?k6 ?k7 ?k8 ?k9 ?kB ?_ ?c2 ?c3 ?c4 ?c5; walk_at "my_enter")
  intro h' F' B' X' T'
  have N' : News s.heap s.heap.objs.size h' [] := News.nil
  have mk := kstMark
  clear B F X Tp
  have hl0 : s.heap.IsList l0 vs0.toArray := ⟨_, hpre, rfl, _, rfl⟩
  have hvl := IntsAre.length hI0
  (try dsimp only)
  (try k_fold)
  (repeat (fail_if_success (with_reducible refine mark_ite ?_)); walk_at "my_step")
  have hlast : ks.getD (-1 + (ks.length : Int)).toNat 0 = ks.getD (ks.length - 1) 0 := by rw [show (-1 + (ks.length : Int)).toNat = ks.length - 1 by omega]
  rw [hlast, bitAnd128 hl0' hl1', if_neg (by simpa using hlast0)]
  (try k_fold)
  (repeat (fail_if_success (with_reducible refine mark_forN ?_)); walk_at "my_step")
  refine For_invV s.heap (by with_unfolding_all rfl) (by with_unfolding_all rfl) ?_ (by intro _; with_unfolding_all rfl)
  (try k_fold)
  (repeat (fail_if_success (with_reducible refine mark_iter ?_)); walk_at "my_step")
  rename Fr _ _ _ _ => FF
  rename News _ _ _ _ => NN
  rename IntsAre _ (List.drop 1 ks) => hI1
  obtain ⟨D, ws, rfl, rfl⟩ := news_head2 NN
  have hld : (List.drop 1 ks).length = ks.length - 1 := by rw [List.length_drop]
  refine my_listL (σ := LD) (fun c => [(D, listOf ws.toArray 0)]) (fun q => [(Str.ofString "delta_base_offset", .int q.d q.t)]) [] (fun l c => c.d = decO (Builtin.bitAnd (ks.getD 0 0) 127) l) rfl (fun _ => .head _) hI1 FF NN ?_ ?_ ?_
  · exact ⟨⟨Builtin.bitAnd (ks.getD 0 0) 127, _⟩, fun p hp => hp, allc rfl alln, rfl, fun _ => rfl⟩
  · rintro ⟨d, t⟩ pre post x t3 u h tk own hsp hoff hP F3 N3
    dsimp only at hoff hP F3 N3
    have hpl : pre.length < 100 := by have := congrArg List.length hsp; rw [List.length_append, List.length_cons] at this; omega
    have hbit : (Builtin.Int.intBits (d + 1) : Int) + 7 ≤ 2 ^ 27 := by
      have hb := decO_bd pre 1 (a := Builtin.bitAnd (ks.getD 0 0) 127) (by rw [bitAnd_m7]; omega) (by rw [bitAnd_m7]; omega)
      rw [← hP] at hb
      have := intBits_le (a := d + 1) (k := 8 * (1 + pre.length)) (natAbs_pow hb.1 hb.2)
      omega
    (try k_fold)
    (repeat (fail_if_success (with_reducible refine mark_rend ?_)); walk_at "my_step")
    rename News _ _ _ _ => NE
    rename Fr _ _ _ _ => FE
    refine my_rend ⟨_, _⟩ FE NE (allc (by simp) alln) (fun p hp => by simp [hp]) rfl (allc rfl alln) (by (intro z h1 h2 h3; (simp only [List.forall_mem_cons, List.not_mem_nil, false_implies, implies_true, and_true, ne_eq] at h2); (simp only [List.contains_cons, List.contains_nil, Bool.or_false, Bool.or_eq_false_iff, beq_eq_false_iff_ne, ne_eq] at h3); simp [kstB, h1, h2, h3])) ?_
    dsimp only
    rw [decO_snoc, ← hP]; rfl
  · rintro ⟨d, t⟩ u h tk hP F3 N3
    dsimp only at hP F3 N3
    have hd0 : d ≠ 0 := by rw [hP]; exact hne
    (try k_fold)
    (repeat (fail_if_success (with_reducible refine mark_ite ?_)); walk_at "my_step")
    rw [if_neg (by simpa using hd0)]
    (try k_fold)
    (repeat walk_at "my_step")
    rename Fr _ _ _ _ => F9
    exact hret _ _ _ F9.keep ⟨_, by rw [hP]⟩
theorem reset_deca : True := by
  w_top off
  trivial
theorem deca_rai (w : World) (l0 : Addr) (vs0 : List Value) (c0 : Nat) (ks : List Int) (h1 : 0 < ks.length) (hks : ks.length < 100) (hI0 : IntsAre vs0 ks) (hl0' : 128 ≤ ks.getD (ks.length - 1) 0) (hl1' : ks.getD (ks.length - 1) 0 < 256) : Rai w 70 [.ref l0] (fun h => h.get? l0 = some (listOf vs0.toArray c0)) (.type "AssertionError") := by
  unfold Rai
  k_fill
  intro dp un gd cn cs a ccd cl outer A₀ base h₀ L m s Q E p loose mean mg mb B F X Tp hk hpre hdp hun hret
  refine wpAny_call ?_
  k_dflt (refine' code_own (binds := [(Str.ofString "raw", .ref l0)]) ?k1 ?k2 ?k3 ?k5 ?kA ?kF ?kK ?k6 ?k7 ?k8 ?k9 ?kB ?_ ?c2 ?c3 ?c4 ?c5; walk_at "my_enter")
  intro h' F' B' X' T'
  have N' : News s.heap s.heap.objs.size h' [] := News.nil
  have mk := kstMark
  clear B F X Tp
  have hl0 : s.heap.IsList l0 vs0.toArray := ⟨_, hpre, rfl, _, rfl⟩
  have hvl := IntsAre.length hI0
  (try dsimp only)
  (try k_fold)
  (repeat (fail_if_success (with_reducible refine mark_ite ?_)); walk_at "my_step")
  have hlast : ks.getD (-1 + (ks.length : Int)).toNat 0 = ks.getD (ks.length - 1) 0 := by rw [show (-1 + (ks.length : Int)).toNat = ks.length - 1 by omega]
  rw [hlast, bitAnd128 (by omega) hl1', if_pos (by simpa using hl0')]
  (try k_fold)
  (repeat (fail_if_success (with_reducible refine mark_leave ?_)); walk_at "my_step")
  rename Fr _ _ _ _ => F9
  refine leave_newF B' (by assumption) F9 fun h9 hf => ?_
  exact hret _ _ _ hf
theorem reset_decz : True := by
  w_top off
  trivial
theorem ns38_ok (w : World) : nsOkIn (hd.heap_1 w.params) 38 = true := by kernel_rfl
theorem ns38_ini (w : World) : nsIn (hd.heap_1 w.params) 38 "__init__" = some (some (.ref 36)) := by kernel_rfl
structure LDz where
  d : Int
  t : Tok
theorem decz_rai (w : World) (l0 : Addr) (vs0 : List Value) (c0 : Nat) (ks : List Int) (h1 : 0 < ks.length) (hks : ks.length < 100) (hI0 : IntsAre vs0 ks) (hl0' : 0 ≤ ks.getD (ks.length - 1) 0) (hl1' : ks.getD (ks.length - 1) 0 < 256) (hne : decO (Builtin.bitAnd (ks.getD 0 0) 127) (ks.drop 1) = 0) (hlast0 : ks.getD (ks.length - 1) 0 < 128) : Rai w 70 [.ref l0] (fun h => h.get? l0 = some (listOf vs0.toArray c0)) (.ref 39) := by
  unfold Rai
  k_fill
  intro dp un gd cn cs a ccd cl outer A₀ base h₀ L m s Q E p loose mean mg mb B F X Tp hk hpre hdp hun hret
  refine wpAny_call ?_
  k_dflt (refine' code_own (binds := [(Str.ofString "raw", .ref l0)]) ?k1 ?k2 ?k3 ?k5 ?kA ?kF ?kK ?k6 ?k7 ?k8 ?k9 ?kB ?_ ?c2 ?c3 ?c4 ?c5; walk_at "my_enter")
  intro h' F' B' X' T'
  have N' : News s.heap s.heap.objs.size h' [] := News.nil
  have mk := kstMark
  clear B F X Tp
  have hl0 : s.heap.IsList l0 vs0.toArray := ⟨_, hpre, rfl, _, rfl⟩
  have hvl := IntsAre.length hI0
  (try dsimp only)
  (try k_fold)
  (repeat (fail_if_success (with_reducible refine mark_ite ?_)); walk_at "my_step")
  have hlast : ks.getD (-1 + (ks.length : Int)).toNat 0 = ks.getD (ks.length - 1) 0 := by rw [show (-1 + (ks.length : Int)).toNat = ks.length - 1 by omega]
  rw [hlast, bitAnd128 hl0' hl1', if_neg (by simpa using hlast0)]
  (try k_fold)
  (repeat (fail_if_success (with_reducible refine mark_forN ?_)); walk_at "my_step")
  refine For_invV s.heap (by with_unfolding_all rfl) (by with_unfolding_all rfl) ?_ (by intro _; with_unfolding_all rfl)
  (try k_fold)
  (repeat (fail_if_success (with_reducible refine mark_iter ?_)); walk_at "my_step")
  rename Fr _ _ _ _ => FF
  rename News _ _ _ _ => NN
  rename IntsAre _ (List.drop 1 ks) => hI1
  obtain ⟨D, ws, rfl, rfl⟩ := news_head2 NN
  have hld : (List.drop 1 ks).length = ks.length - 1 := by rw [List.length_drop]
  refine my_listL (σ := LDz) (fun c => [(D, listOf ws.toArray 0)]) (fun q => [(Str.ofString "delta_base_offset", .int q.d q.t)]) [] (fun l c => c.d = decO (Builtin.bitAnd (ks.getD 0 0) 127) l) rfl (fun _ => .head _) hI1 FF NN ?_ ?_ ?_
  · exact ⟨⟨Builtin.bitAnd (ks.getD 0 0) 127, _⟩, fun p hp => hp, allc rfl alln, rfl, fun _ => rfl⟩
  · rintro ⟨d, t⟩ pre post x t3 u h tk own hsp hoff hP F3 N3
    dsimp only at hoff hP F3 N3
    have hpl : pre.length < 100 := by have := congrArg List.length hsp; rw [List.length_append, List.length_cons] at this; omega
    have hbit : (Builtin.Int.intBits (d + 1) : Int) + 7 ≤ 2 ^ 27 := by
      have hb := decO_bd pre 1 (a := Builtin.bitAnd (ks.getD 0 0) 127) (by rw [bitAnd_m7]; omega) (by rw [bitAnd_m7]; omega)
      rw [← hP] at hb
      have := intBits_le (a := d + 1) (k := 8 * (1 + pre.length)) (natAbs_pow hb.1 hb.2)
      omega
    (try k_fold)
    (repeat (fail_if_success (with_reducible refine mark_rend ?_)); walk_at "my_step")
    rename News _ _ _ _ => NE
    rename Fr _ _ _ _ => FE
    refine my_rend ⟨_, _⟩ FE NE (allc (by simp) alln) (fun p hp => by simp [hp]) rfl (allc rfl alln) (by (intro z h1 h2 h3; (simp only [List.forall_mem_cons, List.not_mem_nil, false_implies, implies_true, and_true, ne_eq] at h2); (simp only [List.contains_cons, List.contains_nil, Bool.or_false, Bool.or_eq_false_iff, beq_eq_false_iff_ne, ne_eq] at h3); simp [kstB, h1, h2, h3])) ?_
    dsimp only
    rw [decO_snoc, ← hP]; rfl
  · rintro ⟨d, t⟩ u h tk hP F3 N3
    dsimp only at hP F3 N3
    have hd0 : d = 0 := by rw [hP]; exact hne
    (try k_fold)
    (repeat (fail_if_success (with_reducible refine mark_ite ?_)); walk_at "my_step")
    rw [if_pos (by simpa using hd0)]
    (try k_fold)
    (repeat (fail_if_success (with_reducible refine mark_raise ?_)); walk_at "my_step")
    refine Raise_O (by with_unfolding_all rfl) ?_
    (try k_fold)
    (repeat (fail_if_success (with_reducible refine mark_call ?_)); walk_at "my_step")
    rename_i tk
    have hN38 : h.Ns 38 _ := .of_isNs (isNs_of_in (X'.keeps F3.keep) (ns38_ok w))
    have hini := ns_at (X'.keeps F3.keep) hN38 (ns38_ini w)
    refine wpAny_call_exc_init PySem.F.excBase_Exception (F3.keep _ _ (X' 39 _ rfl)) hN38 hini (F3.keep _ _ (X' 36 _ rfl)) rfl (fun h2 e hm => ?_)
    refine wpAny_call ?_
    have hsz : s.heap.objs.size ≤ h2.objs.size := by
      obtain ⟨oL, _, _, hoL, _⟩ := F3.ns
      exact Nat.le_trans F3.above (Nat.le_of_lt (Heap.lt_size (hm.keeps _ _ hoL)))
    k_dflt (refine' code_sub (G := s.heap) (binds := [(Str.ofString "self", .ref e), (Str.ofString "message", .str (Str.ofString "OFS_DELTA has delta_base_offset of 0") tk)]) (fun b o q => hm.keeps b o (F3.keep b o q)) hsz X' T' ?kF ?k6 ?k7 ?k9 ?kB ?_ ?c2 ?c3 ?c4 ?c5; (case kF => exact rfl); (case k6 => k_is); (case k7 => ktr_room); (case k9 => exact binds_K (X'.keeps (fun b o q => hm.keeps b o (F3.keep b o q))) rfl rfl rfl rfl rfl); (case c5 => decide); (case kB => exact locs rfl); (case c2 => exact rfl); (case c3 => exact rfl); (case c4 => exact rfl); k_whole)
    intro h3 F4 hk4
    have hF3 : ∃ m, Fr s.heap s.heap.objs.size h m := ⟨_, F3⟩
    clear F3 N3 NN
    have N4 : News s.heap h2.objs.size h3 [] := News.nil
    obtain ⟨tt, hme, _, _⟩ := hm.there
    (try dsimp only)
    (try k_fold)
    (repeat walk_at "my_step")
    refine init_own excClass_Exception (F4.keep _ _ (X' 39 _ rfl)) (by decide) (hk4 _ _ hme) (fun h5 e1 e2 e3 => ?_)
    have hh5 : ∀ b o, h.get? b = some o → h5.get? b = some o := fun b o q => e3 b o (fun z => by rw [z, hm.new] at q; cases q) (hk4 _ _ (hm.keeps _ _ q))
    have hm5 : Heap.MadeExcOf h h5 e (.ref 39) [.str (Str.ofString "OFS_DELTA has delta_base_offset of 0") tk] := by
      refine ⟨hh5, hm.new, _, e1, ?_, e2⟩
      cases q : h.get? h3.objs.size with
      | none => rfl
      | some o => exact absurd (Heap.lt_size (hk4 _ _ (hm.keeps _ _ q))) (Nat.lt_irrefl _)
    obtain ⟨m3, F3⟩ := hF3
    have hC5 := hh5 _ _ (F3.keep _ _ (X' 39 _ rfl))
    clear F4 N4
    (try dsimp only)
    (try k_fold)
    (repeat walk_at "my_step")
    refine RaisableO.intro hC5 (by decide) e1 ?_
    refine leave_raiseF B' hm5 F3 fun h9 hf => ?_
    exact hret _ _ _ hf
theorem reset_bis : True := by
  w_top off
  trivial
structure LB2 where
  lo : Int
  hi : Int
  t : Tok
  t' : Tok
theorem bisect_con (w : World) (fl : Addr) (pre : Heap → Prop) (hpk : ∀ h h', Kept h h' → pre h → pre h') (hpf : ∀ h, pre h → FnAt fl h) (bs : List (Array UInt8)) (hlen : bs.length < 100) (hne : 0 < bs.length) (hris : Rising bs)
    (hcall : ∀ i t, 0 ≤ i → i < (bs.length : Int) → Con w fl [.int i t] pre (fun h h' v => ∃ t', v = .bytes (bs.getD i.toNat #[]) t')) (x : Array UInt8) (t0 t1 t2 : Tok) :
    ∀ (dp un : Nat) (gd : Option (List Code)) (cn : Str) (cs : Scope) (a : Addr) (ccd : Value) (cl : List (Str × Addr)) (outer : List Env) (A₀ : Around) (base h₀ : Heap) (L : Addr) (m : Str → Option Value) (s : Shared) (Q E : Value → Shared → Prop)
    (p : Program) (loose : List Str) (mean : ExcName → Option Value) (mg mb : Str → Option Value),
    Below A₀ base outer h₀ → Fr h₀ L s.heap m → (hd.heap_1 w.params).In h₀ → Top p loose mean mg mb h₀ → cs.kind = .function → pre s.heap → dp + 8 < recursionLimit → un + 80 < cLine →
    (∀ v h' tk', Kept s.heap h' → ((∃ j t, j < bs.length ∧ (bs.getD j #[]).toList = x.toList ∧ v = .int (j : Nat) t) ∨ ((∀ j, j < bs.length → (bs.getD j #[]).toList ≠ x.toList) ∧ v = .none)) → Q v { s with heap := h', toks := tk' }) →
    wpAny (model PySem.Challenge.rw_jg0021_01.row.prog w) (ktrTop dp un gd cn cs L a ccd cl outer) (call (.ref 56) [.int 0 t0, .int ((bs.length : Int) - 1) t1, .bytes x t2, .ref fl]) Q E s := by
  k_fill
  intro dp un gd cn cs a ccd cl outer A₀ base h₀ L m s Q E p loose mean mg mb B F X Tp hk hpre hdp hun hret
  refine wpAny_call ?_
  k_dflt (refine' code_own (binds := [(Str.ofString "start", .int 0 t0), (Str.ofString "end", .int ((bs.length : Int) - 1) t1), (Str.ofString "sha", .bytes x t2), (Str.ofString "unpack_name", .ref fl)]) ?k1 ?k2 ?k3 ?k5 ?kA ?kF ?kK ?k6 ?k7 ?k8 ?k9 ?kB ?_ ?c2 ?c3 ?c4 ?c5; walk_at "my_enter")
  intro h' F' B' X' T'
  have N' : News s.heap s.heap.objs.size h' [] := News.nil
  have mk := kstMark
  clear B F X Tp
  (try dsimp only)
  (try k_fold)
  (repeat (fail_if_success (with_reducible refine mark_while ?_)); walk_at "my_step")
  rename Fr _ _ _ _ => FF
  rename News _ _ _ _ => NN
  refine my_while (σ := LB2) (Led := fun q => []) (ps := fun q => [(Str.ofString "start", .int q.lo q.t), (Str.ofString "end", .int q.hi q.t')]) (stored := [Str.ofString "i", Str.ofString "file_sha"]) (P := fun q => 0 ≤ q.lo ∧ q.hi < bs.length ∧ q.lo ≤ q.hi + 1 ∧ (∀ j : Nat, (j : Int) < q.lo → Builtin.Bytes.order (bs.getD j #[]).toList x.toList = .lt) ∧ (∀ j : Nat, q.hi < (j : Int) → j < bs.length → Builtin.Bytes.order (bs.getD j #[]).toList x.toList = .gt)) (μ := fun q => (q.hi + 1 - q.lo).toNat) FF NN ?_ ?_
  · exact ⟨⟨0, _, _, _⟩, alln, allc rfl (allc rfl alln), by dsimp only; omega, by dsimp only; omega, by dsimp only; omega, fun j hj => by dsimp only at hj; omega, fun j hj hl => by dsimp only at hj; omega⟩
  rintro ⟨lo, hi, t, t'⟩ u h tk ⟨h0, h1, h2, hL, hH⟩ F4 N4
  dsimp only at h0 h1 h2 hL hH F4 N4
  (try k_fold)
  (repeat (fail_if_success (with_reducible refine mark_ite ?_)); walk_at "my_step")
  by_cases hz : lo ≤ hi
  · simp only [hz, decide_true]
    (try k_fold)
    (repeat (fail_if_success (with_reducible refine mark_cw ?_)); walk_at "my_step")
    rename Fr _ _ _ _ => FQ
    have hfn := hpf _ (hpk s.heap _ (show Kept s.heap _ from FQ.keep) hpre)
    refine callWith_F hfn ?_
    (try k_fold)
    (repeat walk_at "my_step")
    exact hfn
    rename Fr _ _ _ _ => F5
    rename News _ _ _ _ => N5
    have hi0 : 0 ≤ (lo + hi).fdiv 2 ∧ lo ≤ (lo + hi).fdiv 2 ∧ (lo + hi).fdiv 2 ≤ hi := by rw [Int.fdiv_eq_ediv_of_nonneg _ (by decide)]; omega
    refine hcall ((lo + hi).fdiv 2) _ hi0.1 (by omega) _ _ _ (Str.ofString "bisect_find_sha") _ 56 (.ref 55) [] (envX cn cs L a ccd cl :: outer) (ktrTop dp un gd cn cs L a ccd cl outer) base s.heap s.heap.objs.size _ _ _ _ _ _ _ _ _ B' F5 X' T' rfl (hpk s.heap _ (show Kept s.heap _ from F5.keep) hpre) ?hdd ?huu ?_
    case hdd => (have hd2 : (ktrTop dp un gd cn cs L a ccd cl outer).depth = dp := rfl); (show _ + 4 < _); omega
    case huu => (have hun2 : (ktrTop dp un gd cn cs L a ccd cl outer).units = un := rfl); (show _ + 60 < _); omega
    rintro v h9 tk9 hkp ⟨tv, rfl⟩
    have F8 := hkp.fr F5
    have N8 := hkp.news N5
    clear F5 N5
    (try dsimp only at F8 N8)
    (try k_fold)
    (repeat (fail_if_success (with_reducible refine mark_ite ?_)); walk_at "my_step")
    obtain ⟨i, hi'⟩ : ∃ i : Nat, (lo + hi).fdiv 2 = (i : Int) := ⟨((lo + hi).fdiv 2).toNat, by omega⟩
    have hiN : ((lo + hi).fdiv 2).toNat = i := by omega
    rw [hiN]
    by_cases c1 : Builtin.Bytes.order (bs.getD i #[]).toList x.toList = .lt
    · rw [if_pos (by rw [c1]; rfl)]
      (try k_fold)
      (repeat (fail_if_success (with_reducible refine mark_kend ?_)); walk_at "my_step")
      rename News _ _ _ _ => NE
      rename Fr _ _ _ _ => FE
      refine my_end ⟨_, _, _, _⟩ FE NE alln (allc rfl (allc rfl alln)) (by (intro z h2 h3; (simp only [List.forall_mem_cons, List.not_mem_nil, false_implies, implies_true, and_true, ne_eq] at h2); (simp only [List.contains_cons, List.contains_nil, Bool.or_false, Bool.or_eq_false_iff, beq_eq_false_iff_ne, ne_eq] at h3); simp [kstB, h2, h3])) ⟨?_, ?_, ?_, ?_, ?_⟩ ?_
      · dsimp only; omega
      · dsimp only; omega
      · dsimp only; omega
      · intro j hj
        dsimp only at hj
        by_cases e : j = i
        · rw [e]; exact c1
        · exact ord_trans _ _ _ (hris j i (by omega) (by omega)) c1
      · exact hH
      · dsimp only; omega
    rw [if_neg (by simpa using c1)]
    (try k_fold)
    (repeat (fail_if_success (with_reducible refine mark_ite ?_)); walk_at "my_step")
    (try rw [hiN])
    by_cases c2 : Builtin.Bytes.order (bs.getD i #[]).toList x.toList = .gt
    · rw [if_pos (by rw [c2]; rfl)]
      (try k_fold)
      (repeat (fail_if_success (with_reducible refine mark_kend ?_)); walk_at "my_step")
      rename News _ _ _ _ => NE
      rename Fr _ _ _ _ => FE
      refine my_end ⟨_, _, _, _⟩ FE NE alln (allc rfl (allc rfl alln)) (by (intro z h2 h3; (simp only [List.forall_mem_cons, List.not_mem_nil, false_implies, implies_true, and_true, ne_eq] at h2); (simp only [List.contains_cons, List.contains_nil, Bool.or_false, Bool.or_eq_false_iff, beq_eq_false_iff_ne, ne_eq] at h3); simp [kstB, h2, h3])) ⟨?_, ?_, ?_, ?_, ?_⟩ ?_
      · dsimp only; omega
      · dsimp only; omega
      · dsimp only; omega
      · exact hL
      · intro j hj hl
        dsimp only at hj
        by_cases e : j = i
        · rw [e]; exact c2
        · exact ord_swap _ _ (ord_trans _ _ _ (ord_swap' _ _ c2) (hris i j (by omega) hl))
      · dsimp only; omega
    rw [if_neg (by simpa using c2)]
    (try k_fold)
    (repeat walk_at "my_step")
    rename Fr _ _ _ _ => F9
    have c3 : Builtin.Bytes.order (bs.getD i #[]).toList x.toList = .eq := by
      cases h : Builtin.Bytes.order (bs.getD i #[]).toList x.toList with
      | lt => exact absurd h c1
      | gt => exact absurd h c2
      | eq => rfl
    refine hret _ _ _ F9.keep (.inl ⟨i, _, by omega, ord_eq _ _ c3, by rw [hi']⟩)
  · simp only [hz, decide_false]
    (try k_fold)
    (repeat walk_at "my_step")
    rename Fr _ _ _ _ => F9
    refine hret _ _ _ F9.keep (.inr ⟨fun j hj => ?_, rfl⟩)
    intro e
    have := ord_self x.toList
    by_cases hj2 : (j : Int) < lo
    · rw [← e, e] at this
      have h9 := hL j hj2
      rw [e, ord_self] at h9; cases h9
    · have h9 := hH j (by omega) hj
      rw [e, ord_self] at h9; cases h9
theorem reset_ends : True := by
  w_top off
  trivial
theorem ends_con (w : World) (v0 : Array UInt8) (t0 : Tok) (v1 : Int) (t1 : Tok) (ks T : List Int) (i : Nat) (hv1 : v1 = i) (hb : KBw.bInts v0 = ks) (hks : ks.length < 1000) (pre : List Int) (hsp : ks = pre ++ T ++ []) (hpl : pre.length = i) (hmk : ∀ x ∈ T, 128 ≤ x) :
    ∀ (dp un : Nat) (gd : Option (List Code)) (cn : Str) (cs : Scope) (a : Addr) (ccd : Value) (cl : List (Str × Addr)) (A₀ : Around) (h₀ : Heap) (L : Addr) (m : Str → Option Value) (news : List (Addr × Obj)) (s : Shared) (Q E : Value → Shared → Prop)
    (p : Program) (loose : List Str) (mean : ExcName → Option Value) (mg mb : Str → Option Value),
    Below A₀ h₀ [] h₀ → Fr h₀ L s.heap m → News h₀ L s.heap news → (hd.heap_1 w.params).In h₀ → Top p loose mean mg mb h₀ → cs.kind = .function → dp + 8 < recursionLimit → un + 80 < cLine →
    (∀ h' tk', Fr h₀ L h' m → News h₀ L h' news → Q (.bool true) { s with heap := h', toks := tk' }) →
    wpAny (model PySem.Challenge.rw_jg0021_01.row.prog w) (ktrTop dp un gd cn cs L a ccd cl []) (call (.ref 129) [.bytes v0 t0, .int v1 t1]) Q E s := by
  k_fill
  intro dp un gd cn cs a ccd cl A₀ h₀ L m news s Q E p loose mean mg mb B F N X Tp hk hdp hun hret
  refine wpAny_call ?_
  k_dflt (refine' code_own (binds := [(Str.ofString "octets", .bytes v0 t0), (Str.ofString "place", .int v1 t1)]) ?k1 ?k2 ?k3 ?k5 ?kA ?kF ?kK ?k6 ?k7 ?k8 ?k9 ?kB ?_ ?c2 ?c3 ?c4 ?c5; walk_at "my_enter")
  intro h' F' B' X' T'
  have N' : News s.heap s.heap.objs.size h' [] := News.nil
  have mk := kstMark
  have hF : ∃ m, Fr h₀ L s.heap m := ⟨_, F⟩
  (try dsimp only)
  (try k_fold)
  (repeat (fail_if_success (with_reducible refine mark_call ?_)); walk_at "my_step")
  have hG0 : Fr h₀ s.heap.objs.size h' _ := ⟨F'.ns, fun b o q => F'.keep b o (B'.stays b o q), Nat.le_trans F.above (Nat.le_of_lt F.ns.lt)⟩
  have hd1 : dp + 1 + 4 < recursionLimit := by omega
  refine take_rai w v0 t0 v1 t1 ks T i hv1 hb hks pre hsp hpl hmk _ _ _ (Str.ofString "_law_ends") _ 129 _ [] [envX cn cs L a ccd cl] (ktrTop dp un gd cn cs L a ccd cl []) h₀ s.heap s.heap.objs.size _ _ _ _ _ _ _ _ _ B' F' X' T' rfl trivial ?hdd ?huu ?_
  case hdd => first | exact hd1 | (show _ + 4 < _; omega)
  case huu => (have hun2 : (ktrTop dp un gd cn cs L a ccd cl []).units = un := rfl); (show _ + 60 < _); omega
  rintro e h9 tk9 hfl
  (repeat (fail_if_success (with_reducible refine mark_note ?_)); walk_at "my_step")
  refine caught_mid (T' := "AssertionError") rfl hG0 hfl X (topRead_of Tp) (by k_is) PyProof.Rows.Boot.«AssertionError» (by decide) PySem.F.isExc_AssertionError PySem.F.notTuple_AssertionError (by rw [isSubtype_type]; kernel_rfl) ?_
  intro h10 F8 hkp8 hS8 hU8
  have hfin : ∀ tk', Q (.bool true) { s with heap := h10, toks := tk' } := fun tk' => by
    refine hret _ _ (F.of_stays hS8 ((Heap.UpToSlots.of_keeps F'.keep).trans hU8)) fun q hq => ⟨hkp8 _ _ (F'.keep _ _ (N q hq).1) fun hm => ?_, (N q hq).2⟩
    obtain ⟨env, he, hf⟩ := List.mem_filterMap.mp hm
    rcases List.mem_cons.mp he with rfl | he
    · have e1 : s.heap.objs.size = q.1 := Option.some.inj hf
      exact absurd (Heap.lt_size (N q hq).1) (by rw [← e1]; exact Nat.lt_irrefl _)
    · rw [List.mem_singleton.mp he] at hf
      exact (N q hq).2.1 (Option.some.inj hf).symm
  clear F' N' F N hG0
  have N8 : News h₀ s.heap.objs.size h10 [] := News.nil
  (try k_fold)
  (repeat walk_at "my_step")
  exact hfin _
theorem law_all : PySem.Challenge.rw_jg0021_01.Holds := by
  refine (fun h => holds_law law_said fun _ => h) (hd ?_)
  k_fill
  intro w s₀ s₁ mg mb G Y fa o pm cd doc dV kV ho hd hcd hD hmg hg args vals as hpre hlay hrd hwl hlo
  have KX := km_in_of Y
  km_tabs Y
  have X := (Ground.X G).1
  have V := (Ground.X G).2
  refine Ground.open G ?_
  intro T B D TE TW
  try (refine guard_noD D (by decide +kernel) ?_; clear D)
  km_lay T hmg ho hd cd
  clear hmg
  wrow_args hpre hlay hrd hwl hlo
  refine wp0_of (enter_callC ?_)
  w_top on
  refine kn_postC hT9 (fun _ _ => rfl) ?_
  have he := Dflts.none hD rfl; subst he; have he := Dflts.noKw hD; subst he
  refine call_cellsC (by decide) ho (fd_plain hd) (Top.nolimit T) hcd rfl (kinds_of (by kinds_ok)) (by decide) fun h₁ tk₁ cells F N0 X0 => ?_
  cells_open X0
  clear hd
  kn_ghosts F T
  k_drop
  all_goals try k_fold
  rename Fr _ _ _ _ => F00
  rename News _ _ _ _ => N00
  rename Frag.In _ _ => XX
  rename PyProof.Rows.Below _ _ _ _ => KK
  clear X0
  rename PyProof.Rows.IntsAre _ _ => hI
  rename PySem.Heap.IsList (ghostOf _ _) _ _ => hlG
  rename PyProof.Rows.Top topProg _ _ _ _ _ => TT
  rename_i oC oB oA hC hB hA hl0
  rename List Int => ns
  rename List Value => vsS
  have hcA : oA.data = .cell none := by with_unfolding_all exact hA
  have hcB : oB.data = .cell none := by with_unfolding_all exact hB
  have hcC : oC.data = .cell none := by with_unfolding_all exact hC
  clear hA hB hC
  have hlen := IntsAre.length hI
  have hnl : ns.length ≤ 63 := by rename ¬ _ => q; omega
  have mk := kstMark
  generalize hGd : ghostOf s₁.heap [(133, 131)] = Gd at *
  generalize hLe : s₁.heap.objs.size = L at *
  obtain ⟨sl, hlG, h₂, tk₂, u₂, he₂, F0, N0⟩ : ∃ sl, Gd.IsList sl vsS.toArray ∧ St Gd L s₁ [(Str.ofString "script", .ref sl)] [(L + 1 + 1 + 1, oC), (L + 1 + 1, oB), (L + 1, oA), (131, tabObj #[])] { s₁ with heap := h₁, toks := tk₁ } := ⟨_, hlG, St.intro F00 N00 (allc rfl alln) (fun p hp => hp)⟩
  rw [he₂]
  clear he₂ F00 N00 T X V B TE TW
  refine cutC (fun s' => Hid (∃ D vs xs o1, IntsAre vs xs ∧ 4 ≤ xs.length ∧ xs.length ≤ 28 ∧ (∀ x ∈ xs, 0 ≤ x ∧ x < 10 ^ 60) ∧ o1.data = .cell (some (.ref D)) ∧ L + 1 + 1 + 1 < D ∧ 131 < D ∧
    St Gd L s₁ [(Str.ofString "script", .ref sl)] [(D, listOf vs.toArray 0), (L + 1 + 1 + 1, oC), (L + 1 + 1, oB), (L + 1, o1), (131, tabObj #[])] s')) ?_ ?_
  · (try k_fold)
    (repeat (fail_if_success (with_reducible refine mark_tailL ?_)); walk_at "my_step")
    rename Fr _ _ _ _ => F1
    rename News _ _ _ _ => N1
    refine kba_turn (value' := .Name (Str.ofString "_") ⟨0, 0, 0, 0⟩) (fun _ => rfl) ?_
    refine kmk_slice_ints (ns := [6, 300, 16511, 5]) F1 N1 (News.isList' N1 (.head _)) (IsPart.int _ _) IsPart.none (.cons _ _ (.cons _ _ (.cons _ _ (.cons _ _ .nil)))) (kmk_from (.cons _ _ (.cons _ _ (.cons _ _ (.cons _ _ .nil)))) ?h0) rfl ?_ (by with_unfolding_all rfl) (by intro _; with_unfolding_all rfl) (Nat.le_of_ble_eq_true rfl)
    case h0 => split <;> omega
    intro D2 w2 h2 F2 N2 l2 hI2 _ _
    (try k_fold)
    clear F1 N1
    (try k_lt l2)
    (repeat walk_at "my_step")
    rename News _ _ _ _ => N9
    rename Fr _ _ _ _ => F9
    rename IntsAre _ (List.map _ _ ++ _) => hI9
    exact ⟨_, _, _, _, hI9, num_len4 _, num_len28 _, num_bd _, ‹_›, by omega, by omega, St.intro F9 N9 (allc rfl alln) (allc (by k_mem) (allc (by k_mem) (allc (by k_mem) (allc (by k_mem) (allc (by k_mem) alln)))))⟩
  rintro s' ⟨D, vs, xs, o1, hI1, hx4, hx28, hxr, hcA, hLD, hD1, h', tk', u, rfl, F1, N1⟩
  clear F0 N0
  have hvl := IntsAre.length hI1
  refine cutC (fun s' => Hid (∃ t1 t2 t3, St Gd L s₁ [(Str.ofString "kind", .int (1 + (xs.getD 0 0).fmod 7) t1), (Str.ofString "size", .int (xs.getD 1 0) t2), (Str.ofString "distance", .int (xs.getD 2 0) t3)] [(D, listOf vs.toArray 0), (L + 1 + 1 + 1, oC), (L + 1 + 1, oB), (L + 1, o1), (131, tabObj #[])] s')) ?_ ?_
  · (try k_fold)
    (repeat walk_at "my_step")
    rename News _ _ _ _ => N9
    rename Fr _ _ _ _ => F9
    exact ⟨_, _, _, St.intro F9 N9 (allc rfl (allc rfl (allc rfl alln))) (allc (by k_mem) (allc (by k_mem) (allc (by k_mem) (allc (by k_mem) (allc (by k_mem) alln)))))⟩
  rintro s' ⟨t1, t2, t3, h', tk', u, rfl, F1, N1⟩
  rename Fr _ _ _ (kstB _ [(Str.ofString "script", _)]) => F00
  clear F00
  obtain ⟨k, hk⟩ : ∃ k, k = 1 + (xs.getD 0 0).fmod 7 := ⟨_, rfl⟩
  obtain ⟨n, hn⟩ : ∃ n, n = xs.getD 1 0 := ⟨_, rfl⟩
  obtain ⟨d, hde⟩ : ∃ d, d = xs.getD 2 0 := ⟨_, rfl⟩
  have hgd := fun i hi => hxr _ (getD_mem (l := xs) (i := i) hi)
  have hnr := hgd 1 (by omega)
  have hdr := hgd 2 (by omega)
  have hkr : 1 ≤ k ∧ k < 8 := by rw [hk, Int.fmod_eq_emod_of_nonneg _ (by decide)]; omega
  rw [← hn] at hnr
  rw [← hde] at hdr
  rw [← hk, ← hn, ← hde] at F1
  refine cutC (fun s' => Hid (∃ bv t1 t2 t3, (k = 6 → ∃ t, bv = .int d t) ∧ (k = 7 → ∃ b t, bv = .bytes b t ∧ KBw.bInts b = ((List.range 20).map fun j => (d + ((j : Nat) : Int)).fmod 256)) ∧ (k ≠ 6 → k ≠ 7 → bv = .none) ∧
    St Gd L s₁ [(Str.ofString "kind", .int k t1), (Str.ofString "size", .int n t2), (Str.ofString "distance", .int d t3), (Str.ofString "base", bv)] [(D, listOf vs.toArray 0), (L + 1 + 1 + 1, oC), (L + 1 + 1, oB), (L + 1, o1), (131, tabObj #[])] s')) ?_ ?_
  · (try k_fold)
    (repeat (fail_if_success (with_reducible refine mark_bcall "dict.get" ?_)); walk_at "my_step")
    rename News _ _ _ _ => N5
    rename Fr _ _ _ _ => F5
    (try simp only [List.cons_append, List.nil_append])
    refine get_int N5 (.tail _ (.head _)) ‹Obj.IsDictOf _ _ _› (by assumption) ?_
    (try k_fold)
    rename KBa.In _ => hIn
    (repeat walk_at "my_step")
    rename News _ _ _ _ => N9
    rename Fr _ _ _ _ => F9
    refine ⟨_, _, _, _, ?_, ?_, ?_, St.intro F9 N9 (allc rfl (allc rfl (allc rfl (allc rfl alln)))) (allc (by k_mem) (allc (by k_mem) (allc (by k_mem) (allc (by k_mem) (allc (by k_mem) alln)))))⟩
    · intro h6; rw [h6]; exact ⟨_, rfl⟩
    · intro h7; rw [h7]; exact ⟨_, _, rfl, by rw [KBa.ints_make hIn, hde]; exact base_eq _⟩
    · intro h6 h7
      show ((valueAt [(6, _), (7, _)] k).getD Value.none) = Value.none
      rw [base_none h6 h7]; rfl
  rintro s' ⟨bv, t1, t2, t3, hb6, hb7, hb0, h', tk', u, rfl, F2, N2⟩
  clear F1 N1
  refine cutCC (fun s' => Hid (∃ Hd hb t1 t2 t3, KBw.bInts hb = encL (k * 16 + n.fmod 16) (n.fdiv 16).toNat ++ (if k = 6 then ofsL d.toNat else if k = 7 then ((List.range 20).map fun j => (d + ((j : Nat) : Int)).fmod 256) else []) ∧ D < Hd ∧ L + 1 + 1 + 1 < Hd ∧
    St Gd L s₁ [(Str.ofString "kind", .int k t1), (Str.ofString "size", .int n t2), (Str.ofString "distance", .int d t3), (Str.ofString "header", .ref Hd)] [(Hd, baObj hb), (D, listOf vs.toArray 0), (L + 1 + 1 + 1, oC), (L + 1 + 1, oB), (L + 1, o1), (131, tabObj #[])] s')) ?_ ?_
  · refine wpC_Assign_Name (wpC_Call_Name ?_)
    (try k_fold)
    (repeat walk_at "my_step")
    refine wpC_callWith (P := (hd.heap_1 w.params).In) rfl (keeps_K (by k_is)) ?_
    refine evalArgs_plain ?_
    (refine spliced_cons ?_; (show wpAny _ _ (eval _ _) _ _ _); (try k_fold); (repeat walk_at "my_step"))
    refine pack_con w k n bv _ _ hkr.1 hkr.2 hnr.1 hnr.2 (if k = 6 then ofsL d.toNat else if k = 7 then ((List.range 20).map fun j => (d + ((j : Nat) : Int)).fmod 256) else []) ?q6 ?q7 ?q0 _ _ _ (Str.ofString "law") _ fa (.ref 133) _ [] callerA Gd Gd L _ _ _ _ _ _ _ _ _ KK F2 XX TT rfl trivial (by decide) (by decide) ?_
    case q6 => intro h6; obtain ⟨t, e⟩ := hb6 h6; exact ⟨d, t, e, hdr.1, hdr.2, by rw [if_pos h6]⟩
    case q7 =>
      intro h7
      obtain ⟨b, t, e, hbi⟩ := hb7 h7
      refine ⟨b, t, e, ?_, ?_⟩
      · have := congrArg List.length hbi
        rw [KBw.ints_length, List.length_map, List.length_range] at this
        exact this
      · rw [if_neg (by omega), if_pos h7, hbi]
    case q0 => intro h6 h7; rw [if_neg h6, if_neg h7]
    rintro v h9 tk9 hkp ⟨Hd, hb, rfl, hsz, hob, hbi⟩
    have F8 := hkp.fr F2
    have N8 := news_made F2 (hkp.news N2) hob hsz
    have l8 := news_lt N2 hsz
    (try k_lt l8)
    clear F2 N2
    (try dsimp only at F8 N8 l8)
    (try k_fold)
    (repeat walk_at "my_step")
    rename News _ _ _ _ => N9
    rename Fr _ _ _ _ => F9
    exact ⟨_, _, _, _, _, hbi, l8.1, l8.2.1, St.intro F9 N9 (allc rfl (allc rfl (allc rfl (allc rfl alln)))) (allc (by k_mem) (allc (by k_mem) (allc (by k_mem) (allc (by k_mem) (allc (by k_mem) (allc (by k_mem) alln))))))⟩
  rintro s' ⟨Hd, hb, t1, t2, t3, hhb, hDH, hLH, h', tk', u, rfl, F3, N3⟩
  clear F2 N2 hb6 hb7 hb0
  clear bv

  obtain ⟨en, hen⟩ : ∃ en, en = encL (k * 16 + n.fmod 16) (n.fdiv 16).toNat := ⟨_, rfl⟩
  obtain ⟨ex, hex⟩ : ∃ ex, ex = (if k = 6 then ofsL d.toNat else if k = 7 then ((List.range 20).map fun j => (d + ((j : Nat) : Int)).fmod 256) else []) := ⟨_, rfl⟩
  rw [← hen, ← hex] at hhb
  have hel : en.length ≤ 31 := by rw [hen]; exact encL_len 30 _ _ (by rw [Int.fdiv_eq_ediv_of_nonneg _ (by decide)]; omega)
  have hel0 : 0 < en.length := by rw [hen]; exact encL_len_pos _ _
  have heb : ∀ x ∈ en, 0 ≤ x ∧ x < 256 := by rw [hen]; exact encL_bytes _ _ (by rw [Int.fmod_eq_emod_of_nonneg _ (by decide)]; omega) (by rw [Int.fmod_eq_emod_of_nonneg _ (by decide)]; omega)
  have hexl : ex.length ≤ 41 := by rw [hex]; exact ex_len hdr.1 hdr.2
  have hexb : ∀ x ∈ ex, 0 ≤ x ∧ x < 256 := by rw [hex]; exact ex_bytes hdr.1
  refine cutC (fun s' => Hid (∃ Du vd cd t1 t2 t3, IntsAre vd en ∧ Hd < Du ∧ D < Du ∧ L + 1 + 1 + 1 < Du ∧
    St Gd L s₁ [(Str.ofString "kind", .int k t1), (Str.ofString "size", .int n t2), (Str.ofString "distance", .int d t3), (Str.ofString "header", .ref Hd), (Str.ofString "due", .ref Du)] [(Du, listOf vd.toArray cd), (Hd, baObj hb), (D, listOf vs.toArray 0), (L + 1 + 1 + 1, oC), (L + 1 + 1, oB), (L + 1, o1), (131, tabObj #[])] s')) ?_ ?_
  · (try k_fold)
    (repeat (fail_if_success (with_reducible refine mark_call ?_)); walk_at "my_step")
    rename Fr _ _ _ _ => F5
    rename News _ _ _ _ => N5
    refine sized_con w k n _ _ hkr.1 hkr.2 hnr.1 hnr.2 _ _ _ (Str.ofString "law") _ fa (.ref 133) _ [] callerA Gd Gd L _ _ _ _ _ _ _ _ _ KK F5 XX TT rfl trivial (by decide) (by decide) ?_
    rintro v h9 tk9 hkp ⟨Du, rfl, hsz, vd, cd, hob, hId⟩
    have F8 := hkp.fr F5
    have N8 := news_made F5 (hkp.news N5) hob hsz
    have l8 := news_lt N5 hsz
    (try k_lt l8)
    clear F5 N5
    (try dsimp only at F8 N8 l8)
    (try k_fold)

    (repeat walk_at "my_step")
    rename News _ _ _ _ => N9
    rename Fr _ _ _ _ => F9
    rw [← hen] at hId
    exact ⟨_, _, _, _, _, _, hId, l8.1, l8.2.1, l8.2.2.1, St.intro F9 N9 (allc rfl (allc rfl (allc rfl (allc rfl (allc rfl alln))))) (allc (by k_mem) (allc (by k_mem) (allc (by k_mem) (allc (by k_mem) (allc (by k_mem) (allc (by k_mem) (allc (by k_mem) alln)))))))⟩
  rintro s' ⟨Du, vd, cd, t1, t2, t3, hId, hHD, hDDu, hLDu, h', tk', u, rfl, F4, N4⟩
  clear F3 N3
  refine cutC (fun s' => Hid (∃ t1 t2 t3 t4, St Gd L s₁ [(Str.ofString "kind", .int k t1), (Str.ofString "size", .int n t2), (Str.ofString "distance", .int d t3), (Str.ofString "header", .ref Hd), (Str.ofString "due", .ref Du), (Str.ofString "behind", .int (en.length : Nat) t4)] [(Du, listOf vd.toArray cd), (Hd, baObj hb), (D, listOf vs.toArray 0), (L + 1 + 1 + 1, oC), (L + 1 + 1, oB), (L + 1, o1), (131, tabObj #[])] s')) ?_ ?_
  · have hvd := IntsAre.length hId
    (try k_fold)
    (repeat walk_at "my_step")
    rename News _ _ _ _ => N9
    rename Fr _ _ _ _ => F9
    exact ⟨_, _, _, _, St.intro F9 N9 (allc rfl (allc rfl (allc rfl (allc rfl (allc rfl (allc rfl alln)))))) (allc (by k_mem) (allc (by k_mem) (allc (by k_mem) (allc (by k_mem) (allc (by k_mem) (allc (by k_mem) (allc (by k_mem) alln)))))))⟩
  rintro s' ⟨t1, t2, t3, t4, h', tk', u, rfl, F5, N5⟩
  clear F4 N4
  refine cutC (fun s' => Hid (∃ Du vd cd t1 t2 t3 t4, IntsAre vd (en ++ (if k = 6 then ofsL d.toNat else [])) ∧ Hd < Du ∧ D < Du ∧ L + 1 + 1 + 1 < Du ∧
    St Gd L s₁ [(Str.ofString "kind", .int k t1), (Str.ofString "size", .int n t2), (Str.ofString "distance", .int d t3), (Str.ofString "header", .ref Hd), (Str.ofString "due", .ref Du), (Str.ofString "behind", .int (en.length : Nat) t4)] [(Du, listOf vd.toArray cd), (Hd, baObj hb), (D, listOf vs.toArray 0), (L + 1 + 1 + 1, oC), (L + 1 + 1, oB), (L + 1, o1), (131, tabObj #[])] s')) ?_ ?_
  · have hvd := IntsAre.length hId
    (try k_fold)
    (repeat (fail_if_success (with_reducible refine mark_ite ?_)); walk_at "my_step")
    by_cases h6 : k = 6
    · rw [if_pos (by simpa using h6)]
      (try k_fold)
      (repeat (fail_if_success (with_reducible refine mark_call ?_)); walk_at "my_step")
      rename Fr _ _ _ _ => F5
      rename News _ _ _ _ => N5
      refine apart_con w d _ hdr.1 hdr.2 _ _ _ (Str.ofString "law") _ fa (.ref 133) _ [] callerA Gd Gd L _ _ _ _ _ _ _ _ _ KK F5 XX TT rfl trivial (by decide) (by decide) ?_
      rintro v h9 tk9 hkp ⟨Da, rfl, hsz, va, ca, hob, hIa⟩
      have F8 := hkp.fr F5
      have N8 := news_made F5 (hkp.news N5) hob hsz
      have l8 := news_lt N5 hsz
      (try k_lt l8)
      clear F5 N5
      (try dsimp only at F8 N8 l8)
      (try k_fold)
  
      have hva := IntsAre.length hIa
      have hol := ofsL_len hdr.1 hdr.2
      (repeat walk_at "my_step")
      rename News _ _ _ _ => N9
      rename Fr _ _ _ _ => F9
      rename IntsAre _ (en ++ _) => hI9
      exact ⟨_, _, _, _, _, _, _, by rw [if_pos h6]; exact hI9, by omega, by omega, by omega, St.intro F9 N9 (allc rfl (allc rfl (allc rfl (allc rfl (allc rfl (allc rfl alln)))))) (allc (by k_mem) (allc (by k_mem) (allc (by k_mem) (allc (by k_mem) (allc (by k_mem) (allc (by k_mem) (allc (by k_mem) alln)))))))⟩
    · rw [if_neg (by simpa using h6)]
      (try k_fold)
      (repeat walk_at "my_step")
      rename News _ _ _ _ => N9
      rename Fr _ _ _ _ => F9
      exact ⟨_, _, _, _, _, _, _, by rw [if_neg h6, List.append_nil]; exact hId, hHD, hDDu, hLDu, St.intro F9 N9 (allc rfl (allc rfl (allc rfl (allc rfl (allc rfl (allc rfl alln)))))) (allc (by k_mem) (allc (by k_mem) (allc (by k_mem) (allc (by k_mem) (allc (by k_mem) (allc (by k_mem) (allc (by k_mem) alln)))))))⟩
  clear hHD hDDu hLDu hId N5 F5
  clear vd cd Du
  rintro s' ⟨Du, vd, cd, t1, t2, t3, t4, hId, hHD, hDDu, hLDu, h', tk', u, rfl, F6, N6⟩
  refine cutC (fun s' => Hid (∃ Du vd cd t1 t2 t3 t4, IntsAre vd (en ++ ex) ∧ Hd < Du ∧ D < Du ∧ L + 1 + 1 + 1 < Du ∧
    St Gd L s₁ [(Str.ofString "kind", .int k t1), (Str.ofString "size", .int n t2), (Str.ofString "distance", .int d t3), (Str.ofString "header", .ref Hd), (Str.ofString "due", .ref Du), (Str.ofString "behind", .int (en.length : Nat) t4)] [(Du, listOf vd.toArray cd), (Hd, baObj hb), (D, listOf vs.toArray 0), (L + 1 + 1 + 1, oC), (L + 1 + 1, oB), (L + 1, o1), (131, tabObj #[])] s')) ?_ ?_
  · have hvd := IntsAre.length hId
    (try k_fold)
    (repeat (fail_if_success (with_reducible refine mark_ite ?_)); walk_at "my_step")
    by_cases h7 : k = 7
    · rw [if_pos (by simpa using h7)]
      rw [if_neg (by omega), List.append_nil] at hId hvd
      (try k_fold)
      (repeat walk_at "my_step")
      rename News _ _ _ _ => N9
      rename Fr _ _ _ _ => F9
      rename IntsAre _ (en ++ _) => hI9
      rw [show Int.toNat 2 = 2 from rfl, ← hde, base_eq] at hI9
      exact ⟨_, _, _, _, _, _, _, by rw [hex, if_neg (by omega), if_pos h7]; exact hI9, by omega, by omega, by omega, St.intro F9 N9 (allc rfl (allc rfl (allc rfl (allc rfl (allc rfl (allc rfl alln)))))) (allc (by k_mem) (allc (by k_mem) (allc (by k_mem) (allc (by k_mem) (allc (by k_mem) (allc (by k_mem) (allc (by k_mem) alln)))))))⟩
    · rw [if_neg (by simpa using h7)]
      (try k_fold)
      (repeat walk_at "my_step")
      rename News _ _ _ _ => N9
      rename Fr _ _ _ _ => F9
      exact ⟨_, _, _, _, _, _, _, by rw [hex, if_neg h7]; exact hId, hHD, hDDu, hLDu, St.intro F9 N9 (allc rfl (allc rfl (allc rfl (allc rfl (allc rfl (allc rfl alln)))))) (allc (by k_mem) (allc (by k_mem) (allc (by k_mem) (allc (by k_mem) (allc (by k_mem) (allc (by k_mem) (allc (by k_mem) alln)))))))⟩
  clear hHD hDDu hLDu hId N6 F6
  clear vd cd Du
  rintro s' ⟨Du, vd, cd, t1, t2, t3, t4, hId, hHD, hDDu, hLDu, h', tk', u, rfl, F7, N7⟩
  have hvd := IntsAre.length hId
  refine cutC (fun s' => Hid (∃ t1 t2 t3 t4, St Gd L s₁ [(Str.ofString "kind", .int k t1), (Str.ofString "size", .int n t2), (Str.ofString "distance", .int d t3), (Str.ofString "due", .ref Du), (Str.ofString "behind", .int (en.length : Nat) t4)] [(Du, listOf vd.toArray cd), (D, listOf vs.toArray 0), (L + 1 + 1 + 1, oC), (L + 1 + 1, oB), (L + 1, o1), (131, tabObj #[])] s')) ?_ ?_
  · (try k_fold)
    (repeat (fail_if_success (with_reducible refine mark_tcall "list" ?_)); walk_at "my_step")
    rename Fr _ _ _ _ => F5
    rename News _ _ _ _ => N5
    have hbz : hb.size ≤ 1000 := by rw [← KBw.ints_length, hhb, List.length_append]; omega
    refine list_ba (N5 (Hd, baObj hb) (by k_mem)).1 hbz rfl ?_
    intro S h9 tk9 vl cl hkp hsz hob hIl
    rw [hhb] at hIl
    have hvl := IntsAre.length hIl

    have F8 := hkp.fr F5
    have N8 := news_made F5 (hkp.news N5) hob hsz
    have l8 := news_lt N5 hsz
    (try k_lt l8)
    clear F5 N5
    (try dsimp only at F8 N8 l8)
    (try k_fold)

    (repeat (fail_if_success (with_reducible refine mark_ite ?_)); walk_at "my_step")
    rw [if_neg (by simp)]
    (try k_fold)
    (repeat walk_at "my_step")
    rename News _ _ _ _ => N9
    rename Fr _ _ _ _ => F9
    exact ⟨_, _, _, _, St.intro F9 N9 (allc rfl (allc rfl (allc rfl (allc rfl (allc rfl alln))))) (allc (by k_mem) (allc (by k_mem) (allc (by k_mem) (allc (by k_mem) (allc (by k_mem) (allc (by k_mem) alln))))))⟩
  rintro s' ⟨t1, t2, t3, t4, h', tk', u, rfl, F8, N8⟩
  clear F7 N7
  refine cutC (fun s' => Hid (∃ t1 t2 t3 t4 t5, St Gd L s₁ [(Str.ofString "kind", .int k t1), (Str.ofString "size", .int n t2), (Str.ofString "distance", .int d t3), (Str.ofString "due", .ref Du), (Str.ofString "behind", .int (en.length : Nat) t4), (Str.ofString "ahead", .int ((xs.getD 3 0).fmod 9) t5)] [(Du, listOf vd.toArray cd), (D, listOf vs.toArray 0), (L + 1 + 1 + 1, oC), (L + 1 + 1, oB), (L + 1, o1), (131, tabObj #[])] s')) ?_ ?_
  · (try k_fold)
    (repeat walk_at "my_step")
    rename News _ _ _ _ => N9
    rename Fr _ _ _ _ => F9
    exact ⟨_, _, _, _, _, St.intro F9 N9 (allc rfl (allc rfl (allc rfl (allc rfl (allc rfl (allc rfl alln)))))) (allc (by k_mem) (allc (by k_mem) (allc (by k_mem) (allc (by k_mem) (allc (by k_mem) (allc (by k_mem) alln))))))⟩
  rintro s' ⟨t1, t2, t3, t4, t5, h', tk', u, rfl, F9, N9⟩
  clear F8 N8
  obtain ⟨a, ha⟩ : ∃ a, a = (xs.getD 3 0).fmod 9 := ⟨_, rfl⟩
  have har : 0 ≤ a ∧ a < 9 := by rw [ha, Int.fmod_eq_emod_of_nonneg _ (by decide)]; omega
  rw [← ha] at F9
  refine cutC (fun s' => Hid (∃ ob t1 t2 t3 t4 t5 t6, KBw.bInts ob = List.replicate a.toNat (200 + a) ++ (en ++ ex) ++ [129, 2] ∧ St Gd L s₁ [(Str.ofString "kind", .int k t1), (Str.ofString "size", .int n t2), (Str.ofString "distance", .int d t3), (Str.ofString "due", .ref Du), (Str.ofString "behind", .int (en.length : Nat) t4), (Str.ofString "ahead", .int a t5), (Str.ofString "octets", .bytes ob t6)] [(Du, listOf vd.toArray cd), (D, listOf vs.toArray 0), (L + 1 + 1 + 1, oC), (L + 1 + 1, oB), (L + 1, o1), (131, tabObj #[])] s')) ?_ ?_
  · have hIn : KBa.In (en ++ ex) := fun x hx => (List.mem_append.mp hx).elim (heb x) (hexb x)
    have hlb : (en ++ ex).length ≤ 100 := by rw [List.length_append]; omega
    (try k_fold)
    (repeat (fail_if_success (with_reducible refine mark_badd ?_)); walk_at "my_step")
    refine KBa.add_K (rep_ints har.1 har.2 _) (KBa.ints_make hIn) (by rw [List.length_replicate]; omega) ?_
    intro tA kA hS1
    (try k_fold)
    (repeat (fail_if_success (with_reducible refine mark_badd ?_)); walk_at "my_step")
    refine KBa.add_K (ls := [129, 2]) hS1 (by rfl) (by rw [List.length_append, List.length_replicate]; simp only [List.length_cons, List.length_nil]; omega) ?_
    intro tB kB hS2
    (try k_fold)
    (repeat walk_at "my_step")
    (try exact True.intro)
    rename News _ _ _ _ => N9
    rename Fr _ _ _ _ => F9
    exact ⟨_, _, _, _, _, _, _, hS2, St.intro F9 N9 (allc rfl (allc rfl (allc rfl (allc rfl (allc rfl (allc rfl (allc rfl alln))))))) (allc (by k_mem) (allc (by k_mem) (allc (by k_mem) (allc (by k_mem) (allc (by k_mem) (allc (by k_mem) alln))))))⟩
  rintro s' ⟨ob, t1, t2, t3, t4, t5, t6, hob, h', tk', u, rfl, F10, N10⟩
  clear F9 N9
  obtain ⟨oc, hoc⟩ : ∃ oc, oc = List.replicate a.toNat (200 + a) ++ (en ++ ex) ++ [129, 2] := ⟨_, rfl⟩
  rw [← hoc] at hob
  have hocl : oc.length = a.toNat + en.length + ex.length + 2 := by rw [hoc]; simp only [List.length_append, List.length_replicate, List.length_cons, List.length_nil]; omega
  refine cutC (fun s' => Hid (∃ Tl vt ct t1 t2 t3 t4 t5 t6 t7, IntsAre vt en ∧ Du < Tl ∧ L + 1 + 1 + 1 < Tl ∧ St Gd L s₁ [(Str.ofString "kind", .int k t1), (Str.ofString "size", .int n t2), (Str.ofString "distance", .int d t3), (Str.ofString "due", .ref Du), (Str.ofString "behind", .int (en.length : Nat) t4), (Str.ofString "ahead", .int a t5), (Str.ofString "octets", .bytes ob t6), (Str.ofString "told", .ref Tl), (Str.ofString "place", .int (a + en.length) t7)] [(Tl, listOf vt.toArray ct), (Du, listOf vd.toArray cd), (D, listOf vs.toArray 0), (L + 1 + 1 + 1, oC), (L + 1 + 1, oB), (L + 1, o1), (131, tabObj #[])] s')) ?_ ?_
  · (try k_fold)
    (repeat (fail_if_success (with_reducible refine mark_call ?_)); walk_at "my_step")
    rename Fr _ _ _ _ => F5
    rename News _ _ _ _ => N5
    obtain ⟨mk', last, hme, hmm, hml⟩ := en_split hkr.1 hkr.2 hnr.1 hen
    have hat : ((a.toNat : Nat) : Int) = a := by omega
    refine take_con w ob _ a _ oc en a.toNat hat.symm hob (by omega) last (List.replicate a.toNat (200 + a)) mk' (ex ++ [129, 2]) hme (by rw [hoc]; simp only [List.append_assoc]) (List.length_replicate ..) hmm hml _ _ _ (Str.ofString "law") _ fa (.ref 133) _ [] callerA Gd Gd L _ _ _ _ _ _ _ _ _ KK F5 XX TT rfl trivial (by decide) (by decide) ?_
    rintro v h9 tk9 hkp ⟨Tl, R, tR, rfl, hsz, hszR, ⟨vt, ct, hTl, hIt⟩, hR⟩
    have F8 := hkp.fr F5
    have N8 := news_made F5 (news_made F5 (hkp.news N5) hTl hsz) hR hszR
    have l8 := news_lt N5 hsz
    (try k_lt l8)
    clear F5 N5
    (try dsimp only at F8 N8 l8)
    rw [hat] at N8
    (try k_fold)
    (repeat walk_at "my_step")
    (try exact True.intro)
    rename News _ _ _ _ => N9
    rename Fr _ _ _ _ => F9
    exact ⟨_, _, _, _, _, _, _, _, _, _, hIt, l8.1, by omega, St.intro F9 N9 (allc rfl (allc rfl (allc rfl (allc rfl (allc rfl (allc rfl (allc rfl (allc rfl (allc rfl alln))))))))) (allc (by k_mem) (allc (by k_mem) (allc (by k_mem) (allc (by k_mem) (allc (by k_mem) (allc (by k_mem) (allc (by k_mem) alln)))))))⟩
  rintro s' ⟨Tl, vt, ct, t1, t2, t3, t4, t5, t6, t7, hIt, hDT, hLT, h', tk', u, rfl, F11, N11⟩
  clear F10 N10
  refine cutC (fun s' => Hid (∃ t1 t2 t3 t4 t5 t6, St Gd L s₁ [(Str.ofString "kind", .int k t1), (Str.ofString "size", .int n t2), (Str.ofString "distance", .int d t3), (Str.ofString "behind", .int (en.length : Nat) t4), (Str.ofString "ahead", .int a t5), (Str.ofString "octets", .bytes ob t6)] [(D, listOf vs.toArray 0), (L + 1 + 1 + 1, oC), (L + 1 + 1, oB), (L + 1, o1), (131, tabObj #[])] s')) ?_ ?_
  · have hvt := IntsAre.length hIt
    (try k_fold)
    (repeat (fail_if_success (with_reducible refine mark_ite ?_)); walk_at "my_step")
    rw [if_neg (by rw [Int.toNat_natCast, List.take_left]; simp)]
    (try k_fold)
    (repeat (fail_if_success (with_reducible refine mark_ite ?_)); walk_at "my_step")
    rw [if_neg (by simp)]
    (try k_fold)
    (repeat (fail_if_success (with_reducible refine mark_call ?_)); walk_at "my_step")
    rename Fr _ _ _ _ => F5
    rename News _ _ _ _ => N5
    refine dech_con w Tl vt ct en hel0 (by omega) hIt _ _ _ (Str.ofString "law") _ fa (.ref 133) _ [] callerA Gd Gd L _ _ _ _ _ _ _ _ _ KK F5 XX TT rfl (N5 (Tl, listOf vt.toArray ct) (by k_mem)).1 (by decide) (by decide) ?_
    rintro v h9 tk9 hkp ⟨R, tk1, tn1, rfl, hsz, hR⟩
    have hdec := dec_head hkr.1 hkr.2 hnr.1
    rw [← hen] at hdec
    rw [hdec.1, hdec.2] at hR
    have F8 := hkp.fr F5
    have N8 := news_made F5 (hkp.news N5) hR hsz
    have l8 := news_lt N5 hsz
    (try k_lt l8)
    clear F5 N5
    (try dsimp only at F8 N8 l8)
    (try k_fold)
    (repeat walk_at "my_step")
    (try exact True.intro)
    rename News _ _ _ _ => N9
    rename Fr _ _ _ _ => F9
    exact ⟨_, _, _, _, _, _, St.intro F9 N9 (allc rfl (allc rfl (allc rfl (allc rfl (allc rfl (allc rfl alln)))))) (allc (by k_mem) (allc (by k_mem) (allc (by k_mem) (allc (by k_mem) (allc (by k_mem) alln)))))⟩
  rintro s' ⟨t1, t2, t3, t4, t5, t6, h', tk', u, rfl, F12, N12⟩
  clear F11 N11

  obtain ⟨ol, hol⟩ : ∃ ol, ol = ofsL d.toNat := ⟨_, rfl⟩
  have holl : ol.length ≤ 41 := by rw [hol]; exact ofsL_len hdr.1 hdr.2
  have holb : ∀ x ∈ ol, 0 ≤ x ∧ x < 256 := by rw [hol]; exact ofsL_bytes _
  have hol0 : 0 < ol.length := by rw [hol]; unfold ofsL; simp
  refine cutC (fun s' => Hid (∃ Ap va ca t3 t4 t5 t6 t7, IntsAre va ol ∧ L + 1 + 1 + 1 < Ap ∧ St Gd L s₁ [(Str.ofString "distance", .int d t3), (Str.ofString "behind", .int (en.length : Nat) t4), (Str.ofString "ahead", .int a t5), (Str.ofString "octets", .bytes ob t6), (Str.ofString "apart", .ref Ap), (Str.ofString "place", .int (a + en.length + ol.length) t7)] [(Ap, listOf va.toArray ca), (D, listOf vs.toArray 0), (L + 1 + 1 + 1, oC), (L + 1 + 1, oB), (L + 1, o1), (131, tabObj #[])] s')) ?_ ?_
  · (try k_fold)
    (repeat (fail_if_success (with_reducible refine mark_call ?_)); walk_at "my_step")
    rename Fr _ _ _ _ => F5
    rename News _ _ _ _ => N5
    rename KBw.bInts (KBy.picked _ _ _) = _ => hpk
    rw [oct_take hoc har.1] at hpk
    refine apart_con w d _ hdr.1 hdr.2 _ _ _ (Str.ofString "law") _ fa (.ref 133) _ [] callerA Gd Gd L _ _ _ _ _ _ _ _ _ KK F5 XX TT rfl trivial (by decide) (by decide) ?_
    rintro v h9 tk9 hkp ⟨Da, rfl, hsz, va, ca, hob2, hIa⟩
    have F8 := hkp.fr F5
    have N8 := news_made F5 (hkp.news N5) hob2 hsz
    have l8 := news_lt N5 hsz
    (try k_lt l8)
    clear F5 N5
    (try dsimp only at F8 N8 l8)
    (try k_fold)

    rw [← hol] at hIa
    have hva := IntsAre.length hIa
    have hIn : KBa.In ol := holb
    (repeat (fail_if_success (with_reducible refine mark_badd ?_)); walk_at "my_step")
    refine KBa.add_K hpk (KBa.ints_make hIn) (by rw [List.length_append, List.length_replicate]; omega) ?_
    intro tA kA hS1
    (try k_fold)
    (repeat (fail_if_success (with_reducible refine mark_badd ?_)); walk_at "my_step")
    refine KBa.add_K (ls := [5]) hS1 (by rfl) (by simp only [List.length_append, List.length_replicate, List.length_cons, List.length_nil]; omega) ?_
    intro tB kB hS2
    (try k_fold)
    (repeat (fail_if_success (with_reducible refine mark_call ?_)); walk_at "my_step")
    rename Fr _ _ _ _ => F5
    rename News _ _ _ _ => N5
    obtain ⟨mkO, lastO, hoe, hom, _, hol2⟩ := ol_split hol
    refine take_con w _ _ (a + en.length) _ _ ol (a.toNat + en.length) (by omega) hS2 (by simp only [List.length_append, List.length_replicate, List.length_cons, List.length_nil]; omega) lastO (List.replicate a.toNat (200 + a) ++ en) mkO [5] hoe rfl (by simp) hom hol2 _ _ _ (Str.ofString "law") _ fa (.ref 133) _ [] callerA Gd Gd L _ _ _ _ _ _ _ _ _ KK F5 XX TT rfl trivial (by decide) (by decide) ?_
    rintro v h9 tk9 hkp ⟨Ap, R, tR, rfl, hsz, hszR, ⟨vt, ct, hTl, hIt⟩, hR⟩
    have F8 := hkp.fr F5
    have N8 := news_made F5 (news_made F5 (hkp.news N5) hTl hsz) hR hszR
    have l8 := news_lt N5 hsz
    (try k_lt l8)
    clear F5 N5
    (try dsimp only at F8 N8 l8)
    rw [show ((a.toNat + en.length : Nat) : Int) = a + (en.length : Int) by omega] at N8
    (try k_fold)
    (repeat walk_at "my_step")
    (try exact True.intro)
    rename News _ _ _ _ => N9
    rename Fr _ _ _ _ => F9
    exact ⟨_, _, _, _, _, _, _, _, hIt, by omega, St.intro F9 N9 (allc rfl (allc rfl (allc rfl (allc rfl (allc rfl (allc rfl alln)))))) (allc (by k_mem) (allc (by k_mem) (allc (by k_mem) (allc (by k_mem) (allc (by k_mem) (allc (by k_mem) alln))))))⟩
  rintro s' ⟨Ap, va, ca, t3, t4, t5, t6, t7, hIa, hLA, h', tk', u, rfl, F13, N13⟩
  clear F12 N12
  have hva := IntsAre.length hIa
  refine cutC (fun s' => Hid (∃ t3 t4 t5 t6, St Gd L s₁ [(Str.ofString "distance", .int d t3), (Str.ofString "behind", .int (en.length : Nat) t4), (Str.ofString "ahead", .int a t5), (Str.ofString "octets", .bytes ob t6), (Str.ofString "apart", .ref Ap)] [(Ap, listOf va.toArray ca), (D, listOf vs.toArray 0), (L + 1 + 1 + 1, oC), (L + 1 + 1, oB), (L + 1, o1), (131, tabObj #[])] s')) ?_ ?_
  · (try k_fold)
    (repeat (fail_if_success (with_reducible refine mark_call ?_)); walk_at "my_step")
    rename Fr _ _ _ _ => F5
    rename News _ _ _ _ => N5
    refine apart_con w d _ hdr.1 hdr.2 _ _ _ (Str.ofString "law") _ fa (.ref 133) _ [] callerA Gd Gd L _ _ _ _ _ _ _ _ _ KK F5 XX TT rfl trivial (by decide) (by decide) ?_
    rintro v h9 tk9 hkp ⟨Da, rfl, hsz, vq, cq, hob2, hIq⟩
    have F8 := hkp.fr F5
    have N8 := news_made F5 (hkp.news N5) hob2 hsz
    have l8 := news_lt N5 hsz
    (try k_lt l8)
    clear F5 N5
    (try dsimp only at F8 N8 l8)
    (try k_fold)

    rw [← hol] at hIq
    have hvq := IntsAre.length hIq
    (repeat (fail_if_success (with_reducible refine mark_ite ?_)); walk_at "my_step")
    rw [if_neg (by simp)]
    (try k_fold)
    (repeat (fail_if_success (with_reducible refine mark_ite ?_)); walk_at "my_step")
    rw [if_neg (by simp)]
    (try k_fold)
    (repeat walk_at "my_step")
    (try exact True.intro)
    rename News _ _ _ _ => N9
    rename Fr _ _ _ _ => F9
    exact ⟨_, _, _, _, St.intro F9 N9 (allc rfl (allc rfl (allc rfl (allc rfl (allc rfl alln))))) (allc (by k_mem) (allc (by k_mem) (allc (by k_mem) (allc (by k_mem) (allc (by k_mem) (allc (by k_mem) alln))))))⟩
  rintro s' ⟨t3, t4, t5, t6, h', tk', u, rfl, F14, N14⟩
  clear F13 N13
  refine cutC (fun s' => Hid (∃ t3 t4 t5 t6, St Gd L s₁ [(Str.ofString "distance", .int d t3), (Str.ofString "behind", .int (en.length : Nat) t4), (Str.ofString "ahead", .int a t5), (Str.ofString "octets", .bytes ob t6), (Str.ofString "apart", .ref Ap)] [(Ap, listOf va.toArray ca), (D, listOf vs.toArray 0), (L + 1 + 1 + 1, oC), (L + 1 + 1, oB), (L + 1, o1), (131, tabObj #[])] s')) ?_ ?_
  · have hlst := ol_last hol
    have hdv := ol_dec hol hdr.1 hol0
    (try k_fold)
    (repeat (fail_if_success (with_reducible refine mark_call ?_)); walk_at "my_step")
    rename Fr _ _ _ _ => F5
    rename News _ _ _ _ => N5
    have hAp := (N5 (Ap, listOf va.toArray ca) (by k_mem)).1
    by_cases hd0 : d = 0
    · refine decz_rai w Ap va ca ol hol0 (by omega) hIa hlst.1 (by omega) (by rw [hdv]; exact hd0) hlst.2 _ _ _ (Str.ofString "law") _ fa (.ref 133) _ [] callerA Gd Gd L _ _ _ _ _ _ _ _ _ KK F5 XX TT rfl hAp (by decide) (by decide) ?_
      rintro e h9 tk9 hfl
      (repeat (fail_if_success (with_reducible refine mark_note ?_)); walk_at "my_step")
      refine caughtX_O rfl F5 N5 hfl XX (topRead_of TT) (by k_is) (XX 39 _ rfl) (by decide) ?_
      intro h10 F8 N8
      clear F5 N5
      (try k_fold)
      (repeat walk_at "my_step")
      (try exact True.intro)
      rename News _ _ _ _ => N9
      rename Fr _ _ _ _ => F9
      exact ⟨_, _, _, _, St.intro F9 N9 (allc rfl (allc rfl (allc rfl (allc rfl (allc rfl alln))))) (allc (by k_mem) (allc (by k_mem) (allc (by k_mem) (allc (by k_mem) (allc (by k_mem) (allc (by k_mem) alln))))))⟩
    · refine deco_con w Ap va ca ol hol0 (by omega) hIa hlst.1 (by omega) (by rw [hdv]; exact hd0) hlst.2 _ _ _ (Str.ofString "law") _ fa (.ref 133) _ [] callerA Gd Gd L _ _ _ _ _ _ _ _ _ KK F5 XX TT rfl hAp (by decide) (by decide) ?_
      rintro v h9 tk9 hkp ⟨tv, rfl⟩
      rw [hdv]
      have F8 := hkp.fr F5
      have N8 := hkp.news N5
      clear F5 N5
      (try dsimp only at F8 N8)
      (try k_fold)
      (repeat (fail_if_success (with_reducible refine mark_ite ?_)); walk_at "my_step")
      rw [if_neg (by simp)]
      (try k_fold)
      (repeat (fail_if_success (with_reducible refine mark_ite ?_)); walk_at "my_step")
      rw [if_neg (by simpa using hd0)]
      (try k_fold)
      (repeat walk_at "my_step")
      (try exact True.intro)
      rename News _ _ _ _ => N9
      rename Fr _ _ _ _ => F9
      exact ⟨_, _, _, _, St.intro F9 N9 (allc rfl (allc rfl (allc rfl (allc rfl (allc rfl alln))))) (allc (by k_mem) (allc (by k_mem) (allc (by k_mem) (allc (by k_mem) (allc (by k_mem) (allc (by k_mem) alln))))))⟩
  rintro s' ⟨t3, t4, t5, t6, h', tk', u, rfl, F15, N15⟩
  clear F14 N14
  refine cutC (fun s' => Hid (∃ t4 t5 t6, St Gd L s₁ [(Str.ofString "behind", .int (en.length : Nat) t4), (Str.ofString "ahead", .int a t5), (Str.ofString "octets", .bytes ob t6)] [(D, listOf vs.toArray 0), (L + 1 + 1 + 1, oC), (L + 1 + 1, oB), (L + 1, o1), (131, tabObj #[])] s')) ?_ ?_
  · have hlst := ol_last hol
    (try k_fold)
    (repeat (fail_if_success (with_reducible refine mark_call ?_)); walk_at "my_step")
    rename Fr _ _ _ _ => F5
    rename News _ _ _ _ => N5
    rename IntsAre _ (List.take _ _ ++ _) => hI9
    obtain ⟨Dq, wq, rfl, rfl⟩ := news_head2 N5
    obtain ⟨ks, hks⟩ : ∃ ks, ks = List.take ((ol.length : Int) - 1).toNat ol ++ [ol.getD ((ol.length : Int) - 1).toNat 0 + 128] := ⟨_, rfl⟩
    rw [← hks] at hI9
    have hkm := ol_mark hol0 hlst hks
    refine deca_rai w Dq wq 0 ks (by omega) (by omega) hI9 hkm.2.1 hkm.2.2 _ _ _ (Str.ofString "law") _ fa (.ref 133) _ [] callerA Gd Gd L _ _ _ _ _ _ _ _ _ KK F5 XX TT rfl (N5 _ (.head _)).1 (by decide) (by decide) ?_
    rintro e h9 tk9 hfl
    (repeat (fail_if_success (with_reducible refine mark_note ?_)); walk_at "my_step")
    refine caughtX_B (T' := "AssertionError") rfl F5 N5 hfl XX (topRead_of TT) (by k_is) PyProof.Rows.Boot.«AssertionError» (by decide) PySem.F.isExc_AssertionError PySem.F.notTuple_AssertionError (by rw [isSubtype_type]; kernel_rfl) ?_
    intro h10 F8 N8
    clear F5 N5
    (try k_fold)
    (repeat walk_at "my_step")
    (try exact True.intro)
    rename News _ _ _ _ => N9
    rename Fr _ _ _ _ => F9
    exact ⟨_, _, _, St.intro F9 N9 (allc rfl (allc rfl (allc rfl alln))) (allc (by k_mem) (allc (by k_mem) (allc (by k_mem) (allc (by k_mem) (allc (by k_mem) alln)))))⟩
  rintro s' ⟨t4, t5, t6, h', tk', u, rfl, F16, N16⟩
  clear F15 N15
  refine cutC (fun s' => Hid (St Gd L s₁ [] [(D, listOf vs.toArray 0), (L + 1 + 1 + 1, oC), (L + 1 + 1, oB), (L + 1, o1), (131, tabObj #[])] s')) ?_ ?_
  · obtain ⟨mk', last, hme, hmm, hml⟩ := en_split hkr.1 hkr.2 hnr.1 hen
    have hat : ((a.toNat : Nat) : Int) = a := by omega
    have hml2 : en.length = mk'.length + 1 := by rw [hme]; simp
    (try k_fold)
    (repeat (fail_if_success (with_reducible refine mark_call ?_)); walk_at "my_step")
    rename Fr _ _ _ _ => F5
    rename News _ _ _ _ => N5
    rename KBw.bInts (KBy.picked _ _ _) = _ => hpk
    rw [oct_cut hoc har.1 hme] at hpk
    refine ends_con w _ _ a _ _ mk' a.toNat hat.symm hpk (by simp only [List.length_append, List.length_replicate, List.length_nil]; omega) (List.replicate a.toNat (200 + a)) rfl (List.length_replicate ..) hmm _ _ _ (Str.ofString "law") _ fa (.ref 133) _ callerA Gd L _ _ _ _ _ _ _ _ _ _ KK F5 N5 XX TT rfl (by decide) (by decide) ?_
    intro h9 tk9 F8 N8
    clear F5 N5
    (try k_fold)
    (repeat (fail_if_success (with_reducible refine mark_call ?_)); walk_at "my_step")
    rename Fr _ _ _ _ => F5
    rename News _ _ _ _ => N5
    refine ends_con w ob _ _ _ oc [] oc.length rfl hob (by omega) oc (by simp) rfl (fun x hx => nomatch hx) _ _ _ (Str.ofString "law") _ fa (.ref 133) _ callerA Gd L _ _ _ _ _ _ _ _ _ _ KK F5 N5 XX TT rfl (by decide) (by decide) ?_
    intro h10 tk10 F8 N8
    clear F5 N5
    (try k_fold)
    (repeat walk_at "my_step")
    (try exact True.intro)
    rename News _ _ _ _ => N9
    rename Fr _ _ _ _ => F9
    exact St.intro F9 N9 alln (allc (by k_mem) (allc (by k_mem) (allc (by k_mem) (allc (by k_mem) (allc (by k_mem) alln)))))
  rintro s' ⟨h', tk', u, rfl, F17, N17⟩
  clear F16 N16
  refine cutC (fun s' => Hid (∃ s₂ Dn vn bs cn o3, s₂.os = s₁.os ∧ s₂.gens = s₁.gens ∧ BytesAre vn bs ∧ Rising bs ∧ bs.length ≤ 24 ∧ o3.data = .cell (some (.ref Dn)) ∧ D < Dn ∧ L + 1 + 1 + 1 < Dn ∧ 131 < Dn ∧ St Gd L s₂ [] [(Dn, listOf vn.toArray cn), (D, listOf vs.toArray 0), (L + 1 + 1 + 1, o3), (L + 1 + 1, oB), (L + 1, o1), (131, tabObj #[])] s')) ?_ ?_
  · (try k_fold)
    (repeat (fail_if_success (with_reducible refine mark_lc ?_)); walk_at "my_step")
    k_here
    k_dflt (refine LCg.ListComp_U (F₀ := by k_asm) (by with_unfolding_all rfl) (by decide) (by rfl) (by decide) (by rfl) ?_)
    (repeat (fail_if_success (with_reducible refine mark_csrc ?_)); walk_at "my_step")
    refine LCg.CompSrc.ledger (by rfl) (by k_asm) (by k_asm) (by k_mem) (by kcf_size) ?_
    intro g'
    rename IntsAre _ (List.drop 4 xs) => hI4
    refine kcb_list nameB hI4 (fun k t I oI C oC D m ys h tk E' hk hC hx F N off0 ne => ?_) ?_
    · have off := off0
      (try (simp only [LCg.Off3, and_true] at off))
      (repeat (fail_if_success (with_reducible refine mark_tcall "bytes" ?_)); walk_at "my_step")
      rename Fr _ _ _ _ => F5
      rename News _ _ _ _ => N5
      refine KBa.make_K F5 N5 rfl (News.isList' N5 (.head _)) (.cons _ _ (.cons _ _ .nil)) ?hin (Nat.le_of_ble_eq_true rfl) ?_
      case hin => intro x hx; simp only [List.mem_cons, List.not_mem_nil, or_false] at hx; rcases hx with rfl | rfl <;> (rw [Int.fmod_eq_emod_of_nonneg _ (by decide)]; omega)
      intro _ _ _ F' N' kbaIn
      clear F5 N5
      (try k_fold)
      refine LCg.CompEnd.intro F' N' _ (by kcf_all) off0 (by first | lcg_src | assumption) ⟨rfl, _, rfl⟩
    · intro ys hys D2 h9 tk9 F9 N9 off9
      (try k_fold)
      (repeat (fail_if_success (with_reducible refine mark_tcall "set" ?_)); walk_at "my_step")
      refine my_set hys rfl (News.isList' N9 (.head _)) (by rw [List.length_map]; omega) ?_
      intro Sa h10 tk10 kf hSB hkn hk64 hkl hkp
      have F10 := hkp.fr F9
      have N10 := hkp.news N9
      clear F9 N9 hkp
      (try k_fold)
      (repeat (fail_if_success (with_reducible refine mark_bcall "sorted" ?_)); walk_at "my_step")
      refine sorted_set rfl F10 N10 hSB hkn hk64 ?_
      intro Dn h11 tk11 d' vn bs cn F11 N11 l11 hLn hBA hR hP
      (try k_lt l11)
      clear F10 N10 hSB
      (try k_fold)
      (try (simp only [LCg.Off1, and_true] at off9))
      (repeat walk_at "my_step")
      rename News _ _ _ _ => N9
      rename Fr _ _ _ _ => F9
      rename Obj.data _ = Data.cell (some (Value.ref Dn)) => ho3
      have hbl := hP.length_eq
      rw [List.length_map] at hbl
      rw [List.length_map] at hkl
      exact ⟨{ s₁ with drawn := d' }, _, _, _, _, _, rfl, rfl, hBA, hR, by omega, ho3, by omega, by omega, by omega, St.intro F9 N9 alln (allc (by k_mem) (allc (by k_mem) (allc (by k_mem) (allc (by k_mem) (allc (by k_mem) (allc (by k_mem) alln))))))⟩
  rintro s' ⟨s₂, Dn, vn, bs, cn, o3, hos, hgs, hBA, hR, hbl, hcN, hDn, hLn, hTn, h', tk', u, rfl, F18, N18⟩
  clear F17 N17
  refine cutC (fun s' => Hid (∃ ps, St Gd L s₂ [] [(131, tabObj ps)] s')) ?_ ?_
  · (try k_fold)
    refine my_forC (G := Gd) (L := L) rfl ?_
    repeat (fail_if_success (with_reducible refine mark_add2 (a := .ref _) (b := .ref _) ?_)); walk_at "my_step"
    rename Fr _ _ _ _ => F5
    rename News _ _ _ _ => N5
    refine my_addL F5 N5 (News.isList' N5 (by k_mem)) (News.isList' N5 (.head _)) ?_ (by rw [hBA.1]; simp only [List.length_cons, List.length_nil]; omega)
    intro D3 h9 va3 hva3 F9 N9 l9 hL9
    (try k_lt l9)
    clear F5 N5
    refine ⟨Obj × Addr × Obj × Obj, fun c => [(D3, listOf va3.toArray 0), (Dn, listOf vn.toArray cn), (D, listOf vs.toArray 0), (L + 1 + 1 + 1, o3), (L + 1 + 1, c.1), (L + 1, o1), (c.2.1, c.2.2.1), (131, c.2.2.2)], fun c => (∃ v, c.1.data = .cell v) ∧ LamAt D3 131 c.2.1 c.2.2.1 c.2.2.2 149 57 (Str.ofString "law" ++ Str.ofString ".<locals>." ++ Str.ofString "<lambda>"), D3, va3, 0, (oB, 131, tabObj #[], tabObj #[]), _, rfl, rfl, F9, fun p hp => N9 p ((allc (by k_mem) (allc (by k_mem) (allc (by k_mem) (allc (by k_mem) (allc (by k_mem) (allc (by k_mem) (allc (by k_mem) (allc (by k_mem) alln)))))))) p hp), ⟨⟨_, hcB⟩, .inl ⟨rfl, rfl, rfl⟩⟩, fun _ => .head _, ?_, ?_⟩
    · rintro ⟨o, ca, co, to⟩ v I oI h tk u hv ⟨⟨v0, hP⟩, hLam⟩ hne hLI F N
      dsimp only at hne N hP hLam
      rw [hva3] at hv
      obtain ⟨xb, tb, rfl⟩ := isB_snoc hBA.isB v hv
      clear hv hva3 F9 N9
      have n1 : @Ne Nat D3 I := hne _ (by k_mem)
      have n2 : @Ne Nat Dn I := hne (Dn, listOf vn.toArray cn) (by k_mem)
      have n3 : @Ne Nat D I := hne (D, listOf vs.toArray 0) (by k_mem)
      have n4 : @Ne Nat (L + 1 + 1 + 1) I := hne (L + 1 + 1 + 1, o3) (by k_mem)
      have n5 : @Ne Nat (L + 1 + 1) I := hne (L + 1 + 1, o) (by k_mem)
      have n6 : @Ne Nat (L + 1) I := hne (L + 1, o1) (by k_mem)
      have n7 : @Ne Nat ca I := hne (ca, co) (by k_mem)
      have n8 : @Ne Nat 131 I := hne (131, to) (by k_mem)
      have m1 : @Ne Nat D3 ca := lam_ne hLam (by omega) (by omega)
      have m2 : @Ne Nat Dn ca := lam_ne hLam (by omega) (by omega)
      have m3 : @Ne Nat D ca := lam_ne hLam (by omega) (by omega)
      have m4 : @Ne Nat (L + 1 + 1 + 1) ca := lam_ne hLam (by omega) (by omega)
      have m5 : @Ne Nat (L + 1 + 1) ca := lam_ne hLam (by omega) (by omega)
      have m6 : @Ne Nat (L + 1) ca := lam_ne hLam (by omega) (by omega)
      clear hne
      refine wpAny_assign_Name ?_
      (try k_fold)
      (repeat (fail_if_success (with_reducible refine mark_stn ?_)); walk_at "my_step")
      walk_at "my_step"
      rename Obj.data _ = Data.cell (some (Value.bytes xb tb)) => ho
      rename Obj => oN
      (repeat (fail_if_success (with_reducible refine mark_execs ?_)); walk_at "my_step")
      refine cutA (fun s' => Hid (∃ ca' co' to' fv, LamAt D3 131 ca' co' to' 149 57 (Str.ofString "law" ++ Str.ofString ".<locals>." ++ Str.ofString "<lambda>") ∧ @Ne Nat ca' I ∧ ((∃ j t, j < bs.length ∧ (bs.getD j #[]).toList = xb.toList ∧ fv = Value.int (j : Nat) t) ∨ ((∀ j, j < bs.length → (bs.getD j #[]).toList ≠ xb.toList) ∧ fv = Value.none)) ∧ St Gd L s₂ [(Str.ofString "found", fv)] [(I, oI), (D3, listOf va3.toArray 0), (Dn, listOf vn.toArray cn), (D, listOf vs.toArray 0), (L + 1 + 1 + 1, o3), (L + 1 + 1, oN), (L + 1, o1), (ca', co'), (131, to')] s')) ?_ ?_
      · (try k_fold)
        repeat (fail_if_success (with_reducible refine mark_ne2 (a := .ref _) (b := .ref _) ?_)); walk_at "my_step"
        rename News _ _ _ _ => N5
        refine ne_nil (News.isList' N5 (by k_mem)) (News.isList' N5 (.head _)) (by show (_ : Nat) < _; exact Nat.lt_of_lt_of_le (Nat.lt_succ_self _) (Nat.le_of_ble_eq_true rfl)) ?_
        by_cases hbn : 0 < vn.length
        · simp only [hbn, decide_true]
          (try k_fold)
          (repeat (fail_if_success (with_reducible refine mark_lam ?_)); walk_at "my_step")
          rename Fr _ _ _ _ => F5
          rename News _ _ _ _ => N5
          rename Addr => l0
          k_here
          kn_here
          k_dflt (refine' my_lam (base := D3) (ca := ca) (co := co) (to := to) (P := 131) (rest := [(l0, listOf #[] 0), (I, oI), (D3, listOf va3.toArray 0), (Dn, listOf vn.toArray cn), (D, listOf vs.toArray 0), (L + 1 + 1 + 1, o3), (L + 1 + 1, oN), (L + 1, o1)]) F5 N5 ?hnP ?hnc ?hT ?hC ?hcd hLam ⟨(D3, listOf va3.toArray 0), ?hbm, rfl⟩ ?hd0 ?hcl ?ht ?hf ?h0 ?hn0 ?_)
          case hT => k_asm
          case hC => kn_code
          case hcd => rfl
          case hbm => k_mem
          case hd0 => rfl
          case hcl => rfl
          case ht => intro x; kn_triples
          case hf => intro x; kn_hit
          case h0 => kn_triples
          case hn0 => kn_among
          case hnP => exact allc (by k_ne) (allc (by k_ne) (allc (by k_ne) (allc (by k_ne) (allc (by k_ne) (allc (by k_ne) (allc (by k_ne) (allc (by k_ne) alln)))))))
          case hnc => exact allc (by k_ne) (allc (by k_ne) (allc (by k_ne) (allc (by k_ne) (allc (by k_ne) (allc (by k_ne) (allc (by k_ne) (allc (by k_ne) alln)))))))
          intro fl c2 co2 ctv h5 tk5 F6 N6 hbc hcv hnr hlf hcf
          dsimp only [List.cons_append, List.nil_append] at N6
          clear F5 N5
          have i1 : @Ne Nat l0 c2 := hnr (l0, listOf #[] 0) (by k_mem)
          have i2 : @Ne Nat I c2 := hnr (I, oI) (by k_mem)
          (try k_lt hlf)
          clear hnr
          have hcr := hcv
          obtain ⟨wq, tq, hcv1, hcv2⟩ := hcv
          (try k_fold)
          (repeat (fail_if_success (with_reducible refine mark_call ?_)); walk_at "my_step")
          rename Fr _ _ _ _ => F5
          rename News _ _ _ _ => N5
          rename BytesAre _ _ => hBA
          refine bisect_con w fl (LamPre fl c2 (L + 1 + 1 + 1) Dn _ _ _ _ _ _ _ _ vn) (fun h h' k => LamPre.keeps k) (fun h hp => ⟨_, _, _, _, hp.1⟩) bs (by omega) ?hbne hR ?hcall xb _ _ _ _ _ _ (Str.ofString "law") _ fa (.ref 133) _ [] callerA Gd Gd L _ _ _ _ _ _ _ _ _ KK F5 XX TT rfl ⟨(N5 _ (by k_mem)).1, ⟨c2, co2, wq, tq, rfl, (N5 (c2, co2) (by k_mem)).1, hcv1, hcv2⟩, ⟨o3, (N5 (L + 1 + 1 + 1, o3) (by k_mem)).1, hcN⟩, News.isList' N5 (by k_mem)⟩ (by decide) (by decide) ?_
          case hbne => rw [← hBA.1]; exact hbn
          case hcall => intro i t hi hi2; exact lam_con w hBA (by omega) rfl rfl rfl (by decide) rfl rfl rfl (fun v => rfl) i t hi hi2
          rintro fv h6 tk6 hkp hfv
          have F8 := hkp.fr F5
          have N8 := hkp.news N5
          clear F5 N5
          (try k_fold)
          (repeat walk_at "my_step")
          rename News _ _ _ _ => N9
          rename Fr _ _ _ _ => F9
          exact ⟨c2, co2, _, fv, .inr ⟨hbc, rfl, hcr⟩, Ne.symm i2, hfv, St.intro F9 N9 (allc rfl alln) (allc (by k_mem) (allc (by k_mem) (allc (by k_mem) (allc (by k_mem) (allc (by k_mem) (allc (by k_mem) (allc (by k_mem) (allc (by k_mem) (allc (by k_mem) alln)))))))))⟩
        · simp only [hbn, decide_false]
          (try k_fold)
          (repeat walk_at "my_step")
          rename News _ _ _ _ => N9
          rename Fr _ _ _ _ => F9
          exact ⟨ca, co, to, _, hLam, n7, .inr ⟨fun j hj => absurd (Nat.lt_of_le_of_lt (Nat.zero_le _) hj) (by rw [← hBA.1]; exact hbn), rfl⟩, St.intro F9 N9 (allc rfl alln) (allc (by k_mem) (allc (by k_mem) (allc (by k_mem) (allc (by k_mem) (allc (by k_mem) (allc (by k_mem) (allc (by k_mem) (allc (by k_mem) (allc (by k_mem) alln)))))))))⟩
      · rintro s' ⟨ca, co, to, fv, hLam, n7, hfv, h', tk', u, rfl, F20, N20⟩
        (try clear F N)
        (try k_fold)
        (repeat (fail_if_success (with_reducible refine mark_lc ?_)); walk_at "my_step")
        k_here
        k_dflt (refine LCt.ListComp_T (F₀ := by k_asm) (by with_unfolding_all rfl) (by decide) (by rfl) (by decide) (by rfl) ?_)
        (repeat (fail_if_success (with_reducible refine mark_csrcT ?_)); walk_at "my_step")
        rename IsRange _ _ _ _ _ _ _ _ => hrg
        rename Fr _ _ _ _ => F5
        rename News _ _ _ _ => N5
        rename BytesAre _ _ => hBA
        refine LCt.CompSrcT.range (n := bs.length) (by rfl) F5 N5 hrg (small_one (by decide) (by decide) (by omega) (by omega)) (by rw [PyProof.Rows.rangeSize_nat]; simp) (by rw [sizeLine_eq]; omega) ?_
        intro g'
        refine kci_range (stepNm bs xb) (fun k t I2 oI2 C oC D2 m ys l h tk E' hlo hhi hI hC hx F N off0 ne mk => ?_) ?_ (stepNm_grows bs xb)
        · have off := off0
          (try (simp only [LCg.Off3, and_true] at off))
          (try k_fold)
          (repeat (fail_if_success (with_reducible refine mark_st ?_)); walk_at "my_step")
          rename News _ _ _ _ => N6
          refine item_b hBA N6 (by k_mem) (by omega) hlo (by omega) (by with_unfolding_all rfl) ?_
          intro t9
          (try k_fold)
          (repeat (fail_if_success (with_reducible refine mark_ite ?_)); walk_at "my_step")
          rename Fr _ _ _ _ => F6
          by_cases hc : isNm bs xb k = true
          · rw [if_pos (by have q := hc; unfold isNm at q; simpa using q)]
            (try k_fold)
            walk_at "my_step"
            rename Fr _ _ _ _ => F7
            rename News _ _ _ _ => N7
            exact LCg.CompEnd.intro F7 N7 _ (fun p hp => hp) off0 trivial ⟨rfl, k, _, rfl, if_pos hc⟩
          · rw [if_neg (by have q := hc; unfold isNm at q; simpa using q)]
            exact LCg.CompEnd.intro F6 N6 _ (fun p hp => hp) off0 trivial ⟨rfl, if_neg hc⟩
        · intro ys hys hyl D5 h9 tk9 F9 N9 off9
          clear F5 N5
          (try (simp only [LCg.Off1, and_true] at off9))
          rcases places hR (show FoundAt bs xb fv from hfv) hys with ⟨j, tj, tj', rfl, rfl⟩ | ⟨rfl, rfl⟩
          · (try k_fold)
            repeat (fail_if_success (with_reducible refine mark_add2 (a := .ref _) (b := .ref _) ?_)); walk_at "my_step"
            rename Fr _ _ _ _ => F5
            rename News _ _ _ _ => N5
            refine my_addL F5 N5 (vs := [.int (j : Int) tj']) ⟨_, (N5 (D5, LCg.lst _) (by k_mem)).1, rfl, _, rfl⟩ (News.isList' N5 (.head _)) ?_ (Nat.le_of_ble_eq_true rfl)
            intro D6 h6 va6 hva6 F8 N8 l8 hL8
            subst hva6
            (try k_lt l8)
            clear F5 N5
            (try k_fold)
            (repeat (fail_if_success (with_reducible refine mark_st ?_)); walk_at "my_step")
            rename News _ _ _ _ => N5
            refine item_any (x := .int (j : Int) tj') (News.isList' N5 (.head _)) (by decide) (by decide) rfl (by with_unfolding_all rfl) ?_
            (try k_fold)
            (repeat (fail_if_success (with_reducible refine mark_ite ?_)); walk_at "my_step")
            rw [if_neg (by simp)]
            (try k_fold)
            (repeat walk_at "my_step")
            rename News _ _ _ _ => N5
            rename Fr _ _ _ _ => F5
            exact ForEnd.next (oN, ca, co, to) F5 (fun p hp => N5 p ((allc (by k_mem) (allc (by k_mem) (allc (by k_mem) (allc (by k_mem) (allc (by k_mem) (allc (by k_mem) (allc (by k_mem) (allc (by k_mem) (allc (by k_mem) alln))))))))) p hp)) ⟨⟨_, ho⟩, hLam⟩ (allc n1 (allc n2 (allc n3 (allc n4 (allc n5 (allc n6 (allc n7 (allc n8 alln))))))))
          · (try k_fold)
            repeat (fail_if_success (with_reducible refine mark_add2 (a := .ref _) (b := .ref _) ?_)); walk_at "my_step"
            rename Fr _ _ _ _ => F5
            rename News _ _ _ _ => N5
            refine my_addL F5 N5 (vs := []) ⟨_, (N5 (D5, LCg.lst _) (by k_mem)).1, rfl, _, rfl⟩ (News.isList' N5 (.head _)) ?_ (Nat.le_of_ble_eq_true rfl)
            intro D6 h6 va6 hva6 F8 N8 l8 hL8
            subst hva6
            (try k_lt l8)
            clear F5 N5
            (try k_fold)
            (repeat (fail_if_success (with_reducible refine mark_st ?_)); walk_at "my_step")
            rename News _ _ _ _ => N5
            refine item_any (x := .none) (News.isList' N5 (.head _)) (by decide) (by decide) rfl (by with_unfolding_all rfl) ?_
            (try k_fold)
            (repeat (fail_if_success (with_reducible refine mark_ite ?_)); walk_at "my_step")
            rw [if_neg (by simp)]
            (try k_fold)
            (repeat walk_at "my_step")
            rename News _ _ _ _ => N5
            rename Fr _ _ _ _ => F5
            exact ForEnd.next (oN, ca, co, to) F5 (fun p hp => N5 p ((allc (by k_mem) (allc (by k_mem) (allc (by k_mem) (allc (by k_mem) (allc (by k_mem) (allc (by k_mem) (allc (by k_mem) (allc (by k_mem) (allc (by k_mem) alln))))))))) p hp)) ⟨⟨_, ho⟩, hLam⟩ (allc n1 (allc n2 (allc n3 (allc n4 (allc n5 (allc n6 (allc n7 (allc n8 alln))))))))
    · rintro ⟨o, ca, co, to⟩ h tk u ⟨_, hLam⟩ F N
      clear F9 N9
      dsimp only at N hLam
      obtain ⟨ps, rfl⟩ : ∃ ps, to = tabObj ps := by
        rcases hLam with ⟨_, _, e⟩ | ⟨_, e, _⟩
        · exact ⟨_, e⟩
        · exact ⟨_, e⟩
      (try k_fold)
      (repeat walk_at "my_step")
      rename News _ _ _ _ => N9
      rename Fr _ _ _ _ => F9
      exact ⟨ps, St.intro F9 N9 alln (allc (by k_mem) alln)⟩
  rintro s' ⟨ps, h', tk', u, rfl, F19, N19⟩
  clear F18 N18
  refine wpC_execs_consA ?_
  (try k_fold)
  (repeat walk_at "my_step")
  · refine goodW_bool F19 (hgs.trans hg) (raisesW_false ?_) ?_ hos
    · wrow_none_raised
    · wrow_post
  · exact ⟨GrownAt.of N19 (.head _), trivial⟩
end Mine
end
theorem PySem.Challenge.cw_jg0021_01_holds : PySem.Challenge.rw_jg0021_01.Holds := by
  exact Mine.law_all
