import PyProof.Rows.All
import Wide.All
import OpenK.AllK
import Wide.FinOn
import PySem.Challenge.RW_wf0023_01
set_option Elab.async false
set_option linter.unusedVariables false
namespace Mine
open PySem PySem.W PyProof.Rows PySem.Calls

noncomputable abbrev NoE : Value → Shared → Prop := fun _ _ => False
noncomputable def decId (id : String) : Bool := (Builtin.Bytes.decodersThatHold ++ ["bytearray.__contains__", "bytearray.__mod__", "bytearray.__rmod__", "_struct.pack_into.held", "bytearray.find.held"]).contains id
/-- a code that decodes -/
noncomputable def isDec (x : Code × Pos) : Bool := match x.1 with
  | .builtin id _ => decId id
  | _ => false
/-- no decoder on the stack -/
noncomputable def nd (Γ : Ctx) : Prop := ∀ q : Pos, ((Γ.code, q) :: Γ.below).any isDec = false
noncomputable def ndB (Γ : Ctx) : Prop := Γ.below.any isDec = false
noncomputable def wpN {α : Type} (M : Model) (A : Around) (t : Sem α) (Q : α → Shared → Prop) (E : Value → Shared → Prop) (s : Shared) : Prop :=
  ∀ Γ p, Γ.In A → nd Γ → Sem.wp M Γ t (fun a _ s' => Q a s') (fun e _ s' => E e s') p s
noncomputable def codeN (M : Model) (A : Around) (c : Code) (R : Result → Shared → Prop) (s : Shared) : Prop :=
  ∀ Γ p, Γ.code = c → Γ.Below A → ndB Γ → wpCode M Γ R p s

section
variable {M : Model} {A : Around} {α β : Type} {s : Shared} {E : Value → Shared → Prop}
theorem wpN_any {t : Sem α} {Q : α → Shared → Prop} (h : wpAny M A t Q E s) : wpN M A t Q E s := fun Γ p hΓ _ => h Γ p hΓ
theorem wpN_bind {m : Sem α} {f : α → Sem β} {Q : β → Shared → Prop} (h : wpN M A m (fun a s' => wpN M A (f a) Q E s') E s) : wpN M A (m >>= f) Q E s := fun Γ p hΓ hn => by
  rw [Sem.wp_bind']
  exact Sem.wp_mono M Γ m (fun a p' s' h' => h' Γ p' hΓ hn) (fun _ _ _ h' => h') p s (h Γ p hΓ hn)
theorem wpN_mono {t : Sem α} {Q Q' : α → Shared → Prop} {E' : Value → Shared → Prop} (h : wpN M A t Q E s) (hQ : ∀ a s, Q a s → Q' a s) (hE : ∀ e s, E e s → E' e s) : wpN M A t Q' E' s :=
  fun Γ p hΓ hn => Sem.wp_mono M Γ t (fun a _ s => hQ a s) (fun e _ s => hE e s) p s (h Γ p hΓ hn)
theorem wpN_to {t : Sem α} {Q Q' : α → Shared → Prop} (h : wpN M A t Q NoE s) (hQ : ∀ a s, Q a s → Q' a s) : wpN M A t Q' E s := wpN_mono h hQ fun _ _ z => z.elim
theorem wpN_holding {vs : List Value} {m : Sem α} {Q : α → Shared → Prop} (h : wpN M A m Q E s) : wpN M A (holding vs m) Q E s := fun Γ p hΓ hn => by rw [Sem.wp_holding]; exact h Γ p hΓ hn
theorem wpN_onRaise {m : Sem α} {k : Value → Sem Unit} {Q : α → Shared → Prop} (h : wpN M A m Q NoE s) : wpN M A (m.onRaise k) Q E s := fun Γ p hΓ hn => by
  rw [Sem.wp_onRaise]
  exact Sem.wp_mono M Γ m (fun _ _ _ h' => h') (fun e p' s' h' => h'.elim) p s (h Γ p hΓ hn)
theorem nd.below {Γ : Ctx} (h : nd Γ) (c : Code) (hd : Option Value) (p : Pos) : ndB (Γ.enter c hd p) := h p
theorem wpN_runValue {c : Code} {Q : Value → Shared → Prop} (hc : codeN M A c (fun r s' => match r with | .ok (.ret v) => Q v s' | .ok _ => False | .error e => E e s') s) : wpN M A (runValue c) Q E s :=
  fun Γ p hΓ hn => by rw [Sem.wp_runValue]; exact hc _ p rfl (hΓ.enter c none p (by intro x; cases x)) (hn.below c none p)
theorem wpN_call {f : Value} {pos : List Value} {kw : List (Str × Value)} {Q : Value → Shared → Prop}
    (hc : codeN M A (.call f ⟨pos, kw⟩) (fun r s' => match r with | .ok (.ret v) => Q v s' | .ok _ => False | .error e => E e s') s) : wpN M A (call f pos kw) Q E s := wpN_runValue hc
theorem codeN_of_tree {c : Code} {R : Result → Shared → Prop} (hd : ∀ q, isDec (c, q) = false)
    (h : wpN M (A.under c) (M.den c) (fun fin s' => match fin with | .done f => R (.ok f) s' | .again c' => c'.quiet = true ∧ codeN M A c' R s') (fun e s' => R (.error e) s') s) : codeN M A c R s := fun Γ p hc hΓ hn => by
  rw [wpCode_iff_wp, hc]
  refine Sem.wp_mono M Γ _ (fun fin p' s' h' => ?_) (fun _ _ _ h' => h') p s (h Γ p (hc ▸ hΓ.in) fun q => ?_)
  · cases fin with
    | done f => exact h'
    | again c' => exact ⟨h'.1, h'.2 (Γ.goto c') p' rfl (hΓ.goto c') hn⟩
  · have hn : Γ.below.any isDec = false := hn
    rw [hc, List.any_cons, hd q, hn]; rfl
theorem codeN_mono {c : Code} {R R' : Result → Shared → Prop} (h : codeN M A c R s) (hR : ∀ r s, R r s → R' r s) : codeN M A c R' s := fun Γ p hc hΓ hn => wpCode_mono hR (h Γ p hc hΓ hn)
theorem codeN_any {c : Code} {R : Result → Shared → Prop} (h : codeAny M A c R s) : codeN M A c R s := fun Γ p hc hΓ _ => h Γ p hc hΓ
end

section
variable {prog : Program} {w : World} {A : Around} {s : Shared} {R : Result → Shared → Prop} {E : Value → Shared → Prop}
/-- a def is called -/
theorem codeN_call_fn {a : Addr} {args : Args} {o : Obj} {fd : FuncData} {body : List Stmt} (hroom : A.depth < recursionLimit) (ho : s.heap.get? a = some o)
    (hd' : o.data = .func fd) (hco : fd.scope.isCoroutine = false) (hgen : fd.scope.isGenerator = false) (hbody : fd.body = .stmts body) (hcd : s.heap.CodeRec fd.code fd.qualname)
    (h : wpAny (model prog w) A.in1 (bindArgs fd args) (fun binds s₁ => wpAny (model prog w) A.in1 (newFunctionEnv fd.scope fd.globals fd.closure binds (fd.qualname ++ ".<locals>.") (some a) fd.code none fd.builtins)
        (fun env s₂ => s₂.heap.NoLimit ∧ wpN (model prog w) (A.deeper env) (execs body env) (fun f s' => R (.ok (.ret (match f with | .ret v => v | _ => .none))) s') NoE s₂) NoE s₁) NoE s) :
    codeN (model prog w) A (.call (.ref a) args) R s := by
  refine codeN_of_tree (fun _ => rfl) ?_
  show wpN _ A.in1 (callAny (.ref a) args) _ _ s
  simp only [callAny]
  obtain ⟨c, oc, vs, tq, hc, hoc, hdc, hq⟩ := hcd
  refine wpN_bind (wpN_any (wpAny_load ho ?_))
  simp only [hd', callFunction, hco, hgen, hbody, hc]
  rw [hc] at h
  refine wpN_bind (m := field (.ref c) 1) (wpN_any (wpAny_field hoc hdc hq (wpN_bind (wpN_any (wpAny_pure ?_)))))
  refine wpN_bind (wpN_any (wpAny_mono h (fun binds s₁ h₁ => wpN_bind (wpN_any (wpAny_mono h₁ (fun env s₂ h₂ => wpN_bind (wpN_any (wpAny_enterFrame h₂.1 hroom
    (wpN_any (wpAny_pure (And.intro rfl ?_)))))) fun _ _ z => z.elim))) fun _ _ z => z.elim))
  refine codeN_of_tree (fun _ => rfl) ?_
  show wpN _ (A.deeper env) (do point; match ← (execs body env).onRaise (leaving env) with | .ret v => ret v | _ => ret .none) _ _ s₂
  refine wpN_bind (wpN_any (wpAny_point (wpN_bind (wpN_onRaise (wpN_mono h₂.2 (fun f s' h' => ?_) fun _ _ z => z)))))
  cases f <;> exact wpN_any (wpAny_pure h')
end
end Mine
namespace Mine.Head
open PySem PySem.W PyProof.Rows PySem.Calls PyProof.V

noncomputable abbrev Γ₀ : PySem.Ctx := ⟨.builtin "claim.caller" {}, none, none, [], none⟩
theorem nd_caller : nd Γ₀ := fun q => by
  show (decId "claim.caller" || false) = false
  decide +kernel
theorem ends_nd {prog : Program} {w : World} {t : Sem Fin} {s : Shared} {R : Result → Shared → Prop} (hreg : s.asleep)
    (h : wpN (model prog w) callerA t (fun fin s' => ∃ f, fin = .done f ∧ (R (.ok f) s' ∧ leftWithCleanup s'.gens = false)) (fun e s' => R (.error e) s' ∧ leftWithCleanup s'.gens = false) s) :
    ∃ n r s' s'', runN (denote table) prog w n s ⟨t, .builtin "claim.caller" {}, default, []⟩ = .halted (outcomeOf r) s' ∧
      schedN (denote table) prog w n (.single s ⟨t, .builtin "claim.caller" {}, default, []⟩) = .halted (outcomeOf r) s' ∧ s'.forget = s''.forget ∧ R r s'' := by
  have z : Sem.wp (model prog w) Γ₀ t (Sem.finPost (model prog w) Γ₀ fun r s' => R r s' ∧ leftWithCleanup s'.gens = false) (fun e _ s' => R (.error e) s' ∧ leftWithCleanup s'.gens = false) default s :=
    Sem.wp_mono _ _ t (fun fin p' s' h' => by obtain ⟨f, rfl, hf⟩ := h'; exact hf) (fun _ _ _ h' => h') _ s (h Γ₀ default caller_in nd_caller)
  obtain ⟨n, r, s₁, s₂, hs, hn, hfo, hR⟩ := wp_halts_full (M := model prog w) (R := R) hreg z
  exact ⟨n, r, s₂, s₁, hn, hs, hfo, hR⟩
theorem callFrom_nd {c : ClaimW} {tree : List Value → Sem Fin} {w : World} {s : Shared} {free : Addr → Prop} {gens : Prop} {kept : Heap → Prop} (hz : s.asleep) (hgens : s.gens = #[])
    (hspec : ∀ args, c.pre args = true → WData.layableAll args = true → ∀ ord : List DictEntry → List DictEntry, (∀ l, (ord l).Perm l) →
      ∃ vs s₁, layAllW c.records (classAt s.heap) w.params ord args s = some (vs, s₁) ∧
        wpN (model c.prog w) callerA (tree vs) (fun fin s' => ∃ f, fin = .done f ∧ (c.Ends s args vs s₁ (.ok f) s' ∧ s'.os = s.os ∧ AllBare s'.gens ∧ kept s'.heap)) NoE s₁) :
    c.CallFrom (fun vs => ⟨tree vs, .builtin "claim.caller" {}, default, []⟩) w free gens kept s := fun args hpre hlay ord hord => by
  obtain ⟨vs, s₁, hlaid, hcode⟩ := hspec args hpre hlay ord hord
  have hal := layAllW_rest _ _ _ hlaid
  obtain ⟨n, r, s', s'', hrun, hsched, hfo, hcase, hos, hkp⟩ := ends_nd (prog := c.prog) (w := w) (t := tree vs) (s := s₁) (R := fun r s' => c.Ends s args vs s₁ r s' ∧ s'.os = s.os ∧ kept s'.heap)
    (Shared.asleep_of_life hal.2.2.2 hz)
    (wpN_mono hcode (fun fin s' ⟨f, e, h1, h2, h3, h4⟩ => ⟨f, e, ⟨h1, h2, h4⟩, leftWithCleanup_false_of_bare h3⟩) fun _ _ z => z.elim)
  obtain ⟨eh, _, _, eo, _⟩ := Shared.forget_eq hfo
  have hlife : s'.heap.life = s.heap.life := (runN_life _ _ _ hrun).trans hal.2.2.2
  have out := hcase.congr eh
  refine ⟨vs, s₁, hlaid, n, _, s', hsched, ?_, (fun _ i x hx => by rw [hgens] at hx; simp at hx), eh ▸ hkp, by rw [hlife], Shared.rest_eq (by rw [← eo] at hos; exact hos)⟩
  rcases out with ⟨v, rfl, d1, d2, d3, d4, d5⟩ | ⟨e, ob, cls, rfl, d1, d2, d3, d4, d5⟩
  · exact .inl ⟨v, rfl, d1, d2, d3, fun b o y _ => d4 b o y, d5⟩
  · exact .inr ⟨e, ob, cls, rfl, d1, d2, d3, d4, fun b o y _ => d5 b o y⟩

/-- what is left to show of the law's call: at a stack without decoders -/
noncomputable abbrev WalkN (q : Program) (loose : List Str) (XP : (Str → Option Value) → Heap → Prop) (YP : World → Heap → Prop) (r : RowW) (d : DefRec) (kwd : List (Str × Expr)) : Prop :=
  ∀ (w : World) (s₀ s₁ : Shared) (mg mb : Str → Option Value), Ground q loose r.records XP w s₀ mg mb s₁.heap → YP w s₁.heap → ∀ (a : Addr) (o : Obj) (pm cd doc dV kV : Value), s₁.heap.get? a = some o →
    o.data = .func { docDef d.name d.params d.body d.scope pm cd doc with defaults := dV, kwdefaults := kV } → s₁.heap.CodeRec cd d.name → Dflts mg s₁.heap d.params kwd dV kV → mg d.name = some (.ref a) → s₁.gens = #[] →
    ∀ (args : List WData) (vals : List Value) (as : List Addr), r.claim.pre args = true → WData.layableAll args = true → ReadsAllW r.records (classAt s₀.heap) s₁.heap vals args as → WellAll w.params s₁.heap vals args → (∀ a ∈ as, (a == sysModules) = false) →
      wpN (model r.prog w) callerA (PySem.call (.ref a) vals) (fun v s' => GoodWG r.claim (classAt s₀.heap) (ExcName.means s₀.heap) args s₁ (.ok (.ret v)) s') NoE s₁

/-- the top, from where every text begins: what is left to show of it -/
noncomputable abbrev LeftB (p q : Program) (loose : List Str) (Xt : Shared → Bool) {α : Type} (Yf : Shared → α) (Ya : World → α) (N : Nat) : Prop :=
  ∀ (w : World) (os : OsState), (topFrom treeTable p w N ⟨boot_heap w.params, Array.mk [], boot_drawn, boot_toks, os⟩).map (fun s => (openSeen q loose (importedModules p.main.body) Xt true s, Yf s)) = some (openGood q loose, Ya w)

theorem PySem.W.holds_open {r : OpenRow} {q : Program} {loose : List Str} {Xt : Shared → Bool} {XP : (Str → Option Value) → Heap → Prop} {α : Type} {Yf : Shared → α} {Ya : World → α} {YP : World → Heap → Prop} {d : DefRec} {kwd : List (Str × Expr)} {N : Nat}
    (left0 : ∀ w : World, N = N) (hY : ∀ w s, Yf s = Ya w → YP w s.heap) (hYk : ∀ w h h', YP w h → (∀ b o, h.get? b = some o → h'.get? b = some o) → YP w h')
    (hX : ∀ s, Xt s = true → XP (s.heap.nsMap mainGlobals) s.heap) (hXk : ∀ mg h h', XP mg h → (∀ b o, h.get? b = some o → h'.get? b = some o) → XP mg h')
    (hdef : defOf q r.name = some (d, kwd)) (hp : r.prog.theDef r.name = some (d.params, d.body, d.scope)) (hk : kwWritten? d.params.kwonlyargs d.params.kw_defaults = some kwd) (hRf : ∀ s, Xt s = true → RecFacts r.records s.heap) (hwr : (!r.writes || r.records.isEmpty) = true)
    (k1 : r.wellSaid = true) (ok : (chainsOk q && opensWell r.prog && (frees r.toRowW && r.within.isEmpty)) = true) (hb : r.prog.bare) (hw : r.toRowW.promised)
    (both : LeftB r.prog q loose Xt Yf Ya N ∧ WalkN q loose XP YP r.toRowW d kwd) (be : opening r.prog = plainProg r.prog.main.scope.names := by kernel_rfl) (bf : ∀ s, fenceModules? r.prog s = some s := by intro s; rfl) (bN : Nat.ble 600 N = true := by decide) : r.Holds := by
  obtain ⟨left, call⟩ := both
  have left : LeftO r.prog q loose Xt Yf Ya N := fun w => by
    obtain ⟨⟨h, gs, d, k, os⟩, e, e'⟩ := Option.map_eq_some_iff.mp (boot_open be bN bf w)
    obtain ⟨rfl, rfl, rfl, rfl⟩ : h = boot_heap w.params ∧ gs = Array.mk [] ∧ d = boot_drawn ∧ k = boot_toks := by simpa using e'
    unfold openEnds
    rw [e]
    exact left w os
  obtain ⟨ok1, k5⟩ := Bool.and_eq_true_iff.mp ok
  obtain ⟨hch, o1⟩ := Bool.and_eq_true_iff.mp ok1
  obtain ⟨k5, k6⟩ := Bool.and_eq_true_iff.mp k5
  obtain ⟨hsame, hu, ha, hap, hm⟩ := frees_parts k5
  have hwi : r.toRowW.claim.within = [] := List.isEmpty_iff.mp k6
  have hi := ident_freeW hu ha hap
  refine ⟨k1, hw, ⟨hb, o1, by show r.toRowW.makers.map _ = []; rw [hm]; rfl⟩, hw.witness, fun w => ⟨(LeftO.behind left hX hch w).1, fun s' hs' => ?_⟩⟩
  obtain ⟨s₀, hf, hg0, s, hT, hz, hgens, hg, G00, y⟩ := (LeftO.behind left (XP := fun mg h => XP mg h ∧ RecFacts r.records h) (fun s hs => ⟨hX s hs, hRf s hs⟩) hch w).2 s' hs'
  have G0 : Ground q loose [] XP w s (s.heap.nsMap mainGlobals) (s.heap.nsMap builtinsNs) s.heap := ⟨G00.T, G00.B, G00.D, G00.TE, G00.TD, G00.W, G00.X.1, G00.cls, G00.has, G00.apart, G00.once, G00.K⟩
  have RF := G00.X.2
  have pin : ∀ n ∈ (match r.name with | n => [n]), isTheDefsW r.prog s.heap n := fun n hn => by
    obtain rfl : n = r.name := by simpa using hn
    exact pinned_of_view hg G0 hdef hp hk
  refine ⟨s₀, hf, hg0, s, hT, ?pin, RF.1, RF.2.1, ?call⟩
  case pin =>
    intro n hn
    obtain rfl : n = r.name := by split at hn <;> simp_all
    exact pinned_of_view hg G0 hdef hp hk
  case call =>
    have hgens : s.gens = #[] := Array.eq_empty_of_size_eq_zero (beq_iff_eq.mp hgens)
    have G : Ground q loose r.records XP w s _ _ s.heap := RF.ground G0
    refine callFrom_nd (c := r.toRowW.claim) hz hgens fun args hpre hlay ord hord => ?_
    obtain ⟨⟨vs, s₁⟩, hlaid⟩ := Option.isSome_iff_exists.mp (layAllW_isSome (P := w.params) (ord := ord) G.has args r.args s (pre_splitW hpre).1)
    have keeps := layAllW_keeps _ _ _ hlaid
    have hal := layAllW_rest _ _ _ hlaid
    obtain ⟨as, hrd, hin, hold⟩ := reads_layAllW hord _ _ _ hlaid hlay s₁.heap (fun _ _ e => e)
    have L : Laid r.records w s s₁ args vs as := ⟨⟨ord, hord, hlaid⟩, hrd, hin, hold, keeps, hal.1.trans hgens, hal.2.2.1⟩
    have G₁ := G.keeps hXk keeps
    obtain ⟨a, o, pm, cd, doc, dV, kV, h1, h2, h3, h4, h5⟩ := G₁.fn hdef
    have h := call w s s₁ _ _ G₁ (hYk _ _ _ (hY w s y) keeps) a o pm cd doc dV kV h2 h3 h4 h5 (defOf_name hdef ▸ h1) L.gens args vs as hpre hlay L.reads L.well (L.low G.low)
    refine ⟨vs, s₁, hlaid, wpN_bind (wpN_any (wpAny_nsGet G₁.T.g ?_))⟩
    rw [h1]
    refine wpN_bind (wpN_to h fun v s' g => wpN_any (wpAny_pure ⟨_, rfl, ?_⟩))
    have z := g.laid (c := r.toRowW.claim) hsame hwi hi L
    exact ⟨z.1, z.2.1, z.2.2, fun q => ⟨namesKept_of hT hg _ keeps g.2.1.old, noTable hwr q⟩⟩
end Mine.Head
namespace Mine.Head
open PySem PySem.W PyProof.Rows
set_option maxRecDepth 100000 in
set_option maxHeartbeats 8000000 in
open_top hd for PySem.Challenge.rw_wf0023_01
end Mine.Head
namespace Mine
open PySem PySem.W PyProof.Rows PySem.Calls
/-- the objects that the head writes out -/
noncomputable def written : List Addr := [2, 3, 6, 22, 24, 25, 27, 28, 29, 31, 32, 34, 35, 36, 37, 38, 39, 40, 43, 45, 46, 48, 49, 50, 52, 53, 55, 56, 57, 59, 60, 62, 63, 64, 65, 66, 68, 69, 71, 72, 73, 74, 75, 77, 78, 80, 81, 82, 84, 85, 87, 88, 89, 91, 92, 94, 95, 96, 99, 100, 101, 104, 105, 106, 108, 109, 111, 112, 113, 115, 116, 118, 119, 120, 123, 124, 125, 128, 129, 130, 133, 134, 135, 138, 139]
noncomputable def looseN : List Str := [PySem.Str.ofString "insort_right", PySem.Str.ofString "bisect_right"]
noncomputable abbrev seenQ : Program := Mine.Head.hd.view_39
noncomputable abbrev progQ : Program := PySem.Challenge.pw_wf0023_01
/-- the top's end, by the library's quick twins -/
theorem topFrom_tw (p : Program) (w : World) (N : Nat) (s₀ : Shared) : topFrom treeTable p w N s₀ = match s₀.heap.isNs mainGlobals && s₀.gens.size == 0 with
    | true => (Fast.tw14082659384304107361 Fast.tw14364793385576792824 p w s₀.heap.objs.size (Fast.tw8920871248978507458 s₀.heap mainGlobals "__annotations__") N s₀ (topStub p)).bind fun s₁ => match staticsOk (Fast.tw5923862056798008813 p.main.body) s₀.heap s₁.heap && namesBound p s₁.heap && gensDone s₁ && laidKept s₀.heap s₁.heap with
        | true => some s₁
        | false => none
    | false => none := by
  unfold topFrom
  rw [Fast.te14082659384304107361, Fast.te14364793385576792824, Fast.te8920871248978507458, Fast.te5923862056798008813]
  rfl
set_option maxRecDepth 100000 in
theorem top_tw (w : World) (os : OsState) : (match (boot_heap w.params).isNs mainGlobals && (Array.mk [] : Array GenState).size == 0 with
    | true => (Fast.tw14082659384304107361 Fast.tw14364793385576792824 progQ w (boot_heap w.params).objs.size (Fast.tw8920871248978507458 (boot_heap w.params) mainGlobals "__annotations__") 1662 ⟨boot_heap w.params, Array.mk [], boot_drawn, boot_toks, os⟩ (topStub progQ)).bind fun s₁ => match staticsOk (Fast.tw5923862056798008813 progQ.main.body) (boot_heap w.params) s₁.heap && namesBound progQ s₁.heap && gensDone s₁ && laidKept (boot_heap w.params) s₁.heap with
        | true => some s₁
        | false => none
    | false => none).map (fun s => (Fast.tw4187177175401517315 seenQ looseN (Fast.tw5923862056798008813 progQ.main.body) (fun s => xlAt seenQ [] s && recOk [] s) true s, written.map s.heap.get?)) = some (openGood seenQ looseN, (Mine.Head.hd.heap_39 w.params).map fun p => some p.2) := by kernel_rfl
/-- the top of the text -/
theorem top_ok : Mine.Head.LeftB progQ seenQ looseN (fun s => xlAt seenQ [] s && recOk [] s) (fun s => written.map s.heap.get?) (fun w => (Mine.Head.hd.heap_39 w.params).map fun p => some p.2) 1662 := fun w os => by
  rw [topFrom_tw, Fast.te4187177175401517315, Fast.te5923862056798008813]
  exact top_tw w os
end Mine
namespace Mine
open PySem PySem.W PyProof.Rows PySem.Calls

noncomputable abbrev PR : Program := PySem.Challenge.rw_wf0023_01.row.prog
noncomputable abbrev MM (w : World) : Model := model PR w

/-! heaps that grow; a hidden list of addresses -/
noncomputable abbrev Sub (h h' : Heap) : Prop := ∀ b o, h.get? b = some o → h'.get? b = some o
theorem Sub.refl (h : Heap) : Sub h h := fun _ _ e => e
theorem Sub.trans {a b c : Heap} (x : Sub a b) (y : Sub b c) : Sub a c := fun _ _ e => y _ _ (x _ _ e)

/-- all that is not in M stays -/
noncomputable abbrev KB (M : List Addr) (h h' : Heap) : Prop := ∀ b o, b ∉ M → h.get? b = some o → h'.get? b = some o
theorem KB.refl (M : List Addr) (h : Heap) : KB M h h := fun _ _ _ e => e
theorem KB.trans {M : List Addr} {a b c : Heap} (x : KB M a b) (y : KB M b c) : KB M a c := fun q o n e => y q o n (x q o n e)
theorem KB.of {M : List Addr} {a b : Heap} (x : Sub a b) : KB M a b := fun q o _ e => x q o e
theorem KB.mono {M M' : List Addr} {a b : Heap} (x : KB M a b) (s : ∀ q ∈ M, q ∈ M') : KB M' a b := fun q o n e => x q o (fun m => n (s q m)) e
theorem KB.same {c : Addr} {M : List Addr} {a b : Heap} (hs : Heap.SameBut c a b) (hc : c ∈ M) : KB M a b := fun q o n e => (hs.2 q (fun x => n (x ▸ hc))).trans e

noncomputable def Fz (M : List Addr) (h : Heap) : Heap := hideAll h M
theorem Fz_get {M : List Addr} {h : Heap} {b : Addr} {o : Obj} (n : b ∉ M) (e : h.get? b = some o) : (Fz M h).get? b = some o := hideAll_get M e n
theorem Fz_of {M : List Addr} {h : Heap} {b : Addr} {o : Obj} (e : (Fz M h).get? b = some o) : h.get? b = some o := of_hideAll M e
theorem Fz_notin {M : List Addr} {h : Heap} {b : Addr} {o : Obj} (e : (Fz M h).get? b = some o) : b ∉ M := fun m => by
  have := hideAll_none M (h := h) m
  unfold Fz at e; rw [this] at e; cases e
theorem Fz_sub (M : List Addr) (h : Heap) : Sub (Fz M h) h := fun _ _ e => Fz_of e
theorem Fz_mono {M : List Addr} {h h' : Heap} (k : KB M h h') : Sub (Fz M h) (Fz M h') := fun b o e => Fz_get (Fz_notin e) (k b o (Fz_notin e) (Fz_of e))
theorem Fz_less {M M' : List Addr} {h : Heap} (s : ∀ q ∈ M', q ∈ M) : Sub (Fz M h) (Fz M' h) := fun _ _ e => Fz_get (fun m => Fz_notin e (s _ m)) (Fz_of e)
theorem Fz_grow {M : List Addr} {g h : Heap} (s : Sub g h) (n : ∀ q ∈ M, g.get? q = none) : Sub g (Fz M h) := fun b o e => Fz_get (fun m => by rw [n b m] at e; cases e) (s b o e)
theorem Fz_none {M : List Addr} {h : Heap} {q : Addr} (m : q ∈ M) : (Fz M h).get? q = none := hideAll_none M m
/-- frozen facts stay when a new address is hidden besides -/
theorem Fz_more {M : List Addr} {h h' : Heap} {D : Addr} (k : KB M h h') (n : h.get? D = none) : Sub (Fz M h) (Fz (D :: M) h') := fun b o e =>
  Fz_get (fun m => by
    rcases List.mem_cons.mp m with rfl | m
    · rw [Fz_of e] at n; cases n
    · exact Fz_notin e m) (k b o (Fz_notin e) (Fz_of e))
theorem Fz_more' {M N : List Addr} {h h' : Heap} (k : KB M h h') (n : ∀ q ∈ N, q ∉ M → h.get? q = none) : Sub (Fz M h) (Fz N h') := fun b o e =>
  Fz_get (fun m => by have := n b m (Fz_notin e); rw [Fz_of e] at this; cases this) (k b o (Fz_notin e) (Fz_of e))

/-! pure data -/
inductive PD
  | none
  | bool (b : Bool)
  | int (i : Int)
  | list (l : List PD)
  | tup (l : List PD)
  | dict (l : List (Int × Int))
  | bytes (l : List UInt8)
  | raw (v : Value)
  | barr (l : List UInt8)
  | ab (P : Heap → Value → Prop) (m : ∀ h h' v, (∀ b o, h.get? b = some o → h'.get? b = some o) → P h v → P h' v)

noncomputable def Pairs : List (Int × Value) → List (Int × Int) → Prop
  | [], [] => True
  | p :: ps, q :: qs => p.1 = q.1 ∧ (∃ t, p.2 = .int q.2 t) ∧ Pairs ps qs
  | _, _ => False

mutual
noncomputable def Rd (w : World) (h : Heap) : PD → Value → Prop
  | .none, v => v = .none
  | .bool b, v => v = .bool b
  | .int i, v => ∃ t, v = .int i t
  | .bytes l, v => ∃ t, v = .bytes l.toArray t
  | .raw u, v => v = u
  | .barr l, v => ∃ a, v = .ref a ∧ h.get? a = some { cls := .type "bytearray", data := .bytearray l.toArray }
  | .ab P _, v => P h v
  | .list l, v => ∃ a vs, v = .ref a ∧ h.PlainList a (List.toArray vs) ∧ Rds w h l vs
  | .tup l, v => ∃ a vs, v = .ref a ∧ IsTup h a (List.toArray vs) ∧ Rds w h l vs
  | .dict l, v => ∃ a kvs, v = .ref a ∧ (a == sysModules) = false ∧ h.DictOf (intKind PR w) a kvs ∧ Pairs kvs l
noncomputable def Rds (w : World) (h : Heap) : List PD → List Value → Prop
  | [], vs => vs = []
  | d :: ds, vs => ∃ v vs', vs = v :: vs' ∧ Rd w h d v ∧ Rds w h ds vs'
end

theorem isTup_sub {h h' : Heap} {a : Addr} {items : Array Value} (s : Sub h h') (x : IsTup h a items) : IsTup h' a items := let ⟨o, ho, r⟩ := x; ⟨o, s _ _ ho, r⟩
theorem dictOf_sub {w : World} {h h' : Heap} {a : Addr} {kvs : List (Int × Value)} (s : Sub h h') (x : h.DictOf (intKind PR w) a kvs) : h'.DictOf (intKind PR w) a kvs := by
  obtain ⟨o, ho, r⟩ := Heap.dictOf_iff.mp x
  exact Heap.dictOf_iff.mpr ⟨o, s _ _ ho, r⟩

mutual
theorem Rd.sub {w : World} {h h' : Heap} (s : Sub h h') : ∀ {d : PD} {v : Value}, Rd w h d v → Rd w h' d v
  | .none, _, x => x
  | .bool _, _, x => x
  | .int _, _, x => x
  | .bytes _, _, x => x
  | .raw _, _, x => x
  | .barr _, _, ⟨a, e, x⟩ => ⟨a, e, s _ _ x⟩
  | .ab _ m, _, x => m _ _ _ s x
  | .list l, v, x => by
    unfold Rd at x ⊢
    obtain ⟨a, vs, e, p, r⟩ := x
    exact ⟨a, vs, e, p.at fun o q => s _ o q, Rds.sub s r⟩
  | .tup l, v, x => by
    unfold Rd at x ⊢
    obtain ⟨a, vs, e, p, r⟩ := x
    exact ⟨a, vs, e, isTup_sub s p, Rds.sub s r⟩
  | .dict l, v, x => by
    unfold Rd at x ⊢
    obtain ⟨a, kvs, e, n, p, r⟩ := x
    exact ⟨a, kvs, e, n, dictOf_sub s p, r⟩
theorem Rds.sub {w : World} {h h' : Heap} (s : Sub h h') : ∀ {ds : List PD} {vs : List Value}, Rds w h ds vs → Rds w h' ds vs
  | [], _, x => x
  | d :: ds, vs, x => by
    unfold Rds at x ⊢
    obtain ⟨v, vs', e, a, b⟩ := x
    exact ⟨v, vs', e, Rd.sub s a, Rds.sub s b⟩
end

section
variable {w : World} {h : Heap}
theorem Rd.int {i : Int} {v : Value} (x : Rd w h (.int i) v) : ∃ t, v = .int i t := x
theorem Rd.of_int (i : Int) (t : Tok) : Rd w h (.int i) (.int i t) := ⟨t, rfl⟩
theorem Rd.list {l : List PD} {v : Value} (x : Rd w h (.list l) v) : ∃ a vs, v = .ref a ∧ h.PlainList a (List.toArray vs) ∧ Rds w h l vs := x
theorem Rd.tup {l : List PD} {v : Value} (x : Rd w h (.tup l) v) : ∃ a vs, v = .ref a ∧ IsTup h a (List.toArray vs) ∧ Rds w h l vs := x
theorem Rd.dict {l : List (Int × Int)} {v : Value} (x : Rd w h (.dict l) v) : ∃ a kvs, v = .ref a ∧ (a == sysModules) = false ∧ h.DictOf (intKind PR w) a kvs ∧ Pairs kvs l := x
theorem Rds.nil : Rds w h [] [] := rfl
theorem Rds.cons {d : PD} {ds : List PD} {v : Value} {vs : List Value} (a : Rd w h d v) (b : Rds w h ds vs) : Rds w h (d :: ds) (v :: vs) := ⟨v, vs, rfl, a, b⟩
theorem Rds.cons_inv {d : PD} {ds : List PD} {vs : List Value} (x : Rds w h (d :: ds) vs) : ∃ v vs', vs = v :: vs' ∧ Rd w h d v ∧ Rds w h ds vs' := x
theorem Rds.nil_inv {vs : List Value} (x : Rds w h [] vs) : vs = [] := x
theorem Rds.length : ∀ {ds : List PD} {vs : List Value}, Rds w h ds vs → vs.length = ds.length
  | [], _, x => by rw [Rds.nil_inv x]; rfl
  | d :: ds, vs, x => by obtain ⟨v, vs', rfl, _, b⟩ := Rds.cons_inv x; simp [Rds.length b]
theorem Rds.get : ∀ {ds : List PD} {vs : List Value}, Rds w h ds vs → ∀ {i : Nat} {d : PD}, ds[i]? = some d → ∃ v, vs[i]? = some v ∧ Rd w h d v
  | [], _, _, i, d, e => by simp at e
  | d :: ds, vs, x, i, d', e => by
    obtain ⟨v, vs', rfl, a, b⟩ := Rds.cons_inv x
    cases i with
    | zero => simp at e; subst e; exact ⟨v, by simp, a⟩
    | succ i => simp at e; obtain ⟨v', e', r⟩ := Rds.get b e; exact ⟨v', by simpa using e', r⟩
theorem Rds.get' : ∀ {ds : List PD} {vs : List Value}, Rds w h ds vs → ∀ {i : Nat} {v : Value}, vs[i]? = some v → ∃ d, ds[i]? = some d ∧ Rd w h d v
  | [], _, x, i, d, e => by rw [Rds.nil_inv x] at e; simp at e
  | d :: ds, vs, x, i, v', e => by
    obtain ⟨v, vs', rfl, a, b⟩ := Rds.cons_inv x
    cases i with
    | zero => simp at e; subst e; exact ⟨d, by simp, a⟩
    | succ i => simp at e; obtain ⟨v', e', r⟩ := Rds.get' b e; exact ⟨v', by simpa using e', r⟩
theorem Rds.append : ∀ {ds es : List PD} {vs us : List Value}, Rds w h ds vs → Rds w h es us → Rds w h (ds ++ es) (vs ++ us)
  | [], _, _, _, x, y => by rw [Rds.nil_inv x]; exact y
  | d :: ds, _, vs, _, x, y => by obtain ⟨v, vs', rfl, a, b⟩ := Rds.cons_inv x; exact Rds.cons a (Rds.append b y)
theorem Rds.snoc {ds : List PD} {d : PD} {vs : List Value} {v : Value} (x : Rds w h ds vs) (y : Rd w h d v) : Rds w h (ds ++ [d]) (vs ++ [v]) := x.append (Rds.cons y Rds.nil)
theorem Rds.take : ∀ {ds : List PD} {vs : List Value} (n : Nat), Rds w h ds vs → Rds w h (ds.take n) (vs.take n)
  | _, _, 0, _ => by simp [Rds]
  | [], _, n + 1, x => by rw [Rds.nil_inv x]; simp [Rds]
  | d :: ds, vs, n + 1, x => by obtain ⟨v, vs', rfl, a, b⟩ := Rds.cons_inv x; exact Rds.cons a (Rds.take n b)
theorem Rds.drop : ∀ {ds : List PD} {vs : List Value} (n : Nat), Rds w h ds vs → Rds w h (ds.drop n) (vs.drop n)
  | _, _, 0, x => by simpa using x
  | [], _, n + 1, x => by rw [Rds.nil_inv x]; simp [Rds]
  | d :: ds, vs, n + 1, x => by obtain ⟨v, vs', rfl, a, b⟩ := Rds.cons_inv x; simpa using Rds.drop n b
theorem Rds.set : ∀ {ds : List PD} {vs : List Value} (i : Nat) {d : PD} {v : Value}, Rds w h ds vs → Rd w h d v → Rds w h (ds.set i d) (vs.set i v)
  | [], _, i, _, _, x, _ => by rw [Rds.nil_inv x]; simp [Rds]
  | e :: ds, vs, 0, d, v, x, y => by obtain ⟨v, vs', rfl, a, b⟩ := Rds.cons_inv x; exact Rds.cons y b
  | e :: ds, vs, i + 1, d, v, x, y => by obtain ⟨v, vs', rfl, a, b⟩ := Rds.cons_inv x; exact Rds.cons a (Rds.set i b y)
noncomputable abbrev PD.ints (l : List Int) : PD := .list (l.map .int)
theorem Rds.ints : ∀ {ns : List Int} {vs : List Value}, Rds w h (ns.map .int) vs → IntsAre vs ns
  | [], _, x => by rw [Rds.nil_inv x]; exact IntsAre.nil
  | n :: ns, vs, x => by obtain ⟨v, vs', rfl, ⟨t, rfl⟩, b⟩ := Rds.cons_inv x; exact IntsAre.cons _ _ (Rds.ints b)
theorem Rds.of_ints : ∀ {ns : List Int} {vs : List Value}, IntsAre vs ns → Rds w h (ns.map .int) vs
  | _, _, .nil => Rds.nil
  | _, _, .cons _ _ b => Rds.cons ⟨_, rfl⟩ (Rds.of_ints b)
end
end Mine
namespace Mine
open PySem PySem.W PyProof.Rows PySem.Calls

noncomputable abbrev KK (w : World) : Frag := Mine.Head.hd.heap_39 w.params

/-- the ground: what the top made, the builtins -/
structure Gd (w : World) (h : Heap) : Prop where
  k : (KK w).In h
  g : ∃ mg, h.Ns mainGlobals mg
  b : ∃ mb, h.Ns builtinsNs mb ∧ ∀ x : Str, x ≠ "__name__" → mb x = bootBuiltins x
  nl : h.NoLimit
theorem Gd.sub {w : World} {h h' : Heap} (G : Gd w h) (s : Sub h h') : Gd w h' :=
  ⟨G.k.keeps s, let ⟨m, x⟩ := G.g; ⟨m, x.keeps s⟩, let ⟨m, x, y⟩ := G.b; ⟨m, x.keeps s, y⟩, G.nl.keeps s⟩

theorem isCell_sub {h h' : Heap} {c : Addr} {v : Option Value} (s : Sub h h') (x : h.IsCell c v) : h'.IsCell c v := let ⟨o, a, b⟩ := x; ⟨o, s _ _ a, b⟩
theorem none_of_size {h : Heap} : h.get? h.objs.size = none := by
  cases e : h.get? h.objs.size with
  | none => rfl
  | some o => exact absurd (Heap.lt_size e) (Nat.lt_irrefl _)
theorem none_of_le {h : Heap} {a : Addr} (l : h.objs.size ≤ a) : h.get? a = none := by
  cases e : h.get? a with
  | none => rfl
  | some o => exact absurd (Heap.lt_size e) (Nat.not_lt.mpr l)
theorem sub_push (h : Heap) (o : Obj) : Sub h (h.push o) := fun _ _ e => Heap.get?_push_of_some _ e

/-- what a made object that may still change holds -/
noncomputable def MutAt (w : World) (M : List Addr) (h : Heap) (D : Addr) : PD → Prop
  | .list ds => ∃ vs, h.PlainList D (List.toArray vs) ∧ Rds w (Fz M h) ds vs
  | .dict l => ∃ kvs, (D == sysModules) = false ∧ h.DictOf (intKind PR w) D kvs ∧ Pairs kvs l
  | .barr l => h.get? D = some { cls := .type "bytearray", data := .bytearray l.toArray }
  | _ => False

noncomputable abbrev own (env : Env) (Mu : List (Addr × PD)) : List Addr := env.locals :: (env.cells.map (·.2) ++ Mu.map (·.1))
noncomputable abbrev hid (env : Env) (Mu : List (Addr × PD)) (H : List Addr) : List Addr := own env Mu ++ H

/-- the state of a frame: names and made objects by what they hold -/
structure StE (w : World) (env : Env) (H : List Addr) (Mu : List (Addr × PD)) (ρ : Str → Option PD) (h : Heap) : Prop where
  gd : Gd w (Fz (hid env Mu H) h)
  ns : ∃ m, h.Ns env.locals m ∧ ∀ x d, ρ x = some d → env.kindOf x = some .local → ∃ v, m x = some v ∧ Rd w (Fz (hid env Mu H) h) d v
  cl : ∀ x d, ρ x = some d → env.kindOf x = some .cell ∨ env.kindOf x = some .free → ∃ c v, env.cells.lookup x = some c ∧ h.IsCell c (some v) ∧ Rd w (Fz (hid env Mu H) h) d v
  ce : ∀ p ∈ env.cells, ∃ v, h.IsCell p.2 v
  cd : ∀ x y c, env.cells.lookup x = some c → env.cells.lookup y = some c → x = y
  mu : ∀ p ∈ Mu, MutAt w (hid env Mu H) h p.1 p.2
  md : (Mu.map (·.1)).Nodup
  lm : env.locals ∉ Mu.map (·.1)
  hl : ∀ q ∈ H, ∃ o, h.get? q = some o
  eg : env.globals = mainGlobals
  eb : env.builtins = builtinsNs
  ek : env.scope.kind = .function

theorem MutAt.alive {w : World} {M : List Addr} {h : Heap} {D : Addr} : ∀ {d : PD}, MutAt w M h D d → ∃ o, h.get? D = some o
  | .list _, ⟨_, x, _⟩ => let ⟨_, e⟩ := x; ⟨_, e⟩
  | .dict _, ⟨_, _, x, _⟩ => let ⟨o, e, _⟩ := Heap.dictOf_iff.mp x; ⟨o, e⟩
  | .none, x => x.elim
  | .bool _, x => x.elim
  | .int _, x => x.elim
  | .tup _, x => x.elim
  | .bytes _, x => x.elim
  | .raw _, x => x.elim
  | .ab _ _, x => x.elim
  | .barr _, x => ⟨_, x⟩
theorem MutAt.keep {w : World} {M M' : List Addr} {h h' : Heap} {D : Addr} (e : ∀ o, h.get? D = some o → h'.get? D = some o) (s : Sub (Fz M h) (Fz M' h')) : ∀ {d : PD}, MutAt w M h D d → MutAt w M' h' D d
  | .list _, ⟨vs, x, r⟩ => ⟨vs, x.at e, r.sub s⟩
  | .dict _, ⟨kvs, n, x, r⟩ => ⟨kvs, n, by obtain ⟨o, q, y⟩ := Heap.dictOf_iff.mp x; exact Heap.dictOf_iff.mpr ⟨o, e o q, y⟩, r⟩
  | .none, x => x.elim
  | .bool _, x => x.elim
  | .int _, x => x.elim
  | .tup _, x => x.elim
  | .bytes _, x => x.elim
  | .raw _, x => x.elim
  | .ab _ _, x => x.elim
  | .barr _, x => e _ x

section
variable {w : World} {env : Env} {H : List Addr} {Mu : List (Addr × PD)} {ρ : Str → Option PD} {h h' : Heap}
theorem StE.alive (S : StE w env H Mu ρ h) : ∀ q ∈ hid env Mu H, ∃ o, h.get? q = some o := fun q m => by
  rcases List.mem_append.mp m with m | m
  · rcases List.mem_cons.mp m with rfl | m
    · obtain ⟨_, ⟨o, _, _, e, _⟩, _⟩ := S.ns; exact ⟨o, e⟩
    · rcases List.mem_append.mp m with m | m
      · obtain ⟨p, hp, rfl⟩ := List.mem_map.mp m
        obtain ⟨_, o, e, _⟩ := S.ce p hp; exact ⟨o, e⟩
      · obtain ⟨p, hp, rfl⟩ := List.mem_map.mp m
        exact (S.mu p hp).alive
  · exact S.hl q m
theorem StE.fresh (S : StE w env H Mu ρ h) {b : Addr} (n : h.get? b = none) : b ∉ hid env Mu H := fun m => by
  obtain ⟨o, e⟩ := S.alive b m; rw [e] at n; cases n
theorem StE.sub (S : StE w env H Mu ρ h) (s : Sub h h') : StE w env H Mu ρ h' :=
  have z : Sub (Fz (hid env Mu H) h) (Fz (hid env Mu H) h') := Fz_mono (.of s)
  { gd := S.gd.sub z
    ns := let ⟨m, x, y⟩ := S.ns; ⟨m, x.keeps s, fun x d e k => let ⟨v, a, b⟩ := y x d e k; ⟨v, a, b.sub z⟩⟩
    cl := fun x d e k => let ⟨c, v, a, b, r⟩ := S.cl x d e k; ⟨c, v, a, isCell_sub s b, r.sub z⟩
    ce := fun p hp => let ⟨v, x⟩ := S.ce p hp; ⟨v, isCell_sub s x⟩
    cd := S.cd
    mu := fun p hp => (S.mu p hp).keep (fun o e => s _ o e) z
    md := S.md, lm := S.lm
    hl := fun q m => let ⟨o, e⟩ := S.hl q m; ⟨o, s _ _ e⟩
    eg := S.eg, eb := S.eb, ek := S.ek }
end

/-- the state grew, nothing else turned -/
structure Kp (s s' : Shared) : Prop where
  ex : ∃ h t, s' = { s with heap := h, toks := t }
  heap : Sub s.heap s'.heap
theorem Kp.rfl (s : Shared) : Kp s s := ⟨⟨s.heap, s.toks, _root_.rfl⟩, fun _ _ e => e⟩
theorem Kp.trans {a b c : Shared} (x : Kp a b) (y : Kp b c) : Kp a c := by
  obtain ⟨⟨h, t, rfl⟩, x⟩ := x
  obtain ⟨⟨h', t', rfl⟩, y⟩ := y
  exact ⟨⟨h', t', _root_.rfl⟩, Sub.trans x y⟩
theorem Kp.tok (s : Shared) (t : Nat) : Kp s { s with toks := t } := ⟨⟨s.heap, t, _root_.rfl⟩, fun _ _ e => e⟩
theorem Kp.to {s : Shared} {h : Heap} {t : Nat} (x : Sub s.heap h) : Kp s { s with heap := h, toks := t } := ⟨⟨h, t, _root_.rfl⟩, x⟩
theorem Kp.keeps {s s' : Shared} (x : Kp s s') : Keeps s s' := by obtain ⟨⟨h, t, rfl⟩, y⟩ := x; exact ⟨h, t, _root_.rfl, y⟩
theorem Kp.of {s s' : Shared} (x : Keeps s s') : Kp s s' := by obtain ⟨h, t, rfl, y⟩ := x; exact ⟨⟨h, t, _root_.rfl⟩, y⟩

/-- what a call around may use -/
structure OkA (A : Around) (k : Nat) : Prop where
  h : A.handled = none
  d : A.depth + k < recursionLimit
  u : A.units + 50 * (k + 1) < cLine
theorem OkA.less {A : Around} {k j : Nat} (x : OkA A k) (l : j ≤ k) : OkA A j := ⟨x.h, by have := x.d; omega, by have := x.u; omega⟩
theorem OkA.deeper {A : Around} {k : Nat} (x : OkA A (k + 1)) (env : Env) : OkA (A.deeper env) k := ⟨x.h, by have := x.d; show A.depth + 1 + k < _; omega, by have := x.u; show A.units + 3 + _ < _; omega⟩
theorem OkA.in1 {A : Around} {k : Nat} (x : OkA A (k + 1)) : OkA A.in1 k := ⟨x.h, by have := x.d; show A.depth + k < _; omega, by have := x.u; show A.units + 1 + _ < _; omega⟩
theorem OkA.room {A : Around} {k : Nat} (x : OkA A k) : A.depth < recursionLimit := by have := x.d; omega
theorem OkA.units {A : Around} {k : Nat} (x : OkA A k) : A.units + 40 < cLine := by have := x.u; omega


noncomputable def EvD (w : World) (k : Nat) (env : Env) (Mu : List (Addr × PD)) (ρ : Str → Option PD) (e : Expr) (d : PD) : Prop :=
  ∀ (A : Around) (H : List Addr) (s : Shared), OkA A k → StE w env H Mu ρ s.heap → wpAny (MM w) A (eval e env) (fun v s' => Kp s s' ∧ Rd w (Fz (hid env Mu H) s'.heap) d v) NoE s
noncomputable def Tst (w : World) (k : Nat) (env : Env) (Mu : List (Addr × PD)) (ρ : Str → Option PD) (e : Expr) (b : Bool) : Prop :=
  ∀ (A : Around) (H : List Addr) (s : Shared), OkA A k → StE w env H Mu ρ s.heap → wpAny (MM w) A (isTrue e env (eval e env)) (fun c s' => Kp s s' ∧ c = b) NoE s
noncomputable def EvArgs (w : World) (k : Nat) (env : Env) (Mu : List (Addr × PD)) (ρ : Str → Option PD) (pos : Pos) (es : List Expr) (ds : List PD) : Prop :=
  ∀ (A : Around) (H : List Addr) (s : Shared), OkA A k → StE w env H Mu ρ s.heap → wpAny (MM w) A (spliced (backTo pos (starEach es env))) (fun vs s' => Kp s s' ∧ Rds w (Fz (hid env Mu H) s'.heap) ds vs) NoE s
/-- a call whose arguments are data alone -/
noncomputable def CallD (w : World) (k : Nat) (f : Value) (ds : List PD) (d : PD) : Prop :=
  ∀ (A : Around) (H : List Addr) (s : Shared) (vs : List Value), OkA A k → Gd w (Fz H s.heap) → (∀ q ∈ H, ∃ o, s.heap.get? q = some o) → Rds w (Fz H s.heap) ds vs →
    wpAny (MM w) A (call f vs) (fun v s' => Kp s s' ∧ Rd w (Fz H s'.heap) d v) NoE s
/-- an operation upon data -/
noncomputable def Op2 (w : World) (k : Nat) (t : Value → Value → Sem Value) (a b d : PD) : Prop :=
  ∀ (A : Around) (H : List Addr) (s : Shared) (u v : Value), OkA A k → (∀ q ∈ H, ∃ o, s.heap.get? q = some o) → Rd w (Fz H s.heap) a u → Rd w (Fz H s.heap) b v →
    wpAny (MM w) A (t u v) (fun x s' => Kp s s' ∧ Rd w (Fz H s'.heap) d x) NoE s

theorem wpn {w : World} {A : Around} {α : Type} {t : Sem α} {Q Q' : α → Shared → Prop} {E : Value → Shared → Prop} {s : Shared} (x : wpAny (MM w) A t Q NoE s) (k : ∀ a s', Q a s' → Q' a s') : wpAny (MM w) A t Q' E s :=
  wpAny_mono x k fun _ _ z => z.elim
theorem fz_up {M : List Addr} {s s' : Shared} (k : Kp s s') : Sub (Fz M s.heap) (Fz M s'.heap) := Fz_mono (.of k.heap)

section
variable {w : World} {k : Nat} {env : Env} {Mu : List (Addr × PD)} {ρ : Str → Option PD} {e : Expr} {d : PD}

/-- a name of the frame's -/
theorem ev_name {x : Str} {pos : Pos} (hv : ρ x = some d)
    (hk : (env.kindOf x == some .local || (env.kindOf x == some .cell || env.kindOf x == some .free) && !(x == ("__classdict__" : Str))) = true)
    (hd : (x == ("__debug__" : Str)) = false := by decide) : EvD w k env Mu ρ (.Name x pos) d := fun A H s hA S => by
  rcases Bool.or_eq_true_iff.mp hk with k | k
  · obtain ⟨m, n, y⟩ := S.ns
    have k' : env.kindOf x = some .local := by simpa using k
    obtain ⟨v, e, r⟩ := y x d hv k'
    exact wpAny_Name (wpAny_loadName_local S.ek k' n e ⟨Kp.rfl s, r⟩) hd
  · simp only [Bool.and_eq_true, Bool.or_eq_true, beq_iff_eq, Bool.not_eq_true'] at k
    obtain ⟨k1, k3⟩ := k
    obtain ⟨c, v, hc, C, r⟩ := S.cl x d hv k1
    rcases k1 with k1 | k1
    · exact wpAny_Name (wpAny_loadName_cell S.ek k1 hc C ⟨Kp.rfl s, r⟩) hd
    · exact wpAny_Name (wpAny_loadName_free S.ek k1 hc C ⟨Kp.rfl s, r⟩ k3) hd

/-- a name of the module's -/
theorem ev_glob {x : Str} {pos : Pos} {v : Value} (hn : nsIn (KK w) mainGlobals x = some (some v))
    (hk : env.kindOf x = some .globalImplicit) (hd : (x == ("__debug__" : Str)) = false := by decide) : EvD w k env Mu ρ (.Name x pos) (.raw v) := fun A H s hA S => by
  have G := S.gd.sub (Fz_sub _ s.heap)
  obtain ⟨mg, g⟩ := G.g
  exact Name_function_global S.ek hk (loadGlobal_global (S.eg ▸ g) (mg_of G.k g hn) ⟨Kp.rfl s, rfl⟩) hd
/-- a builtin's name -/
theorem ev_boot {x : Str} {pos : Pos} {v : Value} (hn : nsIn (KK w) mainGlobals x = some none) (hv : bootBuiltins x = some v)
    (hk : env.kindOf x = some .globalImplicit) (hx : x ≠ "__name__" := by decide) (hd : (x == ("__debug__" : Str)) = false := by decide) : EvD w k env Mu ρ (.Name x pos) (.raw v) := fun A H s hA S => by
  have G := S.gd.sub (Fz_sub _ s.heap)
  obtain ⟨mg, g⟩ := G.g
  obtain ⟨mb, b, y⟩ := G.b
  exact Name_function_global S.ek hk (loadGlobal_builtin (S.eg ▸ g) (mg_none_of G.k g hn) (S.eb ▸ b) ((y x hx).trans hv) ⟨Kp.rfl s, rfl⟩) hd

theorem ev_int {i : Int} {k' : Nat} {pos : Pos} : EvD w k env Mu ρ (.Constant (.int i) k' pos) (.int i) := fun A H s hA S => wpAny_Constant_int ⟨Kp.tok s _, _, rfl⟩
theorem ev_bool {b : Bool} {k' : Nat} {pos : Pos} : EvD w k env Mu ρ (.Constant (.bool b) k' pos) (.bool b) := fun A H s hA S => Constant_bool ⟨Kp.rfl s, rfl⟩
theorem ev_none {k' : Nat} {pos : Pos} : EvD w k env Mu ρ (.Constant .none k' pos) .none := fun A H s hA S => Constant_none ⟨Kp.rfl s, rfl⟩

/-! arguments and elements of displays -/
theorem args_nil {pos : Pos} : EvArgs w k env Mu ρ pos [] [] := fun A H s hA S => spliced_none ⟨Kp.rfl s, rfl⟩
theorem args_cons {pos : Pos} {es : List Expr} {ds : List PD} (a : EvD w k env Mu ρ e d) (b : EvArgs w k env Mu ρ pos es ds)
    (he : starEach (e :: es) env = (false, eval e env) :: starEach es env := by rfl) : EvArgs w k env Mu ρ pos (e :: es) (d :: ds) := fun A H s hA S =>
  spliced_more (wpn (a A H s hA S) fun v s₁ ⟨k₁, r₁⟩ => wpn (b A H s₁ hA (S.sub k₁.heap)) fun vs s₂ ⟨k₂, r₂⟩ => ⟨k₁.trans k₂, Rds.cons (r₁.sub (fz_up k₂)) r₂⟩) he

theorem ev_bin {l r : Expr} {op : Operator} {pos : Pos} {dl dr : PD} (a : EvD w k env Mu ρ l dl) (b : EvD w k env Mu ρ r dr) (f : Op2 w k (binaryOp op) dl dr d) : EvD w k env Mu ρ (.BinOp l op r pos) d := fun A H s hA S =>
  wpAny_BinOp (wpn (a A H s hA S) fun u s₁ ⟨k₁, r₁⟩ => wpn (b A H s₁ hA (S.sub k₁.heap)) fun v s₂ ⟨k₂, r₂⟩ =>
    wpn (f A _ s₂ u v hA (S.sub (Sub.trans k₁.heap k₂.heap)).alive (r₁.sub (fz_up k₂)) r₂) fun x s₃ ⟨k₃, r₃⟩ => ⟨(k₁.trans k₂).trans k₃, r₃⟩)
theorem ev_cmp {l r : Expr} {op : CmpOp} {pos : Pos} {dl dr : PD} (a : EvD w k env Mu ρ l dl) (b : EvD w k env Mu ρ r dr) (f : Op2 w k (compareOp op) dl dr d)
    (hm : behindInMarks op r = false := by with_unfolding_all rfl) : EvD w k env Mu ρ (.Compare l [op] [r] pos) d := fun A H s hA S =>
  wpAny_Compare1 (wpn (a A H s hA S) fun u s₁ ⟨k₁, r₁⟩ => wpn (b A H s₁ hA (S.sub k₁.heap)) fun v s₂ ⟨k₂, r₂⟩ =>
    wpn (f A _ s₂ u v hA (S.sub (Sub.trans k₁.heap k₂.heap)).alive (r₁.sub (fz_up k₂)) r₂) fun x s₃ ⟨k₃, r₃⟩ => ⟨(k₁.trans k₂).trans k₃, r₃⟩) hm
theorem tst_cmp {l r : Expr} {op : CmpOp} {pos : Pos} {dl dr : PD} {c : Bool} (a : EvD w k env Mu ρ l dl) (b : EvD w k env Mu ρ r dr) (f : Op2 w k (compareOp op) dl dr (.bool c))
    (hm : behindInMarks op r = false := by with_unfolding_all rfl) : Tst w k env Mu ρ (.Compare l [op] [r] pos) c := fun A H s hA S =>
  wpAny_isTrue_Compare1 (wpn (a A H s hA S) fun u s₁ ⟨k₁, r₁⟩ => wpn (b A H s₁ hA (S.sub k₁.heap)) fun v s₂ ⟨k₂, r₂⟩ =>
    wpn (f A _ s₂ u v hA (S.sub (Sub.trans k₁.heap k₂.heap)).alive (r₁.sub (fz_up k₂)) r₂) fun x s₃ ⟨k₃, r₃⟩ => by
      have e : x = .bool c := r₃
      subst e; exact wpAny_truthy_bool ⟨(k₁.trans k₂).trans k₃, rfl⟩) hm
theorem tst_not {x : Expr} {pos : Pos} {c : Bool} (a : Tst w k env Mu ρ x c) : Tst w k env Mu ρ (.UnaryOp .Not x pos) (!c) := fun A H s hA S =>
  isTrue_not (wpn (a A H s hA S) fun c' s₁ ⟨k₁, r₁⟩ => ⟨k₁, by rw [r₁]⟩)
theorem tst_bool {c : Bool} (a : EvD w k env Mu ρ e (.bool c)) (he : ∀ whole, isTrue e env whole = (do let v ← whole; standAt e.pos; holding [v] (truthy v)) := by intro _; rfl) : Tst w k env Mu ρ e c := fun A H s hA S =>
  isTrue_plain (wpn (a A H s hA S) fun v s₁ ⟨k₁, r₁⟩ => by
    have e : v = .bool c := r₁
    subst e; exact wpAny_truthy_bool ⟨k₁, rfl⟩) (he _)

section
variable {i j : Int}
theorem op_add : Op2 w k (binaryOp .Add) (.int i) (.int j) (.int (i + j)) := fun A H s u v hA al ⟨t, hu⟩ ⟨t', hv⟩ => by subst hu; subst hv; exact add_int ⟨Kp.tok s _, _, rfl⟩
theorem op_sub : Op2 w k (binaryOp .Sub) (.int i) (.int j) (.int (i - j)) := fun A H s u v hA al ⟨t, hu⟩ ⟨t', hv⟩ => by subst hu; subst hv; exact sub_int ⟨Kp.tok s _, _, rfl⟩
theorem op_mul (hm : IntMulOk i j) : Op2 w k (binaryOp .Mult) (.int i) (.int j) (.int (i * j)) := fun A H s u v hA al ⟨t, hu⟩ ⟨t', hv⟩ => by subst hu; subst hv; exact mul_int (hm := hm) ⟨Kp.tok s _, _, rfl⟩
theorem op_mod (hj : 0 < j) : Op2 w k (binaryOp .Mod) (.int i) (.int j) (.int (i % j)) := fun A H s u v hA al ⟨t, hu⟩ ⟨t', hv⟩ => by
  subst hu; subst hv
  exact mod_int' (by omega) ⟨Kp.tok s _, _, by rw [Int.fmod_eq_emod_of_nonneg _ (by omega)]⟩
theorem op_div (hj : 0 < j) (hs : j < 1073741824) : Op2 w k (binaryOp .FloorDiv) (.int i) (.int j) (.int (i / j)) := fun A H s u v hA al ⟨t, hu⟩ ⟨t', hv⟩ => by
  subst hu; subst hv
  exact floordiv_int (hp := .inl (PyProof.noPylong_small (by omega))) (by omega) ⟨Kp.tok s _, _, by rw [Int.fdiv_eq_ediv_of_nonneg _ (by omega)]⟩
theorem op_pow (hj : 0 ≤ j) (hb : j ≤ 1000000) (hi : i.natAbs < 2 ^ 64) : Op2 w k (binaryOp .Pow) (.int i) (.int j) (.int (i ^ j.toNat)) := fun A H s u v hA al ⟨t, hu⟩ ⟨t', hv⟩ => by
  subst hu; subst hv
  exact pow_int_small hj hb hi ⟨Kp.tok s _, _, rfl⟩
theorem ev_neg (a : EvD w k env Mu ρ e (.int i)) {pos : Pos} : EvD w k env Mu ρ (.UnaryOp .USub e pos) (.int (-i)) := fun A H s hA S =>
  UnaryOp_ (wpn (a A H s hA S) fun u s₁ ⟨k₁, t, hu⟩ => by subst hu; exact neg_int ⟨k₁.trans (Kp.tok s₁ _), _, rfl⟩)
theorem op_lt : Op2 w k (compareOp .Lt) (.int i) (.int j) (.bool (decide (i < j))) := fun A H s u v hA al ⟨t, hu⟩ ⟨t', hv⟩ => by subst hu; subst hv; exact lt_int ⟨Kp.rfl s, rfl⟩
theorem op_le : Op2 w k (compareOp .LtE) (.int i) (.int j) (.bool (decide (i ≤ j))) := fun A H s u v hA al ⟨t, hu⟩ ⟨t', hv⟩ => by subst hu; subst hv; exact PySem.P.le_int ⟨Kp.rfl s, rfl⟩
theorem op_gt : Op2 w k (compareOp .Gt) (.int i) (.int j) (.bool (decide (i > j))) := fun A H s u v hA al ⟨t, hu⟩ ⟨t', hv⟩ => by subst hu; subst hv; exact PySem.P.gt_int ⟨Kp.rfl s, rfl⟩
theorem op_eq : Op2 w k (compareOp .Eq) (.int i) (.int j) (.bool (i == j)) := fun A H s u v hA al ⟨t, hu⟩ ⟨t', hv⟩ => by subst hu; subst hv; exact eq_int ⟨Kp.rfl s, rfl⟩
theorem op_ne : Op2 w k (compareOp .NotEq) (.int i) (.int j) (.bool (i != j)) := fun A H s u v hA al ⟨t, hu⟩ ⟨t', hv⟩ => by subst hu; subst hv; exact PySem.P.ne_int ⟨Kp.rfl s, rfl⟩
end
end
end Mine
namespace Mine
open PySem PySem.W PyProof.Rows PySem.Calls

section
variable {w : World} {k : Nat} {env : Env} {Mu : List (Addr × PD)} {ρ : Str → Option PD} {e : Expr} {d : PD}

/-- a made list or tuple is read as data -/
theorem rd_newList {M : List Addr} {h' : Heap} {vs : List Value} {ds : List PD} {a : Addr} (n : a ∉ M) (e : h'.PlainList a vs.toArray) (r : Rds w (Fz M h') ds vs) : Rd w (Fz M h') (.list ds) (.ref a) := by
  obtain ⟨q, e⟩ := e
  exact ⟨a, vs, rfl, ⟨q, Fz_get n e⟩, r⟩
theorem rd_newTup {M : List Addr} {h' : Heap} {vs : List Value} {ds : List PD} {a : Addr} (n : a ∉ M) (e : IsTup h' a vs.toArray) (r : Rds w (Fz M h') ds vs) : Rd w (Fz M h') (.tup ds) (.ref a) := by
  obtain ⟨o, e, q⟩ := e
  exact ⟨a, vs, rfl, ⟨o, Fz_get n e, q⟩, r⟩
theorem notin_of {H : List Addr} {h : Heap} (al : ∀ q ∈ H, ∃ o, h.get? q = some o) {b : Addr} (n : h.get? b = none) : b ∉ H := fun m => by
  obtain ⟨o, e⟩ := al b m; rw [e] at n; cases n

theorem ev_tuple {es : List Expr} {ds : List PD} {j : Nat} {pos : Pos} (a : EvArgs w k env Mu ρ pos es ds) (hz : ds.length ≤ 1000 := by decide) : EvD w k env Mu ρ (.Tuple es j pos) (.tup ds) := fun A H s hA S =>
  Tuple_ (wpn (a A H s hA S) fun vs s₁ ⟨k₁, r₁⟩ => by
    have hl := r₁.length
    refine wpAny_newObj_type ⟨k₁.trans (Kp.to (sub_push _ _)), ?_⟩ (by show vs.toArray.size ≤ sizeLine; rw [List.size_toArray, sizeLine_eq]; omega)
    refine rd_newTup ((S.sub k₁.heap).fresh none_of_size) ⟨_, Heap.get?_push_size _ rfl, rfl, _, rfl⟩ (r₁.sub (Fz_mono (.of (sub_push _ _)))))
theorem ev_list {es : List Expr} {ds : List PD} {pos : Pos} (a : EvArgs w k env Mu ρ pos es ds) (hz : ds.length ≤ 1000 := by decide) : EvD w k env Mu ρ (.List es pos) (.list ds) := fun A H s hA S =>
  List_ (wpn (a A H s hA S) fun vs s₁ ⟨k₁, r₁⟩ => by
    have hl := r₁.length
    refine wpAny_newObj_type ⟨k₁.trans (Kp.to (sub_push _ _)), ?_⟩ (by show vs.toArray.size ≤ sizeLine; rw [List.size_toArray, sizeLine_eq]; omega)
    refine rd_newList ((S.sub k₁.heap).fresh none_of_size) ⟨_, Heap.get?_push_size _ rfl⟩ (r₁.sub (Fz_mono (.of (sub_push _ _)))))

/-- the data of a list, be it frozen or still to change -/
noncomputable def Lk (Mu : List (Addr × PD)) (d : PD) (ds : List PD) : Prop := d = .list ds ∨ ∃ D, d = .raw (.ref D) ∧ (D, PD.list ds) ∈ Mu
theorem Lk.fro {ds : List PD} : Lk Mu (.list ds) ds := .inl rfl
theorem Lk.mut {D : Addr} {ds : List PD} (m : (D, PD.list ds) ∈ Mu) : Lk Mu (.raw (.ref D)) ds := .inr ⟨D, rfl, m⟩
theorem Lk.get {H : List Addr} {h : Heap} {ds : List PD} {v : Value} (L : Lk Mu d ds) (S : StE w env H Mu ρ h) (r : Rd w (Fz (hid env Mu H) h) d v) : ∃ a vs, v = .ref a ∧ h.PlainList a (List.toArray vs) ∧ Rds w (Fz (hid env Mu H) h) ds vs := by
  rcases L with rfl | ⟨D, rfl, m⟩
  · obtain ⟨a, vs, e, p, r⟩ := r
    exact ⟨a, vs, e, p.at fun o q => Fz_of q, r⟩
  · obtain ⟨vs, p, r'⟩ := S.mu _ m
    exact ⟨D, vs, r, p, r'⟩

theorem seqIndex_nonneg {k : Int} {n : Nat} (h0 : 0 ≤ k) (h1 : k < n) : seqIndex? k n = some k.toNat := by
  unfold seqIndex?
  have e : ¬ k < 0 := by omega
  simp only [e, if_false]
  have e2 : ¬ (k < 0 ∨ k ≥ (n : Int)) := by omega
  simp <;> omega

theorem ev_item {l i : Expr} {pos : Pos} {dl : PD} {ds : List PD} {x : Int} (a : EvD w k env Mu ρ l dl) (L : Lk Mu dl ds) (b : EvD w k env Mu ρ i (.int x)) (h0 : 0 ≤ x) (hx : ds[x.toNat]? = some d) (hz : x < 2 ^ 62)
    (hs : ∀ o v, subscripted i false o v = operate [o, v] (getItem o v) := by intro _ _; with_unfolding_all rfl) : EvD w k env Mu ρ (.Subscript l i pos) d := fun A H s hA S =>
  Subscript_ (wpn (a A H s hA S) fun u s₁ ⟨k₁, r₁⟩ => wpn (b A H s₁ hA (S.sub k₁.heap)) fun v s₂ ⟨k₂, t, r₂⟩ => by
    subst r₂
    obtain ⟨q, vs, rfl, p, r⟩ := L.get (S.sub (Sub.trans k₁.heap k₂.heap)) (r₁.sub (fz_up k₂))
    obtain ⟨y, e, ry⟩ := r.get hx
    exact tail_any p.isList.typeIs slot_list_getitem.lookup (wpAny_getItem_list p.isList h0 (by omega) (by simpa using e) ⟨k₁.trans k₂, ry⟩) (hs _ _))

theorem ev_itemT {l i : Expr} {pos : Pos} {ds : List PD} {x : Int} (a : EvD w k env Mu ρ l (.tup ds)) (b : EvD w k env Mu ρ i (.int x)) (h0 : 0 ≤ x) (hx : ds[x.toNat]? = some d) (hz : x < 2 ^ 62)
    (hs : ∀ o v, subscripted i false o v = operate [o, v] (getItem o v) := by intro _ _; with_unfolding_all rfl) : EvD w k env Mu ρ (.Subscript l i pos) d := fun A H s hA S =>
  Subscript_ (wpn (a A H s hA S) fun u s₁ ⟨k₁, r₁⟩ => wpn (b A H s₁ hA (S.sub k₁.heap)) fun v s₂ ⟨k₂, t, r₂⟩ => by
    subst r₂
    obtain ⟨q, vs, rfl, p, r⟩ := r₁.sub (fz_up (M := hid env Mu H) k₂)
    obtain ⟨y, e, ry⟩ := r.get hx
    have hl := r.length
    have hlt : x.toNat < vs.length := by
      rcases Nat.lt_or_ge x.toNat vs.length with h | h
      · exact h
      · rw [List.getElem?_eq_none h] at e; cases e
    exact item_tupleT (isTup_sub (Fz_sub _ _) p) (by omega) (by omega) (seqIndex_nonneg h0 (by omega)) e ⟨k₁.trans k₂, ry⟩ (hs _ _))

/-! slices -/
noncomputable def pickD (ds : List PD) (lo hi st : Option Int) : List PD :=
  (sliceRange (sliceBounds lo hi st ds.length).1 (sliceBounds lo hi st ds.length).2.1 (sliceBounds lo hi st ds.length).2.2).filterMap (ds[·]?)
theorem Rds.places {h : Heap} : ∀ {vs : List Value} {ds : List PD}, Rds w h ds vs → ∀ js : List Nat, Rds w h (js.filterMap (ds[·]?)) (js.filterMap (vs[·]?))
  | _, _, _, [] => Rds.nil
  | vs, ds, r, j :: js => by
    have ih := Rds.places r js
    cases hn : ds[j]? with
    | some n =>
      obtain ⟨t, hv, q⟩ := r.get hn
      simp only [List.filterMap_cons, hn, hv]
      exact Rds.cons q ih
    | none =>
      have hv : vs[j]? = none := by
        rw [List.getElem?_eq_none_iff] at hn ⊢
        rw [r.length]; exact hn
      simp only [List.filterMap_cons, hn, hv]
      exact ih
theorem Rds.pick {h : Heap} {vs : List Value} {ds : List PD} (r : Rds w h ds vs) (lo hi st : Option Int) : ∃ us, slicePick vs.toArray lo hi st = List.toArray us ∧ Rds w h (pickD ds lo hi st) us := by
  refine ⟨_, rfl, ?_⟩
  simp only [pickD, ← r.length]
  simpa [slicePick] using r.places (sliceRange (sliceBounds lo hi st vs.length).1 (sliceBounds lo hi st vs.length).2.1 (sliceBounds lo hi st vs.length).2.2)
/-- a slice's part -/
noncomputable def EvP (w : World) (k : Nat) (env : Env) (Mu : List (Addr × PD)) (ρ : Str → Option PD) (x : Option Expr) (i : Option Int) : Prop :=
  ∀ (A : Around) (H : List Addr) (s : Shared), OkA A k → StE w env H Mu ρ s.heap → wpAny (MM w) A (evalPart x env) (fun v s' => Kp s s' ∧ IsPart v i) NoE s
theorem evp_none : EvP w k env Mu ρ none none := fun A H s hA S => wpAny_pure ⟨Kp.rfl s, .none⟩
theorem evp_some {i : Int} (a : EvD w k env Mu ρ e (.int i)) : EvP w k env Mu ρ (some e) (some i) := fun A H s hA S =>
  wpn (a A H s hA S) fun v s₁ ⟨k₁, t, r₁⟩ => ⟨k₁, by subst r₁; exact .int i t⟩
theorem ev_slice {l : Expr} {lo hi st : Option Expr} {p pos : Pos} {dl : PD} {ds : List PD} {x y z : Option Int} (a : EvD w k env Mu ρ l dl) (L : Lk Mu dl ds)
    (b₁ : EvP w k env Mu ρ lo x) (b₂ : EvP w k env Mu ρ hi y) (b₃ : EvP w k env Mu ρ st z) (hz : z ≠ some 0) (hsz : ds.length ≤ 1000)
    (hs : ∀ o v, ∃ ops, subscripted (.Slice lo hi st p) false o v = operate ops (getItem o v) := by intro _ _; exact ⟨_, by with_unfolding_all rfl⟩) :
    EvD w k env Mu ρ (.Subscript l (.Slice lo hi st p) pos) (.list (pickD ds x y z)) := fun A H s hA S =>
  Subscript_ (wpn (a A H s hA S) fun u s₁ ⟨k₁, r₁⟩ => wpAny_Slice (wpn (b₁ A H s₁ hA (S.sub k₁.heap)) fun v₁ s₂ ⟨k₂, p₁⟩ =>
    wpn (b₂ A H s₂ hA ((S.sub k₁.heap).sub k₂.heap)) fun v₂ s₃ ⟨k₃, p₂⟩ => wpn (b₃ A H s₃ hA (((S.sub k₁.heap).sub k₂.heap).sub k₃.heap)) fun v₃ s₄ ⟨k₄, p₃⟩ => by
      have kk : Kp s₁ s₄ := (k₂.trans k₃).trans k₄
      have S₄ := S.sub (Sub.trans k₁.heap kk.heap)
      have up := sub_push s₄.heap { cls := .type "slice", data := .fields #[v₁, v₂, v₃] }
      obtain ⟨q, vs, rfl, pl, r⟩ := L.get S₄ (r₁.sub (fz_up kk))
      obtain ⟨us, eu, ru⟩ := r.pick x y z
      obtain ⟨ops, ho⟩ := hs (.ref q) (.ref s₄.heap.objs.size)
      have hl := r.length
      refine tail_any (s := { s₄ with heap := s₄.heap.push { cls := .type "slice", data := .fields #[v₁, v₂, v₃] } }) (pl.isList.push _).typeIs list_getitem_lookup ?_ ho
      refine wpAny_getItem_list_slice (pl.isList.push _) (Heap.IsSliceOf.new ..) p₁ p₂ p₃ hz ⟨(k₁.trans kk).trans (Kp.to (Sub.trans up (sub_push _ _))), ?_⟩ (by rw [List.size_toArray, sizeLine_eq]; omega)
      refine rd_newList ((S₄.sub up).fresh none_of_size) ⟨0, ?_⟩ (ru.sub (Fz_mono (.of (Sub.trans up (sub_push _ _)))))
      rw [eu]
      exact Heap.get?_push_size _ rfl))

/-! lists joined, repeated; membership -/
theorem op_concat {ds es : List PD} (hz : ds.length + es.length ≤ 1000) : Op2 w k (binaryOp .Add) (.list ds) (.list es) (.list (ds ++ es)) := fun A H s u v hA al ⟨a, vs, ea, pa, ra⟩ ⟨b, us, eb, pb, rb⟩ => by
  subst ea; subst eb
  obtain ⟨n, ha⟩ := pa
  obtain ⟨m, hb⟩ := pb
  have ha := Fz_of ha
  have hb := Fz_of hb
  have la := ra.length
  have lb := rb.length
  refine concat_meets ⟨_, ha, rfl⟩ ⟨_, hb, rfl⟩ noFill_list_add seq_list_add PySem.F.slot_list_add PySem.F.entry_list_add (PySem.F.args_list_add_2 _ _) (list_addW a b vs.toArray us.toArray n m none none #[] #[] (by rw [List.size_toArray, List.size_toArray, sizeLine_eq]; omega)) ⟨ha, hb, ?_⟩
  refine ⟨Kp.to (sub_push _ _), ?_⟩
  rw [show vs.toArray ++ us.toArray = (vs ++ us).toArray by simp]
  exact rd_newList (notin_of al none_of_size) ⟨0, Heap.get?_push_size _ rfl⟩ ((ra.append rb).sub (Fz_mono (.of (sub_push _ _))))

theorem mem_ints_beq {ns : List Int} {i : Int} : ns.any (· == i) = decide (i ∈ ns) := by
  rw [Bool.eq_iff_iff, List.any_eq_true, decide_eq_true_iff]
  exact ⟨fun ⟨x, m, e⟩ => by rw [← eq_of_beq e]; exact m, fun m => ⟨i, m, beq_self_eq_true i⟩⟩
theorem tst_in {l r : Expr} {pos : Pos} {dr : PD} {i : Int} {ns : List Int} (a : EvD w k env Mu ρ l (.int i)) (b : EvD w k env Mu ρ r dr) (L : Lk Mu dr (ns.map .int))
    (hm : behindInMarks .In r = false := by with_unfolding_all rfl) : Tst w k env Mu ρ (.Compare l [.In] [r] pos) (decide (i ∈ ns)) := fun A H s hA S =>
  wpAny_isTrue_Compare1 (wpn (a A H s hA S) fun u s₁ ⟨k₁, t, r₁⟩ => wpn (b A H s₁ hA (S.sub k₁.heap)) fun v s₂ ⟨k₂, r₂⟩ => by
    subst r₁
    obtain ⟨q, vs, rfl, p, r⟩ := L.get ((S.sub k₁.heap).sub k₂.heap) r₂
    exact in_list_ints p.isList r.ints (wpAny_truthy_bool ⟨k₁.trans k₂, mem_ints_beq⟩)) hm
theorem tst_notin {l r : Expr} {pos : Pos} {dr : PD} {i : Int} {ns : List Int} (a : EvD w k env Mu ρ l (.int i)) (b : EvD w k env Mu ρ r dr) (L : Lk Mu dr (ns.map .int))
    (hm : behindInMarks .NotIn r = false := by with_unfolding_all rfl) : Tst w k env Mu ρ (.Compare l [.NotIn] [r] pos) (!decide (i ∈ ns)) := fun A H s hA S =>
  wpAny_isTrue_Compare1 (wpn (a A H s hA S) fun u s₁ ⟨k₁, t, r₁⟩ => wpn (b A H s₁ hA (S.sub k₁.heap)) fun v s₂ ⟨k₂, r₂⟩ => by
    subst r₁
    obtain ⟨q, vs, rfl, p, r⟩ := L.get ((S.sub k₁.heap).sub k₂.heap) r₂
    exact notin_list_ints p.isList r.ints (wpAny_truthy_bool ⟨k₁.trans k₂, by rw [mem_ints_beq]⟩)) hm
theorem tst_isNone {l r : Expr} {pos : Pos} (a : EvD w k env Mu ρ l .none) (b : EvD w k env Mu ρ r .none)
    (hm : behindInMarks .Is r = false := by with_unfolding_all rfl) : Tst w k env Mu ρ (.Compare l [.Is] [r] pos) true :=
  tst_cmp a b (fun A H s u v hA al hu hv => by
    have e : u = .none := hu
    have e' : v = .none := hv
    subst e; subst e'
    exact wpAny_is_self rfl ⟨Kp.rfl s, rfl⟩) hm

/-! and, or -/
theorem tst_and {x y : Expr} {pos : Pos} {b c : Bool} (hx : Tst w k env Mu ρ x b) (hy : b = true → Tst w k env Mu ρ y c) : Tst w k env Mu ρ (.BoolOp .And [x, y] pos) (b && c) := fun A H s hA S =>
  isTrue_and (wpn (hx A H s hA S) fun b' s₁ ⟨k₁, e⟩ => by
    subst e
    cases b' with
    | false => simp only [Bool.false_eq_true, if_false]; exact ⟨k₁, rfl⟩
    | true =>
      simp only [if_true]
      refine isTrue_and (wpn (hy rfl A H s₁ hA (S.sub k₁.heap)) fun c' s₂ ⟨k₂, e⟩ => ?_)
      subst e
      cases c' with
      | false => simp only [Bool.false_eq_true, if_false]; exact ⟨k₁.trans k₂, rfl⟩
      | true => simp only [if_true]; exact isTrue_and_nil ⟨k₁.trans k₂, rfl⟩)
theorem tst_or {x : Expr} {rest : List Expr} {pos : Pos} {b c : Bool} (hx : Tst w k env Mu ρ x b) (hy : b = false → Tst w k env Mu ρ (.BoolOp .Or rest pos) c) : Tst w k env Mu ρ (.BoolOp .Or (x :: rest) pos) (b || c) := fun A H s hA S =>
  isTrue_or (wpn (hx A H s hA S) fun b' s₁ ⟨k₁, e⟩ => by
    subst e
    cases b' with
    | true => simp only [if_true]; exact ⟨k₁, rfl⟩
    | false =>
      simp only [Bool.false_eq_true, if_false]
      exact wpn (hy rfl A H s₁ hA (S.sub k₁.heap)) fun c' s₂ ⟨k₂, e⟩ => ⟨k₁.trans k₂, by rw [e]; rfl⟩)
theorem tst_or_nil {pos : Pos} : Tst w k env Mu ρ (.BoolOp .Or [] pos) false := fun A H s hA S => isTrue_or_nil ⟨Kp.rfl s, rfl⟩
end
end Mine
namespace Mine
open PySem PySem.W PyProof.Rows PySem.Calls

noncomputable abbrev upd (ρ : Str → Option PD) (x : Str) (d : PD) : Str → Option PD := fun y => if y = x then some d else ρ y
/-- what stood when the frame was entered stands; the frame's own is younger -/
structure Ba (h0 : Heap) (env : Env) (Mu : List (Addr × PD)) (h : Heap) : Prop where
  sb : Sub h0 h
  no : ∀ q ∈ own env Mu, h0.get? q = none
theorem Ba.sub {h0 h h' : Heap} {env : Env} {Mu : List (Addr × PD)} (B : Ba h0 env Mu h) (s : Sub h h') : Ba h0 env Mu h' := ⟨Sub.trans B.sb s, B.no⟩
theorem Ba.kb {h0 h h' : Heap} {env : Env} {Mu : List (Addr × PD)} (B : Ba h0 env Mu h) (s : KB (own env Mu) h h') : Ba h0 env Mu h' :=
  ⟨fun b o e => s b o (fun m => by rw [B.no b m] at e; cases e) (B.sb b o e), B.no⟩

noncomputable abbrev Grew (s s' : Shared) : Prop := ∃ h t, s' = { s with heap := h, toks := t }
theorem Grew.refl (s : Shared) : Grew s s := ⟨_, _, rfl⟩
theorem Grew.trans {a b c : Shared} (x : Grew a b) (y : Grew b c) : Grew a c := by
  obtain ⟨h, t, rfl⟩ := x
  obtain ⟨h', t', rfl⟩ := y
  exact ⟨h', t', rfl⟩
theorem Kp.grew {s s' : Shared} (x : Kp s s') : Grew s s' := x.ex

section
variable {w : World} {A : Around} {env : Env} {H : List Addr} {Mu : List (Addr × PD)} {ρ : Str → Option PD} {s : Shared} {h0 : Heap} {d : PD}

theorem cell_of_lookup : ∀ {l : List (Str × Addr)} {x : Str} {c : Addr}, l.lookup x = some c → (x, c) ∈ l
  | [], _, _, e => by simp at e
  | (y, b) :: r, x, c, e => by
    rw [List.lookup_cons] at e
    by_cases hx : (x == y) = true
    · rw [hx] at e; cases e; rw [eq_of_beq hx]; exact .head _
    · simp only [Bool.not_eq_true] at hx; rw [hx] at e; exact .tail _ (cell_of_lookup e)
theorem ns_not_cell {h : Heap} {a : Addr} {m : Str → Option Value} {v : Option Value} (x : h.Ns a m) (y : h.IsCell a v) : False := by
  obtain ⟨o, es, ep, e, dd, _⟩ := x
  obtain ⟨o', e', dd'⟩ := y
  rw [e] at e'; cases e'; rw [dd] at dd'; cases dd'
theorem mut_not_cell {w : World} {M : List Addr} {h : Heap} {a : Addr} {v : Option Value} : ∀ {d : PD}, MutAt w M h a d → h.IsCell a v → False
  | .list _, ⟨vs, ⟨n, e⟩, _⟩, ⟨o, e', dd⟩ => by rw [e] at e'; cases e'; cases dd
  | .dict _, ⟨kvs, _, x, _⟩, ⟨o, e', dd⟩ => by
    obtain ⟨o', e, y⟩ := Heap.dictOf_iff.mp x
    rw [e] at e'; cases e'
    obtain ⟨es, ep, y1, y2, _⟩ := y
    rw [y2] at dd; cases dd
  | .none, x, _ => x.elim
  | .bool _, x, _ => x.elim
  | .int _, x, _ => x.elim
  | .tup _, x, _ => x.elim
  | .bytes _, x, _ => x.elim
  | .raw _, x, _ => x.elim
  | .ab _ _, x, _ => x.elim
  | .barr _, x, ⟨o, e', dd⟩ => by
    have x : h.get? a = some _ := x
    rw [x] at e'; cases e'; cases dd

/-- what storing names turns -/
noncomputable abbrev KBs (env : Env) (names : List Str) (h h' : Heap) : Prop := KB (env.locals :: env.cells.map (·.2)) h h' ∧ ((∀ x ∈ names, env.kindOf x = some .local) → KB [env.locals] h h')
theorem wp_store {x : Str} {v : Value} (S : StE w env H Mu ρ s.heap) (hk : (env.kindOf x == some .local || (env.kindOf x == some .cell && (env.cells.lookup x).isSome)) = true)
    (r : Rd w (Fz (hid env Mu H) s.heap) d v) :
    wpAny (MM w) A (storeName env x v) (fun _ s' => Grew s s' ∧ StE w env H Mu (upd ρ x d) s'.heap ∧ KBs env [x] s.heap s'.heap) NoE s := by
  rcases Bool.or_eq_true_iff.mp hk with k | k
  · have k' : env.kindOf x = some .local := by simpa using k
    obtain ⟨m, n, y⟩ := S.ns
    refine wpAny_storeName_local k' n (fun h' n' hs => ?_) (by rw [S.ek]; rfl)
    have kb : KB (hid env Mu H) s.heap h' := KB.same hs (.head _)
    have z := Fz_mono kb
    refine ⟨⟨_, _, rfl⟩, ?_, KB.same hs (.head _), fun _ => KB.same hs (.head _)⟩
    refine { gd := S.gd.sub z, ns := ⟨_, n', fun y' d' e k2 => ?_⟩, cl := fun y' d' e k2 => ?_, ce := fun p hp => ?_, cd := S.cd, mu := fun p hp => ?_, md := S.md, lm := S.lm, hl := fun q m => ?_, eg := S.eg, eb := S.eb, ek := S.ek }
    · by_cases hx : y' = x
      · subst hx
        simp only [upd, if_true] at e ⊢
        cases e
        exact ⟨v, rfl, r.sub z⟩
      · simp only [upd, if_neg hx] at e ⊢
        obtain ⟨v', a, b⟩ := y y' d' e k2
        exact ⟨v', a, b.sub z⟩
    · have hx : y' ≠ x := by rintro rfl; rw [k'] at k2; rcases k2 with k2 | k2 <;> cases k2
      simp only [upd, if_neg hx] at e
      obtain ⟨c, v', a, b, q⟩ := S.cl y' d' e k2
      have hc : c ≠ env.locals := by rintro rfl; exact ns_not_cell n b
      obtain ⟨o, b1, b2⟩ := b
      exact ⟨c, v', a, ⟨o, (hs.2 c hc).trans b1, b2⟩, q.sub z⟩
    · obtain ⟨v', o, b1, b2⟩ := S.ce p hp
      have hc : p.2 ≠ env.locals := fun e => ns_not_cell n (v := v') (by rw [← e]; exact ⟨o, b1, b2⟩)
      exact ⟨v', o, (hs.2 _ hc).trans b1, b2⟩
    · exact (S.mu p hp).keep (fun o e => (hs.2 _ fun q => S.lm (q ▸ List.mem_map_of_mem hp)).trans e) z
    · by_cases hq : q = env.locals
      · obtain ⟨o, _, _, e, _⟩ := n'; exact ⟨o, hq ▸ e⟩
      · obtain ⟨o, e⟩ := S.hl q m; exact ⟨o, (hs.2 q hq).trans e⟩
  · simp only [Bool.and_eq_true, beq_iff_eq] at k
    obtain ⟨k1, k2⟩ := k
    obtain ⟨c, hc⟩ := Option.isSome_iff_exists.mp k2
    have hm := cell_of_lookup hc
    obtain ⟨v₀, C⟩ := S.ce _ hm
    refine wpAny_storeName_cell S.ek k1 hc C fun h' n' hs => ?_
    have hcm : c ∈ env.cells.map (·.2) := List.mem_map.mpr ⟨_, hm, rfl⟩
    have kb : KB (hid env Mu H) s.heap h' := KB.same hs (List.mem_append_left _ (.tail _ (List.mem_append_left _ hcm)))
    have z := Fz_mono kb
    obtain ⟨m, n, y⟩ := S.ns
    have hL : env.locals ≠ c := fun e => ns_not_cell n (e ▸ C)
    refine ⟨⟨_, _, rfl⟩, ?_, KB.same hs (.tail _ hcm), fun q => by have := q x (.head _); rw [k1] at this; cases this⟩
    refine { gd := S.gd.sub z, ns := ⟨m, n.sameBut hs hL, fun y' d' e kl => ?_⟩, cl := fun y' d' e k2 => ?_, ce := fun p hp => ?_, cd := S.cd, mu := fun p hp => ?_, md := S.md, lm := S.lm, hl := fun q m => ?_, eg := S.eg, eb := S.eb, ek := S.ek }
    · have hx : y' ≠ x := by rintro rfl; rw [k1] at kl; cases kl
      simp only [upd, if_neg hx] at e
      obtain ⟨v', a, b⟩ := y y' d' e kl
      exact ⟨v', a, b.sub z⟩
    · by_cases hx : y' = x
      · subst hx
        simp only [upd, if_true] at e
        cases e
        exact ⟨c, v, hc, n', r.sub z⟩
      · simp only [upd, if_neg hx] at e
        obtain ⟨c', v', a, b, q⟩ := S.cl y' d' e k2
        have hc' : c' ≠ c := by rintro rfl; exact hx (S.cd _ _ _ a hc)
        obtain ⟨o, b1, b2⟩ := b
        exact ⟨c', v', a, ⟨o, (hs.2 c' hc').trans b1, b2⟩, q.sub z⟩
    · by_cases hp' : p.2 = c
      · exact ⟨some v, hp' ▸ n'⟩
      · obtain ⟨v', o, b1, b2⟩ := S.ce p hp
        exact ⟨v', o, (hs.2 _ hp').trans b1, b2⟩
    · exact (S.mu p hp).keep (fun o e => (hs.2 _ fun q => mut_not_cell (q ▸ S.mu p hp) C).trans e) z
    · by_cases hq : q = c
      · obtain ⟨o, e, _⟩ := n'; exact ⟨o, hq ▸ e⟩
      · obtain ⟨o, e⟩ := S.hl q m; exact ⟨o, (hs.2 q hq).trans e⟩
theorem Ba.store {h h' : Heap} (B : Ba h0 env Mu h) (s : KB (env.locals :: env.cells.map (·.2)) h h') : Ba h0 env Mu h' :=
  B.kb (s.mono fun q m => by
    rcases List.mem_cons.mp m with rfl | m
    · exact .head _
    · exact .tail _ (List.mem_append_left _ m))
end

noncomputable abbrev Nx := List (Addr × PD) → (Str → Option PD) → Prop
/-- of the hidden ones those that stood when the frame was entered -/
noncomputable def Hin (h0 : Heap) (H : List Addr) : List Addr := H.filter fun q => (h0.get? q).isSome
theorem Hin_sub {h0 : Heap} {H : List Addr} : ∀ q ∈ Hin h0 H, q ∈ H := fun _ m => (List.mem_filter.mp m).1
theorem Hin_mono {h0 h1 : Heap} {H H' : List Addr} (s : Sub h0 h1) (m : ∀ q ∈ H, q ∈ H') : ∀ q ∈ Hin h0 H, q ∈ Hin h1 H' := fun q x => by
  obtain ⟨a, b⟩ := List.mem_filter.mp x
  obtain ⟨o, e⟩ := Option.isSome_iff_exists.mp b
  exact List.mem_filter.mpr ⟨m q a, by rw [s q o e]; rfl⟩
theorem Hin_no {h0 : Heap} {H : List Addr} {q : Addr} (n : h0.get? q = none) : q ∉ Hin h0 H := fun x => by
  have := (List.mem_filter.mp x).2
  rw [n] at this; cases this
theorem Hin_all {h0 : Heap} {H : List Addr} (al : ∀ q ∈ H, ∃ o, h0.get? q = some o) : ∀ q ∈ H, q ∈ Hin h0 H := fun q m => List.mem_filter.mpr ⟨m, by obtain ⟨o, e⟩ := al q m; rw [e]; rfl⟩
/-- how a block ends -/
noncomputable def Fin' (w : World) (env : Env) (H : List Addr) (h0 : Heap) (N : Nx) (R : PD → Prop) (f : Flow) (h : Heap) : Prop :=
  match f with
  | .next => ∃ Mu' ρ', N Mu' ρ' ∧ StE w env H Mu' ρ' h ∧ Ba h0 env Mu' h
  | .ret v => ∃ d, R d ∧ Rd w (Fz (Hin h0 H) h) d v ∧ Sub h0 h
  | _ => False
noncomputable def Ex (w : World) (k : Nat) (env : Env) (Mu : List (Addr × PD)) (ρ : Str → Option PD) (ss : List Stmt) (N : Nx) (R : PD → Prop) : Prop :=
  ∀ (A : Around) (H : List Addr) (h0 : Heap) (s : Shared), OkA A k → StE w env H Mu ρ s.heap → Ba h0 env Mu s.heap →
    wpAny (MM w) A (execs ss env) (fun f s' => Grew s s' ∧ Fin' w env H h0 N R f s'.heap) NoE s
/-- one statement -/
noncomputable def Ex1 (w : World) (k : Nat) (env : Env) (Mu : List (Addr × PD)) (ρ : Str → Option PD) (st : Stmt) (N : Nx) (R : PD → Prop) : Prop :=
  ∀ (A : Around) (H : List Addr) (h0 : Heap) (s : Shared), OkA A k → StE w env H Mu ρ s.heap → Ba h0 env Mu s.heap →
    wpAny (MM w) A (exec st env) (fun f s' => Grew s s' ∧ Fin' w env H h0 N R f s'.heap) NoE s
noncomputable abbrev only (Mu : List (Addr × PD)) (ρ : Str → Option PD) : Nx := fun Mu' ρ' => Mu' = Mu ∧ ρ' = ρ

section
variable {w : World} {k : Nat} {env : Env} {Mu : List (Addr × PD)} {ρ : Str → Option PD} {e : Expr} {d : PD} {N N' : Nx} {R : PD → Prop} {st : Stmt} {rest : List Stmt}

theorem ex_nil (h : N Mu ρ) : Ex w k env Mu ρ [] N R := fun A H h0 s hA S B => wpAny_execs_nil ⟨Grew.refl s, Mu, ρ, h, S, B⟩
theorem ex_cons (a : Ex1 w k env Mu ρ st N' R) (b : ∀ Mu' ρ', N' Mu' ρ' → Ex w k env Mu' ρ' rest N R) : Ex w k env Mu ρ (st :: rest) N R := fun A H h0 s hA S B =>
  wpAny_execs_cons (wpn (a A H h0 s hA S B) fun f s₁ ⟨g, x⟩ => by
    cases f with
    | next =>
      obtain ⟨Mu', ρ', n, S', B'⟩ := x
      exact wpn (b Mu' ρ' n A H h0 s₁ hA S' B') fun f s₂ ⟨g₂, x₂⟩ => ⟨g.trans g₂, x₂⟩
    | ret v => exact ⟨g, x⟩
    | brk => exact x.elim
    | cont => exact x.elim)
theorem ex_one (a : Ex1 w k env Mu ρ st (only Mu ρ) R) (b : Ex w k env Mu ρ rest N R) : Ex w k env Mu ρ (st :: rest) N R := ex_cons a fun Mu' ρ' ⟨e, e'⟩ => by subst e; subst e'; exact b
theorem Ex.imp (a : Ex w k env Mu ρ rest N' R) (n : ∀ Mu' ρ', N' Mu' ρ' → N Mu' ρ') : Ex w k env Mu ρ rest N R := fun A H h0 s hA S B =>
  wpn (a A H h0 s hA S B) fun f s₁ ⟨g, x⟩ => ⟨g, by
    cases f with
    | next => obtain ⟨Mu', ρ', y, z⟩ := x; exact ⟨Mu', ρ', n _ _ y, z⟩
    | ret v => exact x
    | brk => exact x.elim
    | cont => exact x.elim⟩

/-- a name is given a value -/
theorem ex1_assign {x : Str} {xp pos : Pos} (a : EvD w k env Mu ρ e d) (hk : ∀ L cs, ({ env with locals := L, cells := cs } : Env).kindOf x = env.kindOf x := by intro _ _; rfl)
    (hx : (env.kindOf x == some .local || (env.kindOf x == some .cell && (env.cells.lookup x).isSome)) = true)
    (hs : swapsWith e (some (.Name x xp)) pos.line env = pure false := by rfl) : Ex1 w k env Mu ρ (.Assign [.Name x xp] e pos) (only Mu (upd ρ x d)) R := fun A H h0 s hA S B =>
  wpAny_Assign_Name (wpn (a A H s hA S) fun v s₁ ⟨k₁, r⟩ => wpn (wp_store (S.sub k₁.heap) hx r) fun _ s₂ ⟨g, S₂, kb⟩ =>
    ⟨k₁.grew.trans g, Mu, _, ⟨rfl, rfl⟩, S₂, (B.sub k₁.heap).store kb.1⟩) hs
theorem ex_assign {x : Str} {xp pos : Pos} (a : EvD w k env Mu ρ e d) (b : Ex w k env Mu (upd ρ x d) rest N R)
    (hx : (env.kindOf x == some .local || (env.kindOf x == some .cell && (env.cells.lookup x).isSome)) = true)
    (hs : swapsWith e (some (.Name x xp)) pos.line env = pure false := by rfl) : Ex w k env Mu ρ (.Assign [.Name x xp] e pos :: rest) N R :=
  ex_cons (ex1_assign a (by intro _ _; rfl) hx hs) fun Mu' ρ' ⟨e, e'⟩ => by subst e; subst e'; exact b

theorem ex_if {c : Bool} {t : Expr} {th el : List Stmt} {pos : Pos} (a : Tst w k env Mu ρ t c) (b : c = true → Ex w k env Mu ρ th N' R) (b' : c = false → Ex w k env Mu ρ el N' R)
    (n : ∀ Mu' ρ', N' Mu' ρ' → Ex w k env Mu' ρ' rest N R) : Ex w k env Mu ρ (.If t th el pos :: rest) N R :=
  ex_cons (fun A H h0 s hA S B => wpAny_If (wpn (a A H s hA S) fun c' s₁ ⟨k₁, e⟩ => by
    subst e
    cases c' with
    | true => simp only [if_true]; exact wpn (b rfl A H h0 s₁ hA (S.sub k₁.heap) (B.sub k₁.heap)) fun f s₂ ⟨g, x⟩ => ⟨k₁.grew.trans g, x⟩
    | false => simp only [Bool.false_eq_true, if_false]; exact wpn (b' rfl A H h0 s₁ hA (S.sub k₁.heap) (B.sub k₁.heap)) fun f s₂ ⟨g, x⟩ => ⟨k₁.grew.trans g, x⟩)) n
theorem ex_ifF {t : Expr} {th : List Stmt} {pos : Pos} (a : Tst w k env Mu ρ t false) (n : Ex w k env Mu ρ rest N R) : Ex w k env Mu ρ (.If t th [] pos :: rest) N R :=
  ex_if (N' := only Mu ρ) a (fun e => by cases e) (fun _ => ex_nil ⟨rfl, rfl⟩) fun Mu' ρ' ⟨e, e'⟩ => by subst e; subst e'; exact n
theorem ex_ifT {t : Expr} {th el : List Stmt} {pos : Pos} (a : Tst w k env Mu ρ t true) (b : Ex w k env Mu ρ th N' R) (n : ∀ Mu' ρ', N' Mu' ρ' → Ex w k env Mu' ρ' rest N R) : Ex w k env Mu ρ (.If t th el pos :: rest) N R :=
  ex_if a (fun _ => b) (fun e => by cases e) n

theorem Fz_own {H : List Addr} {h : Heap} : Sub (Fz (hid env Mu H) h) (Fz H h) := Fz_less fun q m => List.mem_append_right _ m
theorem ex_return {pos : Pos} (a : EvD w k env Mu ρ e d) (r : R d) : Ex w k env Mu ρ (.Return (some e) pos :: rest) N R :=
  ex_cons (N' := fun _ _ => False) (fun A H h0 s hA S B => wpAny_Return_some (wpn (a A H s hA S) fun v s₁ ⟨k₁, q⟩ => ⟨k₁.grew, d, r, q.sub (Sub.trans Fz_own (Fz_less Hin_sub)), (B.sub k₁.heap).sb⟩)) fun _ _ x => x.elim

/-! calls -/
noncomputable def Callee (w : World) (f : Value) : Prop := (∃ id, f = .builtin id) ∨ (∃ T, f = .type T) ∨ keepIn (KK w) f = true
theorem evalArgs_all {M : Model} {A : Around} {E : Value → Shared → Prop} {s : Shared} {f : Value} {args : List (Bool × Sem Value)} {Q : Args → Shared → Prop} (hp : args.any (·.1) = false)
    (h : wpAny M A (spliced args) (fun vs s' => Q ⟨vs, []⟩ s') E s) : wpAny M A (evalArgs f true args []) Q E s := by
  cases args with
  | nil =>
    unfold evalArgs
    show wpAny M A (spliced [] >>= _) Q E s
    refine wpAny_bind (wpAny_mono h (fun vs s' h' => wpAny_bind (wpAny_pure ?_)) fun _ _ x => x)
    refine wpAny_holding ?_
    exact wpAny_bind (wpAny_pure (wpAny_bind (wpAny_pure (wpAny_pure h'))))
  | cons x rest =>
    obtain ⟨b, x⟩ := x
    have hb : b = false := by simp only [List.any_cons, Bool.or_eq_false_iff] at hp; exact hp.1
    subst hb
    exact evalArgs_plain h
theorem call_any {A : Around} {s : Shared} {pos : Pos} {f : Value} {first : List Value} {args : List (Bool × Sem Value)} {Q : Value → Shared → Prop} (hc : Callee w f) (hp : args.any (·.1) = false)
    (h : wpAny (MM w) A (spliced args) (fun vs s' => (KK w).In s'.heap ∧ wpAny (MM w) A (call f (first ++ vs)) Q NoE s') NoE s) : wpAny (MM w) A (callWith pos f first args []) Q NoE s := by
  rcases hc with ⟨id, rfl⟩ | ⟨T, rfl⟩ | hk
  · exact callWith_builtin hp (evalArgs_all hp (wpn h fun vs s₁ x => x.2))
  · exact PySem.callWith_type hp (evalArgs_all hp (wpn h fun vs s₁ x => x.2))
  · exact callWith_of (by simp [hp]) (keeps_K hk) (evalArgs_all hp h)

theorem ev_call {x : Str} {xp pos : Pos} {args : List Expr} {f : Value} {ds : List PD} (hf : EvD w k env Mu ρ (.Name x xp) (.raw f)) (hc : Callee w f) (ha : EvArgs w k env Mu ρ pos args ds) (c : CallD w k f ds d)
    (hp : (backTo pos (starEach args env)).any (·.1) = false := by rfl) : EvD w k env Mu ρ (.Call (.Name x xp) args [] pos) d := fun A H s hA S =>
  wpAny_Call_Name_kw (wpn (hf A H s hA S) fun f' s₁ ⟨k₁, e⟩ => by
    have e : f' = f := e
    subst e
    show wpAny (MM w) A (callWith pos f' [] (backTo pos (starEach args env)) []) _ _ _
    refine call_any hc hp (wpn (ha A H s₁ hA (S.sub k₁.heap)) fun vs s₂ ⟨k₂, r⟩ => ?_)
    have S₂ := (S.sub k₁.heap).sub k₂.heap
    exact ⟨(S₂.gd.sub (Fz_sub _ _)).k, wpn (c A _ s₂ vs hA S₂.gd S₂.alive r) fun v s₃ ⟨k₃, q⟩ => ⟨(k₁.trans k₂).trans k₃, q⟩⟩)

/-- a made object that may still change, seen as data -/
noncomputable def Thaw (Mu : List (Addr × PD)) : List PD → List PD → Prop
  | [], [] => True
  | d :: ds, e :: es => (d = e ∨ ∃ D l, d = .raw (.ref D) ∧ e = .list l ∧ (D, PD.list l) ∈ Mu) ∧ Thaw Mu ds es
  | _, _ => False
theorem Thaw.get {H : List Addr} {h : Heap} : ∀ {ds es : List PD} {vs : List Value}, Thaw Mu ds es → StE w env H Mu ρ h → Rds w (Fz (hid env Mu H) h) ds vs → Rds w (Fz [] h) es vs
  | [], [], _, _, _, r => r
  | [], _ :: _, _, t, _, _ => t.elim
  | _ :: _, [], _, t, _, _ => t.elim
  | d :: ds, e :: es, vs, ⟨t, t'⟩, S, r => by
    obtain ⟨v, vs', rfl, a, b⟩ := r.cons_inv
    refine Rds.cons ?_ (Thaw.get t' S b)
    rcases t with rfl | ⟨D, l, rfl, rfl, m⟩
    · exact a.sub (Fz_sub _ _)
    · obtain ⟨us, p, r'⟩ := S.mu _ m
      have a : v = .ref D := a
      exact ⟨D, us, a, p, r'.sub (Fz_sub _ _)⟩
/-- a call that hands back a number of what may still change -/
theorem ev_callI {x : Str} {xp pos : Pos} {args : List Expr} {f : Value} {ds es : List PD} {i : Int} (hf : EvD w k env Mu ρ (.Name x xp) (.raw f)) (hc : Callee w f) (ha : EvArgs w k env Mu ρ pos args ds) (ht : Thaw Mu ds es) (c : CallD w k f es (.int i))
    (hp : (backTo pos (starEach args env)).any (·.1) = false := by rfl) : EvD w k env Mu ρ (.Call (.Name x xp) args [] pos) (.int i) := fun A H s hA S =>
  wpAny_Call_Name_kw (wpn (hf A H s hA S) fun f' s₁ ⟨k₁, e⟩ => by
    have e : f' = f := e
    subst e
    show wpAny (MM w) A (callWith pos f' [] (backTo pos (starEach args env)) []) _ _ _
    refine call_any hc hp (wpn (ha A H s₁ hA (S.sub k₁.heap)) fun vs s₂ ⟨k₂, r⟩ => ?_)
    have S₂ := (S.sub k₁.heap).sub k₂.heap
    exact ⟨(S₂.gd.sub (Fz_sub _ _)).k, wpn (c A [] s₂ vs hA (S₂.gd.sub (Fz_sub _ _)) (fun q m => nomatch m) (ht.get S₂ r)) fun v s₃ ⟨k₃, q⟩ => ⟨(k₁.trans k₂).trans k₃, q⟩⟩)
end
end Mine
namespace Mine
open PySem PySem.W PyProof.Rows PySem.Calls

section
variable {w : World}
theorem bindL_look (kd : Str → Option NameKind) (x : Str) (hx : kd x = some .local) : ∀ (bs : List (Str × Value)) (m : Str → Option Value), bindL kd bs m x = (bs.reverse.lookup x).or (m x)
  | [], m => by simp [bindL]
  | (n, v) :: r, m => by
    unfold bindL
    rw [bindL_look kd x hx r]
    simp only [List.reverse_cons, List.lookup_append, List.lookup_cons, List.lookup_nil, Option.or_assoc]
    congr 1
    by_cases h : x = n
    · subst h; simp [hx]
    · have h' : (x == n) = false := beq_eq_false_iff_ne.mpr h
      simp only [h']
      split <;> simp [h]
theorem bindC_look (kd : Str → Option NameKind) (x : Str) (hx : kd x ≠ some .local) : ∀ (bs : List (Str × Value)) (m : Str → Option Value), bindC kd bs m x = (bs.reverse.lookup x).or (m x)
  | [], m => by simp [bindC]
  | (n, v) :: r, m => by
    unfold bindC
    rw [bindC_look kd x hx r]
    simp only [List.reverse_cons, List.lookup_append, List.lookup_cons, List.lookup_nil, Option.or_assoc]
    congr 1
    by_cases h : x = n
    · subst h; simp [hx]
    · have h' : (x == n) = false := beq_eq_false_iff_ne.mpr h
      simp only [h']
      split <;> simp [h]

theorem zip_look {h : Heap} : ∀ (names : List Str) (es : List PD) (us : List Value) (x : Str) (d : PD), Rds w h es us → (names.zip es).lookup x = some d → ∃ v, (names.zip us).lookup x = some v ∧ Rd w h d v
  | [], _, _, x, d, _, e => by simp at e
  | n :: ns, [], us, x, d, _, e => by simp at e
  | n :: ns, e₁ :: es, us, x, d, r, e => by
    obtain ⟨v, us', rfl, a, b⟩ := r.cons_inv
    simp only [List.zip_cons_cons, List.lookup_cons] at e ⊢
    by_cases h : (x == n) = true
    · simp only [h] at e ⊢; cases e; exact ⟨v, rfl, a⟩
    · simp only [Bool.not_eq_true] at h
      simp only [h] at e ⊢
      exact zip_look ns es us' x d b e
theorem look_rev {α : Type} : ∀ (l : List (Str × α)) (x : Str), (l.map (·.1)).Nodup → l.reverse.lookup x = l.lookup x
  | [], _, _ => rfl
  | (n, v) :: r, x, h => by
    obtain ⟨h1, h2⟩ := List.nodup_cons.mp h
    rw [List.reverse_cons, List.lookup_append, look_rev r x h2, List.lookup_cons, List.lookup_cons, List.lookup_nil]
    by_cases hx : (x == n) = true
    · have e := eq_of_beq hx
      subst e
      have hn : r.lookup x = none := by
        cases e : r.lookup x with
        | none => rfl
        | some v' => exact absurd (List.mem_map.mpr ⟨_, mem_of_lookup e, rfl⟩) h1
      simp [hn]
    · simp only [Bool.not_eq_true] at hx
      simp [hx]
theorem zip_fst {α : Type} : ∀ (ns : List Str) (es : List α), ns.length = es.length → (ns.zip es).map (·.1) = ns
  | [], _, _ => by simp
  | n :: ns, [], h => by simp at h
  | n :: ns, e :: es, h => by simp at h; simp [zip_fst ns es h]

theorem enter_fn {A : Around} {k : Nat} {H : List Addr} {s : Shared} {R : Result → Shared → Prop} {f : Addr} {oc : Value} {od : Option Addr} {osl : Array (Option Value)} {name qual : Str} {params : Arguments} {body : List Stmt} {scope : Scope} {dV kV doc pm cdv ct : Value} {an : Option Addr}
    {names : List Str} {es : List PD} {vs us : List Value} {Mu : List (Addr × PD)} {N : Nx} {R' : PD → Prop}
    (hA : OkA A (k + 1)) (ho : (KK w).lookup f = some ⟨oc, od, .func (fnOf name qual params body scope dV kV doc pm an cdv ct), osl⟩) (hcd : codeIn (KK w) cdv qual = true)
    (G : Gd w (Fz (Mu.map (·.1) ++ H) s.heap)) (hl : ∀ q ∈ H, ∃ o, s.heap.get? q = some o) (hmu : ∀ p ∈ Mu, MutAt w (Mu.map (·.1) ++ H) s.heap p.1 p.2) (hmd : (Mu.map (·.1)).Nodup)
    (r : Rds w (Fz (Mu.map (·.1) ++ H) s.heap) es us) (hb : BindsTo s (fnOf name qual params body scope dV kV doc pm an cdv ct) ⟨vs, []⟩ (names.zip us))
    (hkind : (names.all fun y => scope.names.lookup y == some .local || (scope.names.lookup y == some .cell && ((cellsFrom 0 scope.names []).lookup y).isSome)) = true)
    (hnd : names.Nodup) (hlen : names.length = es.length) (hcn : ((cellsFrom 0 scope.names []).map (·.1)).Nodup)
    (bd : ∀ L, Ex w k (envOfC qual scope L f cdv) Mu (fun y => (names.zip es).lookup y) body N R')
    (fin : ∀ fl s', Grew s s' → Fin' w (envOfC qual scope s.heap.objs.size f cdv) H (Fz (Mu.map (·.1)) s.heap) N R' fl s'.heap → R (.ok (.ret (match fl with | .ret v => v | _ => .none))) s')
    (hco : scope.isCoroutine = false) (hgen : scope.isGenerator = false) (hk : scope.kind = .function) : codeAny (MM w) A (.call (.ref f) ⟨vs, []⟩) R s := by
  have G' := G.sub (Fz_sub _ s.heap)
  have hnames : ∀ n, ((cellsFrom n scope.names []).map (·.1)).Nodup := fun n => by rw [cellsFrom_names scope.names n 0 [] [] rfl]; exact hcn
  have hlook : ∀ n x, ((cellsFrom 0 scope.names []).lookup x).isSome = true → ((cellsFrom n scope.names []).lookup x).isSome = true := fun n x e => by
    obtain ⟨c, hc⟩ := Option.isSome_iff_exists.mp e
    have m : x ∈ (cellsFrom 0 scope.names []).map (·.1) := List.mem_map.mpr ⟨_, mem_of_lookup hc, rfl⟩
    rw [cellsFrom_names scope.names 0 n [] [] rfl] at m
    obtain ⟨p, hp, rfl⟩ := List.mem_map.mp m
    rw [lookup_of_mem_nodup (hnames n) hp]; rfl
  refine codeAny_call_function hA.room (G'.k _ _ ho) rfl hco hgen rfl (codeRec_of G'.k hcd) (hb _ _ _ _ ?_)
  refine wpAny_newFunctionEnv_cells hk (fun x hx => ?_) fun env' he s' x => ?_
  · have hm : x.1 ∈ names := (List.of_mem_zip (show (x.1, x.2) ∈ names.zip us from hx)).1
    have := List.all_eq_true.mp hkind _ hm
    rcases Bool.or_eq_true_iff.mp this with q | q
    · exact .inl (by simpa using q)
    · simp only [Bool.and_eq_true, beq_iff_eq] at q
      exact .inr ⟨q.1, hlook _ _ q.2⟩
  · subst he
    have hlu : names.length = us.length := hlen.trans r.length.symm
    have nd1 : ((names.zip us).map (·.1)).Nodup := by rw [zip_fst names us hlu]; exact hnd
    have kp := x.toInCall.keep
    refine ⟨G'.nl.keeps kp, codeAny_func ?_⟩
    have hnew : ∀ q ∈ hid (envOfC qual scope s.heap.objs.size f cdv) Mu H, q ∉ Mu.map (·.1) ++ H → s.heap.get? q = none := fun q m n => by
      rcases List.mem_append.mp m with m | m
      · rcases List.mem_cons.mp m with rfl | m
        · exact none_of_size
        · rcases List.mem_append.mp m with m | m
          · obtain ⟨p, hp, rfl⟩ := List.mem_map.mp m
            exact none_of_le (Nat.le_of_lt (x.above p.1 p.2 hp))
          · exact absurd (List.mem_append_left _ m) n
      · exact absurd (List.mem_append_right _ m) n
    have z : Sub (Fz (Mu.map (·.1) ++ H) s.heap) (Fz (hid (envOfC qual scope s.heap.objs.size f cdv) Mu H) s'.heap) := Fz_more' (.of kp) hnew
    have ha : ∀ p ∈ Mu, ∃ o, s.heap.get? p.1 = some o := fun p hp => (hmu p hp).alive
    have S : StE w (envOfC qual scope s.heap.objs.size f cdv) H Mu (fun y => (names.zip es).lookup y) s'.heap :=
      { gd := G.sub z
        ns := ⟨_, x.toInCall.ns, fun y d e kd => by
          obtain ⟨v, q, b⟩ := zip_look names es us y d r e
          refine ⟨v, ?_, b.sub z⟩
          have := bindL_look (envOfC qual scope s.heap.objs.size f cdv).kindOf y kd (names.zip us) (fun _ => none)
          rw [look_rev _ _ nd1, q] at this
          exact this⟩
        cl := fun y d e kd => by
          obtain ⟨v, q, b⟩ := zip_look names es us y d r e
          have hm : y ∈ names := (List.of_mem_zip (mem_of_lookup e)).1
          have hk' := List.all_eq_true.mp hkind _ hm
          have kd' : scope.names.lookup y = some .cell ∨ scope.names.lookup y = some .free := kd
          rcases Bool.or_eq_true_iff.mp hk' with q' | q'
          · have q' : scope.names.lookup y = some .local := by simpa using q'
            rw [q'] at kd'; rcases kd' with z | z <;> cases z
          · simp only [Bool.and_eq_true, beq_iff_eq] at q'
            obtain ⟨c, hc⟩ := Option.isSome_iff_exists.mp (hlook (s.heap.objs.size + 1) y q'.2)
            have C := x.cell y c hc
            have kn : (envOfC qual scope s.heap.objs.size f cdv).kindOf y ≠ some .local := by
              show scope.names.lookup y ≠ _; rw [q'.1]; intro z; cases z
            have := bindC_look (envOfC qual scope s.heap.objs.size f cdv).kindOf y kn (names.zip us) (fun _ => none)
            rw [look_rev _ _ nd1, q] at this
            exact ⟨c, v, hc, by rw [← show bindC _ _ _ y = some v from this]; exact C, b.sub z⟩
        ce := fun p hp => ⟨_, x.cell p.1 p.2 (lookup_of_mem_nodup (hnames _) hp)⟩
        cd := fun a b c h1 h2 => name_of_addr x.apart (mem_of_lookup h1) (mem_of_lookup h2)
        mu := fun p hp => (hmu p hp).keep (fun o e => kp _ _ e) z
        md := hmd
        lm := fun m => by
          obtain ⟨p, hp, e⟩ := List.mem_map.mp m
          obtain ⟨o, q⟩ := ha p hp
          rw [e, show (envOfC qual scope s.heap.objs.size f cdv).locals = s.heap.objs.size from rfl, none_of_size] at q
          cases q
        hl := fun q m => by obtain ⟨o, e⟩ := hl q m; exact ⟨o, kp _ _ e⟩
        eg := rfl, eb := rfl, ek := hk }
    have B : Ba (Fz (Mu.map (·.1)) s.heap) (envOfC qual scope s.heap.objs.size f cdv) Mu s'.heap :=
      ⟨Sub.trans (Fz_sub _ _) kp, fun q m => by
        by_cases hq : q ∈ Mu.map (·.1)
        · exact Fz_none hq
        · have : s.heap.get? q = none := by
            rcases List.mem_cons.mp m with rfl | m
            · exact none_of_size
            · rcases List.mem_append.mp m with m | m
              · obtain ⟨p, hp, rfl⟩ := List.mem_map.mp m
                exact none_of_le (Nat.le_of_lt (x.above p.1 p.2 hp))
              · exact absurd m hq
          cases e : (Fz (Mu.map (·.1)) s.heap).get? q with
          | none => rfl
          | some o => rw [Fz_of e] at this; cases this⟩
    have g0 : Grew s s' := x.toInCall.same
    exact wpn (bd _ _ H _ s' (hA.deeper _) S B) fun fl s₂ ⟨g, y⟩ => fin fl s₂ (g0.trans g) y

/-- a def that changes nothing of what stood -/
theorem call_fn {k : Nat} {f : Addr} {oc : Value} {od : Option Addr} {osl : Array (Option Value)} {name qual : Str} {params : Arguments} {body : List Stmt} {scope : Scope} {dV kV doc pm cdv ct : Value} {an : Option Addr}
    {names : List Str} {ds es : List PD} {d : PD}
    (ho : (KK w).lookup f = some ⟨oc, od, .func (fnOf name qual params body scope dV kV doc pm an cdv ct), osl⟩) (hcd : codeIn (KK w) cdv qual = true)
    (hb : ∀ (g : Heap) (s : Shared) (vs : List Value), (KK w).In s.heap → Rds w g ds vs → ∃ us, Rds w g es us ∧ BindsTo s (fnOf name qual params body scope dV kV doc pm an cdv ct) ⟨vs, []⟩ (names.zip us))
    (bd : ∀ L, Ex w k (envOfC qual scope L f cdv) [] (fun y => (names.zip es).lookup y) body (fun _ _ => False) (fun r => r = d))
    (hkind : (names.all fun y => scope.names.lookup y == some .local || (scope.names.lookup y == some .cell && ((cellsFrom 0 scope.names []).lookup y).isSome)) = true)
    (hnd : names.Nodup) (hlen : names.length = es.length) (hcn : ((cellsFrom 0 scope.names []).map (·.1)).Nodup)
    (hco : scope.isCoroutine = false) (hgen : scope.isGenerator = false) (hk : scope.kind = .function) : CallD w (k + 1) (.ref f) ds d := fun A H s vs hA G al r => by
  obtain ⟨us, ru, bt⟩ := hb _ s vs (G.sub (Fz_sub _ _)).k r
  refine wpAny_call (enter_fn (Mu := []) (N := fun _ _ => False) (R' := fun r => r = d) hA ho hcd G al (fun p hp => nomatch hp) List.nodup_nil ru bt hkind hnd hlen hcn bd (fun fl s' g x => ?_) hco hgen hk)
  cases fl with
  | next => obtain ⟨_, _, x, _⟩ := x; exact x.elim
  | brk => exact x.elim
  | cont => exact x.elim
  | ret v =>
    obtain ⟨d', e, q, sb⟩ := x
    subst e
    obtain ⟨h, t, rfl⟩ := g
    exact ⟨Kp.to sb, q.sub (Fz_less (Hin_all fun q m => let ⟨o, e⟩ := al q m; ⟨o, Fz_get (List.not_mem_nil) e⟩))⟩
end
end Mine
namespace Mine
open PySem PySem.W PyProof.Rows PySem.Calls

noncomputable abbrev updL (ρ : Str → Option PD) (bs : List (Str × PD)) : Str → Option PD := bs.foldl (fun ρ p => upd ρ p.1 p.2) ρ

section
variable {w : World} {k : Nat} {env : Env} {H H' : List Addr} {Mu : List (Addr × PD)} {ρ : Str → Option PD} {h h' : Heap}
theorem StE.move (S : StE w env H Mu ρ h) (z : Sub (Fz (hid env Mu H) h) (Fz (hid env Mu H') h')) (ko : ∀ q ∈ own env Mu, ∀ o, h.get? q = some o → h'.get? q = some o) (hl : ∀ q ∈ H', ∃ o, h'.get? q = some o) : StE w env H' Mu ρ h' where
  gd := S.gd.sub z
  ns := by
    obtain ⟨m, ⟨o, es, ep, e, r⟩, y⟩ := S.ns
    exact ⟨m, ⟨o, es, ep, ko _ (.head _) o e, r⟩, fun x d e k => let ⟨v, a, b⟩ := y x d e k; ⟨v, a, b.sub z⟩⟩
  cl := fun x d e k => by
    obtain ⟨c, v, a, ⟨o, b, b'⟩, r⟩ := S.cl x d e k
    exact ⟨c, v, a, ⟨o, ko _ (.tail _ (List.mem_append_left _ (List.mem_map.mpr ⟨_, mem_of_lookup a, rfl⟩))) o b, b'⟩, r.sub z⟩
  ce := fun p hp => by
    obtain ⟨v, o, b, b'⟩ := S.ce p hp
    exact ⟨v, o, ko _ (.tail _ (List.mem_append_left _ (List.mem_map_of_mem hp))) o b, b'⟩
  cd := S.cd
  mu := fun p hp => (S.mu p hp).keep (fun o e => ko _ (.tail _ (List.mem_append_right _ (List.mem_map_of_mem hp))) o e) z
  md := S.md
  lm := S.lm
  hl := hl
  eg := S.eg
  eb := S.eb
  ek := S.ek
theorem StE.own_alive (S : StE w env H Mu ρ h) : ∀ q ∈ own env Mu, ∃ o, h.get? q = some o := fun q m => S.alive q (List.mem_append_left _ m)
theorem StE.drop {X : List Addr} (S : StE w env (X ++ H) Mu ρ h) : StE w env H Mu ρ h :=
  S.move (Fz_less fun q m => by
    rcases List.mem_append.mp m with m | m
    · exact List.mem_append_left _ m
    · exact List.mem_append_right _ (List.mem_append_right _ m)) (fun _ _ _ e => e) fun q m => S.hl q (List.mem_append_right _ m)

/-- an iterator at hand, and what its turns bind -/
inductive ItrPost (w : World) (A : Around) (env : Env) (Mu : List (Addr × PD)) (H : List Addr) (target : Expr) (n : Nat) (bs : Nat → List (Str × PD)) (s s₂ : Shared) (it : Value) : Prop
  | mk (kp : Kp s s₂) (I : Addr) (fp wr : List Addr) (P Md : Nat → Value → Heap → Prop) (St : Nat → Heap → Prop) (e : it = .ref I) (W : KTurns PR w A target I fp wr n P Md St) (st : St 0 s₂.heap)
      (hw : ∀ b ∈ wr, s.heap.get? b = none) (hal : ∀ i g, St i g → ∀ b ∈ fp, ∃ o, g.get? b = some o) (hfp : ∀ b ∈ fp, b ∉ hid env Mu H) (self : ∀ (s' : Shared) (Q : Value → Shared → Prop), St 0 s'.heap → Q (.ref I) s' → wpAny (MM w) A (pyIter (.ref I)) Q NoE s')
      (asg : ∀ (env' : Env) (A' : Around) (i : Nat) (v : Value) (s' : Shared) (H' : List Addr) (Mu' : List (Addr × PD)) (ρ' : Str → Option PD), A'.handled = none → i < n → P i v s'.heap → StE w env' H' Mu' ρ' s'.heap → Sub (Fz (wr ++ hid env Mu H) s₂.heap) (Fz (hid env' Mu' H') s'.heap) →
        (∀ p ∈ bs i, (env'.kindOf p.1 == some .local || (env'.kindOf p.1 == some .cell && (env'.cells.lookup p.1).isSome)) = true) →
        wpAny (MM w) A' (assign target env' v) (fun _ s'' => Grew s' s'' ∧ StE w env' H' Mu' (updL ρ' (bs i)) s''.heap ∧ KBs env' ((bs i).map (·.1)) s'.heap s''.heap) NoE s') : ItrPost w A env Mu H target n bs s s₂ it
/-- what a loop's head runs over: n turns, the names that each turn binds and to what -/
noncomputable def Itr (w : World) (k : Nat) (env : Env) (Mu : List (Addr × PD)) (ρ : Str → Option PD) (target iter : Expr) (n : Nat) (bs : Nat → List (Str × PD)) : Prop :=
  ∀ (A : Around) (H : List Addr) (s : Shared), OkA A k → StE w env H Mu ρ s.heap →
    wpAny (MM w) A (eval iter env) (fun xv s₁ => wpAny (MM w) A (pyIter xv) (fun it s₂ => ItrPost w A env Mu H target n bs s s₂ it) NoE s₁) NoE s

/-- the loop proper -/
theorem for_core {A : Around} {H : List Addr} {s s₂ : Shared} {h0 : Heap} {target : Expr} {body : List Stmt} {n : Nat} {bs : Nat → List (Str × PD)} {I : Addr} {fp wr : List Addr} {P Md : Nat → Value → Heap → Prop} {Sti : Nat → Heap → Prop} {J : Nat → Nx} {N : Nx} {R : PD → Prop}
    (hA : OkA A k) (S : StE w env H Mu ρ s.heap) (B : Ba h0 env Mu s.heap) (kp : Kp s s₂) (W : KTurns PR w A target I fp wr n P Md Sti) (st : Sti 0 s₂.heap) (hw : ∀ b ∈ wr, s.heap.get? b = none) (hal : ∀ i g, Sti i g → ∀ b ∈ fp, ∃ o, g.get? b = some o)
    (hfp : ∀ b ∈ fp, b ∉ hid env Mu H)
    (asg : ∀ (i : Nat) (v : Value) (s' : Shared) (H' : List Addr) (Mu' : List (Addr × PD)) (ρ' : Str → Option PD), i < n → P i v s'.heap → StE w env H' Mu' ρ' s'.heap → Sub (Fz (wr ++ hid env Mu H) s₂.heap) (Fz (hid env Mu' H') s'.heap) →
        wpAny (MM w) A (assign target env v) (fun _ s'' => Grew s' s'' ∧ StE w env H' Mu' (updL ρ' (bs i)) s''.heap ∧ KBs env ((bs i).map (·.1)) s'.heap s''.heap) NoE s')
    (h0' : J 0 Mu ρ) (turn : ∀ i Mu' ρ', i < n → J i Mu' ρ' → Ex w k env Mu' (updL ρ' (bs i)) body (J (i + 1)) R) (hN : ∀ Mu' ρ', J n Mu' ρ' → N Mu' ρ') :
    codeAny (MM w) A (.forLoop target (.ref I) body [] env) (fun r s' => match r with | .ok f => Grew s s' ∧ Fin' w env H h0 N R f s'.heap | .error _ => False) s₂ := by
  refine codeAny_forLoop_any (fun q s' => ∃ i Mu' ρ', Grew s s' ∧ J i Mu' ρ' ∧ StE w env (wr ++ H) Mu' ρ' s'.heap ∧ Ba h0 env Mu' s'.heap ∧ Sub (Fz (wr ++ hid env Mu H) s₂.heap) (Fz (hid env Mu' (wr ++ H)) s'.heap) ∧ Sti i s'.heap ∧ (∀ b ∈ fp, b ∉ own env Mu') ∧ i ≤ n ∧ q = n + 1 - i) ?_ (n + 1) ⟨0, Mu, ρ, kp.grew, h0', ?_, B.sub kp.heap, ?_, st, fun b m z => hfp b m (List.mem_append_left _ z), Nat.zero_le _, rfl⟩
  · rintro q s' ⟨i, Mu', ρ', g, j, S', B', z, sti, off, hi, rfl⟩
    have wo : ∀ b ∈ wr, b ∉ own env Mu' := fun b m => off b (W.sub b m)
    have w0 : ∀ b ∈ wr, h0.get? b = none := fun b m => by
      cases e : h0.get? b with
      | none => rfl
      | some o => have := B.sb b o e; rw [hw b m] at this; cases this
    by_cases hlt : i < n
    · refine wpn (W.item i s' (fun r s₁ => ∃ v, r = some v ∧ Grew s' s₁ ∧ Md i v s₁.heap ∧ KB wr s'.heap s₁.heap) NoE hlt sti fun v h₁ tk md kb => ⟨v, rfl, ⟨_, _, rfl⟩, md, fun b o n' e => kb b o n' e⟩) fun r s₁ ⟨v, e, g₁, md, kb₁⟩ => ?_
      subst e
      dsimp only
      refine wpn (W.go i v s₁ (fun _ s₂ => Grew s₁ s₂ ∧ P i v s₂.heap ∧ Sti (i + 1) s₂.heap ∧ KB wr s₁.heap s₂.heap) NoE md fun h₂ p₂ st₂ kb => ⟨⟨_, _, rfl⟩, p₂, st₂, fun b o n' e => kb b o n' e⟩) fun _ s₃ ⟨g₂, p₂, st₂, kb₂⟩ => ?_
      have kb := kb₁.trans kb₂
      have S₃ : StE w env (wr ++ H) Mu' ρ' s₃.heap := S'.move (Fz_mono (kb.mono fun q m => List.mem_append_right _ (List.mem_append_left _ m))) (fun q m o e => kb q o (fun x => wo q x m) e) fun q m => by
        rcases List.mem_append.mp m with m | m
        · exact hal _ _ st₂ q (W.sub q m)
        · obtain ⟨o, e⟩ := S'.hl q (List.mem_append_right _ m)
          by_cases hq : q ∈ wr
          · exact hal _ _ st₂ q (W.sub q hq)
          · exact ⟨o, kb q o hq e⟩
      have B₃ : Ba h0 env Mu' s₃.heap := ⟨fun b o e => kb b o (fun m => by rw [w0 b m] at e; cases e) (B'.sb b o e), B'.no⟩
      have z₃ : Sub (Fz (wr ++ hid env Mu H) s₂.heap) (Fz (hid env Mu' (wr ++ H)) s₃.heap) := Sub.trans z (Fz_mono (kb.mono fun q m => List.mem_append_right _ (List.mem_append_left _ m)))
      refine wpn (asg i v s₃ (wr ++ H) Mu' ρ' hlt p₂ S₃ z₃) fun _ s₄ ⟨g₄, S₄, kb₄, _⟩ => ?_
      have B₄ := B₃.store kb₄
      have z₄ : Sub (Fz (wr ++ hid env Mu H) s₂.heap) (Fz (hid env Mu' (wr ++ H)) s₄.heap) := Sub.trans z₃ (Fz_mono (kb₄.mono fun q m => by
        rcases List.mem_cons.mp m with rfl | m
        · exact .head _
        · exact List.mem_append_left _ (.tail _ (List.mem_append_left _ m))))
      have st₄ : Sti (i + 1) s₄.heap := W.frame _ _ _ st₂ fun b m o e => kb₄ b o (fun x => off b m (by
        rcases List.mem_cons.mp x with rfl | x
        · exact .head _
        · exact .tail _ (List.mem_append_left _ x))) e
      have B₅ : Ba (Fz (own env Mu') s₄.heap) env Mu' s₄.heap := ⟨Fz_sub _ _, fun q m => Fz_none m⟩
      refine wpn (turn i Mu' ρ' hlt j A (wr ++ H) _ s₄ hA S₄ B₅) fun f s₅ ⟨g₅, x⟩ => ?_
      have gg : Grew s s₅ := (((g.trans g₁).trans g₂).trans g₄).trans g₅
      have h0s : Sub h0 (Fz (own env Mu') s₄.heap) := Fz_grow B₄.sb B₄.no
      cases f with
      | next =>
        obtain ⟨Mu₆, ρ₆, j₆, S₆, B₆⟩ := x
        refine ⟨n + 1 - (i + 1), by omega, i + 1, Mu₆, ρ₆, gg, j₆, S₆, ⟨Sub.trans h0s B₆.sb, fun q m => ?_⟩, ?_, ?_, ?_, hlt, rfl⟩
        · cases e : h0.get? q with
          | none => rfl
          | some o => have := h0s q o e; rw [B₆.no q m] at this; cases this
        · intro b o e
          have e₄ := z₄ b o e
          have n₄ := Fz_notin e₄
          have hb : (Fz (own env Mu') s₄.heap).get? b = some o := Fz_get (fun m => n₄ (List.mem_append_left _ m)) (Fz_of e₄)
          refine Fz_get (fun m => ?_) (B₆.sb b o hb)
          rcases List.mem_append.mp m with m | m
          · rw [B₆.no b m] at hb; cases hb
          · exact n₄ (List.mem_append_right _ m)
        · exact W.frame _ _ _ st₄ fun b m o e => B₆.sb b o (Fz_get (off b m) e)
        · intro b m m'
          obtain ⟨o, e⟩ := hal _ _ st₄ b m
          have hb : (Fz (own env Mu') s₄.heap).get? b = some o := Fz_get (off b m) e
          rw [B₆.no b m'] at hb; cases hb
      | ret v =>
        obtain ⟨d, r, q, sb⟩ := x
        exact ⟨gg, d, r, q.sub (Fz_less (Hin_mono h0s fun q m => List.mem_append_right _ m)), Sub.trans h0s sb⟩
      | brk => exact x.elim
      | cont => exact x.elim
    · have hin : i = n := by omega
      subst hin
      refine wpn (W.done s' (fun r s₁ => r = none ∧ Grew s' s₁ ∧ KB wr s'.heap s₁.heap) NoE sti fun h₁ tk kb => ⟨rfl, ⟨_, _, rfl⟩, fun b o n' e => kb b o n' e⟩) fun r s₁ ⟨e, g₁, kb⟩ => ?_
      subst e
      dsimp only
      refine wpAny_execs_nil ⟨g.trans g₁, Mu', ρ', hN _ _ j, ?_, ⟨fun b o e => kb b o (fun m => by rw [w0 b m] at e; cases e) (B'.sb b o e), B'.no⟩⟩
      refine S'.move (fun b o e => ?_) (fun q m o e => kb q o (fun x => wo q x m) e) fun q m => ?_
      · have n' := Fz_notin e
        refine Fz_get (fun m => ?_) (kb b o (fun m => n' (List.mem_append_right _ (List.mem_append_left _ m))) (Fz_of e))
        rcases List.mem_append.mp m with m | m
        · exact n' (List.mem_append_left _ m)
        · exact n' (List.mem_append_right _ (List.mem_append_right _ m))
      · obtain ⟨o, e⟩ := S.hl q m
        have hq : q ∉ wr := fun x => by rw [hw q x] at e; cases e
        obtain ⟨o', e'⟩ := S'.hl q (List.mem_append_right _ m)
        exact ⟨o', kb q o' hq e'⟩
  · have z : Sub (Fz (hid env Mu H) s.heap) (Fz (hid env Mu (wr ++ H)) s₂.heap) := Fz_more' (.of kp.heap) fun q m n' => by
      rcases List.mem_append.mp m with m | m
      · exact absurd (List.mem_append_left _ m) n'
      · rcases List.mem_append.mp m with m | m
        · exact hw q m
        · exact absurd (List.mem_append_right _ m) n'
    refine S.move z (fun q m o e => kp.heap q o e) fun q m => ?_
    rcases List.mem_append.mp m with m | m
    · exact hal _ _ st q (W.sub q m)
    · obtain ⟨o, e⟩ := S.hl q m; exact ⟨o, kp.heap _ _ e⟩
  · exact Fz_less fun q m => by
      rcases List.mem_append.mp m with m | m
      · exact List.mem_append_right _ (List.mem_append_left _ m)
      · rcases List.mem_append.mp m with m | m
        · exact List.mem_append_left _ m
        · exact List.mem_append_right _ (List.mem_append_right _ m)

theorem ex_for {target iter : Expr} {body rest : List Stmt} {pos : Pos} {n : Nat} {bs : Nat → List (Str × PD)} {J : Nat → Nx} {N : Nx} {R : PD → Prop} (it : Itr w k env Mu ρ target iter n bs)
    (hk : ∀ i, i < n → ∀ p ∈ bs i, (env.kindOf p.1 == some .local || (env.kindOf p.1 == some .cell && (env.cells.lookup p.1).isSome)) = true)
    (h0' : J 0 Mu ρ) (turn : ∀ i Mu' ρ', i < n → J i Mu' ρ' → Ex w k env Mu' (updL ρ' (bs i)) body (J (i + 1)) R) (b : ∀ Mu' ρ', J n Mu' ρ' → Ex w k env Mu' ρ' rest N R)
    (hs : ∀ x, foldedSetIterable iter env x = pure x := by intro _; rfl) : Ex w k env Mu ρ (.For target iter body [] pos :: rest) N R :=
  ex_cons (N' := J n) (fun A H h0 s hA S B => wpAny_For (wpn (it A H s hA S) fun xv s₁ x => wpn x fun itv s₂ ⟨kp, I, fp, wr, P, Md, Sti, e, W, st, hw, hal, hfp, _, asg⟩ => by
    subst e
    exact codeAny_mono (for_core hA S B kp W st hw hal hfp (fun i v s' H' Mu' ρ' hi a b c => asg env A i v s' H' Mu' ρ' hA.h hi a b c (hk i hi)) h0' turn fun _ _ z => z) fun r s' y => by
      cases r with
      | ok f => exact y
      | error e => exact y.elim) hs) b

/-- while -/
theorem ex_while {test : Expr} {body rest : List Stmt} {pos : Pos} {J : Nat → Nx} {N : Nx} {R : PD → Prop} (q : Nat) (h0' : J q Mu ρ)
    (turn : ∀ m Mu' ρ', J m Mu' ρ' → ∃ c, Tst w k env Mu' ρ' test c ∧ (c = true → Ex w k env Mu' ρ' body (fun Mu'' ρ'' => ∃ m', m' < m ∧ J m' Mu'' ρ'') R) ∧ (c = false → Ex w k env Mu' ρ' rest N R)) :
    Ex w k env Mu ρ (.While test body [] pos :: rest) N R :=
  ex_cons (N' := fun Mu' ρ' => Ex w k env Mu' ρ' rest N R) (fun A H h0 s hA S B => wpAny_While (codeAny_whileLoop (fun q s' => ∃ Mu' ρ', Grew s s' ∧ J q Mu' ρ' ∧ StE w env H Mu' ρ' s'.heap ∧ Ba h0 env Mu' s'.heap) (by
    rintro m s' ⟨Mu', ρ', g, j, S', B'⟩
    obtain ⟨c, t, ht, hf⟩ := turn m Mu' ρ' j
    refine wpn (t A H s' hA S') fun c' s₁ ⟨k₁, e⟩ => ?_
    subst e
    cases c' with
    | false =>
      simp only [Bool.false_eq_true, if_false]
      exact wpAny_execs_nil ⟨g.trans k₁.grew, Mu', ρ', hf rfl, S'.sub k₁.heap, B'.sub k₁.heap⟩
    | true =>
      simp only [if_true]
      refine wpn (ht rfl A H h0 s₁ hA (S'.sub k₁.heap) (B'.sub k₁.heap)) fun f s₂ ⟨g₂, x⟩ => ?_
      cases f with
      | next =>
        obtain ⟨Mu₆, ρ₆, ⟨m', lt, j₆⟩, S₆, B₆⟩ := x
        exact ⟨m', lt, Mu₆, ρ₆, (g.trans k₁.grew).trans g₂, j₆, S₆, B₆⟩
      | ret v => exact ⟨(g.trans k₁.grew).trans g₂, x⟩
      | brk => exact x.elim
      | cont => exact x.elim) q ⟨Mu, ρ, Grew.refl s, h0', S, B⟩)) fun Mu' ρ' z => z
end
end Mine
namespace Mine
open PySem PySem.W PyProof.Rows PySem.Calls

section
variable {w : World} {k : Nat} {env : Env} {Mu : List (Addr × PD)} {ρ : Str → Option PD} {e : Expr} {d : PD}

theorem asg1 {A' : Around} {env' : Env} {H' : List Addr} {Mu' : List (Addr × PD)} {ρ' : Str → Option PD} {s' : Shared} {x : Str} {xp : Pos} {v : Value} {d : PD} (S : StE w env' H' Mu' ρ' s'.heap) (r : Rd w (Fz (hid env' Mu' H') s'.heap) d v)
    (hk : (env'.kindOf x == some .local || (env'.kindOf x == some .cell && (env'.cells.lookup x).isSome)) = true) :
    wpAny (MM w) A' (assign (.Name x xp) env' v) (fun _ s'' => Grew s' s'' ∧ StE w env' H' Mu' (updL ρ' [(x, d)]) s''.heap ∧ KBs env' [x] s'.heap s''.heap) NoE s' :=
  wpAny_assign_Name (wp_store S hk r)

theorem sub_extBut {h h' : Heap} (x : Heap.ExtBut h.objs.size h h') : Sub h h' := fun b o e => x b o (Nat.ne_of_lt (Heap.lt_size e)) e
theorem asg2 {A' : Around} {env' : Env} {H' : List Addr} {Mu' : List (Addr × PD)} {ρ' : Str → Option PD} {s' : Shared} {x y : Str} {xp yp pos : Pos} {j : Nat} {T : Addr} {u v : Value} {c d : PD} (hh : A'.handled = none) (S : StE w env' H' Mu' ρ' s'.heap)
    (ht : IsTup s'.heap T #[u, v]) (r₁ : Rd w (Fz (hid env' Mu' H') s'.heap) c u) (r₂ : Rd w (Fz (hid env' Mu' H') s'.heap) d v)
    (hx : (env'.kindOf x == some .local || (env'.kindOf x == some .cell && (env'.cells.lookup x).isSome)) = true) (hy : (env'.kindOf y == some .local || (env'.kindOf y == some .cell && (env'.cells.lookup y).isSome)) = true) :
    wpAny (MM w) A' (assign (.Tuple [.Name x xp, .Name y yp] j pos) env' (.ref T)) (fun _ s'' => Grew s' s'' ∧ StE w env' H' Mu' (updL ρ' [(x, c), (y, d)]) s''.heap ∧ KBs env' [x, y] s'.heap s''.heap) NoE s' := by
  refine assign_Tuple_tuple hh ht rfl rfl fun h₁ e₁ => ?_
  have s₁ := sub_extBut e₁
  show wpAny _ _ (do holding [v] (assign (.Name x xp) env' u); do holding [] (assign (.Name y yp) env' v); pure ()) _ _ _
  have z₁ : Sub (Fz (hid env' Mu' H') s'.heap) (Fz (hid env' Mu' H') h₁) := Fz_mono (.of s₁)
  refine wpAny_bind (wpAny_holding (wpn (asg1 (s' := { s' with heap := h₁ }) (S.sub s₁) (r₁.sub z₁) hx) fun _ s₂ ⟨g₂, S₂, k₂⟩ => ?_))
  have z₂ := Fz_mono (M := hid env' Mu' H') (k₂.1.mono fun q m => by
    rcases List.mem_cons.mp m with rfl | m
    · exact .head _
    · exact List.mem_append_left _ (.tail _ (List.mem_append_left _ m)))
  refine wpAny_bind (wpAny_holding (wpn (asg1 S₂ ((r₂.sub z₁).sub z₂) hy) fun _ s₃ ⟨g₃, S₃, k₃⟩ => wpAny_pure ⟨?_, S₃, (KB.of s₁).trans (k₂.1.trans k₃.1), fun q => (KB.of s₁).trans ((k₂.2 fun y m => q y (by rw [List.mem_singleton.mp m]; exact .head _)).trans (k₃.2 fun y m => q y (by rw [List.mem_singleton.mp m]; exact .tail _ (.head _))))⟩))
  exact (Grew.trans ⟨h₁, s'.toks, rfl⟩ g₂).trans g₃

theorem go_name {A : Around} {x : Str} {xp : Pos} {it v : Value} {s : Shared} {Q : Unit → Shared → Prop} {E : Value → Shared → Prop} (q : Q () s) : wpAny (MM w) A (letOwnedTupleGo (.Name x xp) it v) Q E s := wpAny_pure q

theorem none_back {h h' : Heap} {b : Addr} (k : Sub h h') (n : h'.get? b = none) : h.get? b = none := by
  cases e : h.get? b with
  | none => rfl
  | some o => rw [k _ _ e] at n; cases n

/-- what Itr asks, out of a walk -/
theorem itr_walk {A : Around} {H : List Addr} {s s₂ : Shared} {x : Str} {xp : Pos} {I : Addr} {fp wr : List Addr} {n : Nat} {P : Nat → Value → Prop} {St : Nat → Heap → Prop} {ds : Nat → PD} (kp : Kp s s₂) (W : Walks PR w A I fp wr n P St) (st : St 0 s₂.heap)
    (hw : ∀ b ∈ wr, s.heap.get? b = none) (hal : ∀ i g, St i g → ∀ b ∈ fp, ∃ o, g.get? b = some o) (hf : ∀ b ∈ fp, b ∉ hid env Mu H)
    (hr : ∀ i v g, i < n → P i v → Sub (Fz (wr ++ hid env Mu H) s₂.heap) g → Rd w g (ds i) v) :
    ItrPost w A env Mu H (.Name x xp) n (fun i => [(x, ds i)]) s s₂ (.ref I) :=
  ⟨kp, I, fp, wr, _, _, St, rfl, KTurns.ofWalks W fun i v s Q E st q => go_name q, st, hw, hal, hf, fun s' Q st' q => W.self 0 s' Q NoE st' q, fun env' A' i v s' H' Mu' ρ' hh hi hP S' z hk => asg1 S' (hr i v _ hi hP z) (hk _ (.head _))⟩

theorem itr_list {x : Str} {xp : Pos} {iter : Expr} {ds : List PD} (a : EvD w k env Mu ρ iter (.list ds)) : Itr w k env Mu ρ (.Name x xp) iter ds.length (fun i => [(x, ds.getD i .none)]) := fun A H s hA S =>
  wpn (a A H s hA S) fun xv s₁ ⟨k₁, l, vs, e, p, r⟩ => by
    subst e
    have S₁ := S.sub k₁.heap
    obtain ⟨n, p⟩ := p
    have pl := Fz_of p
    have hll := Heap.lt_size pl
    have W := Walks.list (prog := PR) (w := w) hA.h s₁.heap.objs.size l (Nat.ne_of_lt hll) vs.toArray
    have hz : vs.toArray.size = ds.length := by rw [List.size_toArray, r.length]
    rw [hz] at W
    refine wpAny_pyIter_list ⟨_, pl, rfl, _, rfl⟩ (itr_walk (ds := fun i => ds.getD i .none) (k₁.trans (Kp.to (sub_push _ _))) W ⟨⟨_, Heap.get?_push_size _ rfl, rfl, rfl⟩, ⟨_, Heap.get?_push_of_some _ pl, rfl, n, rfl⟩⟩ ?_ ?_ ?_ ?_)
    · intro b m
      rw [List.mem_singleton.mp m]
      exact none_back k₁.heap none_of_size
    · intro i g st b m
      rcases List.mem_cons.mp m with rfl | m
      · obtain ⟨o, e, _⟩ := st.1; exact ⟨o, e⟩
      · rw [List.mem_singleton.mp m]; obtain ⟨o, e, _⟩ := st.2; exact ⟨o, e⟩
    · intro b m
      rcases List.mem_cons.mp m with rfl | m
      · exact S₁.fresh none_of_size
      · rw [List.mem_singleton.mp m]; exact Fz_notin p
    · intro i v g hi hP z
      obtain ⟨d, e, rd⟩ := r.get' (show vs[i]? = some v by simpa using hP)
      have hd : ds.getD i .none = d := by rw [List.getD_eq_getElem?_getD, e]; rfl
      rw [hd]
      refine rd.sub (Sub.trans (Fz_more' (.of (sub_push _ _)) fun q m n' => ?_) z)
      rcases List.mem_append.mp m with m | m
      · rw [List.mem_singleton.mp m]; exact none_of_size
      · exact absurd m n'

theorem itr_tuple {x : Str} {xp : Pos} {iter : Expr} {ds : List PD} (a : EvD w k env Mu ρ iter (.tup ds)) : Itr w k env Mu ρ (.Name x xp) iter ds.length (fun i => [(x, ds.getD i .none)]) := fun A H s hA S =>
  wpn (a A H s hA S) fun xv s₁ ⟨k₁, l, vs, e, p, r⟩ => by
    subst e
    have S₁ := S.sub k₁.heap
    have hn := p
    obtain ⟨o, p, q⟩ := p
    have pl := Fz_of p
    have hll := Heap.lt_size pl
    have W := Walks.tuple (prog := PR) (w := w) hA.h s₁.heap.objs.size l (Nat.ne_of_lt hll) vs.toArray
    have hz : vs.toArray.size = ds.length := by rw [List.size_toArray, r.length]
    rw [hz] at W
    refine iter_tuple ⟨o, pl, q⟩ (itr_walk (ds := fun i => ds.getD i .none) (k₁.trans (Kp.to (sub_push _ _))) W ⟨⟨_, Heap.get?_push_size _ rfl, rfl, rfl⟩, ⟨_, Heap.get?_push_of_some _ pl, q⟩⟩ ?_ ?_ ?_ ?_)
    · intro b m
      rw [List.mem_singleton.mp m]
      exact none_back k₁.heap none_of_size
    · intro i g st b m
      rcases List.mem_cons.mp m with rfl | m
      · obtain ⟨o, e, _⟩ := st.1; exact ⟨o, e⟩
      · rw [List.mem_singleton.mp m]; obtain ⟨o, e, _⟩ := st.2; exact ⟨o, e⟩
    · intro b m
      rcases List.mem_cons.mp m with rfl | m
      · exact S₁.fresh none_of_size
      · rw [List.mem_singleton.mp m]; exact Fz_notin p
    · intro i v g hi hP z
      obtain ⟨d, e, rd⟩ := r.get' (show vs[i]? = some v by simpa using hP)
      have hd : ds.getD i .none = d := by rw [List.getD_eq_getElem?_getD, e]; rfl
      rw [hd]
      refine rd.sub (Sub.trans (Fz_more' (.of (sub_push _ _)) fun q m n' => ?_) z)
      rcases List.mem_append.mp m with m | m
      · rw [List.mem_singleton.mp m]; exact none_of_size
      · exact absurd m n'

/-- range of two numbers, of one -/
theorem rangeSize_toNat_one (a b : Int) : Builtin.Range.rangeSize a b 1 = (((b - a).toNat : Nat) : Int) := by
  rw [rangeSize_one]; split <;> omega
theorem itr_range_core {A : Around} {H : List Addr} {s s₁ : Shared} {x : Str} {xp : Pos} {r : Addr} {a b : Int} {t u v : Tok} (hA : OkA A k) (k₁ : Kp s s₁) (S₁ : StE w env H Mu ρ s₁.heap) (hr : IsRange s₁.heap r a b 1 t u v) (ha : -(2 ^ 62) ≤ a) (ha' : a < 2 ^ 62) (hb : -(2 ^ 62) ≤ b) (hb' : b < 2 ^ 62)
    {Q : Value → Shared → Prop}
    (hq : ∀ s₂, ItrPost w A env Mu H (.Name x xp) (b - a).toNat (fun i => [(x, PD.int (a + i))]) s s₂ (.ref s₁.heap.objs.size) → Q (.ref s₁.heap.objs.size) s₂) :
    wpAny (MM w) A (pyIter (.ref r)) Q NoE s₁ := by
  have W := Walks.range (prog := PR) (w := w) hA.h s₁.heap.objs.size a 1 (b - a).toNat
  refine wpAny_pyIter_range hr (small_one ha ha' hb hb') (hq _ (itr_walk (ds := fun i => .int (a + i)) (k₁.trans (Kp.to (sub_push _ _))) W ?_ ?_ ?_ ?_ ?_))
  · show IsRangeIter _ _ _ _ _
    rw [rangeSize_toNat_one]
    simp only [Int.natCast_zero, Int.zero_mul, Int.add_zero, Int.sub_zero]
    exact Heap.get?_push_size _ rfl
  · intro b m
    rw [List.mem_singleton.mp m]
    exact none_back k₁.heap none_of_size
  · intro i g st b m
    rw [List.mem_singleton.mp m]; exact ⟨_, st⟩
  · intro b m
    rw [List.mem_singleton.mp m]; exact S₁.fresh none_of_size
  · intro i v g hi ⟨t, e⟩ z
    subst e
    exact ⟨t, by simp⟩
theorem itr_range2 {x : Str} {xp np pos : Pos} {e₁ e₂ : Expr} {nm : Str} {a b : Int} (hf : EvD w k env Mu ρ (.Name nm np) (.raw (.type "range"))) (h₁ : EvD w k env Mu ρ e₁ (.int a)) (h₂ : EvD w k env Mu ρ e₂ (.int b)) (ha : -(2 ^ 62) ≤ a) (ha' : a < 2 ^ 62) (hb : -(2 ^ 62) ≤ b) (hb' : b < 2 ^ 62)
    (he : starEach (e₁ :: [e₂]) env = (false, eval e₁ env) :: starEach [e₂] env := by rfl) (he2 : starEach (e₂ :: []) env = (false, eval e₂ env) :: starEach [] env := by rfl) :
    Itr w k env Mu ρ (.Name x xp) (.Call (.Name nm np) [e₁, e₂] [] pos) (b - a).toNat (fun i => [(x, .int (a + i))]) := fun A H s hA S =>
  wpAny_Call_Name_kw (wpn (hf A H s hA S) fun f' s₁ ⟨k₁, e⟩ => by
    have e : f' = .type "range" := e
    subst e
    show wpAny (MM w) A (callWith pos (.type "range") [] (backTo pos (starEach [e₁, e₂] env)) []) _ _ _
    refine call_any (.inr (.inl ⟨_, rfl⟩)) (by rw [he, he2]; rfl) (wpn (args_cons h₁ (args_cons h₂ args_nil he2) he A H s₁ hA (S.sub k₁.heap)) fun vs s₂ ⟨k₂, r⟩ => ?_)
    have S₂ := (S.sub k₁.heap).sub k₂.heap
    refine ⟨(S₂.gd.sub (Fz_sub _ _)).k, ?_⟩
    obtain ⟨v, vs1, rfl, ⟨t, rfl⟩, r1⟩ := r.cons_inv
    obtain ⟨v, vs2, rfl, ⟨u, rfl⟩, r2⟩ := Rds.cons_inv r1
    rw [Rds.nil_inv r2]
    refine call_range_2 ?_
    exact itr_range_core (s₁ := { s₂ with heap := s₂.heap.push _, toks := s₂.toks + 1 }) hA ((k₁.trans k₂).trans (Kp.to (sub_push _ _))) (S₂.sub (sub_push _ _)) (IsRange.new ..) ha ha' hb hb' fun s₃ q => q)
theorem itr_range1z {x : Str} {xp np pos : Pos} {e₂ : Expr} {nm : Str} {b : Int} (hf : EvD w k env Mu ρ (.Name nm np) (.raw (.type "range"))) (h₂ : EvD w k env Mu ρ e₂ (.int b)) (hb : -(2 ^ 62) ≤ b) (hb' : b < 2 ^ 62)
    (he2 : starEach (e₂ :: []) env = (false, eval e₂ env) :: starEach [] env := by rfl) :
    Itr w k env Mu ρ (.Name x xp) (.Call (.Name nm np) [e₂] [] pos) (b - 0).toNat (fun i => [(x, .int (0 + i))]) := fun A H s hA S =>
  wpAny_Call_Name_kw (wpn (hf A H s hA S) fun f' s₁ ⟨k₁, e⟩ => by
    have e : f' = .type "range" := e
    subst e
    show wpAny (MM w) A (callWith pos (.type "range") [] (backTo pos (starEach [e₂] env)) []) _ _ _
    refine call_any (.inr (.inl ⟨_, rfl⟩)) (by rw [he2]; rfl) (wpn (args_cons h₂ args_nil he2 A H s₁ hA (S.sub k₁.heap)) fun vs s₂ ⟨k₂, r⟩ => ?_)
    have S₂ := (S.sub k₁.heap).sub k₂.heap
    refine ⟨(S₂.gd.sub (Fz_sub _ _)).k, ?_⟩
    obtain ⟨v, vs2, rfl, ⟨u, rfl⟩, r2⟩ := Rds.cons_inv r
    rw [Rds.nil_inv r2]
    refine call_range_1 ?_
    exact itr_range_core (s₁ := { s₂ with heap := s₂.heap.push _, toks := s₂.toks + 1 + 1 }) hA ((k₁.trans k₂).trans (Kp.to (sub_push _ _))) (S₂.sub (sub_push _ _)) (IsRange.new ..) (by decide) (by decide) hb hb' fun s₃ q => q)
theorem itr_range1 {x : Str} {xp np pos : Pos} {e₂ : Expr} {nm : Str} {b : Int} (hf : EvD w k env Mu ρ (.Name nm np) (.raw (.type "range"))) (h₂ : EvD w k env Mu ρ e₂ (.int b)) (hb : -(2 ^ 62) ≤ b) (hb' : b < 2 ^ 62)
    (he2 : starEach (e₂ :: []) env = (false, eval e₂ env) :: starEach [] env := by rfl) :
    Itr w k env Mu ρ (.Name x xp) (.Call (.Name nm np) [e₂] [] pos) b.toNat (fun i => [(x, .int i)]) := by
  have := itr_range1z (x := x) (xp := xp) (pos := pos) hf h₂ hb hb' he2
  simpa only [Int.sub_zero, Int.zero_add] using this
end
end Mine
namespace Mine
open PySem PySem.W PyProof.Rows PySem.Calls

theorem Pairs.length : ∀ {kvs : List (Int × Value)} {l : List (Int × Int)}, Pairs kvs l → kvs.length = l.length
  | [], [], _ => rfl
  | [], _ :: _, x => x.elim
  | _ :: _, [], x => x.elim
  | p :: ps, q :: qs, ⟨_, _, x⟩ => by simp [Pairs.length x]
theorem Pairs.get : ∀ {kvs : List (Int × Value)} {l : List (Int × Int)}, Pairs kvs l → ∀ {i : Nat} {k : Int} {v : Value}, kvs[i]? = some (k, v) → ∃ j t, l[i]? = some (k, j) ∧ v = .int j t
  | [], _, _, i, k, v, e => by simp at e
  | _ :: _, [], x, _, _, _, _ => x.elim
  | p :: ps, q :: qs, ⟨a, ⟨t, b⟩, x⟩, i, k, v, e => by
    cases i with
    | zero => simp at e; subst e; simp at a b; exact ⟨q.2, t, by simp [a], b⟩
    | succ i => simp at e; obtain ⟨j, t, h1, h2⟩ := Pairs.get x e; exact ⟨j, t, by simpa using h1, h2⟩

section
variable {w : World} {k : Nat} {env : Env} {Mu : List (Addr × PD)} {ρ : Str → Option PD} {e : Expr} {d : PD}

/-- enumerate of a list -/
theorem itr_enum {x y : Str} {xp yp tp np pos : Pos} {j : Nat} {l : Expr} {nm : Str} {ds : List PD} (hf : EvD w k env Mu ρ (.Name nm np) (.raw (.type "enumerate"))) (a : EvD w k env Mu ρ l (.list ds))
    (he2 : starEach (l :: []) env = (false, eval l env) :: starEach [] env := by rfl) :
    Itr w k env Mu ρ (.Tuple [.Name x xp, .Name y yp] j tp) (.Call (.Name nm np) [l] [] pos) ds.length (fun i => [(x, .int i), (y, ds.getD i .none)]) := fun A H s hA S =>
  wpAny_Call_Name_kw (wpn (hf A H s hA S) fun f' s₁ ⟨k₁, e⟩ => by
    have e : f' = .type "enumerate" := e
    subst e
    show wpAny (MM w) A (callWith pos (.type "enumerate") [] (backTo pos (starEach [l] env)) []) _ _ _
    refine call_any (.inr (.inl ⟨_, rfl⟩)) (by rw [he2]; rfl) (wpn (args_cons a args_nil he2 A H s₁ hA (S.sub k₁.heap)) fun vs s₂ ⟨k₂, r⟩ => ?_)
    have S₂ := (S.sub k₁.heap).sub k₂.heap
    refine ⟨(S₂.gd.sub (Fz_sub _ _)).k, ?_⟩
    obtain ⟨v, vs2, rfl, ⟨q, us, rfl, ⟨n, p⟩, r1⟩, r2⟩ := Rds.cons_inv r
    rw [Rds.nil_inv r2]
    have pl := Fz_of p
    have hll := Heap.lt_size pl
    refine call_enumerate_list ⟨_, pl, rfl, n, rfl⟩ fun h₃ he hit hsz k₃ => ?_
    refine wpAny_pyIter_enum (s := { s₂ with heap := h₃ }) he ?_
    have hz : us.toArray.size = ds.length := by rw [List.size_toArray, r1.length]
    have W := (WalksT.enumerate (prog := PR) (w := w) (A := A) hA.h (s₂.heap.objs.size + 1) s₂.heap.objs.size q (Nat.succ_ne_self _) (Nat.ne_of_lt (Nat.lt_succ_of_lt hll)) (Nat.ne_of_lt hll) us.toArray).toU
    rw [hz] at W
    have kk : Kp s { s₂ with heap := h₃ } := (k₁.trans k₂).trans (Kp.to (t := s₂.toks) k₃)
    have n1 : s₂.heap.get? (s₂.heap.objs.size + 1) = none := none_of_le (Nat.le_succ _)
    refine ⟨kk, _, _, _, _, _, _, rfl, KTurns.ofWalksU W, ⟨⟨_, he⟩, hit, ⟨_, k₃ _ _ pl, rfl, n, rfl⟩⟩, ?_, ?_, ?_, fun s' Q st' q => W.self 0 s' Q NoE st' q, ?_⟩
    · intro b m
      rcases List.mem_cons.mp m with rfl | m
      · exact none_back (k₁.trans k₂).heap n1
      · rw [List.mem_singleton.mp m]; exact none_back (k₁.trans k₂).heap none_of_size
    · rintro i g ⟨⟨old, he⟩, hit, hl⟩ b m
      rcases List.mem_cons.mp m with rfl | m
      · exact ⟨_, he⟩
      · rcases List.mem_cons.mp m with rfl | m
        · obtain ⟨o, e, _⟩ := hit; exact ⟨o, e⟩
        · rw [List.mem_singleton.mp m]; obtain ⟨o, e, _⟩ := hl; exact ⟨o, e⟩
    · intro b m
      rcases List.mem_cons.mp m with rfl | m
      · exact S₂.fresh n1
      · rcases List.mem_cons.mp m with rfl | m
        · exact S₂.fresh none_of_size
        · rw [List.mem_singleton.mp m]; exact Fz_notin p
    · rintro env' A' i v s' H' Mu' ρ' hh hi ⟨T, vals, rfl, ⟨t, xv, hx, rfl⟩, hT⟩ S' z hk
      obtain ⟨d, e, rd⟩ := r1.get' (show us[i]? = some xv by simpa using hx)
      have hd : ds.getD i .none = d := by rw [List.getD_eq_getElem?_getD, e]; rfl
      try dsimp only at hk ⊢
      rw [hd] at hk ⊢
      refine asg2 hh S' hT ⟨t, rfl⟩ (rd.sub (Sub.trans (Fz_more' (.of k₃) fun q m n' => ?_) z)) (hk _ (.head _)) (hk _ (.tail _ (.head _)))
      rcases List.mem_append.mp m with m | m
      · rcases List.mem_cons.mp m with rfl | m
        · exact n1
        · rw [List.mem_singleton.mp m]; exact none_of_size
      · exact absurd m n')

/-- a dict's items -/
theorem turns_items {A : Around} {elts : List Expr} {j : Nat} {pos : Pos} (hh : A.handled = none) (I d : Addr) (hne : d ≠ I) (kvs : List (Int × Value)) (ep : Nat) :
    KTurns PR w A (.Tuple elts j pos) I [I, d] [I] kvs.length
      (fun i v h => ∃ T key x kk, v = .ref T ∧ kvs[i]? = some (kk, x) ∧ (intKind PR w).is kk key = true ∧ IsTup h T #[key, x])
      (fun i v h => ∃ T key x kk, v = .ref T ∧ kvs[i]? = some (kk, x) ∧ (intKind PR w).is kk key = true ∧ IsItemIterOut h I d (i + 1) kvs.length ep key x T ∧ IsTup h T #[key, x] ∧ h.DictAt (intKind PR w) d kvs ep ∧ T ≠ I)
      (fun i h => (∃ ok ov, IsItemIter h I d i kvs.length ep ok ov) ∧ h.DictAt (intKind PR w) d kvs ep) where
  sub := fun b hb => by simp at hb; simp [hb]
  frame := fun i h h' ⟨⟨ok, ov, hit⟩, hd⟩ hk => ⟨⟨ok, ov, hk I (by simp) _ hit⟩, hd.at fun o e => hk d (by simp) o e⟩
  item := fun i s Q E hi ⟨⟨ok, ov, hit⟩, hd⟩ hQ => by
    obtain ⟨⟨kk, x⟩, hx⟩ : ∃ p, kvs[i]? = some p := ⟨kvs[i], by simp [hi]⟩
    refine wpAny_pyNext_items_item hit hd hx fun key h' hkey ho ht hsz hk => ?_
    exact hQ _ h' s.toks ⟨_, key, x, kk, rfl, hx, hkey, ho, ⟨_, ht, rfl, _, rfl⟩, hd.at fun o e => hk d o hne e, Nat.ne_of_gt (Heap.lt_size hit)⟩ fun b o hb e => hk b o (fun q => hb (by simp [q])) e
  go := fun i v s Q E ⟨T, key, x, kk, hv, hx, hkey, ho, ht, hd, hT⟩ hQ => by
    subst hv
    refine wpAny_letOwnedTupleGo_items ho fun h' he hs => hQ h' ⟨T, key, x, kk, rfl, hx, hkey, ?_⟩ ⟨⟨_, _, he⟩, hd.extBut hs.extBut hne⟩ fun b o hb e => hs.extBut b o (fun q => hb (by simp [q])) e
    obtain ⟨o, e, r⟩ := ht
    exact ⟨o, hs.extBut T o hT e, r⟩
  done := fun s Q E ⟨⟨ok, ov, hit⟩, hd⟩ hQ => wpAny_pyNext_items_end hh hit hd (by simp) fun h' he => hQ h' s.toks fun b o hb e => he b o (fun q => hb (by simp [q])) e

theorem is_int {k : Int} {v : Value} (h : (intKind PR w).is k v = true) : ∃ t, v = .int k t := by
  cases v <;> simp [intKind, Value.isInt] at h
  rename_i i t
  exact ⟨t, by rw [h]⟩

theorem itr_items {x y : Str} {xp yp tp apos pos : Pos} {j : Nat} {o : Expr} {l : List (Int × Int)} (a : EvD w k env Mu ρ o (.dict l))
    (hbase : attributeBase o "items" env (eval o env) = eval o env := by rfl) (hline : (apos.endLine == pos.line) = true := by rfl) :
    Itr w k env Mu ρ (.Tuple [.Name x xp, .Name y yp] j tp) (.Call (.Attribute o "items" apos) [] [] pos) l.length (fun i => [(x, .int (l.getD i (0, 0)).1), (y, .int (l.getD i (0, 0)).2)]) := fun A H s hA S => by
  refine wpAny_Call_method (T := "dict") (id := "dict.items") hbase rfl hline F.plainAttrs_dict F.slot_dict_items F.type_dict_items (wpn (a A H s hA S) fun v s₁ ⟨k₁, q, kvs, e, ns, hm, hp⟩ => ?_)
  subst e
  have S₁ := S.sub k₁.heap
  obtain ⟨od, hod, hx⟩ := Heap.dictOf_iff.mp hm
  have pl := Fz_of hod
  have nq := Fz_notin hod
  have hm₁ : s₁.heap.DictOf (intKind PR w) q kvs := Heap.dictOf_iff.mpr ⟨od, pl, hx⟩
  obtain ⟨ep, hda⟩ := hm₁.dictAt
  have hll := Heap.lt_size pl
  refine ⟨hm₁.typeIs, hm₁.mapOf.noDict, ?_⟩
  show wpAny _ _ (callWith pos (.builtin "dict.items") [.ref q] [] []) _ _ _
  refine method_meetsIn F.slot_dict_items F.entry_dict_items rfl (PySem.evalArgs_none ⟨rfl, hm₁.typeIs, F.args_dict_items_1 _, _, meets_dict_items (intKind PR w) q ns, ⟨kvs, hm₁⟩, ?_⟩)
  have k₂ : Kp s₁ { s₁ with heap := s₁.heap.push { cls := .type "dict_items", data := .fields #[.ref q] } } := Kp.to (sub_push _ _)
  have S₂ := S₁.sub k₂.heap
  have hz : (s₁.heap.push { cls := .type "dict_items", data := .fields #[.ref q] }).objs.size = s₁.heap.objs.size + 1 := Heap.size_push ..
  refine wpAny_pyIter_items (knd := intKind PR w) (s := { s₁ with heap := s₁.heap.push _ }) (d := q) (kvs := kvs) (ep := ep) ⟨_, Heap.get?_push_size _ rfl, rfl, rfl⟩ (hda.push _) ?_
  have hl := hp.length
  have T := turns_items (w := w) (A := A) (elts := [.Name x xp, .Name y yp]) (j := j) (pos := tp) hA.h (s₁.heap.push { cls := .type "dict_items", data := .fields #[.ref q] }).objs.size q (by rw [hz]; exact Nat.ne_of_lt (Nat.lt_succ_of_lt hll)) kvs ep
  rw [hl] at T
  refine ⟨(k₁.trans k₂).trans (Kp.to (sub_push _ _)), _, _, _, _, _, _, rfl, T, ⟨⟨_, _, by rw [← hl]; exact Heap.get?_push_size _ rfl⟩, (hda.push _).push _⟩, ?_, ?_, ?_, fun s' Q st' q => let ⟨⟨ok, ov, hi⟩, _⟩ := st'; PySem.W.kcp_self hi q, ?_⟩
  · intro b m
    rw [List.mem_singleton.mp m]
    exact none_back (k₁.trans k₂).heap none_of_size
  · rintro i g ⟨⟨ok, ov, hit⟩, hd⟩ b m
    rcases List.mem_cons.mp m with rfl | m
    · exact ⟨_, hit⟩
    · rw [List.mem_singleton.mp m]; obtain ⟨o, _, e, _⟩ := hd; exact ⟨o, e⟩
  · intro b m
    rcases List.mem_cons.mp m with rfl | m
    · exact S₂.fresh none_of_size
    · rw [List.mem_singleton.mp m]; exact nq
  · rintro env' A' i v s' H' Mu' ρ' hh hi ⟨T, key, xv, kk, rfl, hx, hkey, hT⟩ S' z hk
    obtain ⟨jv, t, e, rfl⟩ := hp.get hx
    obtain ⟨t', rfl⟩ := is_int hkey
    have hd : l.getD i (0, 0) = (kk, jv) := by rw [List.getD_eq_getElem?_getD, e]; rfl
    try dsimp only at hk ⊢
    rw [hd] at hk ⊢
    exact asg2 hh S' hT ⟨t', rfl⟩ ⟨t, rfl⟩ (hk _ (.head _)) (hk _ (.tail _ (.head _)))

/-- a dict's values -/
theorem itr_values {x : Str} {xp apos pos : Pos} {o : Expr} {l : List (Int × Int)} (a : EvD w k env Mu ρ o (.dict l))
    (hbase : attributeBase o "values" env (eval o env) = eval o env := by rfl) (hline : (apos.endLine == pos.line) = true := by rfl) :
    Itr w k env Mu ρ (.Name x xp) (.Call (.Attribute o "values" apos) [] [] pos) l.length (fun i => [(x, .int (l.getD i (0, 0)).2)]) := fun A H s hA S => by
  refine wpAny_Call_method (T := "dict") (id := "dict.values") hbase rfl hline F.plainAttrs_dict F.slot_dict_values F.type_dict_values (wpn (a A H s hA S) fun v s₁ ⟨k₁, q, kvs, e, ns, hm, hp⟩ => ?_)
  subst e
  have S₁ := S.sub k₁.heap
  obtain ⟨od, hod, hx⟩ := Heap.dictOf_iff.mp hm
  have pl := Fz_of hod
  have nq := Fz_notin hod
  have hm₁ : s₁.heap.DictOf (intKind PR w) q kvs := Heap.dictOf_iff.mpr ⟨od, pl, hx⟩
  obtain ⟨ep, hda⟩ := hm₁.dictAt
  have hll := Heap.lt_size pl
  refine ⟨hm₁.typeIs, hm₁.mapOf.noDict, ?_⟩
  show wpAny _ _ (callWith pos (.builtin "dict.values") [.ref q] [] []) _ _ _
  refine method_meetsIn F.slot_dict_values F.entry_dict_values rfl (PySem.evalArgs_none ⟨rfl, hm₁.typeIs, F.args_dict_values_1 _, _, meets_dict_values (intKind PR w) q ns, ⟨kvs, hm₁⟩, ?_⟩)
  have k₂ : Kp s₁ { s₁ with heap := s₁.heap.push { cls := .type "dict_values", data := .fields #[.ref q] } } := Kp.to (sub_push _ _)
  have S₂ := S₁.sub k₂.heap
  have hz : (s₁.heap.push { cls := .type "dict_values", data := .fields #[.ref q] }).objs.size = s₁.heap.objs.size + 1 := Heap.size_push ..
  have W := Walks.dictValues (prog := PR) (w := w) (knd := intKind PR w) hA.h (s₁.heap.push { cls := .type "dict_values", data := .fields #[.ref q] }).objs.size q (by rw [hz]; exact Nat.ne_of_lt (Nat.lt_succ_of_lt hll)) kvs ep
  have hl := hp.length
  rw [hl] at W
  refine wpAny_pyIter_values (knd := intKind PR w) (s := { s₁ with heap := s₁.heap.push _ }) (d := q) (kvs := kvs) (ep := ep) ⟨_, Heap.get?_push_size _ rfl, rfl, rfl⟩ (hda.push _) (itr_walk (ds := fun i => .int (l.getD i (0, 0)).2) ((k₁.trans k₂).trans (Kp.to (sub_push _ _))) W ⟨⟨_, Heap.get?_push_size _ rfl, rfl, by rw [hl]; rfl⟩, (hda.push _).push _⟩ ?_ ?_ ?_ ?_)
  · intro b m
    rw [List.mem_singleton.mp m]
    exact none_back (k₁.trans k₂).heap none_of_size
  · rintro i g ⟨hit, hd⟩ b m
    rcases List.mem_cons.mp m with rfl | m
    · obtain ⟨o, e, _⟩ := hit; exact ⟨o, e⟩
    · rw [List.mem_singleton.mp m]; obtain ⟨o, _, e, _⟩ := hd; exact ⟨o, e⟩
  · intro b m
    rcases List.mem_cons.mp m with rfl | m
    · exact S₂.fresh none_of_size
    · rw [List.mem_singleton.mp m]; exact nq
  · rintro i v g hi ⟨kk, hx⟩ z
    obtain ⟨jv, t, e, rfl⟩ := hp.get hx
    have hd : l.getD i (0, 0) = (kk, jv) := by rw [List.getD_eq_getElem?_getD, e]; rfl
    rw [hd]
    exact ⟨t, rfl⟩

/-- a dict's keys -/
theorem itr_keys {x : Str} {xp : Pos} {o : Expr} {l : List (Int × Int)} (a : EvD w k env Mu ρ o (.dict l)) :
    Itr w k env Mu ρ (.Name x xp) o l.length (fun i => [(x, .int (l.getD i (0, 0)).1)]) := fun A H s hA S => by
  refine wpn (a A H s hA S) fun v s₁ ⟨k₁, q, kvs, e, ns, hm, hp⟩ => ?_
  subst e
  have S₁ := S.sub k₁.heap
  obtain ⟨od, hod, hx⟩ := Heap.dictOf_iff.mp hm
  have pl := Fz_of hod
  have nq := Fz_notin hod
  have hm₁ : s₁.heap.DictOf (intKind PR w) q kvs := Heap.dictOf_iff.mpr ⟨od, pl, hx⟩
  obtain ⟨ep, hda⟩ := hm₁.dictAt
  have hll := Heap.lt_size pl
  have W := Walks.dictKeys (prog := PR) (w := w) (knd := intKind PR w) hA.h s₁.heap.objs.size q (Nat.ne_of_lt hll) kvs ep
  have hl := hp.length
  rw [hl] at W
  refine wpAny_pyIter_dict (knd := intKind PR w) (d := q) (kvs := kvs) (ep := ep) ns hda (itr_walk (ds := fun i => .int (l.getD i (0, 0)).1) (k₁.trans (Kp.to (sub_push _ _))) W ⟨⟨_, Heap.get?_push_size _ rfl, rfl, by rw [hl]; rfl⟩, hda.push _⟩ ?_ ?_ ?_ ?_)
  · intro b m
    rw [List.mem_singleton.mp m]
    exact none_back k₁.heap none_of_size
  · rintro i g ⟨hit, hd⟩ b m
    rcases List.mem_cons.mp m with rfl | m
    · obtain ⟨o, e, _⟩ := hit; exact ⟨o, e⟩
    · rw [List.mem_singleton.mp m]; obtain ⟨o, _, e, _⟩ := hd; exact ⟨o, e⟩
  · intro b m
    rcases List.mem_cons.mp m with rfl | m
    · exact S₁.fresh none_of_size
    · rw [List.mem_singleton.mp m]; exact nq
  · rintro i v g hi ⟨kk, xv, hx, hkey⟩ z
    obtain ⟨jv, t, e, rfl⟩ := hp.get hx
    obtain ⟨t', rfl⟩ := is_int hkey
    have hd : l.getD i (0, 0) = (kk, jv) := by rw [List.getD_eq_getElem?_getD, e]; rfl
    rw [hd]
    exact ⟨t', rfl⟩
end
end Mine
namespace Mine
open PySem PySem.W PyProof.Rows PySem.Calls

section
variable {prog : Program} {w : World} {A : Around} {s : Shared}
/-- a comprehension's turns, whatever it binds and tests -/
theorem comp_turns {elt target iter : Expr} {ifs : List Expr} {scope : Scope} {pos : Pos} {it acc : Value} {env : Env} {R : Result → Shared → Prop} (I : Nat → Shared → Prop)
    (turn : ∀ n s, I n s → wpAny (model prog w) A (pyNext it) (fun r s₁ => match r with
      | none => R (.ok .next) s₁
      | some v => wpAny (model prog w) A (letOwnedTupleGo target it v) (fun _ s₀ => wpAny (model prog w) A (assign target env v) (fun _ s₂ =>
          wpAny (model prog w) A (forIn ifs true fun c r => if r = true then do let ok ← isTrue c env (eval c env); pure (ForInStep.yield ok) else pure (ForInStep.yield r)) (fun ok s₃ =>
            if ok = true then wpAny (model prog w) A (eval elt env) (fun x s₄ =>
              wpAny (model prog w) A (call (.builtin "list.append") [acc, x]) (fun _ s₅ => ∃ m, m < n ∧ I m s₅) NoE s₄) NoE s₃
            else ∃ m, m < n ∧ I m s₃) NoE s₂) NoE s₀) NoE s₁) NoE s)
    (n : Nat) (h : I n s) : codeAny (model prog w) A (.compLoop (.ListComp elt [⟨target, iter, ifs, 0⟩] scope pos) 0 it acc env) R s := by
  have up : ∀ {α : Type} {t : Sem α} {Q : α → Shared → Prop} {E : Value → Shared → Prop} {s : Shared}, wpAny (model prog w) A t Q NoE s → wpAny (model prog w) A t Q E s := fun x => wpAny_mono x (fun _ _ y => y) fun _ _ z => z.elim
  refine codeAny_loop rfl I (fun n s hI => ?_) n h
  show wpAny _ A ((compTurn (.ListComp elt [⟨target, iter, ifs, 0⟩] scope pos) 0 it acc env).onRaise (fun x => do noteFrame x env; theTreesLotGoes x)) _ _ s
  refine wpAny_noted ?_
  rw [compTurn_list]
  refine wpAny_bind (wpAny_standAt (wpAny_bind (wpAny_mono (turn n s hI) (fun r s₁ h₁ => ?_) fun _ _ h' => h'.elim)))
  cases r with
  | none => exact wpAny_pure h₁
  | some v =>
    refine wpAny_bind (wpAny_mono h₁ (fun _ s₀ h₀' => ?_) fun _ _ h' => h'.elim)
    refine wpAny_bind (wpAny_mono h₀' (fun _ s₂ h₂ => ?_) fun _ _ h' => h'.elim)
    refine wpAny_bind (wpAny_mono h₂ (fun okb s₃ h₃ => ?_) fun _ _ h' => h'.elim)
    cases okb with
    | false => exact wpAny_pure ⟨rfl, h₃⟩
    | true => exact wpAny_bind (wpAny_bind (wpAny_mono h₃ (fun x s₄ h₄ => wpAny_bind (wpAny_mono h₄ (fun _ s₅ h₅ => wpAny_pure (wpAny_pure ⟨rfl, h₅⟩)) fun _ _ h' => h'.elim)) fun _ _ h' => h'.elim))

noncomputable def cloF (cells : List (Str × Addr)) : List (Str × NameKind) → List (Str × Addr) → List (Str × Addr)
  | [], acc => acc
  | (n, k) :: r, acc => if k == .free then cloF cells r ((n, (cells.lookup n).getD 0) :: acc) else cloF cells r acc
theorem closure_eq {env : Env} : ∀ (names : List (Str × NameKind)) (acc : List (Str × Addr)), (names.all fun p => p.2 != .free || (env.cells.lookup p.1).isSome) = true →
    (forIn names acc fun (x : Str × NameKind) (r : List (Str × Addr)) => (do let (name, kind) := x; if kind == .free then do let __do_lift ← cellOf env name; pure (ForInStep.yield ((name, __do_lift) :: r)) else pure (ForInStep.yield r) : Sem (ForInStep (List (Str × Addr))))) = pure (cloF env.cells names acc)
  | [], acc, _ => rfl
  | (n, k) :: r, acc, h => by
    rw [List.all_cons, Bool.and_eq_true] at h
    rw [List.forIn_cons, cloF]
    by_cases hk : (k == .free) = true
    · have hs : (env.cells.lookup n).isSome = true := by
        rcases Bool.or_eq_true_iff.mp h.1 with q | q
        · simp only [bne_iff_ne, ne_eq] at q; exact absurd (eq_of_beq hk) q
        · exact q
      obtain ⟨c, hc⟩ := Option.isSome_iff_exists.mp hs
      simp only [hk, if_true, cellOf, hc, Option.getD_some]
      exact closure_eq r _ h.2
    · simp only [hk]
      exact closure_eq r _ h.2
theorem closureFor_eq {scope : Scope} {env : Env} (h : (scope.names.all fun p => p.2 != .free || (env.cells.lookup p.1).isSome) = true) : closureFor scope env = pure (cloF env.cells scope.names []) := by
  unfold closureFor
  have := closure_eq (env := env) scope.names [] h
  simp only [bind_pure] at this ⊢
  exact this
theorem clo_ok {cells : List (Str × Addr)} : ∀ (names : List (Str × NameKind)) (acc : List (Str × Addr)), (names.all fun p => p.2 != .free || (cells.lookup p.1).isSome) = true → (∀ p ∈ acc, cells.lookup p.1 = some p.2) → ∀ p ∈ cloF cells names acc, cells.lookup p.1 = some p.2
  | [], acc, _, h, p, m => h p m
  | (n, k) :: r, acc, h, ha, p, m => by
    rw [List.all_cons, Bool.and_eq_true] at h
    unfold cloF at m
    by_cases hk : (k == .free) = true
    · rw [if_pos hk] at m
      have hs : (cells.lookup n).isSome = true := by
        rcases Bool.or_eq_true_iff.mp h.1 with q | q
        · simp only [bne_iff_ne, ne_eq] at q; exact absurd (eq_of_beq hk) q
        · exact q
      obtain ⟨c, hc⟩ := Option.isSome_iff_exists.mp hs
      refine clo_ok r _ h.2 (fun q mq => ?_) p m
      rcases List.mem_cons.mp mq with rfl | mq
      · simp [hc]
      · exact ha q mq
    · rw [if_neg hk] at m
      exact clo_ok r _ h.2 ha p m
theorem clo_mono {cells : List (Str × Addr)} {n : Str} : ∀ (names : List (Str × NameKind)) (acc : List (Str × Addr)), n ∈ acc.map (·.1) → n ∈ (cloF cells names acc).map (·.1)
  | [], acc, h => h
  | (m, k) :: r, acc, h => by
    unfold cloF
    split
    · exact clo_mono r _ (.tail _ h)
    · exact clo_mono r _ h
theorem clo_has {cells : List (Str × Addr)} {n : Str} : ∀ (names : List (Str × NameKind)) (acc : List (Str × Addr)), (n, NameKind.free) ∈ names → n ∈ (cloF cells names acc).map (·.1)
  | (m, k) :: r, acc, h => by
    unfold cloF
    rcases List.mem_cons.mp h with e | h
    · cases e
      simp only [beq_self_eq_true, if_true]
      exact clo_mono r _ (.head _)
    · split
      · exact clo_has r _ h
      · exact clo_has r _ h
theorem lookup_isSome_of_mem {α : Type} {x : Str} : ∀ {l : List (Str × α)}, x ∈ l.map (·.1) → (l.lookup x).isSome = true
  | (n, v) :: r, h => by
    rw [List.lookup_cons]
    by_cases hx : (x == n) = true
    · rw [hx]; rfl
    · simp only [Bool.not_eq_true] at hx
      rw [hx]
      rcases List.mem_cons.mp h with e | h
      · exact absurd (show (x == n) = true by rw [show x = n from e]; exact beq_self_eq_true _) (by simp [hx])
      · exact lookup_isSome_of_mem h
theorem relabel_of {env : Env} {y : Str} {kd : NameKind} : ∀ {names : List (Str × NameKind)}, (∀ p ∈ names, p.2 ≠ .cell) →
    (names.map fun (n, k) => if (k == NameKind.free && env.scope.kind == .function && env.kindOf n == some .cell) then (n, NameKind.cell) else (n, k)).lookup y = some kd → (kd = .cell ∨ kd = .free) → names.lookup y = some .free
  | [], _, h, _ => by simp at h
  | (n, k) :: r, hc, h, hk => by
    have ih := @relabel_of env y kd r fun p m => hc p (.tail _ m)
    rw [List.map_cons, List.lookup_cons] at h
    rw [List.lookup_cons]
    by_cases hy : (y == n) = true
    · rw [hy]
      by_cases hq : (k == NameKind.free && env.scope.kind == .function && env.kindOf n == some .cell) = true
      · simp only [Bool.and_eq_true, beq_iff_eq] at hq
        simp [hq.1.1]
      · rw [if_neg hq] at h
        dsimp only at h
        rw [hy] at h
        have : k ≠ .cell := hc (n, k) (.head _)
        have h := Option.some.inj h
        subst h
        rcases hk with e | e
        · exact absurd e this
        · rw [e]
    · simp only [Bool.not_eq_true] at hy
      have e : (y == (if (k == NameKind.free && env.scope.kind == .function && env.kindOf n == some .cell) = true then (n, NameKind.cell) else (n, k)).1) = false := by split <;> exact hy
      simp only [e, hy] at h ⊢
      exact ih h hk
theorem relabel_local {env : Env} {y : Str} : ∀ {names : List (Str × NameKind)},
    (names.map fun (n, k) => if (k == NameKind.free && env.scope.kind == .function && env.kindOf n == some .cell) then (n, NameKind.cell) else (n, k)).lookup y = some .local → names.lookup y = some .local
  | [], h => by simp at h
  | (n, k) :: r, h => by
    have ih := @relabel_local env y r
    rw [List.map_cons, List.lookup_cons] at h
    rw [List.lookup_cons]
    by_cases hy : (y == n) = true
    · rw [hy]
      by_cases hq : (k == NameKind.free && env.scope.kind == .function && env.kindOf n == some .cell) = true
      · rw [if_pos hq] at h
        dsimp only at h
        rw [hy] at h; cases h
      · rw [if_neg hq] at h
        dsimp only at h
        rw [hy] at h; exact h
    · simp only [Bool.not_eq_true] at hy
      have e : (y == (if (k == NameKind.free && env.scope.kind == .function && env.kindOf n == some .cell) = true then (n, NameKind.cell) else (n, k)).1) = false := by split <;> exact hy
      simp only [e, hy] at h ⊢
      exact ih h
end

section
variable {w : World} {k : Nat} {env : Env} {H : List Addr} {Mu : List (Addr × PD)} {ρ ρ' : Str → Option PD} {h : Heap}
theorem StE.forget (S : StE w env H Mu ρ h) (f : ∀ x d, ρ' x = some d → ρ x = some d) : StE w env H Mu ρ' h :=
  { S with
    ns := let ⟨m, a, b⟩ := S.ns; ⟨m, a, fun x d e => b x d (f x d e)⟩
    cl := fun x d e => S.cl x d (f x d e) }

noncomputable abbrev cenvOf (env : Env) (scope : Scope) (C : Addr) : Env := compEnvC scope (cloF env.cells scope.names []) C env
/-- what a comprehension sees of its frame's names -/
noncomputable abbrev seen (scope : Scope) (ρ : Str → Option PD) : Str → Option PD := fun y => if scope.names.lookup y = some .local then none else ρ y

/-- the comprehension's frame, just made -/
theorem comp_state {C : Addr} {H' : List Addr} {h' : Heap} {scope : Scope} (S : StE w env H Mu ρ h) (s : Sub h h') (hC : h.get? C = none) (hn : h'.Ns C fun _ => none) (hH : ∀ q ∈ hid env Mu H, q ∈ H') (hN : ∀ q ∈ H', q ∉ hid env Mu H → h.get? q = none) (hA : ∀ q ∈ H', ∃ o, h'.get? q = some o)
    (hfr : (scope.names.all fun p => p.2 != .free || ((env.cells.lookup p.1).isSome && (env.kindOf p.1 == some .cell || env.kindOf p.1 == some .free))) = true) (hcell : ∀ p ∈ scope.names, p.2 ≠ .cell) (hk : scope.kind = .function) :
    StE w (cenvOf env scope C) H' Mu (seen scope ρ) h' := by
  have hfr1 : (scope.names.all fun p => p.2 != .free || (env.cells.lookup p.1).isSome) = true := List.all_eq_true.mpr fun p m => by
    have := List.all_eq_true.mp hfr p m
    rcases Bool.or_eq_true_iff.mp this with q | q
    · simp [q]
    · simp only [Bool.and_eq_true] at q; simp [q.1]
  have hcl : ∀ p ∈ cloF env.cells scope.names [], env.cells.lookup p.1 = some p.2 := clo_ok scope.names [] hfr1 fun p m => nomatch m
  have hown : ∀ q ∈ own (cenvOf env scope C) Mu, q = C ∨ q ∈ hid env Mu H := fun q m => by
    rcases List.mem_cons.mp m with rfl | m
    · exact .inl rfl
    · rcases List.mem_append.mp m with m | m
      · obtain ⟨p, hp, rfl⟩ := List.mem_map.mp m
        exact .inr (List.mem_append_left _ (.tail _ (List.mem_append_left _ (List.mem_map.mpr ⟨_, mem_of_lookup (hcl p hp), rfl⟩))))
      · exact .inr (List.mem_append_left _ (.tail _ (List.mem_append_right _ m)))
  have z : Sub (Fz (hid env Mu H) h) (Fz (hid (cenvOf env scope C) Mu H') h') := Fz_more' (.of s) fun q m n => by
    rcases List.mem_append.mp m with m | m
    · rcases hown q m with rfl | m
      · exact hC
      · exact absurd m n
    · exact hN q m n
  refine { gd := S.gd.sub z, ns := ⟨_, hn, fun x d e kd => ?_⟩, cl := fun x d e kd => ?_, ce := fun p hp => ?_, cd := fun x y c h1 h2 => S.cd x y c (hcl _ (mem_of_lookup h1)) (hcl _ (mem_of_lookup h2)), mu := fun p hp => (S.mu p hp).keep (fun o e => s _ _ e) z, md := S.md, lm := fun m => ?_, hl := hA, eg := S.eg, eb := S.eb, ek := hk }
  · have : scope.names.lookup x = some .local := relabel_local (env := env) kd
    simp only [seen, this, if_true] at e
    cases e
  · have hx : scope.names.lookup x = some .free := by
      rcases kd with kd | kd
      · exact relabel_of (env := env) hcell kd (.inl rfl)
      · exact relabel_of (env := env) hcell kd (.inr rfl)
    have e : ρ x = some d := by
      simp only [seen, hx] at e
      simpa using e
    have hm := mem_of_lookup hx
    have hq := List.all_eq_true.mp hfr _ hm
    simp only [bne_self_eq_false, Bool.false_or, Bool.and_eq_true, Bool.or_eq_true, beq_iff_eq] at hq
    obtain ⟨c, v, a, b, r⟩ := S.cl x d e hq.2
    obtain ⟨c', hc'⟩ := Option.isSome_iff_exists.mp (lookup_isSome_of_mem (clo_has (cells := env.cells) scope.names [] hm))
    have : env.cells.lookup x = some c' := hcl _ (mem_of_lookup hc')
    rw [a] at this
    cases this
    exact ⟨c, v, hc', isCell_sub s b, r.sub z⟩
  · obtain ⟨v, b⟩ := S.ce (p.1, p.2) (mem_of_lookup (hcl p hp))
    exact ⟨v, isCell_sub s b⟩
  · obtain ⟨p, hp, e⟩ := List.mem_map.mp m
    obtain ⟨o, q⟩ := (S.mu p hp).alive
    rw [e] at q
    rw [show (cenvOf env scope C).locals = C from rfl, hC] at q
    cases q

noncomputable def Tsts (w : World) (k : Nat) (env : Env) (Mu : List (Addr × PD)) (ρ : Str → Option PD) (ifs : List Expr) (b : Bool) : Prop :=
  ∀ (A : Around) (H : List Addr) (s : Shared), OkA A k → StE w env H Mu ρ s.heap → wpAny (MM w) A (forIn ifs true fun c r => if r = true then do let ok ← isTrue c env (eval c env); pure (ForInStep.yield ok) else pure (ForInStep.yield r)) (fun c s' => Kp s s' ∧ c = b) NoE s
theorem tsts_nil : Tsts w k env Mu ρ [] true := fun A H s hA S => wpAny_tests_nil ⟨Kp.rfl s, rfl⟩
theorem tsts_one {c : Expr} {b : Bool} (t : Tst w k env Mu ρ c b) : Tsts w k env Mu ρ [c] b := fun A H s hA S => wpAny_tests_one (t A H s hA S)
end
end Mine
namespace Mine
open PySem PySem.W PyProof.Rows PySem.Calls

section
variable {w : World} {k : Nat} {env : Env} {H : List Addr} {Mu : List (Addr × PD)} {ρ : Str → Option PD}

/-- the items that a comprehension makes in its first i turns -/
noncomputable def outOf (p : Nat → Bool) (f : Nat → PD) : Nat → List PD
  | 0 => []
  | i + 1 => outOf p f i ++ (if p i then [f i] else [])
theorem outOf_len (p : Nat → Bool) (f : Nat → PD) : ∀ i, (outOf p f i).length ≤ i
  | 0 => Nat.le_refl _
  | i + 1 => by
    have := outOf_len p f i
    unfold outOf
    rw [List.length_append]
    split <;> simp <;> omega

/-- what holds when a list comprehension has run -/
structure CompDone (w : World) (env : Env) (H : List Addr) (Mu : List (Addr × PD)) (s : Shared) (out : List PD) (D C : Addr) (s' : Shared) : Prop where
  gr : Grew s s'
  sb : Sub s.heap s'.heap
  nD : s.heap.get? D = none
  nC : s.heap.get? C = none
  ne : C ≠ D
  ns : ∃ m, s'.heap.Ns C m
  li : ∃ vs, s'.heap.PlainList D (List.toArray vs) ∧ Rds w (Fz (C :: D :: hid env Mu H) s'.heap) out vs

structure CompOk (env : Env) (scope : Scope) : Prop where
  fr : (scope.names.all fun p => p.2 != .free || ((env.cells.lookup p.1).isSome && (env.kindOf p.1 == some .cell || env.kindOf p.1 == some .free))) = true
  cell : ∀ p ∈ scope.names, p.2 ≠ .cell
  kd : scope.kind = .function
  names : ∀ y ∈ scope.names, y.2 = .local → scope.names.lookup y.1 = some .local
theorem CompOk.clo {env : Env} {scope : Scope} (x : CompOk env scope) : closureFor scope env = pure (cloF env.cells scope.names []) := closureFor_eq (List.all_eq_true.mpr fun p m => by
  have := List.all_eq_true.mp x.fr p m
  rcases Bool.or_eq_true_iff.mp this with q | q
  · simp [q]
  · simp only [Bool.and_eq_true] at q; simp [q.1])

theorem relabel_local' {env : Env} {scope : Scope} {C : Addr} {y : Str} (h : scope.names.lookup y = some .local) : (cenvOf env scope C).kindOf y = some .local := lookup_relabel_local h

theorem updL_other : ∀ {bs : List (Str × PD)} {ρ : Str → Option PD} {x : Str}, x ∉ bs.map (·.1) → updL ρ bs x = ρ x
  | [], _, _, _ => rfl
  | b :: bs, ρ, x, h => by
    have h1 : x ≠ b.1 := fun e => h (e ▸ .head _)
    have := updL_other (bs := bs) (ρ := upd ρ b.1 b.2) (x := x) fun m => h (.tail _ m)
    show updL (upd ρ b.1 b.2) bs x = ρ x
    rw [this]
    simp only [upd, if_neg h1]

theorem comp_core {A : Around} {s : Shared} {elt target iter : Expr} {ifs : List Expr} {scope : Scope} {pos : Pos} {n : Nat} {bs : Nat → List (Str × PD)} {p : Nat → Bool} {f : Nat → PD} {RR : Value → Addr → Result → Shared → Prop}
    (hA : OkA A k) (S : StE w env H Mu ρ s.heap) (it : Itr w k env Mu ρ target iter n bs) (ok : CompOk env scope) (hbs : ∀ i, i < n → ∀ q ∈ bs i, scope.names.lookup q.1 = some .local) (hsz : n ≤ 1000)
    (tests : ∀ i, i < n → ∀ C, Tsts w k (cenvOf env scope C) Mu (updL (seen scope ρ) (bs i)) ifs (p i))
    (el : ∀ i, i < n → p i = true → ∀ C, EvD w k (cenvOf env scope C) Mu (updL (seen scope ρ) (bs i)) elt (f i))
    (hRR : ∀ D C s', CompDone w env H Mu s (outOf p f n) D C s' → RR (.ref D) C (.ok .next) s') :
    wpAny (MM w) A (eval iter env) (fun xv s₁ => wpAny (MM w) A (pyIter xv) (fun itv s₂ => wpAny (MM w) A (newList []) (fun acc s₃ =>
      wpAny (MM w) A (newFunctionEnv scope env.globals (cloF env.cells scope.names []) [] env.qual none .none (some env)) (fun cenv s₄ =>
        codeAny (MM w) A (.compStart (.ListComp elt [⟨target, iter, ifs, 0⟩] scope pos) 0 itv acc { cenv with scope := relabel scope env }) (RR acc cenv.locals) s₄) NoE s₃) NoE s₂) NoE s₁) NoE s := by
  refine wpn (it A H s hA S) fun xv s₁ x => wpn x fun itv s₂ ⟨kp, I, fp, wr, P, Md, Sti, e, W, st, hw, hal, hfp, self, asg⟩ => ?_
  subst e
  refine wpAny_newObj_type (wpAny_newFunctionEnv ok.cell (by intro y hy; simp at hy) (fun h₄ hns hsb => ?_) ok.kd)
  dsimp only at hns hsb ⊢
  generalize hH3 : s₂.heap.push { cls := .type "list", dict := none, data := .seq ([] : List Value).toArray } = H3 at hns hsb ⊢
  have hC : H3.objs.size = s₂.heap.objs.size + 1 := by rw [← hH3, Heap.size_push]
  have nD2 : s₂.heap.get? s₂.heap.objs.size = none := none_of_size
  have nC2 : s₂.heap.get? H3.objs.size = none := none_of_le (by rw [hC]; exact Nat.le_succ _)
  have nD : s.heap.get? s₂.heap.objs.size = none := none_back kp.heap nD2
  have nC : s.heap.get? H3.objs.size = none := none_back kp.heap nC2
  have hCD : H3.objs.size ≠ s₂.heap.objs.size := by rw [hC]; exact Nat.succ_ne_self _
  have s23 : Sub s₂.heap H3 := by rw [← hH3]; exact sub_push _ _
  have s34 : Sub H3 h₄ := fun b o e => hsb.extBut b o (Nat.ne_of_lt (Heap.lt_size e)) (Heap.get?_push_of_some _ e)
  have s24 := Sub.trans s23 s34
  have s04 := Sub.trans kp.heap s24
  have hacc : h₄.PlainList s₂.heap.objs.size #[] := ⟨_, s34 _ _ (hH3 ▸ Heap.get?_push_size _ rfl)⟩
  have hn : h₄.Ns H3.objs.size fun _ => none := hns
  -- what the comprehension's frame hides
  let H' : List Addr := s₂.heap.objs.size :: (wr ++ hid env Mu H)
  have hH : ∀ q ∈ hid env Mu H, q ∈ H' := fun q m => .tail _ (List.mem_append_right _ m)
  have hN : ∀ q ∈ H', q ∉ hid env Mu H → s.heap.get? q = none := fun q m n' => by
    rcases List.mem_cons.mp m with rfl | m
    · exact nD
    · rcases List.mem_append.mp m with m | m
      · exact hw q m
      · exact absurd m n'
  have aliveH : ∀ g : Heap, Sub s.heap g → (∃ i, Sti i g) → (∃ us, g.PlainList s₂.heap.objs.size (List.toArray us)) → ∀ q ∈ H', ∃ o, g.get? q = some o := fun g sg ⟨i, si⟩ ⟨us, n', pl⟩ q m => by
    rcases List.mem_cons.mp m with rfl | m
    · exact ⟨_, pl⟩
    · rcases List.mem_append.mp m with m | m
      · exact hal _ _ si q (W.sub q m)
      · obtain ⟨o, e⟩ := S.alive q m; exact ⟨o, sg _ _ e⟩
  have fpAlive : ∀ b ∈ fp, ∃ o, s₂.heap.get? b = some o := hal _ _ st
  have fpD : s₂.heap.objs.size ∉ fp := fun m => by obtain ⟨o, e⟩ := fpAlive _ m; rw [nD2] at e; cases e
  have fpC : H3.objs.size ∉ fp := fun m => by obtain ⟨o, e⟩ := fpAlive _ m; rw [nC2] at e; cases e
  have st₄ : Sti 0 h₄ := W.frame _ _ _ st fun b _ o e => s24 b o e
  have S₄ : StE w (cenvOf env scope H3.objs.size) H' Mu (seen scope ρ) h₄ := comp_state S s04 nC hn hH hN (aliveH h₄ s04 ⟨0, st₄⟩ ⟨[], hacc⟩) ok.fr ok.cell ok.kd
  have dC : ∀ q ∈ own (cenvOf env scope H3.objs.size) Mu, q ≠ H3.objs.size → ∃ o, s.heap.get? q = some o := fun q m n' => by
    rcases List.mem_cons.mp m with rfl | m
    · exact absurd rfl n'
    · have hcl : ∀ p ∈ cloF env.cells scope.names [], env.cells.lookup p.1 = some p.2 := clo_ok scope.names [] (List.all_eq_true.mpr fun p m => by
        have := List.all_eq_true.mp ok.fr p m
        rcases Bool.or_eq_true_iff.mp this with q | q
        · simp [q]
        · simp only [Bool.and_eq_true] at q; simp [q.1]) fun p m => nomatch m
      rcases List.mem_append.mp m with m | m
      · obtain ⟨p, hp, rfl⟩ := List.mem_map.mp m
        exact S.alive _ (List.mem_append_left _ (.tail _ (List.mem_append_left _ (List.mem_map.mpr ⟨_, mem_of_lookup (hcl p hp), rfl⟩))))
      · exact S.alive _ (List.mem_append_left _ (.tail _ (List.mem_append_right _ m)))
  -- an object that the turn may change is none that stood before
  have wrN : ∀ q ∈ wr, q ∉ own (cenvOf env scope H3.objs.size) Mu := fun q m m' => by
    by_cases hq : q = H3.objs.size
    · exact fpC (hq ▸ W.sub q m)
    · obtain ⟨o, e⟩ := dC q m' hq; rw [hw q m] at e; cases e
  have DN : s₂.heap.objs.size ∉ own (cenvOf env scope H3.objs.size) Mu := fun m' => by
    obtain ⟨o, e⟩ := dC _ m' (Ne.symm hCD); rw [nD] at e; cases e
  let Inv : Nat → Shared → Prop := fun q s' => ∃ i us, Grew s s' ∧ Sub s.heap s'.heap ∧ Sti i s'.heap ∧ s'.heap.PlainList s₂.heap.objs.size (List.toArray us) ∧ Rds w (Fz (hid (cenvOf env scope H3.objs.size) Mu H') s'.heap) (outOf p f i) us ∧
    StE w (cenvOf env scope H3.objs.size) H' Mu (seen scope ρ) s'.heap ∧ Sub (Fz (wr ++ hid env Mu H) s₂.heap) (Fz (hid (cenvOf env scope H3.objs.size) Mu H') s'.heap) ∧ i ≤ n ∧ q = n + 1 - i
  have z0 : Sub (Fz (wr ++ hid env Mu H) s₂.heap) (Fz (hid (cenvOf env scope H3.objs.size) Mu H') h₄) := Fz_more' (.of s24) fun q m n' => by
    rcases List.mem_append.mp m with m | m
    · by_cases hq : q = H3.objs.size
      · rw [hq]; exact nC2
      · obtain ⟨o, e⟩ := dC q m hq
        exfalso
        refine n' (List.mem_append_right _ ?_)
        rcases List.mem_cons.mp m with rfl | m
        · exact absurd rfl hq
        · have hcl : ∀ p ∈ cloF env.cells scope.names [], env.cells.lookup p.1 = some p.2 := clo_ok scope.names [] (List.all_eq_true.mpr fun p m => by
            have := List.all_eq_true.mp ok.fr p m
            rcases Bool.or_eq_true_iff.mp this with q | q
            · simp [q]
            · simp only [Bool.and_eq_true] at q; simp [q.1]) fun p m => nomatch m
          rcases List.mem_append.mp m with m | m
          · obtain ⟨p, hp, rfl⟩ := List.mem_map.mp m
            exact List.mem_append_left _ (.tail _ (List.mem_append_left _ (List.mem_map.mpr ⟨_, mem_of_lookup (hcl p hp), rfl⟩)))
          · exact List.mem_append_left _ (.tail _ (List.mem_append_right _ m))
    · rcases List.mem_cons.mp m with rfl | m
      · exact nD2
      · exact absurd m n'
  have loop : ∀ s₅ : Shared, s₅ = { s₂ with heap := h₄, toks := s₂.toks + ([] : List (Str × Value)).length } → codeAny (MM w) A (.compLoop (.ListComp elt [⟨target, iter, ifs, 0⟩] scope pos) 0 (.ref I) (.ref s₂.heap.objs.size) (cenvOf env scope H3.objs.size)) (RR (.ref s₂.heap.objs.size) H3.objs.size) s₅ := by
    rintro s₅ rfl
    refine comp_turns Inv ?_ (n + 1) ⟨0, [], kp.grew.trans ⟨_, _, rfl⟩, s04, st₄, hacc, Rds.nil, S₄, z0, Nat.zero_le _, rfl⟩
    rintro q s' ⟨i, us, g, sg, sti, pl, r, S', z, hi, rfl⟩
    by_cases hlt : i < n
    · refine wpn (W.item i s' (fun r s₁ => ∃ v, r = some v ∧ Grew s' s₁ ∧ Md i v s₁.heap ∧ KB wr s'.heap s₁.heap) NoE hlt sti fun v h₁ tk md kb => ⟨v, rfl, ⟨_, _, rfl⟩, md, fun b o n' e => kb b o n' e⟩) fun r' t₁ ⟨v, e, g₁, md, kb₁⟩ => ?_
      subst e
      dsimp only
      refine wpn (W.go i v t₁ (fun _ s₂ => Grew t₁ s₂ ∧ P i v s₂.heap ∧ Sti (i + 1) s₂.heap ∧ KB wr t₁.heap s₂.heap) NoE md fun h₂ p₂ st₂ kb => ⟨⟨_, _, rfl⟩, p₂, st₂, fun b o n' e => kb b o n' e⟩) fun _ t₂ ⟨g₂, p₂, st₂, kb₂⟩ => ?_
      have kb := kb₁.trans kb₂
      have hwr : ∀ q ∈ wr, q ∈ hid (cenvOf env scope H3.objs.size) Mu H' := fun q m => List.mem_append_right _ (.tail _ (List.mem_append_left _ m))
      have sg₂ : Sub s.heap t₂.heap := fun b o e => kb b o (fun m => by rw [hw b m] at e; cases e) (sg b o e)
      have pl₂ : t₂.heap.PlainList s₂.heap.objs.size (List.toArray us) := pl.at fun o e => kb _ o (fun m => fpD (W.sub _ m)) e
      have z12 : Sub (Fz (hid (cenvOf env scope H3.objs.size) Mu H') s'.heap) (Fz (hid (cenvOf env scope H3.objs.size) Mu H') t₂.heap) := Fz_mono (kb.mono hwr)
      have S₂ : StE w (cenvOf env scope H3.objs.size) H' Mu (seen scope ρ) t₂.heap := S'.move z12 (fun q m o e => kb q o (fun x => wrN q x m) e) (aliveH _ sg₂ ⟨_, st₂⟩ ⟨us, pl₂⟩)
      refine wpn (asg (cenvOf env scope H3.objs.size) A i v t₂ H' Mu (seen scope ρ) hA.h hlt p₂ S₂ (Sub.trans z z12) fun q m => by rw [relabel_local' (hbs i hlt q m)]; rfl) fun _ t₃ ⟨g₃, S₃, kb₃⟩ => ?_
      have kbC : KB [H3.objs.size] t₂.heap t₃.heap := kb₃.2 fun y m => by
        obtain ⟨q, hq, rfl⟩ := List.mem_map.mp m
        exact relabel_local' (hbs i hlt q hq)
      have sg₃ : Sub s.heap t₃.heap := fun b o e => kbC b o (fun m => by rw [List.mem_singleton.mp m, nC] at e; cases e) (sg₂ b o e)
      have pl₃ : t₃.heap.PlainList s₂.heap.objs.size (List.toArray us) := pl₂.at fun o e => kbC _ o (fun m => hCD (List.mem_singleton.mp m).symm) e
      have z23 : Sub (Fz (hid (cenvOf env scope H3.objs.size) Mu H') t₂.heap) (Fz (hid (cenvOf env scope H3.objs.size) Mu H') t₃.heap) := Fz_mono (kbC.mono fun q m => by rw [List.mem_singleton.mp m]; exact .head _)
      have gg : Grew s t₃ := ((g.trans g₁).trans g₂).trans g₃
      have again : ∀ (t : Shared) (us' : List Value), Grew t₃ t → KB [s₂.heap.objs.size] t₃.heap t.heap → t.heap.PlainList s₂.heap.objs.size (List.toArray us') → Rds w (Fz (hid (cenvOf env scope H3.objs.size) Mu H') t.heap) (outOf p f (i + 1)) us' → ∃ m, m < n + 1 - i ∧ Inv m t := fun t us' gt kt pt rt => by
        have st' : Sti (i + 1) t.heap := W.frame _ _ _ st₂ fun b m o e => kt b o (fun x => fpD (List.mem_singleton.mp x ▸ m)) (kbC b o (fun x => fpC (List.mem_singleton.mp x ▸ m)) e)
        have sgt : Sub s.heap t.heap := fun b o e => kt b o (fun m => by rw [List.mem_singleton.mp m, nD] at e; cases e) (sg₃ b o e)
        have zt : Sub (Fz (hid (cenvOf env scope H3.objs.size) Mu H') t₃.heap) (Fz (hid (cenvOf env scope H3.objs.size) Mu H') t.heap) := Fz_mono (kt.mono fun q m => by rw [List.mem_singleton.mp m]; exact List.mem_append_right _ (.head _))
        have S₃' : StE w (cenvOf env scope H3.objs.size) H' Mu (seen scope ρ) t₃.heap := S₃.forget fun x d e => by
          rw [updL_other fun m => ?_]; exact e
          obtain ⟨q, hq, rfl⟩ := List.mem_map.mp m
          simp only [seen, hbs i hlt q hq, if_true] at e
          cases e
        exact ⟨n + 1 - (i + 1), by omega, i + 1, us', gg.trans gt, sgt, st', pt, rt, S₃'.move zt (fun q m o e => kt q o (fun x => DN (List.mem_singleton.mp x ▸ m)) e) (aliveH _ sgt ⟨_, st'⟩ ⟨us', pt⟩), Sub.trans (Sub.trans (Sub.trans z z12) z23) zt, hlt, rfl⟩
      have r₃ := (r.sub z12).sub z23
      refine wpn (tests i hlt H3.objs.size A H' t₃ hA S₃) fun c t₄ ⟨k₄, ec⟩ => ?_
      cases hp : p i with
      | false =>
        rw [ec, hp]
        simp only [Bool.false_eq_true, if_false]
        refine again t₄ us k₄.grew (.of k₄.heap) (pl₃.at fun o e => k₄.heap _ o e) ?_
        unfold outOf
        simp only [hp, Bool.false_eq_true, if_false, List.append_nil]
        exact r₃.sub (fz_up k₄)
      | true =>
        rw [ec, hp]
        simp only [if_true]
        refine wpn (el i hlt hp H3.objs.size A H' t₄ hA (S₃.sub k₄.heap)) fun v t₅ ⟨k₅, rv⟩ => ?_
        have k35 := k₄.trans k₅
        have pl₅ : t₅.heap.PlainList s₂.heap.objs.size (List.toArray us) := pl₃.at fun o e => k35.heap _ o e
        have hus : us.length ≤ 1000 := by rw [r.length]; exact Nat.le_trans (outOf_len p f i) (by omega)
        refine wpAny_list_append_plain pl₅ (fun h₆ p₆ sb₆ => ?_) (by rw [List.size_toArray, sizeLine_eq]; omega)
        have k56 : KB [s₂.heap.objs.size] t₅.heap h₆ := KB.same sb₆ (.head _)
        have z56 : Sub (Fz (hid (cenvOf env scope H3.objs.size) Mu H') t₅.heap) (Fz (hid (cenvOf env scope H3.objs.size) Mu H') h₆) := Fz_mono (k56.mono fun q m => by rw [List.mem_singleton.mp m]; exact List.mem_append_right _ (.head _))
        refine again _ (us ++ [v]) (k35.grew.trans ⟨h₆, t₅.toks, rfl⟩) ((KB.of k35.heap).trans k56) (by rw [show (us ++ [v]).toArray = us.toArray.push v by simp]; exact p₆) ?_
        unfold outOf
        simp only [hp, if_true]
        exact Rds.snoc ((r₃.sub (fz_up k35)).sub z56) (rv.sub z56)
    · have hin : i = n := by omega
      subst hin
      refine wpn (W.done s' (fun r s₁ => r = none ∧ Grew s' s₁ ∧ KB wr s'.heap s₁.heap) NoE sti fun h₁ tk kb => ⟨rfl, ⟨_, _, rfl⟩, fun b o n' e => kb b o n' e⟩) fun r' t₁ ⟨e, g₁, kb⟩ => ?_
      subst e
      dsimp only
      have sg₁ : Sub s.heap t₁.heap := fun b o e => kb b o (fun m => by rw [hw b m] at e; cases e) (sg b o e)
      have hwr : ∀ q ∈ wr, q ∈ hid (cenvOf env scope H3.objs.size) Mu H' := fun q m => List.mem_append_right _ (.tail _ (List.mem_append_left _ m))
      refine hRR _ _ _ ⟨g.trans g₁, sg₁, nD, nC, hCD, ?_, us, pl.at fun o e => kb _ o (fun m => fpD (W.sub _ m)) e, r.sub (Sub.trans (Fz_mono (kb.mono hwr)) (Fz_less fun q m => ?_))⟩
      · obtain ⟨m, ⟨o, es, ep, e, rr⟩, _⟩ := S'.ns
        exact ⟨m, o, es, ep, kb _ o (fun m => fpC (W.sub _ m)) e, rr⟩
      · rcases List.mem_cons.mp m with rfl | m
        · exact .head _
        · rcases List.mem_cons.mp m with rfl | m
          · exact List.mem_append_right _ (.head _)
          · exact List.mem_append_right _ (hH q m)
  have := loop _ rfl
  refine codeAny_compStart_list this ?_
  exact wpAny_mono (self _ _ st₄ (loop _ rfl)) (fun _ _ y => y) fun _ _ z => z.elim
end
end Mine
namespace Mine
open PySem PySem.W PyProof.Rows PySem.Calls

section
variable {w : World} {k : Nat} {env : Env} {H : List Addr} {Mu : List (Addr × PD)} {ρ : Str → Option PD} {h h' : Heap} {d : PD} {e : Expr} {N : Nx} {R : PD → Prop} {rest : List Stmt}

/-- the hidden ones, one more -/
theorem hid_cons {D : Addr} : ∀ q, q ∈ hid env ((D, d) :: Mu) H ↔ q ∈ D :: hid env Mu H := fun q => by
  simp only [hid, own, List.map_cons, List.mem_append, List.mem_cons]
  constructor
  · rintro ((a | a | a | a) | a) <;> simp [a]
  · rintro (a | (a | a | a) | a) <;> simp [a]
theorem StE.introH {H' : List Addr} {D : Addr} (S : StE w env H Mu ρ h) (s : Sub h h') (n : h.get? D = none) (hh : ∀ q ∈ H', q ∈ H ∨ h.get? q = none) (hal : ∀ q ∈ H', ∃ o, h'.get? q = some o) (m : MutAt w (D :: hid env Mu H') h' D d) : StE w env H' ((D, d) :: Mu) ρ h' := by
  have z : Sub (Fz (hid env Mu H) h) (Fz (hid env ((D, d) :: Mu) H') h') := Fz_more' (.of s) fun q m n' => by
    rcases List.mem_cons.mp ((hid_cons q).mp m) with rfl | m
    · exact n
    · rcases List.mem_append.mp m with m | m
      · exact absurd (List.mem_append_left _ m) n'
      · rcases hh q m with m | m
        · exact absurd (List.mem_append_right _ m) n'
        · exact m
  have z2 : Sub (Fz (D :: hid env Mu H') h') (Fz (hid env ((D, d) :: Mu) H') h') := Fz_less fun q m => (hid_cons q).mp m
  refine { gd := S.gd.sub z, ns := ?_, cl := fun x d e kd => ?_, ce := fun p hp => ?_, cd := S.cd, mu := fun p hp => ?_, md := ?_, lm := fun q => ?_, hl := hal, eg := S.eg, eb := S.eb, ek := S.ek }
  · obtain ⟨m, a, b⟩ := S.ns
    exact ⟨m, a.keeps s, fun x d e kd => let ⟨v, p, q⟩ := b x d e kd; ⟨v, p, q.sub z⟩⟩
  · obtain ⟨c, v, a, b, r⟩ := S.cl x d e kd
    exact ⟨c, v, a, isCell_sub s b, r.sub z⟩
  · obtain ⟨v, b⟩ := S.ce p hp
    exact ⟨v, isCell_sub s b⟩
  · rcases List.mem_cons.mp hp with rfl | hp
    · exact m.keep (fun _ e => e) z2
    · exact (S.mu p hp).keep (fun o e => s _ _ e) z
  · refine List.nodup_cons.mpr ⟨fun m => ?_, S.md⟩
    obtain ⟨p, hp, e⟩ := List.mem_map.mp m
    obtain ⟨o, q⟩ := (S.mu p hp).alive
    rw [e] at q; dsimp only at q; rw [n] at q; cases q
  · rcases List.mem_cons.mp q with e | q
    · obtain ⟨_, ⟨o, _, _, e', _⟩, _⟩ := S.ns
      rw [e] at e'; dsimp only at e'; rw [n] at e'; cases e'
    · exact S.lm q
theorem StE.intro {D : Addr} (S : StE w env H Mu ρ h) (s : Sub h h') (n : h.get? D = none) (m : MutAt w (D :: hid env Mu H) h' D d) : StE w env H ((D, d) :: Mu) ρ h' :=
  S.introH s n (fun _ m => .inl m) (fun q m => let ⟨o, e⟩ := S.hl q m; ⟨o, s _ _ e⟩) m
theorem Ba.intro {h0 : Heap} {D : Addr} (B : Ba h0 env Mu h) (s : Sub h h') (n : h.get? D = none) : Ba h0 env ((D, d) :: Mu) h' := ⟨Sub.trans B.sb s, fun q m => by
  by_cases hq : q = D
  · subst hq; exact none_back B.sb n
  · refine B.no q ?_
    simp only [own, List.map_cons, List.mem_append, List.mem_cons] at m ⊢
    rcases m with a | a | a | a
    · simp [a]
    · simp [a]
    · exact absurd a hq
    · simp [a]⟩

/-- a made object is data when nothing changes it any more -/
theorem MutAt.rd {M : List Addr} {D : Addr} (n : D ∉ M) : ∀ {d : PD}, MutAt w M h D d → Rd w (Fz M h) d (.ref D)
  | .list ds, ⟨vs, ⟨q, e⟩, r⟩ => ⟨D, vs, rfl, ⟨q, Fz_get n e⟩, r⟩
  | .dict l, ⟨kvs, q, x, r⟩ => ⟨D, kvs, rfl, q, by
      obtain ⟨o, e, y⟩ := Heap.dictOf_iff.mp x
      exact Heap.dictOf_iff.mpr ⟨o, Fz_get n e, y⟩, r⟩
  | .none, x => x.elim
  | .bool _, x => x.elim
  | .int _, x => x.elim
  | .tup _, x => x.elim
  | .bytes _, x => x.elim
  | .raw _, x => x.elim
  | .ab _ _, x => x.elim
  | .barr _, x => ⟨D, rfl, Fz_get n x⟩
theorem MutAt.mono {M M' : List Addr} {D : Addr} (s : ∀ q ∈ M', q ∈ M) {d : PD} (x : MutAt w M h D d) : MutAt w M' h D d := x.keep (fun _ e => e) (Fz_less s)

/-- made objects are let go -/
theorem StE.shed {Mu' : List (Addr × PD)} {ρ' : Str → Option PD} (S : StE w env H Mu ρ h) (sb : Mu'.Sublist Mu)
    (f : ∀ x d, ρ' x = some d → ρ x = some d ∨ ∃ D, ρ x = some (.raw (.ref D)) ∧ (D, d) ∈ Mu ∧ D ∉ Mu'.map (·.1) ∧ D ∉ H) : StE w env H Mu' ρ' h := by
  have own' : ∀ q ∈ own env Mu', q ∈ own env Mu := fun q m => by
    rcases List.mem_cons.mp m with rfl | m
    · exact .head _
    · rcases List.mem_append.mp m with m | m
      · exact .tail _ (List.mem_append_left _ m)
      · obtain ⟨p, hp, rfl⟩ := List.mem_map.mp m
        exact .tail _ (List.mem_append_right _ (List.mem_map_of_mem (sb.subset hp)))
  have hid' : ∀ q ∈ hid env Mu' H, q ∈ hid env Mu H := fun q m => by
    rcases List.mem_append.mp m with m | m
    · exact List.mem_append_left _ (own' q m)
    · exact List.mem_append_right _ m
  have z : Sub (Fz (hid env Mu H) h) (Fz (hid env Mu' H) h) := Fz_less hid'
  have fr : ∀ D d, (D, d) ∈ Mu → D ∉ Mu'.map (·.1) → D ∉ H → Rd w (Fz (hid env Mu' H) h) d (.ref D) := fun D d m n nh => by
    refine ((S.mu _ m).mono hid').rd fun q => ?_
    rcases List.mem_append.mp q with q | q
    · rcases List.mem_cons.mp q with q | q
      · exact S.lm (q ▸ List.mem_map_of_mem m)
      · rcases List.mem_append.mp q with q | q
        · obtain ⟨p, hp, e⟩ := List.mem_map.mp q
          obtain ⟨v, C⟩ := S.ce p hp
          have e : p.2 = D := e
          exact mut_not_cell (S.mu _ m) (e ▸ C)
        · exact n q
    · exact nh q
  refine { gd := S.gd.sub z, ns := ?_, cl := fun x d e kd => ?_, ce := S.ce, cd := S.cd, mu := fun p hp => (S.mu p (sb.subset hp)).mono hid', md := (sb.map _).nodup S.md, lm := fun q => S.lm ((sb.map _).subset q), hl := S.hl, eg := S.eg, eb := S.eb, ek := S.ek }
  · obtain ⟨m, a, b⟩ := S.ns
    refine ⟨m, a, fun x d e kd => ?_⟩
    rcases f x d e with e | ⟨D, e, m1, m2, m3⟩
    · obtain ⟨v, p, q⟩ := b x d e kd; exact ⟨v, p, q.sub z⟩
    · obtain ⟨v, p, q⟩ := b x _ e kd
      have q : v = .ref D := q
      exact ⟨v, p, q ▸ fr D d m1 m2 m3⟩
  · rcases f x d e with e | ⟨D, e, m1, m2, m3⟩
    · obtain ⟨c, v, a, b, r⟩ := S.cl x d e kd; exact ⟨c, v, a, b, r.sub z⟩
    · obtain ⟨c, v, a, b, r⟩ := S.cl x _ e kd
      have r : v = .ref D := r
      exact ⟨c, v, a, b, r ▸ fr D d m1 m2 m3⟩
theorem Ba.shed {h0 : Heap} {Mu' : List (Addr × PD)} (B : Ba h0 env Mu h) (sb : Mu'.Sublist Mu) : Ba h0 env Mu' h := ⟨B.sb, fun q m => B.no q (by
    rcases List.mem_cons.mp m with rfl | m
    · exact .head _
    · rcases List.mem_append.mp m with m | m
      · exact .tail _ (List.mem_append_left _ m)
      · obtain ⟨p, hp, rfl⟩ := List.mem_map.mp m
        exact .tail _ (List.mem_append_right _ (List.mem_map_of_mem (sb.subset hp))))⟩

/-- a statement that gives a name a made object -/
noncomputable def AsgN (w : World) (k : Nat) (env : Env) (Mu : List (Addr × PD)) (ρ : Str → Option PD) (st : Stmt) (x : Str) (d : PD) : Prop :=
  ∀ (A : Around) (H : List Addr) (h0 : Heap) (s : Shared), OkA A k → StE w env H Mu ρ s.heap → Ba h0 env Mu s.heap →
    wpAny (MM w) A (exec st env) (fun f s' => f = .next ∧ Grew s s' ∧ ∃ D, D ∉ H ∧ StE w env H ((D, d) :: Mu) (upd ρ x (.raw (.ref D))) s'.heap ∧ Ba h0 env ((D, d) :: Mu) s'.heap) NoE s
/-- it may change yet -/
theorem ex_new {st : Stmt} {x : Str} (a : AsgN w k env Mu ρ st x d) (b : ∀ D, Ex w k env ((D, d) :: Mu) (upd ρ x (.raw (.ref D))) rest N R) : Ex w k env Mu ρ (st :: rest) N R :=
  ex_cons (N' := fun Mu' ρ' => ∃ D, Mu' = (D, d) :: Mu ∧ ρ' = upd ρ x (.raw (.ref D))) (fun A H h0 s hA S B => wpn (a A H h0 s hA S B) fun f s' ⟨e, g, D, _, S', B'⟩ => by
    subst e
    exact ⟨g, _, _, ⟨D, rfl, rfl⟩, S', B'⟩) fun Mu' ρ' ⟨D, e, e'⟩ => by subst e; subst e'; exact b D
/-- it changes no more -/
theorem ex_old {st : Stmt} {x : Str} (a : AsgN w k env Mu ρ st x d) (b : Ex w k env Mu (upd ρ x d) rest N R) : Ex w k env Mu ρ (st :: rest) N R :=
  ex_cons (N' := only Mu (upd ρ x d)) (fun A H h0 s hA S B => wpn (a A H h0 s hA S B) fun f s' ⟨e, g, D, nD, S', B'⟩ => by
    subst e
    refine ⟨g, _, _, ⟨rfl, rfl⟩, S'.shed (List.sublist_cons_self ..) fun y dy e => ?_, B'.shed (List.sublist_cons_self ..)⟩
    by_cases hy : y = x
    · subst hy
      simp only [upd, if_true] at e ⊢
      cases e
      exact .inr ⟨D, rfl, .head _, (List.nodup_cons.mp S'.md).1, nD⟩
    · simp only [upd, if_neg hy] at e ⊢
      exact .inl e) fun Mu' ρ' ⟨e, e'⟩ => by subst e; subst e'; exact b

/-- an expression that makes an object -/
noncomputable def EvNew (w : World) (k : Nat) (env : Env) (Mu : List (Addr × PD)) (ρ : Str → Option PD) (e : Expr) (d : PD) : Prop :=
  ∀ (A : Around) (H : List Addr) (s : Shared), OkA A k → StE w env H Mu ρ s.heap → wpAny (MM w) A (eval e env) (fun v s' => Kp s s' ∧ ∃ D, v = .ref D ∧ s.heap.get? D = none ∧ MutAt w (D :: hid env Mu H) s'.heap D d) NoE s
theorem EvNew.ev (a : EvNew w k env Mu ρ e d) : EvD w k env Mu ρ e d := fun A H s hA S => wpn (a A H s hA S) fun v s' ⟨kp, D, ev, n, m⟩ => by
  subst ev
  exact ⟨kp, (m.mono fun q x => .tail _ x).rd (S.fresh n)⟩
theorem asg_new {x : Str} {xp pos : Pos} (a : EvNew w k env Mu ρ e d)
    (hx : (env.kindOf x == some .local || (env.kindOf x == some .cell && (env.cells.lookup x).isSome)) = true)
    (hs : swapsWith e (some (.Name x xp)) pos.line env = pure false := by rfl) : AsgN w k env Mu ρ (.Assign [.Name x xp] e pos) x d := fun A H h0 s hA S B =>
  wpAny_Assign_Name (wpn (a A H s hA S) fun v s₁ ⟨k₁, D, ev, n, m⟩ => by
    subst ev
    exact wpn (wp_store (S.intro k₁.heap n m) hx (d := .raw (.ref D)) rfl) fun _ s₂ ⟨g, S₂, kb⟩ => ⟨rfl, k₁.grew.trans g, D, notin_of S.hl n, S₂, (B.intro k₁.heap n).store kb.1⟩) hs

theorem new_list {es : List Expr} {ds : List PD} {pos : Pos} (a : EvArgs w k env Mu ρ pos es ds) (hz : ds.length ≤ 1000 := by decide) : EvNew w k env Mu ρ (.List es pos) (.list ds) := fun A H s hA S =>
  List_ (wpn (a A H s hA S) fun vs s₁ ⟨k₁, r₁⟩ => by
    have hl := r₁.length
    refine wpAny_newObj_type ⟨k₁.trans (Kp.to (sub_push _ _)), s₁.heap.objs.size, rfl, none_back k₁.heap none_of_size, vs, ⟨_, Heap.get?_push_size _ rfl⟩, ?_⟩ (by show vs.toArray.size ≤ sizeLine; rw [List.size_toArray, sizeLine_eq]; omega)
    exact r₁.sub (Fz_more (.of (sub_push _ _)) none_of_size))

/-! list comprehensions -/
theorem compDone_rd {s s' : Shared} {out : List PD} {D C : Addr} (S : StE w env H Mu ρ s.heap) (x : CompDone w env H Mu s out D C s') (sb : Heap.SameBut C s'.heap h') :
    Sub s.heap h' ∧ MutAt w (D :: hid env Mu H) h' D (.list out) := by
  obtain ⟨vs, pl, r⟩ := x.li
  have kb : KB [C] s'.heap h' := KB.same sb (.head _)
  refine ⟨fun b o e => kb b o (fun m => by rw [List.mem_singleton.mp m, x.nC] at e; cases e) (x.sb b o e), vs, pl.at fun o e => kb _ o (fun m => x.ne (List.mem_singleton.mp m).symm) e, ?_⟩
  refine r.sub (Sub.trans (Fz_mono (kb.mono fun q m => by rw [List.mem_singleton.mp m]; exact .head _)) (Fz_less fun q m => .tail _ m))

theorem new_comp {elt target iter : Expr} {ifs : List Expr} {scope : Scope} {pos : Pos} {n : Nat} {bs : Nat → List (Str × PD)} {p : Nat → Bool} {f : Nat → PD}
    (it : Itr w k env Mu ρ target iter n bs) (ok : CompOk env scope) (hbs : ∀ i, i < n → ∀ q ∈ bs i, scope.names.lookup q.1 = some .local) (hsz : n ≤ 1000)
    (tests : ∀ i, i < n → ∀ C, Tsts w k (cenvOf env scope C) Mu (updL (seen scope ρ) (bs i)) ifs (p i))
    (el : ∀ i, i < n → p i = true → ∀ C, EvD w k (cenvOf env scope C) Mu (updL (seen scope ρ) (bs i)) elt (f i))
    (hs : ∀ x, foldedSetIterable iter env x = pure x := by intro _; rfl) :
    EvNew w k env Mu ρ (.ListComp elt [⟨target, iter, ifs, 0⟩] scope pos) (.list (outOf p f n)) := fun A H s hA S => by
  rw [eval_ListComp]
  refine wpAny_comprehension_free (use := none) rfl hs ok.clo ok.kd ok.names (comp_core (RR := fun acc C => compPost (MM w) A NoE none (fun v s' => Kp s s' ∧ ∃ D, v = .ref D ∧ s.heap.get? D = none ∧ MutAt w (D :: hid env Mu H) s'.heap D (.list (outOf p f n))) acc C) hA S it ok hbs hsz tests el fun D C s' x => ?_)
  obtain ⟨m, n⟩ := x.ns
  refine ⟨m, n, fun h' sb => ?_⟩
  obtain ⟨a, b⟩ := compDone_rd S x sb
  obtain ⟨h₁, t₁, rfl⟩ := x.gr
  exact ⟨Kp.to a, D, rfl, x.nD, b⟩

theorem asg_comp {y : Str} {yp spos : Pos} {elt target iter : Expr} {ifs : List Expr} {scope : Scope} {pos : Pos} {n : Nat} {bs : Nat → List (Str × PD)} {p : Nat → Bool} {f : Nat → PD}
    (it : Itr w k env Mu ρ target iter n bs) (ok : CompOk env scope) (hbs : ∀ i, i < n → ∀ q ∈ bs i, scope.names.lookup q.1 = some .local) (hsz : n ≤ 1000)
    (tests : ∀ i, i < n → ∀ C, Tsts w k (cenvOf env scope C) Mu (updL (seen scope ρ) (bs i)) ifs (p i))
    (el : ∀ i, i < n → p i = true → ∀ C, EvD w k (cenvOf env scope C) Mu (updL (seen scope ρ) (bs i)) elt (f i))
    (hy : env.kindOf y = some .local)
    (hsw : swapsWith (.ListComp elt [⟨target, iter, ifs, 0⟩] scope pos) (some (.Name y yp)) spos.line env = pure true)
    (hs : ∀ x, foldedSetIterable iter env x = pure x := by intro _; rfl) :
    AsgN w k env Mu ρ (.Assign [.Name y yp] (.ListComp elt [⟨target, iter, ifs, 0⟩] scope pos) spos) y (.list (outOf p f n)) := fun A H h0 s hA S B => by
  rw [exec_Assign_Name_used _ _ _ _ hsw]
  refine wpAny_bind (wpAny_standAt (wpAny_bind ?_))
  show wpAny _ A (do let _ ← comprehension (.ListComp elt [⟨target, iter, ifs, 0⟩] scope pos) scope env _ (newList []) false (eval iter env) (some (assign (.Name y yp) env))) _ _ s
  refine wpAny_bind (wpAny_mono (wpAny_comprehension_free (use := some (assign (.Name y yp) env)) (Q := fun _ s' => Grew s s' ∧ ∃ D, D ∉ H ∧ StE w env H ((D, .list (outOf p f n)) :: Mu) (upd ρ y (.raw (.ref D))) s'.heap ∧ Ba h0 env ((D, .list (outOf p f n)) :: Mu) s'.heap) rfl hs ok.clo ok.kd ok.names
    (comp_core (RR := fun acc C => compPost (MM w) A NoE (some (assign (.Name y yp) env)) _ acc C) hA S it ok hbs hsz tests el fun D C s' x => ?_)) (fun _ s' hq => wpAny_pure (wpAny_pure ⟨rfl, hq⟩)) fun _ _ e => e)
  obtain ⟨m, hn⟩ := x.ns
  obtain ⟨vs, pl, r⟩ := x.li
  have nDH : D ∉ H := fun m => by obtain ⟨o, e⟩ := S.hl D m; rw [x.nD] at e; cases e
  have S₂ : StE w env (C :: H) ((D, .list (outOf p f n)) :: Mu) ρ s'.heap := S.introH x.sb x.nD (fun q m => by
      rcases List.mem_cons.mp m with rfl | m
      · exact .inr x.nC
      · exact .inl m) (fun q m => by
      rcases List.mem_cons.mp m with rfl | m
      · obtain ⟨o, _, _, e, _⟩ := hn; exact ⟨o, e⟩
      · obtain ⟨o, e⟩ := S.hl q m; exact ⟨o, x.sb _ _ e⟩) ⟨vs, pl, r.sub (Fz_less fun q m => by
    rcases List.mem_cons.mp m with rfl | m
    · exact .tail _ (.head _)
    · rcases List.mem_append.mp m with m | m
      · exact .tail _ (.tail _ (List.mem_append_left _ m))
      · rcases List.mem_cons.mp m with rfl | m
        · exact .head _
        · exact .tail _ (.tail _ (List.mem_append_right _ m)))⟩
  have B₂ : Ba h0 env ((D, .list (outOf p f n)) :: Mu) s'.heap := B.intro x.sb x.nD
  show wpAny _ A (assign (.Name y yp) env (.ref D)) _ _ _
  refine wpAny_assign_Name (wpn (wp_store S₂ (by rw [hy]; rfl) (d := .raw (.ref D)) rfl) fun _ s₃ ⟨g₃, S₃, kbo, kb₃⟩ => ?_)
  have hCL : C ≠ env.locals := fun e => by obtain ⟨_, ⟨o, _, _, e', _⟩, _⟩ := S.ns; rw [← e, x.nC] at e'; cases e'
  refine ⟨m, ?_, fun h₄ sb => ⟨(x.gr.trans g₃).trans ⟨h₄, s₃.toks, rfl⟩, D, nDH, ?_, ?_⟩⟩
  · obtain ⟨o, es, ep, e, rr⟩ := hn
    exact ⟨o, es, ep, kb₃ (fun z mz => by rw [List.mem_singleton.mp mz]; exact hy) _ _ (fun m => hCL (List.mem_singleton.mp m)) e, rr⟩
  · have kC : KB [C] s₃.heap h₄ := KB.same sb (.head _)
    have nown : ∀ q ∈ own env ((D, .list (outOf p f n)) :: Mu), q ≠ C := fun q m e => by
      subst e
      simp only [own, List.map_cons, List.mem_append, List.mem_cons] at m
      rcases m with m | m | m | m
      · exact hCL m
      · obtain ⟨o, e⟩ := S.own_alive q (.tail _ (List.mem_append_left _ m)); rw [x.nC] at e; cases e
      · exact x.ne m
      · obtain ⟨o, e⟩ := S.own_alive q (.tail _ (List.mem_append_right _ m)); rw [x.nC] at e; cases e
    exact S₃.move (Sub.trans (Fz_mono (kC.mono fun q m => by rw [List.mem_singleton.mp m]; exact List.mem_append_right _ (.head _))) (Fz_less fun q m => by
      rcases List.mem_append.mp m with m | m
      · exact List.mem_append_left _ m
      · exact List.mem_append_right _ (.tail _ m))) (fun q m o e => kC q o (fun z => nown q m (List.mem_singleton.mp z)) e) fun q m => by
      obtain ⟨o, e⟩ := S₃.hl q (.tail _ m)
      exact ⟨o, (sb.2 q fun z => by subst z; obtain ⟨o, e⟩ := S.hl q m; rw [x.nC] at e; cases e).trans e⟩
  · have B₃ := B₂.store kbo
    exact ⟨fun b o e => (sb.2 b fun q => by subst q; have := none_back B.sb x.nC; rw [this] at e; cases e).trans (B₃.sb b o e), B₃.no⟩
end
end Mine
namespace Mine
open PySem PySem.W PyProof.Rows PySem.Calls

/-! sorted numbers -/
noncomputable def insZ (x : Int) : List Int → List Int
  | [] => [x]
  | y :: r => if y < x then y :: insZ x r else x :: y :: r
noncomputable def sortZ (ns : List Int) : List Int := ns.foldr insZ []
theorem insZ_perm (x : Int) : ∀ l, (insZ x l).Perm (x :: l)
  | [] => .refl _
  | y :: r => by
    unfold insZ; split
    · exact ((insZ_perm x r).cons y).trans (.swap _ _ _)
    · exact .refl _
theorem sortZ_perm : ∀ ns, (sortZ ns).Perm ns
  | [] => .refl _
  | x :: r => (insZ_perm x _).trans ((sortZ_perm r).cons x)
theorem insZ_rises (x : Int) : ∀ l : List Int, l.Pairwise (· ≤ ·) → (insZ x l).Pairwise (· ≤ ·)
  | [], _ => by simp [insZ]
  | y :: r, h => by
    obtain ⟨h1, h2⟩ := List.pairwise_cons.mp h
    unfold insZ; split
    · refine List.pairwise_cons.mpr ⟨fun z hz => ?_, insZ_rises x r h2⟩
      rcases List.mem_cons.mp ((insZ_perm x r).mem_iff.mp hz) with rfl | hz
      · omega
      · exact h1 z hz
    · refine List.pairwise_cons.mpr ⟨fun z hz => ?_, h⟩
      rcases List.mem_cons.mp hz with rfl | hz
      · omega
      · have := h1 z hz; omega
theorem sortZ_rises : ∀ ns, (sortZ ns).Pairwise (· ≤ ·)
  | [] => .nil
  | x :: r => insZ_rises x _ (sortZ_rises r)
theorem eq_sortZ {ns ns' : List Int} (hp : ns'.Perm ns) (hs : ns'.Pairwise (· ≤ ·)) : ns' = sortZ ns :=
  List.Perm.eq_of_pairwise (fun _ _ _ _ a b => Int.le_antisymm a b) hs (sortZ_rises ns) (hp.trans (sortZ_perm ns).symm)

section
variable {w : World} {k : Nat}
theorem cd_min {a b : Int} : CallD w k (.builtin "min") [.int a, .int b] (.int (if b < a then b else a)) := fun A H s vs hA G al r => by
  obtain ⟨v, vs1, rfl, ⟨t, rfl⟩, r1⟩ := r.cons_inv
  obtain ⟨v, vs2, rfl, ⟨u, rfl⟩, r2⟩ := Rds.cons_inv r1
  rw [Rds.nil_inv r2]
  exact min_two_ints hA.h fun h' tk hk => ⟨Kp.to hk, by split <;> exact ⟨_, rfl⟩⟩
theorem cd_max {a b : Int} : CallD w k (.builtin "max") [.int a, .int b] (.int (if b > a then b else a)) := fun A H s vs hA G al r => by
  obtain ⟨v, vs1, rfl, ⟨t, rfl⟩, r1⟩ := r.cons_inv
  obtain ⟨v, vs2, rfl, ⟨u, rfl⟩, r2⟩ := Rds.cons_inv r1
  rw [Rds.nil_inv r2]
  exact max_two_ints hA.h fun h' tk hk => ⟨Kp.to hk, by split <;> exact ⟨_, rfl⟩⟩
theorem cd_len {ds : List PD} (hz : ds.length ≤ 1000) : CallD w k (.builtin "len") [.list ds] (.int ds.length) := fun A H s vs hA G al r => by
  obtain ⟨v, vs1, rfl, ⟨a, us, rfl, p, ru⟩, r1⟩ := r.cons_inv
  rw [Rds.nil_inv r1]
  have p' := p.at (h' := s.heap) fun o e => Fz_of e
  have hl := ru.length
  exact call_len_list p'.isList (by rw [List.size_toArray]; omega) ⟨Kp.tok s _, _, by rw [List.size_toArray, hl]⟩
theorem cd_sum {ns : List Int} : CallD w k (.builtin "sum") [.ints ns] (.int ns.sum) := fun A H s vs hA G al r => by
  obtain ⟨v, vs1, rfl, ⟨a, us, rfl, p, ru⟩, r1⟩ := r.cons_inv
  rw [Rds.nil_inv r1]
  have p' := p.at (h' := s.heap) fun o e => Fz_of e
  have hi := ru.ints
  obtain ⟨xs, hx⟩ := hi.allInts.items
  have hl' : s.heap.IsList a (intItems xs) := hx ▸ p'.isList
  refine sum_intListG hA.h hl' fun h' tk t' hk => ⟨Kp.to hk, t', ?_⟩
  have e1 : ns = xs.toList.map (·.1) := by
    rw [← nums_intItems, ← hx]
    exact (show numsOf us.toArray.toList = ns from hi.numsOf).symm
  rw [preSum_eq, List.take_of_length_le (by simp), e1]
theorem cd_int {i : Int} : CallD w k (.type "int") [.int i] (.int i) := fun A H s vs hA G al r => by
  obtain ⟨v, vs1, rfl, ⟨t, rfl⟩, r1⟩ := r.cons_inv
  rw [Rds.nil_inv r1]
  exact call_int_int ⟨Kp.rfl s, t, rfl⟩
theorem cd_isTuple {i : Int} : CallD w k (.builtin "isinstance") [.int i, .raw (.type "tuple")] (.bool false) := fun A H s vs hA G al r => by
  obtain ⟨v, vs1, rfl, ⟨t, rfl⟩, r1⟩ := r.cons_inv
  obtain ⟨v, vs2, rfl, e, r2⟩ := Rds.cons_inv r1
  rw [Rds.nil_inv r2]
  have e : v = .type "tuple" := e
  subst e
  exact IsiPair.int_tuple ⟨Kp.tok s _, rfl⟩
theorem cd_sorted {ns : List Int} (hz : ns.length < 64) : CallD w k (.builtin "sorted") [.ints ns] (.ints (sortZ ns)) := fun A H s vs hA G al r => by
  obtain ⟨v, vs1, rfl, ⟨a, us, rfl, p, ru⟩, r1⟩ := r.cons_inv
  rw [Rds.nil_inv r1]
  have p' := p.at (h' := s.heap) fun o e => Fz_of e
  have hl := ru.length
  refine sorted_ints p'.isList ru.ints (by rw [hl, List.length_map]; exact hz) fun out ns' i1 hp hs => ?_
  obtain ⟨e, he⟩ := sortedAll_at s.heap us out
  have sb : Sub s.heap (sortedAll s.heap us out) := fun b o q => sortedAll_old q
  rw [eq_sortZ hp hs] at i1
  refine ⟨Kp.to sb, rd_newList (vs := out.toList) (notin_of al (none_of_le (Nat.le_succ _))) ⟨e, by rw [Array.toArray_toList]; exact he⟩ (Rds.of_ints i1)⟩
theorem cd_list {ds : List PD} (hz : ds.length ≤ 1000) : CallD w k (.type "list") [.list ds] (.list ds) := fun A H s vs hA G al r => by
  obtain ⟨v, vs1, rfl, ⟨a, us, rfl, p, ru⟩, r1⟩ := r.cons_inv
  rw [Rds.nil_inv r1]
  obtain ⟨n, p⟩ := p
  have hl := ru.length
  refine call_list_seq a (.inl rfl) (Fz_of p) rfl rfl (fun h' c' hk hn => ⟨Kp.to hk, ?_⟩) (by rw [List.size_toArray, sizeLine_eq]; omega)
  exact rd_newList (notin_of al none_of_size) ⟨c', hn⟩ (ru.sub (Fz_mono (.of hk)))
theorem cd_bytes {ns : List Int} (hz : ns.length ≤ 1000) (hr : ∀ n ∈ ns, 0 ≤ n ∧ n < 256) : CallD w k (.type "bytes") [.ints ns] (.bytes (byteArr ns).toList) := fun A H s vs hA G al r => by
  obtain ⟨v, vs1, rfl, ⟨a, us, rfl, p, ru⟩, r1⟩ := r.cons_inv
  rw [Rds.nil_inv r1]
  have p' := p.at (h' := s.heap) fun o e => Fz_of e
  have hl := ru.length
  rw [List.length_map] at hl
  refine call_bytes_ints p'.isList ru.ints hr (by rw [sizeLine_eq]; omega) hA.h fun h' t k' hk => ⟨Kp.to hk, t, by simp⟩

theorem ints_of_get : ∀ {vs : List Value} {ns : List Int}, vs.length = ns.length → (∀ (j : Nat) (v : Value), vs[j]? = some v → ∃ t, v = .int (ns.getD j 0) t) → IntsAre vs ns
  | [], [], _, _ => IntsAre.nil
  | [], _ :: _, h, _ => by simp at h
  | _ :: _, [], h, _ => by simp at h
  | v :: vs, n :: ns, h, f => by
    obtain ⟨t, e⟩ := f 0 v (by simp)
    have e : v = .int n t := by simpa using e
    subst e
    exact IntsAre.cons _ _ (ints_of_get (by simpa using h) fun j u e => by
      obtain ⟨t, e⟩ := f (j + 1) u (by simpa using e)
      exact ⟨t, by simpa using e⟩)
/-- the keys of a dict, sorted -/
theorem cd_sortedD {l : List (Int × Int)} (hz : l.length < 64) : CallD w k (.builtin "sorted") [.dict l] (.ints (sortZ (l.map (·.1)))) := fun A H s vs hA G al r => by
  obtain ⟨v, vs1, rfl, ⟨q, kvs, rfl, lo, hm, hp⟩, r1⟩ := r.cons_inv
  rw [Rds.nil_inv r1]
  have hm' := dictOf_sub (w := w) (Fz_sub H s.heap) hm
  obtain ⟨ep, hda⟩ := hm'.dictAt
  have hlen := hp.length
  refine Calls.call_function_entry kind_sorted plain_sorted entry_sorted (args_sorted1 _) ?_
  unfold Builtin.«sorted»
  refine wpAny_bind (m := checkCount "sorted" 1 1 _) (wpAny_pure ?_)
  refine wpAny_bind (kdu_collect (kdl_dict (knd := intKind PR w) (kvs := kvs) (ep := ep) lo) hA.h hda (by rw [sizeLine_eq]; omega) fun h' tk acc hk hacc => ?_)
  refine wpAny_bind (wpAny_newList ?_ (by rw [Array.length_toList, hacc.1, sizeLine_eq]; omega))
  have hL : acc.toList.length = kvs.length := by rw [Array.length_toList]; exact hacc.1
  have hI : IntsAre acc.toList (l.map (·.1)) := by
    refine ints_of_get (by rw [hL, hlen, List.length_map]) fun j v e => ?_
    obtain ⟨kk, x, hx, hkey⟩ := hacc.2 j v (by rw [← Array.getElem?_toList]; exact e)
    obtain ⟨jv, t, e', _⟩ := hp.get hx
    obtain ⟨t', rfl⟩ := is_int hkey
    exact ⟨t', by simp [e']⟩
  have hoL : (h'.push (seqObj "list" acc.toList.toArray 0)).get? h'.objs.size = some (seqObj "list" acc.toList.toArray 0) := Heap.get?_push_size _ rfl
  refine wpAny_bind (wpAny_holding (wpAny_call_entry slot_list_sort ⟨_, hoL, rfl⟩ entry_list_sort (list_sort_tree hoL hI (by omega) fun out ns' a1 a2 a3 => ⟨_, rfl, ?_⟩) (args_list_sort _)))
  refine wpAny_pure ⟨_, rfl, ?_⟩
  obtain ⟨e, he⟩ := sortedHeap_at (out := out) hoL
  rw [eq_sortZ a2 a3] at a1
  have sb : Sub s.heap (sortedHeap (h'.push (seqObj "list" acc.toList.toArray 0)) h'.objs.size acc.toList out) := fun b o q => by
    have q' := hk b o q
    rw [sortedHeap_old (Nat.ne_of_lt (Heap.lt_size q')) (by rw [Heap.size_push]; exact Nat.lt_succ_of_lt (Heap.lt_size q'))]
    exact Heap.get?_push_of_some _ q'
  refine ⟨Kp.to sb, rd_newList (vs := out.toList) (notin_of al (none_back hk none_of_size)) ⟨e, by rw [Array.toArray_toList]; exact he⟩ (Rds.of_ints a1)⟩
end
end Mine
namespace Mine
open PySem PySem.W PyProof.Rows PySem.Calls

section
variable {w : World} {k : Nat} {env : Env} {H : List Addr} {Mu : List (Addr × PD)} {ρ : Str → Option PD} {h h' : Heap} {d d' : PD} {e : Expr} {N : Nx} {R : PD → Prop} {rest : List Stmt}

/-! an object of the frame's turns -/
theorem set_fst {i : Nat} {D : Addr} (hi : Mu[i]? = some (D, d)) : (Mu.set i (D, d')).map (·.1) = Mu.map (·.1) := by
  refine List.ext_getElem? fun j => ?_
  simp only [List.getElem?_map, List.getElem?_set]
  by_cases hj : i = j
  · subst hj
    have hl : i < Mu.length := by
      rcases Nat.lt_or_ge i Mu.length with q | q
      · exact q
      · rw [List.getElem?_eq_none q] at hi; cases hi
    have := List.getElem?_eq_getElem hl
    rw [hi] at this
    simp [hl, ← Option.some.inj this]
  · simp [hj]
theorem own_set {i : Nat} {D : Addr} (hi : Mu[i]? = some (D, d)) : own env (Mu.set i (D, d')) = own env Mu := by
  unfold own; rw [set_fst hi]
theorem hid_set {i : Nat} {D : Addr} (hi : Mu[i]? = some (D, d)) : hid env (Mu.set i (D, d')) H = hid env Mu H := by
  unfold hid; rw [own_set hi]
theorem mem_own_mu {p : Addr × PD} (m : p ∈ Mu) : p.1 ∈ own env Mu := .tail _ (List.mem_append_right _ (List.mem_map_of_mem m))
theorem StE.turnK {i : Nat} {D : Addr} (S : StE w env H Mu ρ h) (hi : Mu[i]? = some (D, d)) (kb : KB [D] h h') (mt : MutAt w (hid env Mu H) h' D d') : StE w env H (Mu.set i (D, d')) ρ h' := by
  have hm : (D, d) ∈ Mu := List.mem_of_getElem? hi
  have nk : ∀ b, b ≠ D → ∀ o, h.get? b = some o → h'.get? b = some o := fun b n o e => kb b o (fun m => n (List.mem_singleton.mp m)) e
  have z : Sub (Fz (hid env Mu H) h) (Fz (hid env Mu H) h') := Fz_mono (kb.mono fun q m => by rw [List.mem_singleton.mp m]; exact List.mem_append_left _ (mem_own_mu hm))
  have nL : env.locals ≠ D := fun e => S.lm (e ▸ List.mem_map_of_mem (f := (·.1)) hm)
  have nC : ∀ p ∈ env.cells, p.2 ≠ D := fun p hp e => by
    obtain ⟨v, C⟩ := S.ce p hp
    exact mut_not_cell (S.mu _ hm) (e ▸ C)
  have z' := z
  rw [← hid_set (d' := d') hi] at mt
  refine { gd := S.gd.sub (by rw [hid_set hi]; exact z'), ns := ?_, cl := fun x d e kd => ?_, ce := fun p hp => ?_, cd := S.cd, mu := fun p hp => ?_, md := by rw [set_fst hi]; exact S.md, lm := by rw [set_fst hi]; exact S.lm, hl := fun q m => ?_, eg := S.eg, eb := S.eb, ek := S.ek }
  · obtain ⟨m, a, b⟩ := S.ns
    refine ⟨m, (let ⟨o, es, ep, e, rr⟩ := a; ⟨o, es, ep, nk _ nL _ e, rr⟩), fun x d e kd => ?_⟩
    obtain ⟨v, p, q⟩ := b x d e kd
    exact ⟨v, p, q.sub (by rw [hid_set hi]; exact z')⟩
  · obtain ⟨c, v, a, ⟨o, b1, b2⟩, r⟩ := S.cl x d e kd
    exact ⟨c, v, a, ⟨o, nk c (nC _ (mem_of_lookup a)) _ b1, b2⟩, r.sub (by rw [hid_set hi]; exact z')⟩
  · obtain ⟨v, o, b1, b2⟩ := S.ce p hp
    exact ⟨v, o, nk _ (nC p hp) _ b1, b2⟩
  · by_cases hD : p.1 = D
    · obtain ⟨j, hj⟩ := List.getElem?_of_mem hp
      have hij : j = i := by
        have e1 : (Mu.map (·.1))[j]? = some D := by rw [← set_fst (d' := d') hi, List.getElem?_map, hj]; simp [hD]
        have e2 : (Mu.map (·.1))[i]? = some D := by rw [List.getElem?_map, hi]; rfl
        have hl : i < (Mu.map (·.1)).length := by
          rcases Nat.lt_or_ge i (Mu.map (·.1)).length with q | q
          · exact q
          · rw [List.getElem?_eq_none q] at e2; cases e2
        exact ((List.getElem?_inj hl S.md).mp (e2.trans e1.symm)).symm
      subst hij
      rw [List.getElem?_set] at hj
      simp only [if_true] at hj
      split at hj
      · cases hj; exact mt
      · cases hj
    · have hp' : p ∈ Mu := by
        rcases List.mem_or_eq_of_mem_set hp with q | q
        · exact q
        · exact absurd (by rw [q]) hD
      exact (S.mu p hp').keep (fun o e => nk _ hD o e) (by rw [hid_set hi]; exact z')
  · by_cases hq : q = D
    · obtain ⟨o, e⟩ := mt.alive; exact ⟨o, hq ▸ e⟩
    · obtain ⟨o, e⟩ := S.hl q m; exact ⟨o, nk q hq o e⟩
theorem StE.turn {i : Nat} {D : Addr} (S : StE w env H Mu ρ h) (hi : Mu[i]? = some (D, d)) (sb : Heap.SameBut D h h') (mt : MutAt w (hid env Mu H) h' D d') : StE w env H (Mu.set i (D, d')) ρ h' := S.turnK hi (KB.same sb (.head _)) mt
theorem Ba.turnK {h0 : Heap} {i : Nat} {D : Addr} (B : Ba h0 env Mu h) (hi : Mu[i]? = some (D, d)) (kb : KB [D] h h') : Ba h0 env (Mu.set i (D, d')) h' := by
  have hm : D ∈ own env Mu := mem_own_mu (List.mem_of_getElem? hi)
  refine ⟨fun b o e => kb b o (fun q => ?_) (B.sb b o e), by rw [own_set hi]; exact B.no⟩
  rw [List.mem_singleton.mp q, B.no D hm] at e; cases e
theorem Ba.turn {h0 : Heap} {i : Nat} {D : Addr} (B : Ba h0 env Mu h) (hi : Mu[i]? = some (D, d)) (sb : Heap.SameBut D h h') : Ba h0 env (Mu.set i (D, d')) h' := by
  have hm : D ∈ own env Mu := mem_own_mu (List.mem_of_getElem? hi)
  refine ⟨fun b o e => (sb.2 b fun q => ?_).trans (B.sb b o e), by rw [own_set hi]; exact B.no⟩
  subst q; rw [B.no b hm] at e; cases e

/-- the place of a number in a list -/
theorem ev_index {o x : Expr} {apos pos : Pos} {dl : PD} {ns : List Int} {i : Int} (a : EvD w k env Mu ρ o dl) (L : Lk Mu dl (ns.map .int)) (b : EvD w k env Mu ρ x (.int i)) (hi : i ∈ ns) (hz : ns.length ≤ 1000)
    (he : starEach (x :: []) env = (false, eval x env) :: starEach [] env := by rfl)
    (hbase : attributeBase o "index" env (eval o env) = eval o env := by rfl) (hline : (apos.endLine == pos.line) = true := by rfl)
    (hfew : ((backTo pos (starEach [x] env)).all (fun x => !x.1) && (backToKw pos (keywordEach [] env)).all (fun x => x.1.isSome)
      && decide ([x].length + ([] : List Keyword).length + (if ([] : List Keyword).isEmpty then 0 else 1) < 30)) = true := by rfl) :
    EvD w k env Mu ρ (.Call (.Attribute o "index" apos) [x] [] pos) (.int (ns.idxOf i : Nat)) := fun A H s hA S => by
  refine wpAny_Call_method (T := "list") (id := "list.index") hbase hfew hline F.plainAttrs_list F.slot_list_index F.type_list_index (wpn (a A H s hA S) fun v s₁ ⟨k₁, r₁⟩ => ?_)
  obtain ⟨q, vs, rfl, p, r⟩ := L.get (S.sub k₁.heap) r₁
  obtain ⟨n, p⟩ := p
  refine ⟨⟨_, p, rfl⟩, fun a e => by cases e; exact ⟨_, p, rfl⟩, ?_⟩
  refine call_any (.inl ⟨_, rfl⟩) (by rw [he]; rfl) (wpn (args_cons b args_nil he A H s₁ hA (S.sub k₁.heap)) fun us s₂ ⟨k₂, r₂⟩ => ?_)
  have S₂ := (S.sub k₁.heap).sub k₂.heap
  refine ⟨(S₂.gd.sub (Fz_sub _ _)).k, ?_⟩
  obtain ⟨v, vs2, rfl, ⟨t, rfl⟩, r3⟩ := Rds.cons_inv r₂
  rw [Rds.nil_inv r3]
  have p₂ := k₂.heap _ _ p
  have ri := r.ints
  have hlen := ri.length
  have hj : ns.idxOf i < ns.length := List.idxOf_lt_length_iff.mpr hi
  refine call_meets PySem.F.slot_list_index ⟨_, p₂, rfl⟩ PySem.F.entry_list_index (PySem.F.args_list_index_2 _ _)
    (SeqAt.list_indexAt q vs.toArray n none #[] (.int i t) (isInt i) (ns.idxOf i) (by simpa [hlen] using hj) (by omega) ?_ ?_) ⟨p₂, fun y hy => (eq_isInt i t ri y (by simpa using hy)).at _ _, (k₁.trans k₂).trans (Kp.tok s₂ _), _, rfl⟩
  · show isInt i vs[ns.idxOf i] = true
    rw [isInt_at i ri _ (by omega) hj]
    simpa using List.getElem_idxOf hj
  · intro j hjs hlt
    show isInt i vs[j] = false
    rw [isInt_at i ri j (by simpa using hjs) (by omega)]
    exact ne_of_lt_idxOf hlt _

/-! lists and dicts that change -/
/-- l.append(x) -/
theorem ex_append {o x : Expr} {apos pos spos : Pos} {i : Nat} {D : Addr} {ds : List PD} (hi : Mu[i]? = some (D, .list ds)) (a : EvD w k env Mu ρ o (.raw (.ref D))) (b : EvD w k env Mu ρ x d) (hz : ds.length ≤ 1000)
    (n : Ex w k env (Mu.set i (D, .list (ds ++ [d]))) ρ rest N R)
    (he : starEach (x :: []) env = (false, eval x env) :: starEach [] env := by rfl)
    (hbase : attributeBase o "append" env (eval o env) = eval o env := by rfl) (hline : (apos.endLine == pos.line) = true := by rfl)
    (hfew : ((backTo pos (starEach [x] env)).all (fun x => !x.1) && (backToKw pos (keywordEach [] env)).all (fun x => x.1.isSome)
      && decide ([x].length + ([] : List Keyword).length + (if ([] : List Keyword).isEmpty then 0 else 1) < 30)) = true := by rfl)
    (hin : interactive env = false := by rfl) (hs : swapsWith (.Call (.Attribute o "append" apos) [x] [] pos) none spos.line env = pure false := by rfl) :
    Ex w k env Mu ρ (.Expr (.Call (.Attribute o "append" apos) [x] [] pos) spos :: rest) N R :=
  ex_cons (N' := only (Mu.set i (D, .list (ds ++ [d]))) ρ) (fun A H h0 s hA S B => by
    refine wpAny_Expr_any ?_ hin hs
    refine wpAny_Call_method (T := "list") (id := "list.append") hbase hfew hline F.plainAttrs_list F.slot_list_append F.type_list_append (wpn (a A H s hA S) fun v s₁ ⟨k₁, r₁⟩ => ?_)
    have r₁ : v = .ref D := r₁
    subst r₁
    obtain ⟨vs, p, r⟩ := (S.sub k₁.heap).mu _ (List.mem_of_getElem? hi)
    have p0 := p
    obtain ⟨n, p0⟩ := p0
    refine ⟨⟨_, p0, rfl⟩, fun a e => by cases e; exact ⟨_, p0, rfl⟩, ?_⟩
    refine call_any (.inl ⟨_, rfl⟩) (by rw [he]; rfl) (wpn (args_cons b args_nil he A H s₁ hA (S.sub k₁.heap)) fun us s₂ ⟨k₂, r₂⟩ => ?_)
    have S₂ := (S.sub k₁.heap).sub k₂.heap
    refine ⟨(S₂.gd.sub (Fz_sub _ _)).k, ?_⟩
    obtain ⟨v, vs2, rfl, rv, r3⟩ := Rds.cons_inv r₂
    rw [Rds.nil_inv r3]
    have hl := r.length
    refine wpAny_list_append_plain (p.at fun o e => k₂.heap _ o e) (fun h₃ p₃ sb => ?_) (by rw [List.size_toArray, sizeLine_eq]; omega)
    have z : Sub (Fz (hid env Mu H) s₂.heap) (Fz (hid env Mu H) h₃) := Fz_mono (KB.same sb (List.mem_append_left _ (mem_own_mu (List.mem_of_getElem? hi))))
    refine ⟨(k₁.trans k₂).grew.trans ⟨h₃, s₂.toks, rfl⟩, _, _, ⟨rfl, rfl⟩, S₂.turn hi sb ⟨vs ++ [v], ?_, Rds.snoc (r.sub (Sub.trans (fz_up k₂) z)) (rv.sub z)⟩, (B.sub (Sub.trans k₁.heap k₂.heap)).turn hi sb⟩
    rw [show (vs ++ [v]).toArray = vs.toArray.push v by simp]; exact p₃) fun Mu' ρ' ⟨e, e'⟩ => by subst e; subst e'; exact n

theorem ins_arr (vs : List Value) (v : Value) (j : Nat) : (vs.toArray.extract 0 j).push v ++ vs.toArray.extract j = (vs.take j ++ v :: vs.drop j).toArray := by
  apply Array.ext'
  simp [List.take_of_length_le]
noncomputable def insAt (ds : List PD) (j : Nat) (d : PD) : List PD := ds.take j ++ d :: ds.drop j
/-- l.insert(j, x) -/
theorem ex_insert {o y x : Expr} {apos pos spos : Pos} {i : Nat} {D : Addr} {ds : List PD} {j : Int} (hi : Mu[i]? = some (D, .list ds)) (a : EvD w k env Mu ρ o (.raw (.ref D))) (c : EvD w k env Mu ρ y (.int j)) (b : EvD w k env Mu ρ x d) (hz : ds.length ≤ 1000)
    (hj : 0 ≤ j) (hj' : j ≤ ds.length)
    (n : Ex w k env (Mu.set i (D, .list (insAt ds j.toNat d))) ρ rest N R)
    (he : starEach (y :: [x]) env = (false, eval y env) :: starEach [x] env := by rfl) (he2 : starEach (x :: []) env = (false, eval x env) :: starEach [] env := by rfl)
    (hbase : attributeBase o "insert" env (eval o env) = eval o env := by rfl) (hline : (apos.endLine == pos.line) = true := by rfl)
    (hfew : ((backTo pos (starEach [y, x] env)).all (fun x => !x.1) && (backToKw pos (keywordEach [] env)).all (fun x => x.1.isSome)
      && decide ([y, x].length + ([] : List Keyword).length + (if ([] : List Keyword).isEmpty then 0 else 1) < 30)) = true := by rfl)
    (hin : interactive env = false := by rfl) (hs : swapsWith (.Call (.Attribute o "insert" apos) [y, x] [] pos) none spos.line env = pure false := by rfl) :
    Ex w k env Mu ρ (.Expr (.Call (.Attribute o "insert" apos) [y, x] [] pos) spos :: rest) N R :=
  ex_cons (N' := only (Mu.set i (D, .list (insAt ds j.toNat d))) ρ) (fun A H h0 s hA S B => by
    refine wpAny_Expr_any ?_ hin hs
    refine wpAny_Call_method (T := "list") (id := "list.insert") hbase hfew hline F.plainAttrs_list F.slot_list_insert F.type_list_insert (wpn (a A H s hA S) fun v s₁ ⟨k₁, r₁⟩ => ?_)
    have r₁ : v = .ref D := r₁
    subst r₁
    obtain ⟨vs, p, r⟩ := (S.sub k₁.heap).mu _ (List.mem_of_getElem? hi)
    have p0 := p
    obtain ⟨n, p0⟩ := p0
    refine ⟨⟨_, p0, rfl⟩, fun a e => by cases e; exact ⟨_, p0, rfl⟩, ?_⟩
    refine call_any (.inl ⟨_, rfl⟩) (by rw [he, he2]; rfl) (wpn (args_cons c (args_cons b args_nil he2) he A H s₁ hA (S.sub k₁.heap)) fun us s₂ ⟨k₂, r₂⟩ => ?_)
    have S₂ := (S.sub k₁.heap).sub k₂.heap
    refine ⟨(S₂.gd.sub (Fz_sub _ _)).k, ?_⟩
    obtain ⟨v', vs2, rfl, ⟨t, rfl⟩, r3⟩ := Rds.cons_inv r₂
    obtain ⟨v, vs3, rfl, rv, r4⟩ := Rds.cons_inv r3
    rw [Rds.nil_inv r4]
    have hl := r.length
    have p₂ := k₂.heap _ _ p0
    refine call_meets PySem.F.slot_list_insert ⟨_, p₂, rfl⟩ PySem.F.entry_list_insert (PySem.F.args_list_insert_3 _ _ _)
      (AutoListH.list_insert_list_int_val_1 D vs.toArray n j t v (by simp [Builtin.List.listFitsIndex]; omega) (by rw [List.size_toArray, sizeLine_eq]; omega)) ⟨p₂, ?_⟩
    have sb : Heap.SameBut D s₂.heap (s₂.heap.update D (Obj.mapSeq fun xs => have k := if j < 0 then (j + ((xs.size : Nat) : Int)).toNat else min j.toNat xs.size; (xs.extract 0 k).push v ++ xs.extract k)) := Heap.SameBut.update ..
    have z := Fz_mono (KB.same sb (List.mem_append_left _ (mem_own_mu (env := env) (List.mem_of_getElem? hi)) : D ∈ hid env Mu H))
    refine ⟨(k₁.trans k₂).grew.trans ⟨_, s₂.toks, rfl⟩, _, _, ⟨rfl, rfl⟩, S₂.turn hi sb ⟨vs.take j.toNat ++ v :: vs.drop j.toNat, ?_, ?_⟩, (B.sub (Sub.trans k₁.heap k₂.heap)).turn hi sb⟩
    · have e : (fun xs : Array Value => have k := if j < 0 then (j + ((xs.size : Nat) : Int)).toNat else min j.toNat xs.size; (xs.extract 0 k).push v ++ xs.extract k) vs.toArray = (vs.take j.toNat ++ v :: vs.drop j.toNat).toArray := by
        have hneg : ¬ j < 0 := by omega
        have hmin : min j.toNat vs.toArray.size = j.toNat := by rw [List.size_toArray]; omega
        simp only [hneg, if_false, hmin]
        exact ins_arr vs v j.toNat
      rw [← e]
      exact ⟨_, get?_update_seq p₂ _⟩
    · have r' := (r.sub (Sub.trans (fz_up k₂) z))
      exact (r'.take j.toNat).append (Rds.cons (rv.sub z) (r'.drop j.toNat))) fun Mu' ρ' ⟨e, e'⟩ => by subst e; subst e'; exact n
end
end Mine
namespace Mine
open PySem PySem.W PyProof.Rows PySem.Calls

noncomputable def storeD (l : List (Int × Int)) (k v : Int) : List (Int × Int) :=
  if l.any (fun kv => kv.1 = k) then l.map (fun kv => if kv.1 = k then (kv.1, v) else kv) else l ++ [(k, v)]
noncomputable def findD (l : List (Int × Int)) (k : Int) : Option Int := (l.find? fun kv => kv.1 = k).map (·.2)
theorem Pairs.any {k : Int} : ∀ {kvs : List (Int × Value)} {l : List (Int × Int)}, Pairs kvs l → kvs.any (fun kv => kv.1 = k) = l.any (fun kv => kv.1 = k)
  | [], [], _ => rfl
  | [], _ :: _, x => x.elim
  | _ :: _, [], x => x.elim
  | p :: ps, q :: qs, ⟨a, _, x⟩ => by simp only [List.any_cons, a, Pairs.any x]
theorem Pairs.put {k v : Int} {t : Tok} : ∀ {kvs : List (Int × Value)} {l : List (Int × Int)}, Pairs kvs l → Pairs (kvs.map (fun kv => if kv.1 = k then (kv.1, Value.int v t) else kv)) (l.map (fun kv => if kv.1 = k then (kv.1, v) else kv))
  | [], [], _ => trivial
  | [], _ :: _, x => x.elim
  | _ :: _, [], x => x.elim
  | p :: ps, q :: qs, ⟨a, b, x⟩ => by
    refine ⟨?_, ?_, Pairs.put x⟩
    · dsimp only
      rw [a]; split <;> simp [a]
    · dsimp only
      rw [a]; split
      · exact ⟨t, rfl⟩
      · exact b
theorem Pairs.snoc {k v : Int} {t : Tok} : ∀ {kvs : List (Int × Value)} {l : List (Int × Int)}, Pairs kvs l → Pairs (kvs ++ [(k, Value.int v t)]) (l ++ [(k, v)])
  | [], [], _ => ⟨rfl, ⟨t, rfl⟩, trivial⟩
  | [], _ :: _, x => x.elim
  | _ :: _, [], x => x.elim
  | p :: ps, q :: qs, ⟨a, b, x⟩ => ⟨a, b, Pairs.snoc x⟩
theorem Pairs.stored {k v : Int} {t : Tok} {kvs : List (Int × Value)} {l : List (Int × Int)} (x : Pairs kvs l) : Pairs (PySem.stored kvs k (.int v t)) (storeD l k v) := by
  unfold PySem.stored storeD
  rw [x.any]
  split
  · exact x.put
  · exact x.snoc
theorem Pairs.find {k : Int} : ∀ {kvs : List (Int × Value)} {l : List (Int × Int)}, Pairs kvs l → ∀ {j : Int}, findD l k = some j → ∃ t, valueAt kvs k = some (.int j t)
  | [], [], _, j, e => by simp [findD] at e
  | [], _ :: _, x, _, _ => x.elim
  | _ :: _, [], x, _, _ => x.elim
  | p :: ps, q :: qs, ⟨a, ⟨t, b⟩, x⟩, j, e => by
    unfold findD at e
    unfold valueAt
    simp only [List.find?_cons, a] at e ⊢
    by_cases hq : q.1 = k
    · simp only [hq, decide_true, Option.map_some] at e ⊢
      cases e
      exact ⟨t, by rw [b]⟩
    · simp only [hq, decide_false] at e ⊢
      exact Pairs.find x e
theorem Pairs.isSome {k : Int} : ∀ {kvs : List (Int × Value)} {l : List (Int × Int)}, Pairs kvs l → (valueAt kvs k).isSome = (findD l k).isSome
  | [], [], _ => rfl
  | [], _ :: _, x => x.elim
  | _ :: _, [], x => x.elim
  | p :: ps, q :: qs, ⟨a, b, x⟩ => by
    have ih := Pairs.isSome (k := k) x
    unfold findD valueAt at ih ⊢
    simp only [List.find?_cons, a]
    by_cases hq : q.1 = k
    · simp [hq]
    · simpa [hq] using ih
theorem storeD_length (l : List (Int × Int)) (k v : Int) : (storeD l k v).length ≤ l.length + 1 := by
  unfold storeD; split <;> simp

section
variable {w : World} {k : Nat} {env : Env} {H : List Addr} {Mu : List (Addr × PD)} {ρ : Str → Option PD} {h h' : Heap} {d d' : PD} {e : Expr} {N : Nx} {R : PD → Prop} {rest : List Stmt}

/-- a plain list's place is set -/
theorem setItem_plain {A : Around} {s : Shared} {l : Addr} {items : Array Value} {j : Int} {t : Tok} {v : Value} {Q : Unit → Shared → Prop} (hl : s.heap.PlainList l items)
    (h0 : 0 ≤ j) (hfit : j < 2 ^ 63) (hn : j < items.size) (hQ : ∀ h', h'.PlainList l (items.setIfInBounds j.toNat v) → Heap.SameBut l s.heap h' → Q () { s with heap := h' }) :
    wpAny (MM w) A (setItem (.ref l) (.int j t) v) Q NoE s := by
  obtain ⟨c, ho⟩ := hl
  have hT : s.TypeIs (.ref l) "list" := ⟨_, ho, rfl⟩
  obtain ⟨q, hq⟩ : ∃ q, (s.heap.update l (Obj.mapSeq (·.setIfInBounds j.toNat v))).get? l = some (seqObj "list" (items.setIfInBounds j.toNat v) q) := ⟨_, get?_update_seq ho _⟩
  unfold setItem
  try with_reducible refine wpAny_holding ?_
  refine wpAny_bind (wpAny_sequenceKey hT (by decide) ?_)
  refine wpAny_bind (wpAny_callSpecial?_slot (name := Str.ofString "__setitem__") hT slot_list_setitem (wpAny_call_entry slot_list_setitem hT entry_list_setitem ?_ (args_list_setitem _ _ _)))
  show wpAny _ _ (Builtin.List.listSubscript? (.int j t) >>= _) _ _ s
  refine wpAny_bind (wpAny_listSubscript_int (fitsIndex_of h0 hfit) ?_)
  obtain ⟨i, rfl⟩ := Int.eq_ofNat_of_zero_le h0
  have hi : i < items.size := by omega
  have hx : items[i]? = some items[i] := Array.getElem?_eq_getElem hi
  show wpAny _ _ ((seqItemAt l i >>= fun r => pure (r.map (i, ·))) >>= _) _ _ s
  refine wpAny_bind (wpAny_bind (wpAny_seqItemAt ho rfl (wpAny_pure ?_)))
  rw [hx]
  show wpAny _ _ (setSeqItemAt l i v >>= _) _ _ s
  refine wpAny_bind (wpAny_setSeqItemAt ho rfl ?_)
  have fin := hQ _ ⟨q, hq⟩ (Heap.SameBut.update ..)
  exact wpAny_pure ⟨.none, rfl, wpAny_pure fin⟩
/-- l[j] = x -/
theorem ex_setitem {o y x : Expr} {apos spos : Pos} {i : Nat} {D : Addr} {ds : List PD} {j : Int} (hi : Mu[i]? = some (D, .list ds)) (b : EvD w k env Mu ρ x d) (a : EvD w k env Mu ρ o (.raw (.ref D))) (c : EvD w k env Mu ρ y (.int j))
    (hj : 0 ≤ j) (hj' : j < ds.length) (hz : ds.length ≤ 1000)
    (n : Ex w k env (Mu.set i (D, .list (ds.set j.toNat d))) ρ rest N R)
    (hs : swapsWith x (some (.Subscript o y apos)) spos.line env = pure false := by rfl) :
    Ex w k env Mu ρ (.Assign [.Subscript o y apos] x spos :: rest) N R :=
  ex_cons (N' := only (Mu.set i (D, .list (ds.set j.toNat d))) ρ) (fun A H h0 s hA S B => by
    refine wpAny_Assign_Subscript (wpn (b A H s hA S) fun v s₁ ⟨k₁, rv⟩ => wpn (a A H s₁ hA (S.sub k₁.heap)) fun ov s₂ ⟨k₂, ro⟩ => wpn (c A H s₂ hA ((S.sub k₁.heap).sub k₂.heap)) fun iv s₃ ⟨k₃, t, ri⟩ => ?_) hs
    have ro : ov = .ref D := ro
    subst ro; subst ri
    have S₃ := ((S.sub k₁.heap).sub k₂.heap).sub k₃.heap
    obtain ⟨vs, p, r⟩ := S₃.mu _ (List.mem_of_getElem? hi)
    have hl := r.length
    have p0 := p
    obtain ⟨ne, p0⟩ := p0
    refine setItem_plain p hj (by omega) (by rw [List.size_toArray]; omega) fun h₄ p₄ sb => ?_
    have z : Sub (Fz (hid env Mu H) s₃.heap) (Fz (hid env Mu H) h₄) := Fz_mono (KB.same sb (List.mem_append_left _ (mem_own_mu (List.mem_of_getElem? hi))))
    have kk := (k₁.trans k₂).trans k₃
    refine ⟨kk.grew.trans ⟨h₄, s₃.toks, rfl⟩, _, _, ⟨rfl, rfl⟩, S₃.turn hi sb ⟨vs.set j.toNat v, ?_, ?_⟩, (B.sub kk.heap).turn hi sb⟩
    · rw [show (vs.set j.toNat v).toArray = vs.toArray.setIfInBounds j.toNat v by simp]; exact p₄
    · exact (r.sub z).set _ ((rv.sub (fz_up (k₂.trans k₃))).sub z)) fun Mu' ρ' ⟨e, e'⟩ => by subst e; subst e'; exact n

/-- d[k] = x -/
theorem ex_setitemD {o y x : Expr} {apos spos : Pos} {i : Nat} {D : Addr} {l : List (Int × Int)} {j v : Int} (hi : Mu[i]? = some (D, .dict l)) (b : EvD w k env Mu ρ x (.int v)) (a : EvD w k env Mu ρ o (.raw (.ref D))) (c : EvD w k env Mu ρ y (.int j))
    (hz : l.length ≤ 1000)
    (n : Ex w k env (Mu.set i (D, .dict (storeD l j v))) ρ rest N R)
    (hs : swapsWith x (some (.Subscript o y apos)) spos.line env = pure false := by rfl) :
    Ex w k env Mu ρ (.Assign [.Subscript o y apos] x spos :: rest) N R :=
  ex_cons (N' := only (Mu.set i (D, .dict (storeD l j v))) ρ) (fun A H h0 s hA S B => by
    refine wpAny_Assign_Subscript (wpn (b A H s hA S) fun v s₁ ⟨k₁, t', rv⟩ => wpn (a A H s₁ hA (S.sub k₁.heap)) fun ov s₂ ⟨k₂, ro⟩ => wpn (c A H s₂ hA ((S.sub k₁.heap).sub k₂.heap)) fun iv s₃ ⟨k₃, t, ri⟩ => ?_) hs
    have ro : ov = .ref D := ro
    subst ro; subst ri; subst rv
    have S₃ := ((S.sub k₁.heap).sub k₂.heap).sub k₃.heap
    obtain ⟨kvs, lo, p, r⟩ := S₃.mu _ (List.mem_of_getElem? hi)
    have hl := r.length
    refine wpAny_setItem_pairs (knd := intKind PR w) (k := j) (intKind_is _ _ _ _) p (fun h₄ p₄ sb => ?_) (by rw [sizeLine_eq]; omega)
    have kk := (k₁.trans k₂).trans k₃
    exact ⟨kk.grew.trans ⟨h₄, s₃.toks + 1, rfl⟩, _, _, ⟨rfl, rfl⟩, S₃.turn hi sb ⟨_, lo, p₄, r.stored⟩, (B.sub kk.heap).turn hi sb⟩) fun Mu' ρ' ⟨e, e'⟩ => by subst e; subst e'; exact n
/-- d[k] += x -/
theorem ex_augD {o y x : Expr} {apos spos : Pos} {i : Nat} {D : Addr} {l : List (Int × Int)} {j u v : Int} (hi : Mu[i]? = some (D, .dict l)) (a : EvD w k env Mu ρ o (.raw (.ref D))) (c : EvD w k env Mu ρ y (.int j)) (b : EvD w k env Mu ρ x (.int v))
    (hf : findD l j = some u) (hz : l.length ≤ 1000)
    (n : Ex w k env (Mu.set i (D, .dict (storeD l j (u + v)))) ρ rest N R)
    (hs : ∀ ov iv new, augStore y ov iv new = (do holding [new, ov, iv] (setItem ov iv new); release [new, ov, iv] []; pure .next) := by intros; rfl) :
    Ex w k env Mu ρ (.AugAssign (.Subscript o y apos) .Add x spos :: rest) N R :=
  ex_cons (N' := only (Mu.set i (D, .dict (storeD l j (u + v)))) ρ) (fun A H h0 s hA S B => by
    refine wpAny_AugAssign_SubscriptAny (wpn (a A H s hA S) fun ov s₂ ⟨k₂, ro⟩ => wpn (c A H s₂ hA (S.sub k₂.heap)) fun iv s₃ ⟨k₃, t, ri⟩ => ?_) hs
    have ro : ov = .ref D := ro
    subst ro; subst ri
    have S₃ := (S.sub k₂.heap).sub k₃.heap
    obtain ⟨kvs, lo, p, r⟩ := S₃.mu _ (List.mem_of_getElem? hi)
    have hl := r.length
    obtain ⟨t₁, hv⟩ := r.find hf
    refine wpAny_getItem_of (intKind_is _ _ _ _) p.mapOf hv ?_
    have kt : Kp s₃ { s₃ with toks := s₃.toks + 1 } := Kp.tok _ _
    refine wpn (b A H _ hA (S₃.sub kt.heap)) fun v s₄ ⟨k₄, t₂, rv⟩ => ?_
    subst rv
    refine iadd_int ?_
    have S₄ := S₃.sub (kt.trans k₄).heap
    obtain ⟨kvs, lo, p, r⟩ := S₄.mu _ (List.mem_of_getElem? hi)
    have hl := r.length
    refine wpAny_setItem_pairs (knd := intKind PR w) (k := j) (intKind_is _ _ _ _) p (fun h₅ p₅ sb => ?_) (by rw [sizeLine_eq]; omega)
    have kk := (k₂.trans k₃).trans (kt.trans k₄)
    exact ⟨kk.grew.trans ⟨h₅, s₄.toks + 1 + 1, rfl⟩, _, _, ⟨rfl, rfl⟩, S₄.turn hi sb ⟨_, lo, p₅, r.stored⟩, (B.sub kk.heap).turn hi sb⟩) fun Mu' ρ' ⟨e, e'⟩ => by subst e; subst e'; exact n

/-- the data of a dict, be it frozen or still to change -/
noncomputable def Dk (Mu : List (Addr × PD)) (d : PD) (l : List (Int × Int)) : Prop := d = .dict l ∨ ∃ D, d = .raw (.ref D) ∧ (D, PD.dict l) ∈ Mu
theorem Dk.fro {l : List (Int × Int)} : Dk Mu (.dict l) l := .inl rfl
theorem Dk.mut {D : Addr} {l : List (Int × Int)} (m : (D, PD.dict l) ∈ Mu) : Dk Mu (.raw (.ref D)) l := .inr ⟨D, rfl, m⟩
theorem Dk.get {l : List (Int × Int)} {v : Value} (L : Dk Mu d l) (S : StE w env H Mu ρ h) (r : Rd w (Fz (hid env Mu H) h) d v) : ∃ a kvs, v = .ref a ∧ (a == sysModules) = false ∧ h.DictOf (intKind PR w) a kvs ∧ Pairs kvs l := by
  rcases L with rfl | ⟨D, rfl, m⟩
  · obtain ⟨a, kvs, e, n, p, r⟩ := r
    exact ⟨a, kvs, e, n, dictOf_sub (Fz_sub _ _) p, r⟩
  · obtain ⟨kvs, n, p, r'⟩ := S.mu _ m
    exact ⟨D, kvs, r, n, p, r'⟩
theorem tst_inD {l r : Expr} {pos : Pos} {dr : PD} {i : Int} {ds : List (Int × Int)} (a : EvD w k env Mu ρ l (.int i)) (b : EvD w k env Mu ρ r dr) (L : Dk Mu dr ds)
    (hm : behindInMarks .In r = false := by with_unfolding_all rfl) : Tst w k env Mu ρ (.Compare l [.In] [r] pos) (findD ds i).isSome := fun A H s hA S =>
  wpAny_isTrue_Compare1 (wpn (a A H s hA S) fun u s₁ ⟨k₁, t, r₁⟩ => wpn (b A H s₁ hA (S.sub k₁.heap)) fun v s₂ ⟨k₂, r₂⟩ => by
    subst r₁
    obtain ⟨q, kvs, rfl, lo, p, r⟩ := L.get ((S.sub k₁.heap).sub k₂.heap) r₂
    refine wpAny_in_of (intKind_is _ _ _ _) lo p.mapOf (wpAny_truthy_bool ⟨(k₁.trans k₂).trans (Kp.tok s₂ _), r.isSome⟩)) hm
theorem ev_itemD {l i : Expr} {pos : Pos} {dl : PD} {ds : List (Int × Int)} {x j : Int} (a : EvD w k env Mu ρ l dl) (L : Dk Mu dl ds) (b : EvD w k env Mu ρ i (.int x)) (hx : findD ds x = some j)
    (hs : ∀ o v, subscripted i false o v = operate [o, v] (getItem o v) := by intro _ _; with_unfolding_all rfl) : EvD w k env Mu ρ (.Subscript l i pos) (.int j) := fun A H s hA S =>
  Subscript_ (wpn (a A H s hA S) fun u s₁ ⟨k₁, r₁⟩ => wpn (b A H s₁ hA (S.sub k₁.heap)) fun v s₂ ⟨k₂, t, r₂⟩ => by
    subst r₂
    obtain ⟨q, kvs, rfl, lo, p, r⟩ := L.get (S.sub (Sub.trans k₁.heap k₂.heap)) (r₁.sub (fz_up k₂))
    obtain ⟨t₁, hv⟩ := r.find hx
    exact tail_any p.typeIs slot_dict_getitem.lookup (wpAny_getItem_of (intKind_is _ _ _ _) p.mapOf hv ⟨(k₁.trans k₂).trans (Kp.tok s₂ _), t₁, rfl⟩) (hs _ _))
theorem new_dict {pos : Pos} : EvNew w k env Mu ρ (.Dict [] [] pos) (.dict []) := fun A H s hA S => wpAny_Dict_empty ⟨Kp.to (sub_push _ _), _, rfl, none_of_size, [], by
  have G := S.gd.sub (Fz_sub _ s.heap)
  obtain ⟨_, o, _, _, e, _⟩ := G.g
  have := Heap.lt_size e
  exact beq_eq_false_iff_ne.mpr fun q => by rw [q] at this; exact absurd this (by decide), Heap.DictOf.new _, trivial⟩
theorem rep_arr {x : Value} {n : Nat} : (List.replicate n x).toArray = List.foldl (fun x1 x2 => x1 ++ x2) #[] (List.replicate (if (#[x] : Array Value).isEmpty = true then 0 else n) #[x]) := by
  have : ∀ (m : Nat) (acc : Array Value), List.foldl (fun x1 x2 => x1 ++ x2) acc (List.replicate m #[x]) = acc ++ (List.replicate m x).toArray := fun m => by
    induction m with
    | zero => intro acc; simp
    | succ m ih => intro acc; rw [List.replicate_succ, List.foldl_cons, ih, List.replicate_succ]; apply Array.ext'; simp
  rw [this]
  apply Array.ext'; simp
theorem rds_replicate {h : Heap} {d : PD} {v : Value} (r : Rd w h d v) : ∀ n, Rds w h (List.replicate n d) (List.replicate n v)
  | 0 => Rds.nil
  | n + 1 => Rds.cons r (rds_replicate r n)
/-- [x] * n -/
theorem new_repeat {l r : Expr} {pos : Pos} {n : Int} (a : EvD w k env Mu ρ l (.list [d])) (b : EvD w k env Mu ρ r (.int n)) (h0 : 0 ≤ n) (hn : n ≤ 1000) : EvNew w k env Mu ρ (.BinOp l .Mult r pos) (.list (List.replicate n.toNat d)) := fun A H s hA S =>
  wpAny_BinOp (wpn (a A H s hA S) fun u s₁ ⟨k₁, r₁⟩ => wpn (b A H s₁ hA (S.sub k₁.heap)) fun v s₂ ⟨k₂, t, r₂⟩ => by
    subst r₂
    obtain ⟨q, vs, rfl, ⟨c, p⟩, r⟩ := r₁.sub (fz_up (M := hid env Mu H) k₂)
    have p := Fz_of p
    obtain ⟨x, vs', rfl, rx, r'⟩ := r.cons_inv
    rw [Rds.nil_inv r'] at p r
    refine wpAny_binaryOp_repeat_ref (T := "list") (U := "int") (by decide) ⟨_, p, rfl⟩ (fun s' => typeIs_int s' n t) noFill_list_mul F.fills_int_mul F.slot_int_rmul repeat_list F.slot_int_index.lookup
      (call_meets F.slot_int_rmul (typeIs_int s₂ n t) F.entry_int_rmul (F.args_int_rmul_2 _ _) (int___rmul___int_list n t q _ c)
        ⟨p, rfl, ⟨_, p, rfl⟩, call_meets F.slot_list_mul ⟨_, p, rfl⟩ F.entry_list_mul (F.args_list_mul_2 _ _)
          (AutoListH.list___mul___list_int_3 q _ c n t (by simp [Builtin.List.listFitsIndex]; omega) (by simp; omega) (by simp [Builtin.List.listTooLong, sizeLine]; omega)) ⟨p, ?_⟩⟩)
    refine ⟨(k₁.trans k₂).trans (Kp.to (sub_push _ _)), _, rfl, none_back (k₁.trans k₂).heap none_of_size, List.replicate n.toNat x, ⟨0, ?_⟩, ?_⟩
    · rw [rep_arr]
      exact Heap.get?_push_size _ rfl
    · exact rds_replicate (rx.sub (Fz_more (.of (sub_push _ _)) none_of_size)) _)
end
end Mine
namespace Mine
open PySem PySem.W PyProof.Rows PySem.Calls

section
variable {w : World} {k : Nat} {env : Env} {H : List Addr} {Mu : List (Addr × PD)} {ρ : Str → Option PD} {h h' : Heap} {d d' : PD} {e : Expr} {N : Nx} {R : PD → Prop} {rest : List Stmt}

noncomputable abbrev okN (env : Env) (x : Str) : Prop := (env.kindOf x == some .local || (env.kindOf x == some .cell && (env.cells.lookup x).isSome)) = true
/-- names are given values in turn -/
theorem asg_all {A : Around} : ∀ (xs : List (Str × Pos)) (ds : List PD) (vs : List Value) (Mu : List (Addr × PD)) (ρ : Str → Option PD) (s : Shared), StE w env H Mu ρ s.heap → Rds w (Fz (hid env Mu H) s.heap) ds vs → xs.length = ds.length → (∀ p ∈ xs, okN env p.1) →
    wpAny (MM w) A (assignInOrder (xs.map fun p => assign (.Name p.1 p.2) env) vs) (fun _ s' => Grew s s' ∧ StE w env H Mu (updL ρ ((xs.map (·.1)).zip ds)) s'.heap ∧ KB (env.locals :: env.cells.map (·.2)) s.heap s'.heap) NoE s
  | [], [], vs, Mu, ρ, s, S, r, _, _ => by
    rw [Rds.nil_inv r]
    show wpAny _ _ (pure ()) _ _ _
    exact wpAny_pure ⟨Grew.refl s, S, KB.refl _ _⟩
  | [], _ :: _, _, _, _, _, _, _, h, _ => by simp at h
  | _ :: _, [], _, _, _, _, _, _, h, _ => by simp at h
  | x :: xs, d :: ds, vs, Mu, ρ, s, S, r, hl, hk => by
    obtain ⟨v, vs', rfl, rv, r'⟩ := r.cons_inv
    show wpAny _ _ (do holding vs' (assign (.Name x.1 x.2) env v); assignInOrder (xs.map fun p => assign (.Name p.1 p.2) env) vs') _ _ _
    refine wpAny_bind (wpAny_holding (wpn (asg1 S rv (hk x (.head _))) fun _ s₁ ⟨g₁, S₁, kb, _⟩ => ?_))
    have z : Sub (Fz (hid env Mu H) s.heap) (Fz (hid env Mu H) s₁.heap) := Fz_mono (kb.mono fun q m => by
      rcases List.mem_cons.mp m with rfl | m
      · exact .head _
      · exact List.mem_append_left _ (.tail _ (List.mem_append_left _ m)))
    exact wpn (asg_all xs ds vs' Mu _ s₁ S₁ (r'.sub z) (by simpa using hl) fun p m => hk p (.tail _ m)) fun _ s₂ ⟨g₂, S₂, kb₂⟩ => ⟨g₁.trans g₂, S₂, kb.trans kb₂⟩

/-- x, y, .. = a tuple -/
theorem ex_unpack {xs : List (Str × Pos)} {elts : List Expr} {j : Nat} {tp pos : Pos} {ds : List PD} (a : EvD w k env Mu ρ e (.tup ds))
    (he : (assignEach elts env).map (·.2) = xs.map fun p => assign (.Name p.1 p.2) env) (hn : (assignEach elts env).length = ds.length) (hstar : (assignEach elts env).findIdx? (·.1) = none)
    (hk : ∀ p ∈ xs, okN env p.1) (b : Ex w k env Mu (updL ρ ((xs.map (·.1)).zip ds)) rest N R)
    (hs : swapsWithSole [.Tuple elts j tp] e pos.line env = pure false := by rfl) (hw : swappedStores [.Tuple elts j tp] e env = pure none := by rfl) :
    Ex w k env Mu ρ (.Assign [.Tuple elts j tp] e pos :: rest) N R :=
  ex_cons (N' := only Mu (updL ρ ((xs.map (·.1)).zip ds))) (fun A H h0 s hA S B => by
    refine Assign_Tuple (wpn (a A H s hA S) fun v s₁ ⟨k₁, T, vs, ev, ht, r⟩ => ?_) hs hw
    subst ev
    have hl := r.length
    refine assign_Tuple_tuple hA.h (isTup_sub (Fz_sub _ _) ht) (by rw [hn, List.size_toArray, hl]) hstar fun h₂ e₂ => ?_
    rw [he]
    have s₂ := sub_extBut e₂
    have hx : xs.length = ds.length := by
      have := congrArg List.length he
      rw [List.length_map, List.length_map] at this
      omega
    refine wpn (asg_all xs ds vs Mu ρ { s₁ with heap := h₂ } ((S.sub k₁.heap).sub s₂) (r.sub (Fz_mono (.of s₂))) hx hk) fun _ s₃ ⟨g₃, S₃, kb⟩ => ?_
    exact ⟨(k₁.grew.trans ⟨h₂, s₁.toks, rfl⟩).trans g₃, _, _, ⟨rfl, rfl⟩, S₃, ((B.sub k₁.heap).sub s₂).store kb⟩) fun Mu' ρ' ⟨e, e'⟩ => by subst e; subst e'; exact b

/-- arguments, of which some are objects just made -/
noncomputable def ArgsM (w : World) (k : Nat) (env : Env) (Mu : List (Addr × PD)) (ρ : Str → Option PD) (pos : Pos) (es : List Expr) (P : List (Addr × PD) → List PD → Prop) : Prop :=
  ∀ (A : Around) (H : List Addr) (h0 : Heap) (s : Shared), OkA A k → StE w env H Mu ρ s.heap → Ba h0 env Mu s.heap → wpAny (MM w) A (spliced (backTo pos (starEach es env))) (fun vs s' => Kp s s' ∧ ∃ Mu' ds, P Mu' ds ∧ StE w env H Mu' ρ s'.heap ∧ Ba h0 env Mu' s'.heap ∧
    (∀ q ∈ hid env Mu' H, q ∈ hid env Mu H ∨ s.heap.get? q = none) ∧ Rds w (Fz (hid env Mu' H) s'.heap) ds vs) NoE s
theorem argsM_nil {pos : Pos} {P : List (Addr × PD) → List PD → Prop} (h : P Mu []) : ArgsM w k env Mu ρ pos [] P := fun A H h0 s hA S B => spliced_none ⟨Kp.rfl s, Mu, [], h, S, B, fun q m => .inl m, rfl⟩
theorem argsM_new {pos : Pos} {es : List Expr} {P : List (Addr × PD) → List PD → Prop} (a : EvNew w k env Mu ρ e d) (b : ∀ D, ArgsM w k env ((D, d) :: Mu) ρ pos es fun Mu' ds => P Mu' (.raw (.ref D) :: ds))
    (he : starEach (e :: es) env = (false, eval e env) :: starEach es env := by rfl) : ArgsM w k env Mu ρ pos (e :: es) P := fun A H h0 s hA S B =>
  spliced_more (wpn (a A H s hA S) fun v s₁ ⟨k₁, D, ev, n, m⟩ => by
    subst ev
    refine wpn (b D A H h0 s₁ hA (S.intro k₁.heap n m) (B.intro k₁.heap n)) fun vs s₂ ⟨k₂, Mu', ds, p, S₂, B₂, f, r⟩ => ?_
    refine ⟨k₁.trans k₂, Mu', _, p, S₂, B₂, fun q m => ?_, Rds.cons (show Rd w _ (.raw (.ref D)) (.ref D) from rfl) r⟩
    rcases f q m with m | m
    · rcases List.mem_cons.mp ((hid_cons q).mp m) with rfl | m
      · exact .inr n
      · exact .inl m
    · exact .inr (none_back k₁.heap m)) he
theorem argsM_old {pos : Pos} {es : List Expr} {P : List (Addr × PD) → List PD → Prop} (a : EvD w k env Mu ρ e d) (b : ArgsM w k env Mu ρ pos es fun Mu' ds => P Mu' (d :: ds))
    (he : starEach (e :: es) env = (false, eval e env) :: starEach es env := by rfl) : ArgsM w k env Mu ρ pos (e :: es) P := fun A H h0 s hA S B =>
  spliced_more (wpn (a A H s hA S) fun v s₁ ⟨k₁, rv⟩ => by
    refine wpn (b A H h0 s₁ hA (S.sub k₁.heap) (B.sub k₁.heap)) fun vs s₂ ⟨k₂, Mu', ds, p, S₂, B₂, f, r⟩ => ?_
    refine ⟨k₁.trans k₂, Mu', _, p, S₂, B₂, fun q m => ?_, Rds.cons (rv.sub (Fz_more' (.of k₂.heap) fun q m n => ?_)) r⟩
    · rcases f q m with m | m
      · exact .inl m
      · exact .inr (none_back k₁.heap m)
    · rcases f q m with m | m
      · exact absurd m n
      · exact m) he

/-- x, y = a, b where the stores run from behind -/
theorem ex_pair {x y : Str} {xp yp tp vp pos : Pos} {e₁ e₂ : Expr} {j j' : Nat} {P : List (Addr × PD) → List PD → Prop} (a : ArgsM w k env Mu ρ vp [e₁, e₂] P) (hx : okN env x) (hy : okN env y)
    (b : ∀ Mu' c d, P Mu' [c, d] → Ex w k env Mu' (upd (upd ρ y d) x c) rest N R) (hP : ∀ Mu' ds, P Mu' ds → ds.length = 2)
    (hs : swapsWithSole [.Tuple [.Name x xp, .Name y yp] j tp] (.Tuple [e₁, e₂] j' vp) pos.line env = pure false := by rfl)
    (hw : swappedStores [.Tuple [.Name x xp, .Name y yp] j tp] (.Tuple [e₁, e₂] j' vp) env = pure (some [x, y]) := by rfl) :
    Ex w k env Mu ρ (.Assign [.Tuple [.Name x xp, .Name y yp] j tp] (.Tuple [e₁, e₂] j' vp) pos :: rest) N R :=
  ex_cons (N' := fun Mu' ρ' => ∃ c d, P Mu' [c, d] ∧ ρ' = upd (upd ρ y d) x c) (fun A H h0 s hA S B => by
    refine Assign_Tuple_swapped (Tuple_ (wpn (a A H h0 s hA S B) fun vs s₁ ⟨k₁, Mu', ds, p, S₁, B₁, f, r⟩ => ?_)) hs hw
    have hlen := hP _ _ p
    have hl := r.length
    match ds, hlen, p, r, hl with
    | [c, d], _, p, r, hl =>
      obtain ⟨u, vs1, rfl, ru, r1⟩ := r.cons_inv
      obtain ⟨v, vs2, rfl, rv, r2⟩ := Rds.cons_inv r1
      rw [Rds.nil_inv r2]
      refine wpAny_newObj_type ?_ (by show (2 : Nat) ≤ sizeLine; rw [sizeLine_eq]; decide)
      have ht : IsTup (s₁.heap.push { cls := .type "tuple", data := .seq [u, v].toArray }) s₁.heap.objs.size #[u, v] := ⟨_, Heap.get?_push_size _ rfl, rfl, _, rfl⟩
      show wpAny (MM w) A (unpackItems (.ref s₁.heap.objs.size) (#[u, v] : Array Value).size none) _ _ _
      refine unpackItems_tuple hA.h ht fun h₂ e₂ => ?_
      dsimp only at e₂ ⊢
      have s₂ : Sub s₁.heap h₂ := Sub.trans (sub_push _ _) (sub_extBut e₂)
      show wpAny _ _ (do holding [u] (bindName env y v); do holding [] (bindName env x u); pure ()) _ _ _
      have z₂ : Sub (Fz (hid env Mu' H) s₁.heap) (Fz (hid env Mu' H) h₂) := Fz_mono (.of s₂)
      refine wpAny_bind (wpAny_holding (wpAny_bindName (wpn (wp_store (s := { s₁ with heap := h₂ }) (S₁.sub s₂) hy (rv.sub z₂)) fun _ s₃ ⟨g₃, S₃, kb₃, _⟩ => ?_)))
      have z₃ : Sub (Fz (hid env Mu' H) h₂) (Fz (hid env Mu' H) s₃.heap) := Fz_mono (kb₃.mono fun q m => by
        rcases List.mem_cons.mp m with rfl | m
        · exact .head _
        · exact List.mem_append_left _ (.tail _ (List.mem_append_left _ m)))
      refine wpAny_bind (wpAny_holding (wpAny_bindName (wpn (wp_store S₃ hx ((ru.sub z₂).sub z₃)) fun _ s₄ ⟨g₄, S₄, kb₄, _⟩ => wpAny_pure ?_)))
      have g₂ : Grew s₁ { s₁ with heap := h₂ } := ⟨h₂, s₁.toks, rfl⟩
      have B₄ := ((B₁.sub s₂).store kb₃).store kb₄
      refine ⟨((k₁.grew.trans g₂).trans g₃).trans g₄, ?_⟩
      exact ⟨Mu', _, ⟨c, d, p, rfl⟩, S₄, B₄⟩) fun Mu' ρ' ⟨c, d, p, e⟩ => by subst e; exact b Mu' c d p

/-- x += y -/
theorem ex_aug {x : Str} {xp pos : Pos} {i j : Int} (hv : ρ x = some (.int i)) (hx : env.kindOf x = some .local) (a : EvD w k env Mu ρ e (.int j)) (b : Ex w k env Mu (upd ρ x (.int (i + j))) rest N R) :
    Ex w k env Mu ρ (.AugAssign (.Name x xp) .Add e pos :: rest) N R :=
  ex_cons (N' := only Mu (upd ρ x (.int (i + j)))) (fun A H h0 s hA S B => by
    obtain ⟨m, n, y⟩ := S.ns
    obtain ⟨v, ev, t, rv⟩ := y x _ hv hx
    subst rv
    refine wpAny_AugAssign_Name (wpAny_loadName_local S.ek hx n ev (wpn (a A H s hA S) fun u s₁ ⟨k₁, t', ru⟩ => ?_))
    subst ru
    have kt : Kp s₁ { s₁ with toks := s₁.toks + 1 } := Kp.tok _ _
    have S₁ := S.sub k₁.heap
    refine iadd_int (wpn (wp_store (s := { s₁ with toks := s₁.toks + 1 }) (d := .int (i + j)) S₁ (by rw [hx]; rfl) ⟨_, rfl⟩) fun _ s₂ ⟨g, S₂, kb, _⟩ => ?_)
    exact ⟨(k₁.trans kt).grew.trans g, Mu, _, ⟨rfl, rfl⟩, S₂, (B.sub k₁.heap).store kb⟩) fun Mu' ρ' ⟨e, e'⟩ => by subst e; subst e'; exact b

/-- lists joined, be they still to change -/
theorem ev_concat {l r : Expr} {pos : Pos} {dl dr : PD} {ds es : List PD} (a : EvD w k env Mu ρ l dl) (L : Lk Mu dl ds) (b : EvD w k env Mu ρ r dr) (L' : Lk Mu dr es) (hz : ds.length + es.length ≤ 1000) :
    EvNew w k env Mu ρ (.BinOp l .Add r pos) (.list (ds ++ es)) := fun A H s hA S =>
  wpAny_BinOp (wpn (a A H s hA S) fun u s₁ ⟨k₁, r₁⟩ => wpn (b A H s₁ hA (S.sub k₁.heap)) fun v s₂ ⟨k₂, r₂⟩ => by
    have S₂ := (S.sub k₁.heap).sub k₂.heap
    obtain ⟨p, us, rfl, ⟨n, ha⟩, ra⟩ := L.get S₂ (r₁.sub (fz_up k₂))
    obtain ⟨q, vs, rfl, ⟨m, hb⟩, rb⟩ := L'.get S₂ r₂
    have la := ra.length
    have lb := rb.length
    refine concat_meets ⟨_, ha, rfl⟩ ⟨_, hb, rfl⟩ noFill_list_add seq_list_add PySem.F.slot_list_add PySem.F.entry_list_add (PySem.F.args_list_add_2 _ _) (list_addW p q us.toArray vs.toArray n m none none #[] #[] (by rw [List.size_toArray, List.size_toArray, sizeLine_eq]; omega)) ⟨ha, hb, ?_⟩
    refine ⟨(k₁.trans k₂).trans (Kp.to (sub_push _ _)), _, rfl, none_back (k₁.trans k₂).heap none_of_size, us ++ vs, ⟨0, ?_⟩, ?_⟩
    · rw [show (us ++ vs).toArray = us.toArray ++ vs.toArray by simp]
      exact Heap.get?_push_size _ rfl
    · exact (ra.append rb).sub (Fz_more (.of (sub_push _ _)) none_of_size))

/-- what is made is handed back -/
inductive Melt1 (Mu : List (Addr × PD)) : PD → PD → Prop
  | same (d : PD) : Melt1 Mu d d
  | mut {D : Addr} {d : PD} (m : (D, d) ∈ Mu) : Melt1 Mu (.raw (.ref D)) d
inductive MeltL (Mu : List (Addr × PD)) : List PD → List PD → Prop
  | nil : MeltL Mu [] []
  | cons {d e : PD} {ds es : List PD} (a : Melt1 Mu d e) (b : MeltL Mu ds es) : MeltL Mu (d :: ds) (e :: es)
inductive Melt (Mu : List (Addr × PD)) : PD → PD → Prop
  | one {d e : PD} (a : Melt1 Mu d e) : Melt Mu d e
  | list {ds es : List PD} (a : MeltL Mu ds es) : Melt Mu (.list ds) (.list es)
  | tup {ds es : List PD} (a : MeltL Mu ds es) : Melt Mu (.tup ds) (.tup es)

theorem mut_rd {h0 : Heap} {D : Addr} (S : StE w env H Mu ρ h) (B : Ba h0 env Mu h) (m : (D, d) ∈ Mu) : Rd w (Fz (Hin h0 H) h) d (.ref D) :=
  ((S.mu _ m).mono fun q x => List.mem_append_right _ (Hin_sub q x)).rd (Hin_no (B.no D (mem_own_mu m)))
theorem Melt1.rd {h0 : Heap} {v : Value} (S : StE w env H Mu ρ h) (B : Ba h0 env Mu h) (r : Rd w (Fz (hid env Mu H) h) d v) : ∀ {e : PD}, Melt1 Mu d e → Rd w (Fz (Hin h0 H) h) e v
  | _, .same _ => r.sub (Sub.trans Fz_own (Fz_less Hin_sub))
  | _, .mut m => by
    have r : v = .ref _ := r
    exact r ▸ mut_rd S B m
theorem MeltL.rd {h0 : Heap} (S : StE w env H Mu ρ h) (B : Ba h0 env Mu h) : ∀ {ds es : List PD} {vs : List Value}, MeltL Mu ds es → Rds w (Fz (hid env Mu H) h) ds vs → Rds w (Fz (Hin h0 H) h) es vs
  | _, _, _, .nil, r => by rw [Rds.nil_inv r]; exact Rds.nil
  | _, _, _, .cons a b, r => by
    obtain ⟨v, vs', rfl, rv, r'⟩ := r.cons_inv
    exact Rds.cons (a.rd S B rv) (MeltL.rd S B b r')
theorem Melt.rd {h0 : Heap} {v : Value} {e : PD} (S : StE w env H Mu ρ h) (B : Ba h0 env Mu h) (m : Melt Mu d e) (r : Rd w (Fz (hid env Mu H) h) d v) : Rd w (Fz (Hin h0 H) h) e v := by
  cases m with
  | one a => exact a.rd S B r
  | list a =>
    obtain ⟨q, vs, e, p, r⟩ := r
    exact ⟨q, vs, e, p.at fun o x => (Sub.trans (Fz_own (env := env) (Mu := Mu)) (Fz_less Hin_sub)) _ _ x, a.rd S B r⟩
  | tup a =>
    obtain ⟨q, vs, e, p, r⟩ := r
    exact ⟨q, vs, e, isTup_sub (Sub.trans (Fz_own (env := env) (Mu := Mu)) (Fz_less Hin_sub)) p, a.rd S B r⟩
theorem ex_returnM {pos : Pos} (a : EvD w k env Mu ρ e d) (m : Melt Mu d d') (r : R d') : Ex w k env Mu ρ (.Return (some e) pos :: rest) N R :=
  ex_cons (N' := fun _ _ => False) (fun A H h0 s hA S B => wpAny_Return_some (wpn (a A H s hA S) fun v s₁ ⟨k₁, q⟩ => ⟨k₁.grew, d', r, m.rd (S.sub k₁.heap) (B.sub k₁.heap) q, (B.sub k₁.heap).sb⟩)) fun _ _ x => x.elim
/-- a list of objects just made -/
theorem ex_assignL {x : Str} {xp lp pos : Pos} {es : List Expr} {P : List (Addr × PD) → List PD → Prop} (a : ArgsM w k env Mu ρ lp es P) (hx : okN env x) (hP : ∀ Mu' ds, P Mu' ds → ds.length ≤ 1000)
    (b : ∀ Mu' ds, P Mu' ds → Ex w k env Mu' (upd ρ x (.list ds)) rest N R)
    (hs : swapsWith (.List es lp) (some (.Name x xp)) pos.line env = pure false := by rfl) : Ex w k env Mu ρ (.Assign [.Name x xp] (.List es lp) pos :: rest) N R :=
  ex_cons (N' := fun Mu' ρ' => ∃ ds, P Mu' ds ∧ ρ' = upd ρ x (.list ds)) (fun A H h0 s hA S B =>
    wpAny_Assign_Name (List_ (wpn (a A H h0 s hA S B) fun vs s₁ ⟨k₁, Mu', ds, p, S₁, B₁, f, r⟩ => by
      have hl := r.length
      have hz := hP _ _ p
      refine wpAny_newObj_type ?_ (by show vs.toArray.size ≤ sizeLine; rw [List.size_toArray, sizeLine_eq]; omega)
      have sp := sub_push s₁.heap { cls := .type "list", data := .seq vs.toArray }
      refine wpn (wp_store (d := .list ds) (s := { s₁ with heap := s₁.heap.push _ }) (S₁.sub sp) hx (rd_newList (S₁.fresh none_of_size) ⟨_, Heap.get?_push_size _ rfl⟩ (r.sub (Fz_mono (.of sp))))) fun _ s₂ ⟨g₂, S₂, kb, _⟩ => ?_
      exact ⟨(k₁.grew.trans ⟨_, s₁.toks, rfl⟩).trans g₂, Mu', _, ⟨ds, p, rfl⟩, S₂, (B₁.sub sp).store kb⟩)) hs) fun Mu' ρ' ⟨ds, p, e⟩ => by subst e; exact b Mu' ds p

/-- objects and names that are wanted no more -/
theorem ex_shed {Mu' : List (Addr × PD)} {ρ' : Str → Option PD} (sb : Mu'.Sublist Mu) (f : ∀ x d, ρ' x = some d → ρ x = some d) {ss : List Stmt} (b : Ex w k env Mu' ρ' ss N R) : Ex w k env Mu ρ ss N R := fun A H h0 s hA S B =>
  b A H h0 s hA (S.shed sb fun x d e => .inl (f x d e)) (B.shed sb)
/-- the names that are wanted, in a list -/
noncomputable abbrev rL (l : List (Str × PD)) : Str → Option PD := fun y => l.lookup y
noncomputable def AllR (ρ : Str → Option PD) : List (Str × PD) → Prop
  | [] => True
  | p :: r => ρ p.1 = some p.2 ∧ AllR ρ r
theorem AllR.of : ∀ {l : List (Str × PD)}, AllR ρ l → ∀ x d, rL l x = some d → ρ x = some d
  | [], _, x, d, e => by simp [rL] at e
  | p :: r, ⟨a, b⟩, x, d, e => by
    obtain ⟨y, c⟩ := p
    simp only [rL, List.lookup_cons] at e
    by_cases h : (x == y) = true
    · rw [h] at e; cases e; rw [eq_of_beq h]; exact a
    · simp only [Bool.not_eq_true] at h; rw [h] at e; exact AllR.of b x d e
theorem ex_can (l : List (Str × PD)) (a : AllR ρ l) {ss : List Stmt} (b : Ex w k env Mu (rL l) ss N R) : Ex w k env Mu ρ ss N R := ex_shed (List.Sublist.refl _) a.of b
end
end Mine
namespace Mine
open PySem PySem.W PyProof.Rows PySem.Calls
local macro_rules | `(tactic| walk_at "mnm") => `(tactic| ((with_reducible show EvD _ _ _ _ _ (Expr.Name _ _) _); first
  | (refine ev_name (by with_unfolding_all rfl) (by with_unfolding_all rfl) (by with_unfolding_all rfl))
  | (refine ev_glob (by with_unfolding_all rfl) (by with_unfolding_all rfl) (by with_unfolding_all rfl))
  | (refine ev_boot (by with_unfolding_all rfl) (by boot_fast) (by with_unfolding_all rfl) (by decide) (by with_unfolding_all rfl))))
local macro_rules | `(tactic| walk_at "mcal") => `(tactic| first | exact .inl ⟨_, rfl⟩ | exact .inr (.inl ⟨_, rfl⟩) | exact .inr (.inr (by with_unfolding_all rfl)))
local macro_rules | `(tactic| walk_at "mop") => `(tactic| first
  | ((with_reducible show Op2 _ _ (binaryOp .Add) _ _ _); exact op_add)
  | ((with_reducible show Op2 _ _ (binaryOp .Sub) _ _ _); exact op_sub)
  | ((with_reducible show Op2 _ _ (binaryOp .Mult) _ _ _); exact op_mul (IntMulOk.of_right (by decide)))
  | ((with_reducible show Op2 _ _ (binaryOp .FloorDiv) _ _ _); exact op_div (by decide) (by decide))
  | ((with_reducible show Op2 _ _ (binaryOp .Mod) _ _ _); exact op_mod (by decide))
  | ((with_reducible show Op2 _ _ (compareOp .Lt) _ _ _); exact op_lt)
  | ((with_reducible show Op2 _ _ (compareOp .LtE) _ _ _); exact op_le)
  | ((with_reducible show Op2 _ _ (compareOp .Gt) _ _ _); exact op_gt)
  | ((with_reducible show Op2 _ _ (compareOp .Eq) _ _ _); exact op_eq)
  | ((with_reducible show Op2 _ _ (compareOp .NotEq) _ _ _); exact op_ne))
local macro_rules | `(tactic| walk_at "mev") => `(tactic| first
  | walk_at "mnm"
  | ((with_reducible show EvD _ _ _ _ _ (Expr.Constant (Const.int _) _ _) _); exact ev_int)
  | ((with_reducible show EvD _ _ _ _ _ (Expr.Constant Const.none _ _) _); exact ev_none)
  | ((with_reducible show EvD _ _ _ _ _ (Expr.Constant (Const.bool _) _ _) _); exact ev_bool)
  | ((with_reducible show EvD _ _ _ _ _ (Expr.UnaryOp _ _ _) _); exact ev_neg (by walk_at "mev"))
  | ((with_reducible show EvD _ _ _ _ _ (Expr.BinOp _ _ _ _) _); exact ev_bin (by walk_at "mev") (by walk_at "mev") (by walk_at "mop"))
  | ((with_reducible show EvD _ _ _ _ _ (Expr.Tuple _ _ _) _); exact ev_tuple (by walk_at "margs") (by simp))
  | ((with_reducible show EvD _ _ _ _ _ (Expr.List _ _) _); exact ev_list (by walk_at "margs") (by simp)))
local macro_rules | `(tactic| walk_at "margs") => `(tactic| first
  | ((with_reducible show EvArgs _ _ _ _ _ _ [] _); exact args_nil)
  | exact args_cons (by walk_at "mev") (by walk_at "margs"))
local macro_rules | `(tactic| walk_at "mts") => `(tactic| exact tst_cmp (by walk_at "mev") (by walk_at "mev") (by walk_at "mop"))
local macro_rules | `(tactic| walk_at "mcan") => `(tactic| (repeat' (first | exact trivial | refine And.intro (by with_unfolding_all rfl) ?_)))
local macro_rules | `(tactic| walk_at "mhk") => `(tactic| (intro i hi; first | (refine List.forall_mem_singleton.mpr ?_; with_unfolding_all rfl) | (refine List.forall_mem_cons.mpr ⟨?_, List.forall_mem_singleton.mpr ?_⟩ <;> with_unfolding_all rfl)))
local macro_rules | `(tactic| walk_at "mcok") => `(tactic| exact ⟨by with_unfolding_all rfl, by decide, rfl, by decide⟩)
local macro_rules | `(tactic| walk_at "mu") => `(tactic| with_unfolding_all rfl)
section
open PySem PySem.W PyProof.Rows PySem.Calls
section
variable {w : World} {k : Nat} {env : Env} {Mu : List (Addr × PD)} {ρ : Str → Option PD} {e : Expr} {d : PD}
theorem hb_plain {fd : FuncData} {names : List Str} {ds : List PD} (h : ∀ vs : List Value, vs.length = ds.length → bindArgs fd ⟨vs, []⟩ = pure (names.zip vs)) :
    ∀ (g : Heap) (s : Shared) (vs : List Value), (KK w).In s.heap → Rds w g ds vs → ∃ us, Rds w g ds us ∧ BindsTo s fd ⟨vs, []⟩ (names.zip us) :=
  fun g s vs _ r => ⟨vs, r, BindsTo.of_eq (h vs r.length)⟩
theorem len_one {α : Type} {vs : List α} (h : vs.length = 1) : ∃ a, vs = [a] := by
  match vs, h with
  | [a], _ => exact ⟨a, rfl⟩
theorem len_two {α : Type} {vs : List α} (h : vs.length = 2) : ∃ a b, vs = [a, b] := by
  match vs, h with
  | [a, b], _ => exact ⟨a, b, rfl⟩
theorem len_three {α : Type} {vs : List α} (h : vs.length = 3) : ∃ a b c, vs = [a, b, c] := by
  match vs, h with
  | [a, b, c], _ => exact ⟨a, b, c, rfl⟩
theorem len_four {α : Type} {vs : List α} (h : vs.length = 4) : ∃ a b c d, vs = [a, b, c, d] := by
  match vs, h with
  | [a, b, c, d], _ => exact ⟨a, b, c, d, rfl⟩

noncomputable def pairZ (a b : Int) : Int := (if b < a then b else a) * 6 + (if b > a then b else a)
set_option maxRecDepth 100000 in
set_option maxHeartbeats 4000000 in
theorem pair_ok {a b : Int} : CallD w (k + 1) (.ref 119) [.int a, .int b] (.int (pairZ a b)) := by
  refine call_fn (names := ["one", "two"]) (es := [.int a, .int b]) (by with_unfolding_all rfl) ?hcd ?hb ?bd ?hkind ?hnd rfl ?hcn ?_ ?_ ?_
  case hcd => with_unfolding_all rfl
  case hkind => with_unfolding_all rfl
  case hb => exact hb_plain fun vs h => by obtain ⟨x, y, rfl⟩ := len_two h; with_unfolding_all rfl
  case hnd => decide
  case hcn => decide
  case bd =>
    intro L
    refine' ex_return (d := .int (pairZ a b)) ?_ rfl
    refine' ev_bin ?_ ?_ op_add
    refine' ev_bin ?_ ev_int (op_mul (IntMulOk.of_right (by decide)))
    refine' ev_call ?_ ?_ (args_cons ?_ (args_cons ?_ args_nil)) cd_min
    (walk_at "mnm"); (walk_at "mcal"); (walk_at "mnm"); (walk_at "mnm")
    refine' ev_call ?_ ?_ (args_cons ?_ (args_cons ?_ args_nil)) cd_max
    (walk_at "mnm"); (walk_at "mcal"); (walk_at "mnm"); (walk_at "mnm")
  all_goals rfl

/-- binary search as bisect_right does it -/
noncomputable def bisR (ns : List Int) (x : Int) : Nat → Int → Int → Int
  | 0, lo, _ => lo
  | f + 1, lo, hi => if lo < hi then (if x < ns.getD ((lo + hi) / 2).toNat 0 then bisR ns x f lo ((lo + hi) / 2) else bisR ns x f ((lo + hi) / 2 + 1) hi) else lo
noncomputable def bisZ (ns : List Int) (x : Int) : Int := bisR ns x (ns.length + 1) 0 ns.length

theorem bisR_done {ns : List Int} {x lo hi : Int} (f : Nat) (h : ¬ lo < hi) : bisR ns x f lo hi = lo := by
  cases f with
  | zero => rfl
  | succ f => unfold bisR; rw [if_neg h]

set_option maxRecDepth 100000 in
set_option maxHeartbeats 4000000 in
theorem bis_core {ns : List Int} {x : Int} {ds : List PD} (hz : ns.length ≤ 1000)
    (hb : ∀ (g : Heap) (s : Shared) (vs : List Value), (KK w).In s.heap → Rds w g ds vs → ∃ v₁ v₂ t, Rds w g [.ints ns, .int x, .int 0, .none, .none] [v₁, v₂, .int 0 t, .none, .none] ∧ (vs = [v₁, v₂] ∧ t = 284 ∨ vs = [v₁, v₂, .int 0 t, .none])) : CallD w (k + 1) (.ref 81) ds (.int (bisZ ns x)) := by
  refine call_fn (names := ["a", "x", "lo", "hi", "key"]) (es := [.ints ns, .int x, .int 0, .none, .none]) (by with_unfolding_all rfl) ?hcd ?hb ?bd ?hkind ?hnd rfl ?hcn ?_ ?_ ?_
  case hcd => with_unfolding_all rfl
  case hkind => with_unfolding_all rfl
  case hb =>
    intro g s vs K r
    obtain ⟨v₁, v₂, t, r', e⟩ := hb g s vs K r
    rcases e with ⟨rfl, rfl⟩ | rfl
    · refine ⟨[v₁, v₂, .int 0 284, .none, .none], r', kp_binds K ?_⟩
      intro S
      with_unfolding_all rfl
    · refine ⟨[v₁, v₂, .int 0 t, .none, .none], r', kp_binds K ?_⟩
      intro S
      with_unfolding_all rfl
  case hnd => decide
  case hcn => decide
  case bd =>
    intro L
    refine ex_ifF (tst_cmp (by (walk_at "mnm")) ev_int op_lt) ?_
    refine ex_ifT (N' := fun Mu' ρ' => Mu' = [] ∧ ρ' = rL [("a", .ints ns), ("x", .int x), ("lo", .int 0), ("hi", .int ns.length), ("key", .none)]) (tst_isNone (by (walk_at "mnm")) ev_none) ?_ ?_
    · refine ex_assign (d := .int ns.length) ?_ (ex_can _ ?_ (ex_nil ⟨rfl, rfl⟩)) (by with_unfolding_all rfl)
      · have c := cd_len (w := w) (k := k) (ds := ns.map .int) (by rw [List.length_map]; exact hz)
        rw [List.length_map] at c
        exact ev_call (by (walk_at "mnm")) (by (walk_at "mcal")) (args_cons (by (walk_at "mnm")) args_nil) c
      · (walk_at "mcan")
    rintro Mu' ρ' ⟨rfl, rfl⟩
    refine ex_ifT (N' := fun Mu' ρ' => ρ' = rL [("lo", .int (bisZ ns x))]) (tst_isNone (by (walk_at "mnm")) ev_none) ?_ ?_
    · refine ex_while (J := fun m Mu' ρ' => Mu' = [] ∧ ∃ lo hi : Int, ρ' = rL [("a", .ints ns), ("x", .int x), ("lo", .int lo), ("hi", .int hi), ("key", .none)] ∧ 0 ≤ lo ∧ lo ≤ hi ∧ hi ≤ ns.length ∧ hi - lo < m ∧ bisR ns x m lo hi = bisZ ns x) (ns.length + 1) ?_ ?_
      · exact ⟨rfl, 0, ns.length, rfl, by omega, by omega, by omega, by omega, rfl⟩
      · rintro m Mu' ρ' ⟨rfl, lo, hi, rfl, l1, l2, l3, l4, l5⟩
        refine ⟨decide (lo < hi), ?_, fun c => ?_, fun c => ?_⟩
        · (walk_at "mts")
        · have c := of_decide_eq_true c
          have hm : (lo + hi) / 2 < ns.length := by omega
          have hm0 : 0 ≤ (lo + hi) / 2 := by omega
          obtain ⟨m, rfl⟩ : ∃ m', m = m' + 1 := ⟨m - 1, by omega⟩
          have hx : (ns.map PD.int)[((lo + hi) / 2).toNat]? = some (.int (ns.getD ((lo + hi) / 2).toNat 0)) := by
            rw [List.getElem?_map, List.getElem?_eq_getElem (by omega)]
            simp [List.getD_eq_getElem?_getD, List.getElem?_eq_getElem (show ((lo + hi) / 2).toNat < ns.length by omega)]
          unfold bisR at l5
          rw [if_pos c] at l5
          refine ex_assign (by (walk_at "mev")) ?_ (by with_unfolding_all rfl)
          refine ex_if (N' := fun Mu' ρ' => ∃ m', m' < m + 1 ∧ Mu' = [] ∧ ∃ lo hi : Int, ρ' = rL [("a", .ints ns), ("x", .int x), ("lo", .int lo), ("hi", .int hi), ("key", .none)] ∧ 0 ≤ lo ∧ lo ≤ hi ∧ hi ≤ ns.length ∧ hi - lo < m' ∧ bisR ns x m' lo hi = bisZ ns x)
            (tst_cmp (by (walk_at "mnm")) (ev_item (by (walk_at "mnm")) .fro (by (walk_at "mnm")) hm0 hx (by omega)) (by (walk_at "mop"))) (fun c' => ?_) (fun c' => ?_) (fun Mu' ρ' z => ex_nil z)
          · have c' := of_decide_eq_true c'
            rw [if_pos c'] at l5
            exact ex_assign (by (walk_at "mev")) (ex_can _ (by (walk_at "mcan")) (ex_nil ⟨m, by omega, rfl, lo, (lo + hi) / 2, rfl, by omega, by omega, by omega, by omega, l5⟩)) (by with_unfolding_all rfl)
          · have c' := of_decide_eq_false c'
            rw [if_neg c'] at l5
            exact ex_assign (by (walk_at "mev")) (ex_can _ (by (walk_at "mcan")) (ex_nil ⟨m, by omega, rfl, (lo + hi) / 2 + 1, hi, rfl, by omega, by omega, by omega, by omega, l5⟩)) (by with_unfolding_all rfl)
        · have c := of_decide_eq_false c
          rw [bisR_done _ c] at l5
          exact ex_can _ (by refine And.intro (l5 ▸ ?_) trivial; with_unfolding_all rfl) (ex_nil rfl)
    rintro Mu' ρ' rfl
    exact ex_return (by (walk_at "mnm")) rfl
  all_goals rfl
end
end
section
open PySem PySem.W PyProof.Rows PySem.Calls
section
variable {w : World} {k : Nat} {env : Env} {Mu : List (Addr × PD)} {ρ : Str → Option PD} {e : Expr} {d : PD} {N : Nx} {R : PD → Prop} {rest : List Stmt}
theorem bis2 {ns : List Int} {x : Int} (hz : ns.length ≤ 1000) : CallD w (k + 1) (.ref 81) [.ints ns, .int x] (.int (bisZ ns x)) := bis_core hz fun g s vs K r => by
  obtain ⟨v₁, vs1, rfl, r₁, r1⟩ := r.cons_inv
  obtain ⟨v₂, vs2, rfl, r₂, r2⟩ := Rds.cons_inv r1
  rw [Rds.nil_inv r2]
  exact ⟨v₁, v₂, 284, Rds.cons r₁ (Rds.cons r₂ (Rds.cons ⟨_, rfl⟩ (Rds.cons rfl (Rds.cons rfl Rds.nil)))), .inl ⟨rfl, rfl⟩⟩
theorem bis4 {ns : List Int} {x : Int} (hz : ns.length ≤ 1000) : CallD w (k + 1) (.ref 81) [.ints ns, .int x, .int 0, .none] (.int (bisZ ns x)) := bis_core hz fun g s vs K r => by
  obtain ⟨v₁, vs1, rfl, r₁, r1⟩ := r.cons_inv
  obtain ⟨v₂, vs2, rfl, r₂, r2⟩ := Rds.cons_inv r1
  obtain ⟨v₃, vs3, rfl, ⟨t, rfl⟩, r3⟩ := Rds.cons_inv r2
  obtain ⟨v₄, vs4, rfl, r₄, r4⟩ := Rds.cons_inv r3
  have r₄ : v₄ = .none := r₄
  subst r₄
  rw [Rds.nil_inv r4]
  exact ⟨v₁, v₂, t, Rds.cons r₁ (Rds.cons r₂ (Rds.cons ⟨_, rfl⟩ (Rds.cons rfl (Rds.cons rfl Rds.nil)))), .inr rfl⟩

theorem bisR_range {ns : List Int} {x : Int} : ∀ (f : Nat) (lo hi : Int), 0 ≤ lo → lo ≤ hi → hi ≤ ns.length → 0 ≤ bisR ns x f lo hi ∧ bisR ns x f lo hi ≤ ns.length
  | 0, lo, hi, a, b, c => by unfold bisR; omega
  | f + 1, lo, hi, a, b, c => by
    unfold bisR
    split
    · split
      · exact bisR_range f _ _ (by omega) (by omega) (by omega)
      · exact bisR_range f _ _ (by omega) (by omega) (by omega)
    · omega
theorem bisZ_range (ns : List Int) (x : Int) : 0 ≤ bisZ ns x ∧ bisZ ns x ≤ ns.length := bisR_range _ _ _ (by omega) (by omega) (by omega)
/-- a row that insort_right puts a number into -/
noncomputable def insR (ns : List Int) (x : Int) : List Int := ns.take (bisZ ns x).toNat ++ x :: ns.drop (bisZ ns x).toNat
theorem insAt_ints (ns : List Int) (x : Int) : insAt (ns.map .int) (bisZ ns x).toNat (.int x) = (insR ns x).map .int := by
  simp [insAt, insR, List.map_take, List.map_drop]

set_option maxRecDepth 100000 in
set_option maxHeartbeats 4000000 in
/-- insort_right(row, x) -/
theorem ex_insort {x : Str} {xp pos spos : Pos} {o y : Expr} {i : Nat} {D : Addr} {ns : List Int} {n : Int} (hf : EvD w (k + 2) env Mu ρ (.Name x xp) (.raw (.ref 72))) (hi : Mu[i]? = some (D, .ints ns)) (a : EvD w (k + 2) env Mu ρ o (.raw (.ref D))) (b : EvD w (k + 2) env Mu ρ y (.int n))
    (hz : ns.length ≤ 1000) (nx : Ex w (k + 2) env (Mu.set i (D, .ints (insR ns n))) ρ rest N R)
    (he : starEach (o :: [y]) env = (false, eval o env) :: starEach [y] env := by rfl) (he2 : starEach (y :: []) env = (false, eval y env) :: starEach [] env := by rfl)
    (hin : interactive env = false := by rfl) (hs : swapsWith (.Call (.Name x xp) [o, y] [] pos) none spos.line env = pure false := by rfl) :
    Ex w (k + 2) env Mu ρ (.Expr (.Call (.Name x xp) [o, y] [] pos) spos :: rest) N R :=
  ex_cons (N' := only (Mu.set i (D, .ints (insR ns n))) ρ) (fun A H h0 s hA S B => by
    refine wpAny_Expr_any ?_ hin hs
    refine wpAny_Call_Name_kw (wpn (hf A H s hA S) fun f' s₁ ⟨k₁, e⟩ => ?_)
    have e : f' = .ref 72 := e
    subst e
    show wpAny (MM w) A (callWith pos (.ref 72) [] (backTo pos (starEach [o, y] env)) []) _ _ _
    refine call_any (.inr (.inr (by with_unfolding_all rfl))) (by rw [he, he2]; rfl) (wpn (args_cons a (args_cons b args_nil he2) he A H s₁ hA (S.sub k₁.heap)) fun vs s₂ ⟨k₂, r⟩ => ?_)
    have S₂ := (S.sub k₁.heap).sub k₂.heap
    have hm := List.mem_of_getElem? hi
    have hD : D ∈ hid env Mu H := List.mem_append_left _ (mem_own_mu hm)
    refine ⟨(S₂.gd.sub (Fz_sub _ _)).k, ?_⟩
    obtain ⟨v₁, vs1, rfl, r₁, r1⟩ := r.cons_inv
    obtain ⟨v₂, vs2, rfl, r₂, r2⟩ := Rds.cons_inv r1
    rw [Rds.nil_inv r2]
    have z : Sub (Fz (hid env Mu H) s₂.heap) (Fz ([D] ++ hid env Mu H) s₂.heap) := Fz_less fun q m => by
      rcases List.mem_cons.mp m with rfl | m
      · exact hD
      · exact m
    have z' : Sub (Fz ([D] ++ hid env Mu H) s₂.heap) (Fz (hid env Mu H) s₂.heap) := Fz_less fun q m => .tail _ m
    refine wpAny_call (enter_fn (Mu := [(D, .ints ns)]) (names := ["a", "x", "lo", "hi", "key"]) (es := [.raw (.ref D), .int n, .int 0, .none, .none]) (us := [v₁, v₂, .int 0 271, .none, .none]) (N := fun Mu' _ => Mu' = [(D, .ints (insR ns n))]) (R' := fun _ => False)
      hA (by with_unfolding_all rfl) ?hcd (S₂.gd.sub z) S₂.alive (fun p hp => by rw [List.mem_singleton.mp hp]; exact (S₂.mu _ hm).keep (fun _ e => e) z) (List.nodup_cons.mpr ⟨List.not_mem_nil, List.nodup_nil⟩)
      (Rds.cons (r₁.sub z) (Rds.cons (r₂.sub z) (Rds.cons ⟨_, rfl⟩ (Rds.cons rfl (Rds.cons rfl Rds.nil))))) ?hb ?hkind ?hnd rfl ?hcn ?bd ?fin ?_ ?_ ?_)
    case hcd => with_unfolding_all rfl
    case hkind => with_unfolding_all rfl
    case hnd => decide
    case hcn => decide
    case hb => exact kp_binds (S₂.gd.sub (Fz_sub _ _)).k (by intro S; with_unfolding_all rfl)
    case bd =>
      intro L
      refine ex_ifT (N' := fun Mu' ρ' => Mu' = [(D, .ints ns)] ∧ ρ' = rL [("a", .raw (.ref D)), ("x", .int n), ("lo", .int (bisZ ns n))]) (tst_isNone (by (walk_at "mnm")) ev_none) ?_ ?_
      · refine ex_assign (d := .int (bisZ ns n)) ?_ (ex_can _ (by (walk_at "mcan")) (ex_nil ⟨rfl, rfl⟩)) (by with_unfolding_all rfl)
        exact ev_callI (ds := [.raw (.ref D), .int n, .int 0, .none]) (es := [.ints ns, .int n, .int 0, .none]) (by (walk_at "mnm")) (by (walk_at "mcal")) (args_cons (by (walk_at "mnm")) (args_cons (by (walk_at "mnm")) (args_cons (by (walk_at "mnm")) (args_cons (by (walk_at "mnm")) args_nil)))) ⟨.inr ⟨D, _, rfl, rfl, .head _⟩, .inl rfl, .inl rfl, .inl rfl, trivial⟩ (bis4 hz)
      · rintro Mu' ρ' ⟨rfl, rfl⟩
        have q := bisZ_range ns n
        refine ex_insert (i := 0) (ds := ns.map .int) rfl (by (walk_at "mnm")) (by (walk_at "mnm")) (by (walk_at "mnm")) (by rw [List.length_map]; exact hz) q.1 (by rw [List.length_map]; exact q.2) (ex_nil ?_)
        rw [insAt_ints]
        rfl
    case fin =>
      intro fl s₃ g x
      cases fl with
      | next =>
        obtain ⟨Mu', ρ', rfl, S₃, B₃⟩ := x
        have kb : KB [D] s₂.heap s₃.heap := fun b o n e => B₃.sb b o (Fz_get n e)
        have kk := k₁.trans k₂
        have mt := S₃.mu _ (.head _)
        exact ⟨kk.grew.trans g, _, _, ⟨rfl, rfl⟩, S₂.turnK hi kb (mt.mono fun q m => List.mem_append_right _ m), (B.sub kk.heap).turnK hi kb⟩
      | brk => exact x.elim
      | cont => exact x.elim
      | ret v => obtain ⟨d, x, _⟩ := x; exact x.elim
    all_goals rfl) fun Mu' ρ' ⟨e, e'⟩ => by subst e; subst e'; exact nx
end
end
section
open PySem PySem.W PyProof.Rows PySem.Calls
section
variable {w : World} {k : Nat} {env : Env} {Mu : List (Addr × PD)} {ρ : Str → Option PD} {e : Expr} {d : PD} {N : Nx} {R : PD → Prop} {rest : List Stmt}

theorem take_snoc {α : Type} {l : List α} {i : Nat} (h : i < l.length) (z : α) : l.take (i + 1) = l.take i ++ [l.getD i z] := by
  rw [List.take_add_one, List.getElem?_eq_getElem h, List.getD_eq_getElem?_getD, List.getElem?_eq_getElem h]; rfl

noncomputable def sumD (l : List (Int × Int)) : Int := (l.map (·.2)).sum
theorem sumD_snoc {l : List (Int × Int)} {i : Nat} (hi : i < l.length) : sumD (l.take (i + 1)) = sumD (l.take i) + (l.getD i (0, 0)).2 := by
  rw [take_snoc hi (0, 0), sumD, sumD, List.map_append, List.sum_append]
  simp
set_option maxRecDepth 100000 in
set_option maxHeartbeats 4000000 in
theorem count_ok {l : List (Int × Int)} : CallD w (k + 1) (.ref 63) [.dict l] (.int (sumD l)) := by
  refine call_fn (names := ["callers"]) (es := [.dict l]) (by with_unfolding_all rfl) ?hcd ?hb ?bd ?hkind ?hnd rfl ?hcn ?_ ?_ ?_
  case hcd => with_unfolding_all rfl
  case hkind => with_unfolding_all rfl
  case hb => exact hb_plain fun vs h => by obtain ⟨x, rfl⟩ := len_one h; with_unfolding_all rfl
  case hnd => decide
  case hcn => decide
  case bd =>
    intro L
    refine ex_assign (by (walk_at "mev")) ?_ (by with_unfolding_all rfl)
    refine ex_can [("callers", .dict l), ("nc", .int 0)] (by (walk_at "mcan")) ?_
    refine ex_for (J := fun i Mu' ρ' => Mu' = [] ∧ ρ' = rL [("callers", .dict l), ("nc", .int (sumD (l.take i)))]) (itr_values (by (walk_at "mnm"))) ?_ ⟨rfl, rfl⟩ ?_ ?_
    · intro i hi p hp
      rw [List.mem_singleton.mp hp]
      with_unfolding_all rfl
    · rintro i Mu' ρ' hi ⟨rfl, rfl⟩
      refine ex_aug (by with_unfolding_all rfl) (by with_unfolding_all rfl) (by (walk_at "mnm")) ?_
      exact ex_can [("callers", .dict l), ("nc", .int (sumD (l.take i) + (l.getD i (0, 0)).2))] (by (walk_at "mcan")) (ex_nil ⟨rfl, by rw [sumD_snoc hi]⟩)
    · rintro Mu' ρ' ⟨rfl, rfl⟩
      rw [List.take_of_length_le (Nat.le_refl _)]
      exact ex_return (by (walk_at "mnm")) rfl
  all_goals rfl

noncomputable def putAll (l : List (Int × Int)) : List (Int × Int) := l.foldl (fun a p => storeD a p.1 p.2) []
noncomputable def addStep (a : List (Int × Int)) (p : Int × Int) : List (Int × Int) := storeD a p.1 (match findD a p.1 with | some u => u + p.2 | none => p.2)
noncomputable def addZ (t s : List (Int × Int)) : List (Int × Int) := s.foldl addStep (putAll t)
theorem fold_len (f : List (Int × Int) → Int × Int → List (Int × Int)) (hf : ∀ a p, (f a p).length ≤ a.length + 1) : ∀ (l a : List (Int × Int)), (l.foldl f a).length ≤ a.length + l.length
  | [], a => by simp
  | p :: l, a => by
    have h1 := fold_len f hf l (f a p)
    have h2 := hf a p
    rw [List.foldl_cons, List.length_cons]; omega
theorem putAll_len (l : List (Int × Int)) : (putAll l).length ≤ l.length := by
  have := fold_len (fun a p => storeD a p.1 p.2) (fun a p => storeD_length ..) l []
  simpa [putAll] using this
theorem addZ_len (t s : List (Int × Int)) : (addZ t s).length ≤ t.length + s.length := by
  have := fold_len addStep (fun a p => storeD_length ..) s (putAll t)
  have := putAll_len t
  unfold addZ; omega
set_option maxRecDepth 100000 in
set_option maxHeartbeats 4000000 in
theorem add_ok {t s : List (Int × Int)} (hz : t.length + s.length ≤ 1000) : CallD w (k + 1) (.ref 56) [.dict t, .dict s] (.dict (addZ t s)) := by
  refine call_fn (names := ["target", "source"]) (es := [.dict t, .dict s]) (by with_unfolding_all rfl) ?hcd ?hb ?bd ?hkind ?hnd rfl ?hcn ?_ ?_ ?_
  case hcd => with_unfolding_all rfl
  case hkind => with_unfolding_all rfl
  case hb => exact hb_plain fun vs h => by obtain ⟨x, y, rfl⟩ := len_two h; with_unfolding_all rfl
  case hnd => decide
  case hcn => decide
  case bd =>
    intro L
    refine ex_new (asg_new new_dict (by with_unfolding_all rfl)) fun D => ?_
    refine ex_can [("target", .dict t), ("source", .dict s), ("new_callers", .raw (.ref D))] (by (walk_at "mcan")) ?_
    refine ex_for (J := fun i Mu' ρ' => Mu' = [(D, .dict (putAll (t.take i)))] ∧ ρ' = rL [("target", .dict t), ("source", .dict s), ("new_callers", .raw (.ref D))]) (itr_items (by (walk_at "mnm"))) ?_ ⟨rfl, rfl⟩ ?_ ?_
    · intro i hi p hp
      rcases List.mem_cons.mp hp with rfl | hp
      · with_unfolding_all rfl
      · rw [List.mem_singleton.mp hp]; with_unfolding_all rfl
    · rintro i Mu' ρ' hi ⟨rfl, rfl⟩
      refine ex_setitemD (i := 0) (l := putAll (t.take i)) rfl (by (walk_at "mnm")) (by (walk_at "mnm")) (by (walk_at "mnm")) ?_ (ex_can _ (by (walk_at "mcan")) (ex_nil ⟨?_, rfl⟩))
      · have := putAll_len (t.take i)
        have h2 : (t.take i).length ≤ t.length := by rw [List.length_take]; omega
        omega
      · rw [take_snoc hi (0, 0), putAll, putAll, List.foldl_append]; rfl
    rintro Mu' ρ' ⟨rfl, rfl⟩
    rw [List.take_of_length_le (Nat.le_refl _)]
    refine ex_for (J := fun i Mu' ρ' => Mu' = [(D, .dict (addZ t (s.take i)))] ∧ ρ' = rL [("target", .dict t), ("source", .dict s), ("new_callers", .raw (.ref D))]) (itr_items (by (walk_at "mnm"))) ?_ ⟨rfl, rfl⟩ ?_ ?_
    · intro i hi p hp
      rcases List.mem_cons.mp hp with rfl | hp
      · with_unfolding_all rfl
      · rw [List.mem_singleton.mp hp]; with_unfolding_all rfl
    · rintro i Mu' ρ' hi ⟨rfl, rfl⟩
      have hl : (addZ t (s.take i)).length ≤ 1000 := by
        have := addZ_len t (s.take i)
        have h2 : (s.take i).length ≤ s.length := by rw [List.length_take]; omega
        omega
      have e : addZ t (s.take (i + 1)) = addStep (addZ t (s.take i)) (s.getD i (0, 0)) := by rw [take_snoc hi (0, 0), addZ, addZ, List.foldl_append]; rfl
      refine ex_if (N' := fun Mu' ρ' => Mu' = [(D, .dict (addZ t (s.take (i + 1))))] ∧ ρ' = rL [("target", .dict t), ("source", .dict s), ("new_callers", .raw (.ref D))]) (tst_inD (by (walk_at "mnm")) (by (walk_at "mnm")) (.mut (.head _))) (fun c => ?_) (fun c => ?_) (fun _ _ z => ex_nil z)
      · obtain ⟨u, hu⟩ := Option.isSome_iff_exists.mp c
        refine ex_if (N' := fun Mu' ρ' => Mu' = [(D, .dict (addZ t (s.take (i + 1))))] ∧ ρ' = rL [("target", .dict t), ("source", .dict s), ("new_callers", .raw (.ref D))]) (tst_bool (ev_call (by (walk_at "mnm")) (by (walk_at "mcal")) (args_cons (by (walk_at "mnm")) (args_cons (by (walk_at "mnm")) args_nil)) cd_isTuple)) (fun c => nomatch c) (fun _ => ?_) (fun _ _ z => ex_nil z)
        refine ex_augD (i := 0) (l := addZ t (s.take i)) rfl (by (walk_at "mnm")) (by (walk_at "mnm")) (by (walk_at "mnm")) hu hl (ex_can _ (by (walk_at "mcan")) (ex_nil ⟨?_, rfl⟩))
        rw [e, addStep, hu]; rfl
      · have c : findD (addZ t (s.take i)) (s.getD i (0, 0)).1 = none := by
          cases q : findD (addZ t (s.take i)) (s.getD i (0, 0)).1 with
          | none => rfl
          | some u => rw [q] at c; cases c
        refine ex_setitemD (i := 0) (l := addZ t (s.take i)) rfl (by (walk_at "mnm")) (by (walk_at "mnm")) (by (walk_at "mnm")) hl (ex_can _ (by (walk_at "mcan")) (ex_nil ⟨?_, rfl⟩))
        rw [e, addStep, c]; rfl
    rintro Mu' ρ' ⟨rfl, rfl⟩
    rw [List.take_of_length_le (Nat.le_refl _)]
    exact ex_returnM (by (walk_at "mnm")) (.one (.mut (.head _))) rfl
  all_goals rfl

noncomputable abbrev entD (a b c d : Int) (l : List (Int × Int)) : PD := .tup [.int a, .int b, .int c, .int d, .dict l]
set_option maxRecDepth 100000 in
set_option maxHeartbeats 4000000 in
theorem stats_ok {a b c d a' b' c' d' : Int} {t s : List (Int × Int)} (hz : t.length + s.length ≤ 1000) : CallD w (k + 2) (.ref 49) [entD a b c d t, entD a' b' c' d' s] (entD (a' + a) (b' + b) (c' + c) (d' + d) (addZ t s)) := by
  refine call_fn (names := ["target", "source"]) (es := [entD a b c d t, entD a' b' c' d' s]) (by with_unfolding_all rfl) ?hcd ?hb ?bd ?hkind ?hnd rfl ?hcn ?_ ?_ ?_
  case hcd => with_unfolding_all rfl
  case hkind => with_unfolding_all rfl
  case hb => exact hb_plain fun vs h => by obtain ⟨x, y, rfl⟩ := len_two h; with_unfolding_all rfl
  case hnd => decide
  case hcn => decide
  case bd =>
    intro L
    refine ex_unpack (xs := [("cc", _), ("nc", _), ("tt", _), ("ct", _), ("callers", _)]) (ds := [.int a', .int b', .int c', .int d', .dict s]) (by (walk_at "mnm")) (by rfl) rfl rfl ?_ ?_
    · intro p hp
      simp only [List.mem_cons, List.not_mem_nil, or_false] at hp
      rcases hp with rfl | rfl | rfl | rfl | rfl <;> with_unfolding_all rfl
    refine ex_can [("target", entD a b c d t), ("cc", .int a'), ("nc", .int b'), ("tt", .int c'), ("ct", .int d'), ("callers", .dict s)] (by (walk_at "mcan")) ?_
    refine ex_unpack (xs := [("t_cc", _), ("t_nc", _), ("t_tt", _), ("t_ct", _), ("t_callers", _)]) (ds := [.int a, .int b, .int c, .int d, .dict t]) (by (walk_at "mnm")) (by rfl) rfl rfl ?_ ?_
    · intro p hp
      simp only [List.mem_cons, List.not_mem_nil, or_false] at hp
      rcases hp with rfl | rfl | rfl | rfl | rfl <;> with_unfolding_all rfl
    refine ex_can [("t_cc", .int a), ("t_nc", .int b), ("t_tt", .int c), ("t_ct", .int d), ("t_callers", .dict t), ("cc", .int a'), ("nc", .int b'), ("tt", .int c'), ("ct", .int d'), ("callers", .dict s)] (by (walk_at "mcan")) ?_
    exact ex_return (ev_tuple (args_cons (by (walk_at "mev")) (args_cons (by (walk_at "mev")) (args_cons (by (walk_at "mev")) (args_cons (by (walk_at "mev")) (args_cons (ev_call (by (walk_at "mnm")) (by (walk_at "mcal")) (args_cons (by (walk_at "mnm")) (args_cons (by (walk_at "mnm")) args_nil)) (add_ok hz)) args_nil))))) (by simp)) rfl
  all_goals rfl
end
end
section
open PySem PySem.W PyProof.Rows PySem.Calls

section
variable {w : World} {k : Nat} {env : Env} {Mu : List (Addr × PD)} {ρ : Str → Option PD} {e : Expr} {d : PD} {N : Nx} {R : PD → Prop} {rest : List Stmt}

noncomputable abbrev bi (b : Bool) : Int := if b = true then 1 else 0
theorem op_subB {a b : Bool} : Op2 w k (binaryOp .Sub) (.bool a) (.bool b) (.int (bi a - bi b)) := fun A H s u v hA al hu hv => by
  have hu : u = .bool a := hu
  have hv : v = .bool b := hv
  subst hu; subst hv
  exact sub_bool ⟨Kp.tok s _, _, rfl⟩

theorem isList_of {H : List Addr} {h : Heap} {a : Addr} {vs : List Value} (p : (Fz H h).PlainList a (List.toArray vs)) : h.IsList a (List.toArray vs) := (p.at (h' := h) fun o e => Fz_of e).isList
theorem op_eqL {ns ms : List Int} : Op2 w (k + 1) (compareOp .Eq) (.ints ns) (.ints ms) (.bool (decide (ns = ms))) := fun A H s u v hA al ⟨a, vs, ea, pa, ra⟩ ⟨b, us, eb, pb, rb⟩ => by
  subst ea; subst eb
  exact eq_intsK (isList_of pa) ra.ints (isList_of pb) rb.ints (by have := hA.u; omega) ⟨Kp.rfl s, rfl⟩
theorem op_neL {ns ms : List Int} : Op2 w (k + 1) (compareOp .NotEq) (.ints ns) (.ints ms) (.bool (!decide (ns = ms))) := fun A H s u v hA al ⟨a, vs, ea, pa, ra⟩ ⟨b, us, eb, pb, rb⟩ => by
  subst ea; subst eb
  exact ne_intsK (isList_of pa) ra.ints (isList_of pb) rb.ints (by have := hA.u; omega) ⟨Kp.rfl s, rfl⟩
theorem reads_tup {h : Heap} {a : Addr} {vs : List Value} {ns : List Int} (hl : IsTup h a vs.toArray) (hi : IntsAre vs ns) : Reads h (.ref a) (.tuple (ns.map PyData.int)) [] := by
  obtain ⟨o, ho, hc, n, hd⟩ := hl
  exact Reads.tuple ho hc hd (by simpa using readsAll_of_ints hi)
theorem shaped_tup (ns : List Int) : SeqAt.shaped (.tuple (ns.map PyData.int)) = true := by
  have h1 := PySem.W.depthAll_ints ns
  have h2 : PyData.depth (.tuple (ns.map PyData.int)) ≤ 64 := by simp only [PyData.depth]; omega
  show (PyData.canLay0 (.tuple (ns.map PyData.int)) && decide (PyData.depth (.tuple (ns.map PyData.int)) ≤ 64)) = true
  rw [Bool.and_eq_true]
  exact ⟨by simp only [PyData.canLay0]; exact canLayAll0_ints ns, decide_eq_true h2⟩
noncomputable abbrev PD.tints (l : List Int) : PD := .tup (l.map .int)
theorem op_neT {ns ms : List Int} : Op2 w (k + 1) (compareOp .NotEq) (.tints ns) (.tints ms) (.bool (!decide (ns = ms))) := fun A H s u v hA al ⟨a, vs, ea, pa, ra⟩ ⟨b, us, eb, pb, rb⟩ => by
  subst ea; subst eb
  refine ne_dataH_same (reads_tup (isTup_sub (Fz_sub _ _) pa) ra.ints) (reads_tup (isTup_sub (Fz_sub _ _) pb) rb.ints) (shaped_tup ns) (shaped_tup ms) (by have := hA.u; omega) (by simp only [PySem.SeqAt.noMix]; exact noMix_ints ns ms) ?_
  simp only [PySem.Spec.same]
  rw [same_ints]
  exact ⟨Kp.rfl s, rfl⟩

/-- an item counted from behind -/
theorem ev_last {l i : Expr} {pos : Pos} {dl : PD} {ds : List PD} (a : EvD w k env Mu ρ l dl) (L : Lk Mu dl ds) (b : EvD w k env Mu ρ i (.int (-1))) (hx : ds.getLast? = some d) (hz : ds.length ≤ 1000)
    (hs : ∀ o v, subscripted i false o v = operate [o, v] (getItem o v) := by intro _ _; with_unfolding_all rfl) : EvD w k env Mu ρ (.Subscript l i pos) d := fun A H s hA S =>
  Subscript_ (wpn (a A H s hA S) fun u s₁ ⟨k₁, r₁⟩ => wpn (b A H s₁ hA (S.sub k₁.heap)) fun v s₂ ⟨k₂, t, r₂⟩ => by
    subst r₂
    obtain ⟨q, vs, rfl, p, r⟩ := L.get (S.sub (Sub.trans k₁.heap k₂.heap)) (r₁.sub (fz_up k₂))
    have hl := r.length
    have hne : ds.length ≠ 0 := fun e => by rw [List.length_eq_zero_iff.mp e] at hx; cases hx
    rw [List.getLast?_eq_getElem?] at hx
    obtain ⟨y, e, ry⟩ := r.get hx
    refine tail_any p.isList.typeIs slot_list_getitem.lookup (wpAny_getItem_list_neg p.isList (x := y) (by decide) (by rw [List.size_toArray]; omega) (by decide) ?_ ⟨k₁.trans k₂, ry⟩) (hs _ _)
    rw [List.size_toArray, List.getElem?_toArray, show ((-1 : Int) + (vs.length : Nat)).toNat = ds.length - 1 by omega]
    exact e)

/-! the first four of a tuple of five -/
theorem sliceApplied_to4 {A : Around} {E : Value → Shared → Prop} {s : Shared} {sl : Addr} {u : Tok} {Q : Int × Int × Nat → Shared → Prop} (hs : s.heap.IsSliceOf sl .none (.int 4 u) .none) (h : Q (0, 1, 4) s) :
    wpAny (MM w) A (Builtin.Slice.sliceApplied (.ref sl) (pure ((5 : Nat) : Int))) Q E s := by
  obtain ⟨os, hos, hcs, hds⟩ := id hs
  unfold Builtin.Slice.sliceApplied Builtin.Slice.sliceFields
  refine wpAny_bind (wpAny_bind (wpAny_field hos hds (x := .none) rfl (wpAny_bind (wpAny_field hos hds (x := .int 4 u) rfl (wpAny_bind (wpAny_field hos hds (x := .none) rfl (wpAny_pure ?_)))))))
  refine wpAny_bind (slicePart_none ?_)
  show wpAny _ _ (if ((1 : Int) == 0) = true then _ else _) _ _ s
  rw [if_neg (by decide)]
  refine wpAny_bind (slicePart_none (wpAny_bind (slicePart_int (wpAny_bind (wpAny_pure ?_)))))
  exact wpAny_pure h
theorem getItem_to4 {A : Around} {E : Value → Shared → Prop} {s : Shared} {t sl : Addr} {x₀ x₁ x₂ x₃ x₄ : Value} {u : Tok} {Q : Value → Shared → Prop} (ht : IsTup s.heap t #[x₀, x₁, x₂, x₃, x₄]) (hs : s.heap.IsSliceOf sl .none (.int 4 u) .none)
    (h : Q (.ref s.heap.objs.size) { s with heap := s.heap.push { cls := .type "tuple", data := .seq #[x₀, x₁, x₂, x₃] } }) : wpAny (MM w) A (getItem (.ref t) (.ref sl)) Q E s := by
  have hdrop : sizeOk (.seq #[x₀, x₁, x₂, x₃]) := by
    show (4 : Nat) ≤ sizeLine
    rw [sizeLine_eq]; omega
  obtain ⟨os, hos, hcs, hds⟩ := id hs
  have hTs : s.TypeIs (.ref sl) "slice" := ⟨os, hos, hcs⟩
  unfold getItem
  try with_reducible refine wpAny_holding ?_
  first | refine wpAny_bind (wpAny_pure ?_) | skip
  refine wpAny_bind (wpAny_sequenceKey ht.typeIs (by decide) ?_)
  refine wpAny_bind (wpAny_callSpecial?_slot (name := Str.ofString "__getitem__") ht.typeIs slot_tuple_getitem
    (wpAny_call_entry slot_tuple_getitem ht.typeIs entry_tuple_getitem ?_ (args_tuple_getitem _ _)))
  show wpAny _ _ (Builtin.Tuple.tupleItemsOf (.ref t) >>= _) _ _ s
  refine wpAny_bind (tupleItemsOf_ ht ?_)
  refine wpAny_bind (wpAny_typeOf hTs ?_)
  rw [if_pos (by decide)]
  refine wpAny_bind (sliceApplied_to4 hs ?_)
  show wpAny _ _ (if ((0 : Int) == 0 && (1 : Int) == 1 && 4 == 5) = true then _ else _) _ _ s
  rw [if_neg (by decide)]
  first
    | exact wpAny_bind (m := Builtin.Tuple.tupleExact _) (wpAny_newObj_type (wpAny_pure ⟨_, rfl, wpAny_pure h⟩) hdrop)
    | exact wpAny_bind (m := Builtin.Tuple.tupleExact _) (wpAny_newObj_type (wpAny_bind (wpAny_pure (wpAny_pure ⟨_, rfl, wpAny_pure h⟩))) hdrop)
    | exact wpAny_bind (wpAny_bind (m := Builtin.Tuple.tupleExact _) (wpAny_newObj_type (wpAny_pure (wpAny_pure ⟨_, rfl, wpAny_pure h⟩)) hdrop))
    | exact wpAny_bind (wpAny_bind (m := Builtin.Tuple.tupleExact _) (wpAny_newObj_type (wpAny_pure ⟨_, rfl, wpAny_pure h⟩) hdrop))
theorem ev_four {l : Expr} {hi : Expr} {p pos : Pos} {d₀ d₁ d₂ d₃ d₄ : PD} (a : EvD w k env Mu ρ l (.tup [d₀, d₁, d₂, d₃, d₄])) (b : EvP w k env Mu ρ (some hi) (some 4))
    (hs : ∀ o v, ∃ ops, subscripted (.Slice none (some hi) none p) false o v = operate ops (getItem o v) := by intro _ _; exact ⟨_, by with_unfolding_all rfl⟩) :
    EvD w k env Mu ρ (.Subscript l (.Slice none (some hi) none p) pos) (.tup [d₀, d₁, d₂, d₃]) := fun A H s hA S =>
  Subscript_ (wpn (a A H s hA S) fun u s₁ ⟨k₁, r₁⟩ => wpAny_Slice (wpn (evp_none A H s₁ hA (S.sub k₁.heap)) fun v₁ s₂ ⟨k₂, p₁⟩ =>
    wpn (b A H s₂ hA ((S.sub k₁.heap).sub k₂.heap)) fun v₂ s₃ ⟨k₃, p₂⟩ => wpn (evp_none A H s₃ hA (((S.sub k₁.heap).sub k₂.heap).sub k₃.heap)) fun v₃ s₄ ⟨k₄, p₃⟩ => by
      cases p₁; cases p₃
      cases p₂ with | int _ t =>
      have kk : Kp s₁ s₄ := (k₂.trans k₃).trans k₄
      have S₄ := S.sub (Sub.trans k₁.heap kk.heap)
      have up := sub_push s₄.heap { cls := .type "slice", data := .fields #[.none, .int 4 t, .none] }
      obtain ⟨q, vs, rfl, ht, r⟩ := r₁.sub (fz_up (M := hid env Mu H) kk)
      obtain ⟨ops, ho⟩ := hs (.ref q) (.ref s₄.heap.objs.size)
      obtain ⟨x₀, vs, rfl, r₀, r⟩ := r.cons_inv
      obtain ⟨x₁, vs, rfl, r₁', r⟩ := r.cons_inv
      obtain ⟨x₂, vs, rfl, r₂, r⟩ := r.cons_inv
      obtain ⟨x₃, vs, rfl, r₃, r⟩ := r.cons_inv
      obtain ⟨x₄, vs, rfl, r₄, r⟩ := r.cons_inv
      rw [Rds.nil_inv r] at ht
      have ht' := isTup_sub (Sub.trans (Fz_sub _ _) up) ht
      refine tail_any (s := { s₄ with heap := s₄.heap.push { cls := .type "slice", data := .fields #[.none, .int 4 t, .none] } }) ht'.typeIs slot_tuple_getitem.lookup ?_ ho
      refine getItem_to4 ht' (Heap.IsSliceOf.new ..) ⟨(k₁.trans kk).trans (Kp.to (Sub.trans up (sub_push _ _))), ?_⟩
      have z : Sub (Fz (hid env Mu H) s₄.heap) _ := Fz_mono (M := hid env Mu H) (.of (Sub.trans up (sub_push _ { cls := .type "tuple", data := .seq #[x₀, x₁, x₂, x₃] })))
      exact rd_newTup (vs := [x₀, x₁, x₂, x₃]) ((S₄.sub up).fresh none_of_size) ⟨_, Heap.get?_push_size _ rfl, rfl, _, rfl⟩ (Rds.cons (r₀.sub z) (Rds.cons (r₁'.sub z) (Rds.cons (r₂.sub z) (Rds.cons (r₃.sub z) Rds.nil))))))

/-- a value that is not a plain bool in a test -/
theorem EvD.tst_cmp1 {c : Bool} (a : EvD w k env Mu ρ e (.bool c)) (he : ∀ whole, isTrue e env whole = (do let v ← whole; standAt e.pos; holding [v] (truthy v)) := by intro _; rfl) : Tst w k env Mu ρ e c := tst_bool a he
end
end
section
open PySem PySem.W PyProof.Rows PySem.Calls

section
variable {w : World} {k : Nat} {env : Env} {Mu : List (Addr × PD)} {ρ : Str → Option PD} {e : Expr} {d : PD} {N : Nx} {R : PD → Prop} {rest : List Stmt}

noncomputable abbrev selD (a b : Int) : PD := .list [.tup [.int 2, .int a], .tup [.int 0, .int b]]
noncomputable def JudP (w : World) (a b : Int) (h : Heap) (v : Value) : Prop :=
  ∃ x dx es n l, v = .ref x ∧ h.get? x = some (instObj 38 dx) ∧ h.get? dx = some (dictOf es n) ∧ getL (Str.ofString "comp_select_list") es = some (some l) ∧ getL (Str.ofString "compare") es = some none ∧ handedIn l = true ∧ Rd w h (selD a b) l
theorem JudP.sub {a b : Int} : ∀ (h h' : Heap) (v : Value), (∀ b o, h.get? b = some o → h'.get? b = some o) → JudP w a b h v → JudP w a b h' v :=
  fun h h' v s ⟨x, dx, es, n, l, e, i, j, p, q, hd, r⟩ => ⟨x, dx, es, n, l, e, s _ _ i, s _ _ j, p, q, hd, r.sub s⟩
noncomputable abbrev jud (w : World) (a b : Int) : PD := .ab (JudP w a b) JudP.sub

set_option maxRecDepth 100000 in
set_option maxHeartbeats 4000000 in
theorem jud_make {a b : Int} : CallD w (k + 3) (.ref 38) [selD a b] (jud w a b) := fun A H s vs hA G al r => by
  obtain ⟨l, vs1, rfl, rl, r1⟩ := r.cons_inv
  rw [Rds.nil_inv r1]
  have G' := G.sub (Fz_sub H s.heap)
  have X := G'.k
  obtain ⟨hh, g, d, t, os⟩ := s
  dsimp only at X G' rl al
  obtain ⟨q, lv, rfl, _⟩ := rl.list
  refine wpAny_call (make_core (init := .ref 28) (makes_of X (by with_unfolding_all rfl)) (looks_findIn X (by with_unfolding_all rfl)) (fun self => bind_fn X self (by with_unfolding_all rfl)) (.inl rfl) ?_)
  have s1 : Sub hh ((hh.push emptyDict).push (instObj 38 hh.objs.size)) := fun b o e => Heap.get?_push_of_some _ (Heap.get?_push_of_some _ e)
  have X1 := X.keeps s1
  generalize hC : ((.builtin "type.__call__" ⟨[.ref 38, .ref q], []⟩ : Code)) = code
  have hroom : (A.under code).depth < recursionLimit := by
    subst hC
    show A.depth + 1 < _
    have := hA.d; omega
  refine codeAny_call_function hroom (X1 _ _ (by with_unfolding_all rfl)) rfl rfl rfl rfl (codeRec_of X1 (by with_unfolding_all rfl)) ?_
  have hb : ∀ fd : FuncData, bindArgs fd ⟨[.ref (hh.objs.size + 1), .ref q], []⟩ = pure [(Str.ofString "self", Value.ref (hh.objs.size + 1)), (Str.ofString "comp_select_list", Value.ref q)] → BindsTo ⟨(hh.push emptyDict).push (instObj 38 hh.objs.size), g, d, t, os⟩ fd ⟨[.ref (hh.objs.size + 1), .ref q], []⟩ [("self", .ref (hh.objs.size + 1)), ("comp_select_list", .ref q)] := fun fd h => BindsTo.of_eq h
  refine hb _ (by with_unfolding_all rfl) _ _ _ _ ?_
  refine wpAny_newFunctionEnv (by decide) (locs (by with_unfolding_all rfl)) (fun h₁ hns hsb => ⟨(G'.nl.keeps s1).fresh _ hsb, ?_⟩) rfl
  refine codeAny_func ?_
  have s2 : Sub ((hh.push emptyDict).push (instObj 38 hh.objs.size)) h₁ := fun b o e => hsb.extBut b o (Nat.ne_of_lt (Heap.lt_size e)) (Heap.get?_push_of_some _ e)
  have z0 : ((hh.push emptyDict).push (instObj 38 hh.objs.size)).objs.size = hh.objs.size + 2 := by rw [Heap.size_push, Heap.size_push]
  have F : Fr hh ((hh.push emptyDict).push (instObj 38 hh.objs.size)).objs.size h₁ (fun x => ([("self", Value.ref (hh.objs.size + 1)), ("comp_select_list", .ref q)] : List (Str × Value)).reverse.lookup x) := ⟨hns, Sub.trans s1 s2, by rw [z0]; omega⟩
  have N : News hh ((hh.push emptyDict).push (instObj 38 hh.objs.size)).objs.size h₁ [(hh.objs.size + 1, instObj 38 hh.objs.size), (hh.objs.size, dictOf [] 0)] := fun p hp => by
    rcases List.mem_cons.mp hp with rfl | hp
    · refine ⟨s2 _ _ ?_, by rw [z0]; exact Nat.ne_of_lt (Nat.lt_succ_self _), none_of_le (Nat.le_succ _)⟩
      have := Heap.get?_push_size (o := instObj 38 hh.objs.size) (hh.push emptyDict) rfl
      rwa [Heap.size_push] at this
    · rw [List.mem_singleton.mp hp]
      exact ⟨s2 _ _ (Heap.get?_push_of_some _ (Heap.get?_push_size _ rfl)), by rw [z0]; exact Nat.ne_of_lt (Nat.lt_add_of_pos_right (by decide)), none_of_size⟩
  have I : InstAt h₁ (hh.objs.size + 1) (instObj 38 hh.objs.size) 38 (some (dictOf [] 0)) := InstAt.of_news N (.head _) (.tail _ (.head _))
  refine wpAny_execs_cons (plainObj_wpAny_Assign_Attribute (ld F (by with_unfolding_all rfl) (ld F (by with_unfolding_all rfl) (set_dict F X N I rfl (by with_unfolding_all rfl) (by with_unfolding_all rfl) (by with_unfolding_all rfl) (by with_unfolding_all rfl) (by with_unfolding_all rfl) rfl (Upd.tail (Nat.succ_ne_self _) (Upd.head (by simp))) (by simp [putL]) fun h' F' N' => ?_) rfl rfl) rfl rfl))
  refine wpAny_execs_nil ?_
  refine ⟨rfl, Kp.to F'.keep, ?_⟩
  have nx : hh.objs.size + 1 ∉ H := notin_of al (none_of_le (Nat.le_succ _))
  have nd : hh.objs.size ∉ H := notin_of al none_of_size
  exact ⟨_, _, _, _, _, rfl, Fz_get nx (N' _ (.head _)).1, Fz_get nd (N' _ (.tail _ (.head _))).1, by with_unfolding_all rfl, by with_unfolding_all rfl, rfl, rl.sub (Fz_mono (.of F'.keep))⟩
end
end
section
open PySem PySem.W PyProof.Rows PySem.Calls
section
variable {w : World} {k : Nat} {env : Env} {Mu : List (Addr × PD)} {ρ : Str → Option PD} {e : Expr} {d : PD} {N : Nx} {R : PD → Prop} {rest : List Stmt}

/-- for x, y in a list of pairs -/
theorem itr_listP {x y : Str} {xp yp tp : Pos} {j : Nat} {iter : Expr} {ps : List (PD × PD)} (a : EvD w k env Mu ρ iter (.list (ps.map fun p => .tup [p.1, p.2]))) :
    Itr w k env Mu ρ (.Tuple [.Name x xp, .Name y yp] j tp) iter ps.length (fun i => [(x, (ps.getD i (.none, .none)).1), (y, (ps.getD i (.none, .none)).2)]) := fun A H s hA S =>
  wpn (a A H s hA S) fun xv s₁ ⟨k₁, l, vs, e, p, r⟩ => by
    subst e
    have S₁ := S.sub k₁.heap
    obtain ⟨n, p⟩ := p
    have pl := Fz_of p
    have hll := Heap.lt_size pl
    have W := Walks.list (prog := PR) (w := w) hA.h s₁.heap.objs.size l (Nat.ne_of_lt hll) vs.toArray
    have hz : vs.toArray.size = ps.length := by rw [List.size_toArray, r.length, List.length_map]
    rw [hz] at W
    have hw : ∀ b ∈ [s₁.heap.objs.size], s.heap.get? b = none := fun b m => by
      rw [List.mem_singleton.mp m]
      exact none_back k₁.heap none_of_size
    refine wpAny_pyIter_list ⟨_, pl, rfl, _, rfl⟩ ⟨k₁.trans (Kp.to (sub_push _ _)), _, _, _, _, _, _, rfl, KTurns.ofWalks W fun i v s Q E st q => letGo_listiter st.1 q, ⟨⟨_, Heap.get?_push_size _ rfl, rfl, rfl⟩, ⟨_, Heap.get?_push_of_some _ pl, rfl, n, rfl⟩⟩, hw, ?_, ?_, fun s' Q st' q => W.self 0 s' Q NoE st' q, ?_⟩
    · intro i g st b m
      rcases List.mem_cons.mp m with rfl | m
      · obtain ⟨o, e, _⟩ := st.1; exact ⟨o, e⟩
      · rw [List.mem_singleton.mp m]; obtain ⟨o, e, _⟩ := st.2; exact ⟨o, e⟩
    · intro b m
      rcases List.mem_cons.mp m with rfl | m
      · exact S₁.fresh none_of_size
      · rw [List.mem_singleton.mp m]; exact Fz_notin p
    · rintro env' A' i v s' H' Mu' ρ' hh hi hP S' z hk
      obtain ⟨d, e, rd⟩ := r.get' (show vs[i]? = some v by simpa using hP)
      rw [List.getElem?_map] at e
      obtain ⟨q, hq, rfl⟩ := Option.map_eq_some_iff.mp e
      have hd : ps.getD i (.none, .none) = q := by rw [List.getD_eq_getElem?_getD, hq]; rfl
      try dsimp only at hk ⊢
      rw [hd] at hk ⊢
      have z' : Sub (Fz (hid env Mu H) s₁.heap) (Fz (hid env' Mu' H') s'.heap) := Sub.trans (Fz_more' (.of (sub_push _ _)) fun q m n' => by
        rcases List.mem_append.mp m with m | m
        · rw [List.mem_singleton.mp m]; exact none_of_size
        · exact absurd m n') z
      obtain ⟨T, us, rfl, hT, ru⟩ := rd.sub z'
      obtain ⟨u, us, rfl, ru1, ru⟩ := ru.cons_inv
      obtain ⟨v, us, rfl, ru2, ru⟩ := ru.cons_inv
      rw [Rds.nil_inv ru] at hT
      exact asg2 hh S' (isTup_sub (Fz_sub _ _) hT) ru1 ru2 (hk _ (.head _)) (hk _ (.tail _ (.head _)))

set_option maxRecDepth 100000 in
set_option maxHeartbeats 4000000 in
theorem ev_sel {o : Expr} {pos : Pos} {p q : Int} (a : EvD w k env Mu ρ o (jud w p q))
    (he : eval (.Attribute o "comp_select_list" pos) env = (do
      let ov ← eval o env
      standAt pos.atName
      let r ← holding [ov] (getAttr ov "comp_select_list" true)
      letTemporaryGo o ov r
      pure r) := by with_unfolding_all rfl) : EvD w k env Mu ρ (.Attribute o "comp_select_list" pos) (selD p q) := fun A H s hA S =>
  Attribute_any_ (wpn (a A H s hA S) fun v s₁ ⟨k₁, x, dx, es, n, l, e, hx, hd, g1, g2, hh, rl⟩ => by
    subst e
    have X := ((S.sub k₁.heap).gd.sub (Fz_sub _ _)).k
    have I : InstAt s₁.heap x (instObj 38 dx) 38 (some (dictOf es n)) := ⟨Fz_of hx, rfl, rfl, Fz_of hd⟩
    exact get_value X I (by with_unfolding_all rfl) (findObj_own (by with_unfolding_all rfl) (attr := none) (by with_unfolding_all rfl) rfl (by rw [lookIn_dict]; exact g1)) hh ⟨k₁.trans (Kp.tok s₁ _), rl⟩) he

noncomputable def cmpZ (a b x0 x2 y0 y2 : Int) : Int := if x2 < y2 then -a else if x2 > y2 then a else if x0 < y0 then -b else if x0 > y0 then b else 0
noncomputable abbrev rowD (x0 x1 x2 : Int) : PD := .tup [.int x0, .int x1, .int x2]
noncomputable abbrev frC (w : World) (a b x0 x1 x2 y0 y1 y2 : Int) : Str → Option PD := rL [("self", jud w a b), ("left", rowD x0 x1 x2), ("right", rowD y0 y1 y2)]
set_option maxRecDepth 100000 in
set_option maxHeartbeats 4000000 in
theorem compare_ok {a b x0 x1 x2 y0 y1 y2 : Int} : CallD w (k + 1) (.ref 35) [jud w a b, rowD x0 x1 x2, rowD y0 y1 y2] (.int (cmpZ a b x0 x2 y0 y2)) := by
  refine call_fn (names := ["self", "left", "right"]) (es := [jud w a b, rowD x0 x1 x2, rowD y0 y1 y2]) (by with_unfolding_all rfl) ?hcd ?hb ?bd ?hkind ?hnd rfl ?hcn ?_ ?_ ?_
  case hcd => with_unfolding_all rfl
  case hkind => with_unfolding_all rfl
  case hb => exact hb_plain fun vs h => by obtain ⟨x, y, z, rfl⟩ := len_three h; with_unfolding_all rfl
  case hnd => decide
  case hcn => decide
  case bd =>
    intro L
    refine ex_for (J := fun i Mu' ρ' => Mu' = [] ∧ ρ' = frC w a b x0 x1 x2 y0 y1 y2 ∧ (1 ≤ i → x2 = y2) ∧ (2 ≤ i → x0 = y0)) (itr_listP (ps := [(.int 2, .int a), (.int 0, .int b)]) (ev_sel (p := a) (q := b) (by (walk_at "mnm")))) ?_ ⟨rfl, rfl, by omega, by omega⟩ ?_ ?_
    · intro i hi p hp
      rcases List.mem_cons.mp hp with rfl | hp
      · with_unfolding_all rfl
      · rw [List.mem_singleton.mp hp]; with_unfolding_all rfl
    · rintro i Mu' ρ' hi ⟨rfl, rfl, h1, h2⟩
      match i, hi, h1, h2 with
      | 0, _, _, _ =>
        refine ex_assign (ev_itemT (ds := [.int x0, .int x1, .int x2]) (x := 2) (d := .int x2) (by (walk_at "mnm")) (by (walk_at "mnm")) (by decide) rfl (by decide)) ?_ (by with_unfolding_all rfl)
        refine ex_assign (ev_itemT (ds := [.int y0, .int y1, .int y2]) (x := 2) (d := .int y2) (by (walk_at "mnm")) (by (walk_at "mnm")) (by decide) rfl (by decide)) ?_ (by with_unfolding_all rfl)
        refine ex_if (N' := fun Mu' ρ' => Mu' = [] ∧ ρ' = rL [("self", jud w a b), ("left", rowD x0 x1 x2), ("right", rowD y0 y1 y2), ("l", .int x2), ("r", .int y2), ("direction", .int a)] ∧ ¬ x2 < y2) (by (walk_at "mts")) (fun c => ?_) (fun c => ?_) ?_
        · have c := of_decide_eq_true c
          exact ex_return (ev_neg (i := a) (by (walk_at "mnm"))) (by show _ = PD.int (cmpZ _ _ _ _ _ _); rw [cmpZ, if_pos c])
        · exact ex_can _ (by (walk_at "mcan")) (ex_nil ⟨rfl, rfl, of_decide_eq_false c⟩)
        rintro Mu' ρ' ⟨rfl, rfl, n1⟩
        refine ex_if (N' := fun Mu' ρ' => Mu' = [] ∧ ρ' = frC w a b x0 x1 x2 y0 y1 y2 ∧ ¬ x2 > y2) (by (walk_at "mts")) (fun c => ?_) (fun c => ?_) ?_
        · have c := of_decide_eq_true c
          exact ex_return (by (walk_at "mnm")) (by show _ = PD.int (cmpZ _ _ _ _ _ _); rw [cmpZ, if_neg n1, if_pos c])
        · exact ex_can _ (by (walk_at "mcan")) (ex_nil ⟨rfl, rfl, of_decide_eq_false c⟩)
        rintro Mu' ρ' ⟨rfl, rfl, n2⟩
        exact ex_nil ⟨rfl, rfl, by omega, by omega⟩
      | 1, _, h1, _ =>
        have h1 := h1 (Nat.le_refl _)
        refine ex_assign (ev_itemT (ds := [.int x0, .int x1, .int x2]) (x := 0) (d := .int x0) (by (walk_at "mnm")) (by (walk_at "mnm")) (by decide) rfl (by decide)) ?_ (by with_unfolding_all rfl)
        refine ex_assign (ev_itemT (ds := [.int y0, .int y1, .int y2]) (x := 0) (d := .int y0) (by (walk_at "mnm")) (by (walk_at "mnm")) (by decide) rfl (by decide)) ?_ (by with_unfolding_all rfl)
        refine ex_if (N' := fun Mu' ρ' => Mu' = [] ∧ ρ' = rL [("self", jud w a b), ("left", rowD x0 x1 x2), ("right", rowD y0 y1 y2), ("l", .int x0), ("r", .int y0), ("direction", .int b)] ∧ ¬ x0 < y0) (by (walk_at "mts")) (fun c => ?_) (fun c => ?_) ?_
        · have c := of_decide_eq_true c
          exact ex_return (ev_neg (i := b) (by (walk_at "mnm"))) (by show _ = PD.int (cmpZ _ _ _ _ _ _); rw [cmpZ, if_neg (by omega), if_neg (by omega), if_pos c])
        · exact ex_can _ (by (walk_at "mcan")) (ex_nil ⟨rfl, rfl, of_decide_eq_false c⟩)
        rintro Mu' ρ' ⟨rfl, rfl, n1⟩
        refine ex_if (N' := fun Mu' ρ' => Mu' = [] ∧ ρ' = frC w a b x0 x1 x2 y0 y1 y2 ∧ ¬ x0 > y0) (by (walk_at "mts")) (fun c => ?_) (fun c => ?_) ?_
        · have c := of_decide_eq_true c
          exact ex_return (by (walk_at "mnm")) (by show _ = PD.int (cmpZ _ _ _ _ _ _); rw [cmpZ, if_neg (by omega), if_neg (by omega), if_neg n1, if_pos c])
        · exact ex_can _ (by (walk_at "mcan")) (ex_nil ⟨rfl, rfl, of_decide_eq_false c⟩)
        rintro Mu' ρ' ⟨rfl, rfl, n2⟩
        exact ex_nil ⟨rfl, rfl, fun _ => h1, by omega⟩
      | i + 2, hi, _, _ => exact absurd hi (by simp)
    · rintro Mu' ρ' ⟨rfl, rfl, h1, h2⟩
      have h1 := h1 (by simp)
      have h2 := h2 (by simp)
      exact ex_return ev_int (by show _ = PD.int (cmpZ _ _ _ _ _ _); rw [cmpZ, if_neg (by omega), if_neg (by omega), if_neg (by omega), if_neg (by omega)])
  all_goals rfl

/-- o.compare(x, y) -/
theorem ev_compare {o x y : Expr} {apos pos : Pos} {pl : Sem Bool} {a b x0 x1 x2 y0 y1 y2 : Int} (ho : EvD w (k + 1) env Mu ρ o (jud w a b)) (ha : EvArgs w (k + 1) env Mu ρ pos [x, y] [rowD x0 x1 x2, rowD y0 y1 y2])
    (hp : (backTo pos (starEach [x, y] env)).any (·.1) = false := by rfl)
    (he : eval (.Call (.Attribute o "compare" apos) [x, y] [] pos) env = (do
      let ov ← eval o env
      standAt apos.atName
      let (f, first) ← holding [ov] (getMethod ov "compare" pl)
      callWith pos f first (backTo pos (starEach [x, y] env)) (backToKw pos (keywordEach [] env))) := by rfl) :
    EvD w (k + 1) env Mu ρ (.Call (.Attribute o "compare" apos) [x, y] [] pos) (.int (cmpZ a b x0 x2 y0 y2)) := fun A H s hA S => by
  refine methodCall_KW (pl := pl) (wpn (ho A H s hA S) fun v s₁ ⟨k₁, xa, dx, es, n, l, e, hx, hd, g1, g2, hh, rl⟩ => ?_) he
  subst e
  have S₁ := S.sub k₁.heap
  have X := (S₁.gd.sub (Fz_sub _ _)).k
  have I : InstAt s₁.heap xa (instObj 38 dx) 38 (some (dictOf es n)) := ⟨Fz_of hx, rfl, rfl, Fz_of hd⟩
  have rj : Rd w (Fz (hid env Mu H) s₁.heap) (jud w a b) (.ref xa) := ⟨xa, dx, es, n, l, rfl, hx, hd, g1, g2, hh, rl⟩
  refine method_fn (f := 35) X I (by with_unfolding_all rfl) (by with_unfolding_all rfl) (by with_unfolding_all rfl) (by with_unfolding_all rfl) (by show (lookIn _ (dictOf es n)).map _ = _; rw [lookIn_dict, g2]; rfl) ?_
  show wpAny (MM w) A (callWith pos (.ref 35) [.ref xa] (backTo pos (starEach [x, y] env)) []) _ _ _
  refine call_any (.inr (.inr (by with_unfolding_all rfl))) hp (wpn (ha A H s₁ hA S₁) fun vs s₂ ⟨k₂, r⟩ => ?_)
  have S₂ := S₁.sub k₂.heap
  refine ⟨(S₂.gd.sub (Fz_sub _ _)).k, ?_⟩
  exact wpn (compare_ok A _ s₂ _ hA S₂.gd S₂.alive (Rds.cons (rj.sub (fz_up k₂)) r)) fun v s₃ ⟨k₃, q⟩ => ⟨(k₁.trans k₂).trans k₃, q⟩
end
end
section
open PySem PySem.W PyProof.Rows PySem.Calls
section
variable {w : World} {k : Nat} {env : Env} {Mu : List (Addr × PD)} {ρ : Str → Option PD} {e : Expr} {d : PD} {N : Nx} {R : PD → Prop} {rest : List Stmt}

theorem outOf_range (f : Nat → PD) : ∀ n, outOf (fun _ => true) f n = (List.range n).map f
  | 0 => rfl
  | n + 1 => by rw [outOf, outOf_range f n, List.range_succ, List.map_append]; rfl
theorem outOf_congr {p p' : Nat → Bool} {f f' : Nat → PD} : ∀ n, (∀ i, i < n → p i = p' i) → (∀ i, i < n → p i = true → f i = f' i) → outOf p f n = outOf p' f' n
  | 0, _, _ => rfl
  | n + 1, h, h' => by
    rw [outOf, outOf, outOf_congr n (fun i hi => h i (by omega)) (fun i hi => h' i (by omega)), ← h n (by omega)]
    cases hp : p n with
    | false => rfl
    | true => simp only [if_true]; rw [h' n (by omega) hp]
theorem outOf_list {α : Type} (p : α → Bool) (f : α → PD) (z : α) (l : List α) : ∀ n, n ≤ l.length → outOf (fun i => p (l.getD i z)) (fun i => f (l.getD i z)) n = ((l.take n).filter p).map f
  | 0, _ => by simp [outOf]
  | n + 1, h => by
    rw [outOf, outOf_list p f z l n (by omega), take_snoc (by omega) z, List.filter_append, List.map_append]
    cases hp : p (l.getD n z)
    · rw [List.filter_cons_of_neg (by rw [hp]; decide)]; simp
    · rw [List.filter_cons_of_pos hp]; simp
theorem outOf_all {α : Type} (p : α → Bool) (f : α → PD) (z : α) (l : List α) : outOf (fun i => p (l.getD i z)) (fun i => f (l.getD i z)) l.length = (l.filter p).map f := by
  rw [outOf_list p f z l _ (Nat.le_refl _), List.take_length]

theorem mulOk {a b : Int} (h : b.natAbs < 2 ^ 64) : IntMulOk a b := IntMulOk.of_right (intBits_le_iff.mpr h)

noncomputable abbrev nearD (nr : List (List Int)) : PD := .list (nr.map PD.ints)
/-- the rows that a TupleComp judges -/
noncomputable def rowOf (nr : List (List Int)) (p : Int) : PD := rowD p (5 - p) ((nr.getD p.toNat []).length : Nat)
noncomputable abbrev lenZ (nr : List (List Int)) (p : Int) : Int := ((nr.getD p.toNat []).length : Nat)
noncomputable abbrev rowsD (nr : List (List Int)) : PD := .list ((List.range 6).map fun i : Nat => rowOf nr i)
theorem Tst.eq {c c' : Bool} (t : Tst w k env Mu ρ e c) (h : c = c') : Tst w k env Mu ρ e c' := h ▸ t
theorem EvD.eq {d d' : PD} (t : EvD w k env Mu ρ e d) (h : d = d') : EvD w k env Mu ρ e d' := h ▸ t
theorem near_get {nr : List (List Int)} {i : Nat} (h : i < nr.length) : (nr.map PD.ints)[i]? = some (.ints (nr.getD i [])) := by
  rw [List.getElem?_map, List.getElem?_eq_getElem h, List.getD_eq_getElem?_getD, List.getElem?_eq_getElem h]; rfl

theorem six_neg {u q : Int} (h : u < 0) (hq : -5 ≤ q ∧ q ≤ 5) : 6 * u + q < 0 := by omega
theorem six_pos {u q : Int} (h : u > 0) (hq : -5 ≤ q ∧ q ≤ 5) : 6 * u + q > 0 := by omega
/-- what the judge tells, by the sign of a number -/
theorem cmp_sign {a b x0 x2 y0 y2 : Int} (ha : a = 1 ∨ a = -1) (hb : b = 1 ∨ b = -1) (h1 : x0 - y0 ≤ 5) (h2 : y0 - x0 ≤ 5) :
    (cmpZ a b x0 x2 y0 y2 = 1 ∧ 6 * a * (x2 - y2) + b * (x0 - y0) > 0) ∨ (cmpZ a b x0 x2 y0 y2 = 0 ∧ 6 * a * (x2 - y2) + b * (x0 - y0) = 0) ∨ (cmpZ a b x0 x2 y0 y2 = -1 ∧ 6 * a * (x2 - y2) + b * (x0 - y0) < 0) := by
  have hq : -5 ≤ b * (x0 - y0) ∧ b * (x0 - y0) ≤ 5 := by rcases hb with rfl | rfl <;> omega
  have e : 6 * a * (x2 - y2) = 6 * (a * (x2 - y2)) := Int.mul_assoc ..
  rw [e]
  unfold cmpZ
  by_cases c1 : x2 < y2
  · rw [if_pos c1]
    rcases ha with rfl | rfl
    · exact .inr (.inr ⟨rfl, six_neg (by omega) hq⟩)
    · exact .inl ⟨rfl, six_pos (by omega) hq⟩
  · rw [if_neg c1]
    by_cases c2 : x2 > y2
    · rw [if_pos c2]
      rcases ha with rfl | rfl
      · exact .inl ⟨rfl, six_pos (by omega) hq⟩
      · exact .inr (.inr ⟨rfl, six_neg (by omega) hq⟩)
    · rw [if_neg c2, show x2 - y2 = 0 by omega, Int.mul_zero, Int.mul_zero, Int.zero_add]
      clear hq e
      by_cases c3 : x0 < y0
      · rw [if_pos c3]
        rcases hb with rfl | rfl
        · exact .inr (.inr ⟨rfl, by omega⟩)
        · exact .inl ⟨rfl, by omega⟩
      · rw [if_neg c3]
        by_cases c4 : x0 > y0
        · rw [if_pos c4]
          rcases hb with rfl | rfl
          · exact .inl ⟨rfl, by omega⟩
          · exact .inr (.inr ⟨rfl, by omega⟩)
        · rw [if_neg c4, show x0 - y0 = 0 by omega, Int.mul_zero]
          exact .inr (.inl ⟨rfl, rfl⟩)
theorem judged_math {a b x0 x2 y0 y2 : Int} (ha : a = 1 ∨ a = -1) (hb : b = 1 ∨ b = -1) (h1 : x0 - y0 ≤ 5) (h2 : y0 - x0 ≤ 5) :
    (cmpZ a b x0 x2 y0 y2 != bi (decide (6 * a * (x2 - y2) + b * (x0 - y0) > 0)) - bi (decide (6 * a * (x2 - y2) + b * (x0 - y0) < 0))) = false := by
  have s := cmp_sign (x2 := x2) (y2 := y2) ha hb h1 h2
  generalize 6 * a * (x2 - y2) + b * (x0 - y0) = v at s ⊢
  rcases s with ⟨e, g⟩ | ⟨e, g⟩ | ⟨e, g⟩
  · rw [e, decide_eq_true g, decide_eq_false (show ¬ v < 0 by omega)]; rfl
  · subst g; rw [e]; rfl
  · rw [e, decide_eq_true g, decide_eq_false (show ¬ v > 0 by omega)]; rfl

set_option maxRecDepth 100000 in
set_option maxHeartbeats 4000000 in
theorem judged_ok {nr : List (List Int)} {a b : Int} (hn : nr.length = 6) (hd : ∀ r ∈ nr, r.length ≤ 1000) (ha : a = 1 ∨ a = -1) (hb : b = 1 ∨ b = -1) :
    CallD w (k + 2) (.ref 100) [nearD nr, jud w a b, .int a, .int b] (.bool true) := by
  refine call_fn (names := ["near", "judge", "first", "second"]) (es := [nearD nr, jud w a b, .int a, .int b]) (by (walk_at "mu")) ?hcd ?hb ?bd ?hkind ?hnd rfl ?hcn ?_ ?_ ?_
  case hcd => (walk_at "mu")
  case hkind => (walk_at "mu")
  case hb => exact hb_plain fun vs h => by obtain ⟨x, y, z, u, rfl⟩ := len_four h; (walk_at "mu")
  case hnd => decide
  case hcn => decide
  case bd =>
    intro L
    have hlen : ∀ i : Nat, i < 6 → (nr.getD i []).length ≤ 1000 := fun i hi => by
      rw [List.getD_eq_getElem?_getD, List.getElem?_eq_getElem (by omega)]
      exact hd _ (List.getElem_mem _)
    refine ex_old (asg_comp (n := 6) (p := fun _ => true) (f := fun i => rowOf nr i) (itr_range1 (b := 6) (by (walk_at "mnm")) (by (walk_at "mev")) (by decide) (by decide)) (by (walk_at "mcok")) (by (walk_at "mhk")) (by decide) (fun i hi C => tsts_nil) ?el (by (walk_at "mu")) (by (walk_at "mu"))) ?_
    case el =>
      intro i hi _ C
      have hi : i < 6 := hi
      have c := cd_len (w := w) (k := k + 1) (ds := (nr.getD i []).map .int) (by rw [List.length_map]; exact hlen i hi)
      rw [List.length_map] at c
      exact ev_tuple (args_cons (by (walk_at "mnm")) (args_cons (by (walk_at "mev")) (args_cons (ev_call (by (walk_at "mnm")) (by (walk_at "mcal")) (args_cons (ev_item (x := i) (by (walk_at "mnm")) .fro (by (walk_at "mnm")) (by omega) (near_get (i := i) (by omega)) (by omega)) args_nil) c) args_nil))) (by simp)
    rw [outOf_range]
    refine ex_can [("judge", jud w a b), ("first", .int a), ("second", .int b), ("rows", rowsD nr)] (by (walk_at "mcan")) ?_
    refine ex_for (J := fun i Mu' ρ' => Mu' = [] ∧ ρ' = rL [("judge", jud w a b), ("first", .int a), ("second", .int b), ("rows", rowsD nr)]) (itr_list (by (walk_at "mnm"))) (by (walk_at "mhk")) ⟨rfl, rfl⟩ ?_ ?_
    · rintro i Mu' ρ' hi ⟨rfl, rfl⟩
      have hi : i < 6 := by simpa using hi
      have e1 : ((List.range 6).map fun i : Nat => rowOf nr i).getD i .none = rowOf nr i := by
        rw [List.getD_eq_getElem?_getD, List.getElem?_map, List.getElem?_range hi]; rfl
      rw [e1]
      refine ex_can [("judge", jud w a b), ("first", .int a), ("second", .int b), ("rows", rowsD nr), ("one", rowOf nr i)] (by (walk_at "mcan")) ?_
      refine ex_for (J := fun _ Mu' ρ' => Mu' = [] ∧ ρ' = rL [("judge", jud w a b), ("first", .int a), ("second", .int b), ("rows", rowsD nr), ("one", rowOf nr i)]) (itr_list (by (walk_at "mnm"))) (by (walk_at "mhk")) ⟨rfl, rfl⟩ ?_ ?_
      · rintro j Mu' ρ' hj ⟨rfl, rfl⟩
        have hj : j < 6 := by simpa using hj
        have e2 : ((List.range 6).map fun i : Nat => rowOf nr i).getD j .none = rowOf nr j := by
          rw [List.getD_eq_getElem?_getD, List.getElem?_map, List.getElem?_range hj]; rfl
        rw [e2]
        have l1 := hlen i hi
        have l2 := hlen j hj
        have m1 : (a : Int).natAbs < 2 ^ 64 := by omega
        have m2 : (lenZ nr i - lenZ nr j).natAbs < 2 ^ 64 := by simp only [lenZ, Int.toNat_natCast]; omega
        have m3 : ((i : Int) - (j : Int)).natAbs < 2 ^ 64 := by omega
        refine ex_assign (d := .int (6 * a * (lenZ nr i - lenZ nr j) + b * ((i : Int) - j))) ?_ ?_ (by (walk_at "mu"))
        · refine ev_bin (ev_bin (ev_bin (by (walk_at "mev")) (by (walk_at "mnm")) (op_mul (mulOk m1))) (ev_bin (ev_itemT (ds := [.int i, .int (5 - i), .int (lenZ nr i)]) (x := 2) (by (walk_at "mnm")) (by (walk_at "mev")) (by decide) rfl (by decide)) (ev_itemT (ds := [.int j, .int (5 - j), .int (lenZ nr j)]) (x := 2) (by (walk_at "mnm")) (by (walk_at "mev")) (by decide) rfl (by decide)) op_sub) (op_mul (mulOk m2))) ?_ op_add
          exact ev_bin (by (walk_at "mnm")) (ev_bin (ev_itemT (ds := [.int i, .int (5 - i), .int (lenZ nr i)]) (x := 0) (by (walk_at "mnm")) (by (walk_at "mev")) (by decide) rfl (by decide)) (ev_itemT (ds := [.int j, .int (5 - j), .int (lenZ nr j)]) (x := 0) (by (walk_at "mnm")) (by (walk_at "mev")) (by decide) rfl (by decide)) op_sub) (op_mul (mulOk m3))
        · refine ex_ifF ?_ (ex_can _ (by (walk_at "mcan")) (ex_nil ⟨rfl, rfl⟩))
          exact (tst_cmp (ev_compare (a := a) (b := b) (x0 := i) (x1 := 5 - i) (x2 := lenZ nr i) (y0 := j) (y1 := 5 - j) (y2 := lenZ nr j) (by (walk_at "mnm")) (args_cons (by (walk_at "mnm")) (args_cons (by (walk_at "mnm")) args_nil)))
            (ev_bin (ev_cmp (by (walk_at "mnm")) (by (walk_at "mev")) op_gt) (ev_cmp (by (walk_at "mnm")) (by (walk_at "mev")) op_lt) op_subB) op_ne).eq (judged_math ha hb (by omega) (by omega))
      · rintro Mu' ρ' ⟨rfl, rfl⟩
        exact ex_can _ (by (walk_at "mcan")) (ex_nil ⟨rfl, rfl⟩)
    · rintro Mu' ρ' ⟨rfl, rfl⟩
      exact ex_return (by (walk_at "mev")) rfl
  all_goals rfl
end
end
section

/-! a list of distinct things within another one of no greater length -/
theorem perm_of_sub {α : Type} [BEq α] [LawfulBEq α] : ∀ {l m : List α}, l.Nodup → (∀ x ∈ l, x ∈ m) → m.length ≤ l.length → m.Perm l
  | [], m, _, _, h => by rw [List.length_eq_zero_iff.mp (Nat.le_zero.mp h)]
  | x :: l, m, nd, s, h => by
    obtain ⟨h1, h2⟩ := List.nodup_cons.mp nd
    have hx := s x (.head _)
    have p := List.perm_cons_erase hx
    refine p.trans (.cons x (perm_of_sub h2 (fun y hy => ?_) ?_))
    · have : y ≠ x := fun e => h1 (e ▸ hy)
      exact (List.mem_erase_of_ne this).mpr (s y (.tail _ hy))
    · rw [List.length_erase_of_mem hx]
      simp only [List.length_cons] at h
      omega

/-! places by rank -/
section
variable (κ : Int → Int)
noncomputable def rankK (news : List Int) (x : Int) : Nat := (news.filter fun y => decide (κ y < κ x)).length
noncomputable def blockF (news l : List Int) : List Int := l.foldl (fun bl x => bl.set (rankK κ news x) x) (List.replicate news.length 0)
noncomputable def blockK (news : List Int) : List Int := blockF κ news news
variable {κ}
theorem filter_lt {p q : Int → Bool} : ∀ {l : List Int}, (∀ x ∈ l, p x = true → q x = true) → (∃ x ∈ l, q x = true ∧ p x = false) → (l.filter p).length < (l.filter q).length
  | [], _, ⟨x, m, _⟩ => nomatch m
  | y :: l, h, ⟨x, m, hq, hp⟩ => by
    have le : ∀ {l : List Int}, (∀ x ∈ l, p x = true → q x = true) → (l.filter p).length ≤ (l.filter q).length := fun {l} h => by
      induction l with
      | nil => simp
      | cons z l ih =>
        have ih := ih fun x m => h x (.tail _ m)
        cases hz : p z with
        | false => rw [List.filter_cons_of_neg (by rw [hz]; decide)]; rw [List.filter_cons (p := q)]; split <;> (try simp only [List.length_cons]) <;> omega
        | true => rw [List.filter_cons_of_pos hz, List.filter_cons_of_pos (h z (.head _) hz)]; simp; exact ih
    rcases List.mem_cons.mp m with rfl | m
    · rw [List.filter_cons_of_neg (by rw [hp]; decide), List.filter_cons_of_pos hq, List.length_cons]
      exact Nat.lt_succ_of_le (le fun x m => h x (.tail _ m))
    · have ih := filter_lt (l := l) (fun x m => h x (.tail _ m)) ⟨x, m, hq, hp⟩
      cases hz : p y with
      | false => rw [List.filter_cons_of_neg (by rw [hz]; decide)]; rw [List.filter_cons (p := q)]; split <;> (try simp only [List.length_cons]) <;> omega
      | true => rw [List.filter_cons_of_pos hz, List.filter_cons_of_pos (h y (.head _) hz)]; simp; exact ih
theorem rankK_lt {news : List Int} {x : Int} (h : x ∈ news) : rankK κ news x < news.length := by
  have := filter_lt (p := fun y => decide (κ y < κ x)) (q := fun _ => true) (l := news) (fun _ _ _ => rfl) ⟨x, h, rfl, by simp [Int.lt_irrefl]⟩
  rw [List.filter_eq_self.mpr (fun _ _ => rfl)] at this
  exact this
theorem rankK_mono {news : List Int} {x y : Int} (h : x ∈ news) (l : κ x < κ y) : rankK κ news x < rankK κ news y :=
  filter_lt (fun z _ hz => by simp only [decide_eq_true_eq] at hz ⊢; omega) ⟨x, h, by simpa using l, by simp⟩
theorem rankK_inj {news : List Int} (inj : ∀ x ∈ news, ∀ y ∈ news, κ x = κ y → x = y) {x y : Int} (hx : x ∈ news) (hy : y ∈ news) (e : rankK κ news x = rankK κ news y) : x = y := by
  rcases Int.lt_trichotomy (κ x) (κ y) with h | h | h
  · have := rankK_mono hx h; omega
  · exact inj x hx y hy h
  · have := rankK_mono hy h; omega
theorem blockF_snoc (news l : List Int) (x : Int) : blockF κ news (l ++ [x]) = (blockF κ news l).set (rankK κ news x) x := by
  unfold blockF; rw [List.foldl_append]; rfl
theorem foldl_set_len (g : Int → Nat) : ∀ (l acc : List Int), (l.foldl (fun bl x => bl.set (g x) x) acc).length = acc.length
  | [], acc => rfl
  | x :: l, acc => by rw [List.foldl_cons, foldl_set_len g l]; simp
theorem blockF_len (news l : List Int) : (blockF κ news l).length = news.length := by
  unfold blockF; rw [foldl_set_len]; simp
theorem foldl_set_get (g : Int → Nat) : ∀ (l acc : List Int), l.Nodup → (∀ x ∈ l, ∀ y ∈ l, g x = g y → x = y) → (∀ x ∈ l, g x < acc.length) →
    (∀ x ∈ l, (l.foldl (fun bl x => bl.set (g x) x) acc)[g x]? = some x) ∧ ∀ i, (∀ x ∈ l, g x ≠ i) → (l.foldl (fun bl x => bl.set (g x) x) acc)[i]? = acc[i]?
  | [], acc, _, _, _ => ⟨fun _ m => (nomatch m), fun _ _ => rfl⟩
  | x :: l, acc, nd, inj, lt => by
    obtain ⟨h1, h2⟩ := List.nodup_cons.mp nd
    obtain ⟨a, b⟩ := foldl_set_get g l (acc.set (g x) x) h2 (fun y hy z hz => inj y (.tail _ hy) z (.tail _ hz)) (fun y hy => by rw [List.length_set]; exact lt y (.tail _ hy))
    refine ⟨fun y hy => ?_, fun i hi => ?_⟩
    · rw [List.foldl_cons]
      rcases List.mem_cons.mp hy with rfl | hy
      · rw [b (g y) fun z hz e => h1 ((inj z (.tail _ hz) y (.head _) e) ▸ hz)]
        rw [List.getElem?_set_self (lt y (.head _))]
      · exact a y hy
    · rw [List.foldl_cons, b i fun z hz => hi z (.tail _ hz), List.getElem?_set_ne (hi x (.head _))]
theorem blockK_perm {news : List Int} (nd : news.Nodup) (inj : ∀ x ∈ news, ∀ y ∈ news, κ x = κ y → x = y) : (blockK κ news).Perm news := by
  refine perm_of_sub nd (fun x hx => ?_) (Nat.le_of_eq (blockF_len _ _))
  have := (foldl_set_get (rankK κ news) news (List.replicate news.length 0) nd (fun x hx y hy => rankK_inj inj hx hy) (fun x hx => by rw [List.length_replicate]; exact rankK_lt hx)).1 x hx
  exact List.mem_of_getElem? this
end

/-! the ties -/
noncomputable abbrev nb (nr : List (List Int)) (x : Int) : List Int := nr.getD x.toNat []
structure NearOk (nr : List (List Int)) : Prop where
  len : nr.length = 6
  nd : ∀ x, (nb nr x).Nodup
  rg : ∀ x, ∀ y ∈ nb nr x, 0 ≤ y ∧ y < 6
  ne : ∀ x, 0 ≤ x → x ∉ nb nr x
  sym : ∀ x y, 0 ≤ x → 0 ≤ y → y ∈ nb nr x → x ∈ nb nr y
  con : ∀ x, 1 ≤ x → x < 6 → ∃ y, 0 ≤ y ∧ y < x ∧ y ∈ nb nr x

/-- distinct points -/
structure Pts (l : List Int) : Prop where
  nd : l.Nodup
  rg : ∀ x ∈ l, 0 ≤ x ∧ x < 6
theorem Pts.len {l : List Int} (h : Pts l) : l.length ≤ 6 := by
  have sub : ∀ x ∈ l, x ∈ ([0, 1, 2, 3, 4, 5] : List Int) := fun x hx => by
    have := h.rg x hx
    simp only [List.mem_cons, List.not_mem_nil, or_false]
    omega
  have key : ∀ (l m : List Int), l.Nodup → (∀ x ∈ l, x ∈ m) → l.length ≤ m.length := by
    intro l
    induction l with
    | nil => intro m _ _; simp
    | cons x l ih =>
      intro m nd s
      obtain ⟨h1, h2⟩ := List.nodup_cons.mp nd
      have hx := s x (.head _)
      have := ih (m.erase x) h2 fun y hy => (List.mem_erase_of_ne (show y ≠ x from fun e => h1 (e ▸ hy))).mpr (s y (.tail _ hy))
      rw [List.length_erase_of_mem hx] at this
      have : 0 < m.length := List.length_pos_of_mem hx
      simp only [List.length_cons]; omega
  simpa using key l _ h.nd sub

/-- the points that the walk meets next -/
noncomputable def newsZ (nr : List (List Int)) (order : List Int) (place : Nat) : List Int := (nb nr (order.getD place 0)).filter fun y => !decide (y ∈ order)
noncomputable abbrev keyZ (nr : List (List Int)) (a b : Int) (x : Int) : Int := 6 * a * ((nb nr x).length : Nat) + b * x
noncomputable def stepZ (nr : List (List Int)) (a b : Int) (order : List Int) (place : Nat) : List Int := order ++ blockK (keyZ nr a b) (newsZ nr order place)
noncomputable def walkR (nr : List (List Int)) (a b : Int) : Nat → List Int → Nat → List Int
  | 0, order, _ => order
  | f + 1, order, place => if place < order.length then walkR nr a b f (stepZ nr a b order place) (place + 1) else order
noncomputable def walkZ (nr : List (List Int)) (a b : Int) (begin : Int) : List Int := walkR nr a b 7 [begin] 0

section
variable {nr : List (List Int)} {a b : Int}
theorem key_inj (ha : a = 1 ∨ a = -1) (hb : b = 1 ∨ b = -1) {x y : Int} (hx : 0 ≤ x ∧ x < 6) (hy : 0 ≤ y ∧ y < 6) (e : keyZ nr a b x = keyZ nr a b y) : x = y := by
  unfold keyZ at e
  rcases ha with rfl | rfl <;> rcases hb with rfl | rfl <;> omega
theorem newsZ_mem {order : List Int} {place : Nat} {y : Int} : y ∈ newsZ nr order place ↔ y ∈ nb nr (order.getD place 0) ∧ y ∉ order := by
  unfold newsZ; simp [List.mem_filter]
theorem block_perm (N : NearOk nr) (ha : a = 1 ∨ a = -1) (hb : b = 1 ∨ b = -1) (order : List Int) (place : Nat) : (blockK (keyZ nr a b) (newsZ nr order place)).Perm (newsZ nr order place) :=
  blockK_perm ((N.nd _).filter _) fun x hx y hy e => key_inj ha hb (N.rg _ x (newsZ_mem.mp hx).1) (N.rg _ y (newsZ_mem.mp hy).1) e
theorem step_pts (N : NearOk nr) (ha : a = 1 ∨ a = -1) (hb : b = 1 ∨ b = -1) {order : List Int} {place : Nat} (P : Pts order) : Pts (stepZ nr a b order place) := by
  have p := block_perm N ha hb order place
  refine ⟨List.nodup_append.mpr ⟨P.nd, p.nodup_iff.mpr ((N.nd _).filter _), fun x hx y hy e => ?_⟩, fun x hx => ?_⟩
  · exact (newsZ_mem.mp (p.mem_iff.mp hy)).2 (e ▸ hx)
  · rcases List.mem_append.mp hx with h | h
    · exact P.rg x h
    · exact N.rg _ x (newsZ_mem.mp (p.mem_iff.mp h)).1
end
end
section
open PySem PySem.W PyProof.Rows PySem.Calls
section
variable {w : World} {k : Nat} {env : Env} {Mu : List (Addr × PD)} {ρ : Str → Option PD} {e : Expr} {d : PD} {N : Nx} {R : PD → Prop} {rest : List Stmt}

theorem Itr.congr {target iter : Expr} {n : Nat} {bs bs' : Nat → List (Str × PD)} (h : ∀ i, i < n → bs i = bs' i) (it : Itr w k env Mu ρ target iter n bs) : Itr w k env Mu ρ target iter n bs' := fun A H s hA S =>
  wpn (it A H s hA S) fun xv s₁ x => wpn x fun itv s₂ ⟨kp, I, fp, wr, P, Md, Sti, e, W, st, hw, hal, hfp, self, asg⟩ =>
    ⟨kp, I, fp, wr, P, Md, Sti, e, W, st, hw, hal, hfp, self, fun env' A' i v s' H' Mu' ρ' hh hi => by rw [← h i hi]; exact asg env' A' i v s' H' Mu' ρ' hh hi⟩
theorem itr_map {α : Type} {x : Str} {xp : Pos} {iter : Expr} {l : List α} {f : α → PD} (z : α) (a : EvD w k env Mu ρ iter (.list (l.map f))) : Itr w k env Mu ρ (.Name x xp) iter l.length (fun i => [(x, f (l.getD i z))]) := by
  have it := itr_list (x := x) (xp := xp) a
  rw [List.length_map] at it
  refine it.congr fun i hi => ?_
  rw [List.getD_eq_getElem?_getD, List.getElem?_map, List.getD_eq_getElem?_getD, List.getElem?_eq_getElem hi]; rfl
theorem itr_ints {x : Str} {xp : Pos} {iter : Expr} {l : List Int} (a : EvD w k env Mu ρ iter (.ints l)) : Itr w k env Mu ρ (.Name x xp) iter l.length (fun i => [(x, .int (l.getD i 0))]) := itr_map 0 a
theorem cd_lenI {ns : List Int} (hz : ns.length ≤ 1000) : CallD w k (.builtin "len") [.ints ns] (.int ns.length) := by
  have c := cd_len (w := w) (k := k) (ds := ns.map .int) (by rw [List.length_map]; exact hz)
  rw [List.length_map] at c
  exact c
theorem cd_lenM {α : Type} {l : List α} {f : α → PD} (hz : l.length ≤ 1000) : CallD w k (.builtin "len") [.list (l.map f)] (.int l.length) := by
  have c := cd_len (w := w) (k := k) (ds := l.map f) (by rw [List.length_map]; exact hz)
  rw [List.length_map] at c
  exact c
theorem map_get {α : Type} {l : List α} {f : α → PD} {i : Nat} (z : α) (h : i < l.length) : (l.map f)[i]? = some (f (l.getD i z)) := by
  rw [List.getElem?_map, List.getElem?_eq_getElem h, List.getD_eq_getElem?_getD, List.getElem?_eq_getElem h]; rfl
/-- an item of a list of numbers -/
theorem ev_itemI {l i : Expr} {pos : Pos} {dl : PD} {ns : List Int} {x : Int} (a : EvD w k env Mu ρ l dl) (L : Lk Mu dl (ns.map .int)) (b : EvD w k env Mu ρ i (.int x)) (h0 : 0 ≤ x) (hx : x.toNat < ns.length) (hz : x < 2 ^ 62)
    (hs : ∀ o v, subscripted i false o v = operate [o, v] (getItem o v) := by intro _ _; with_unfolding_all rfl) : EvD w k env Mu ρ (.Subscript l i pos) (.int (ns.getD x.toNat 0)) :=
  ev_item a L b h0 (map_get 0 hx) hz hs
/-- a row of the ties -/
theorem ev_near {l i : Expr} {pos : Pos} {nr : List (List Int)} {x : Int} (hn : nr.length = 6) (a : EvD w k env Mu ρ l (nearD nr)) (b : EvD w k env Mu ρ i (.int x)) (h0 : 0 ≤ x) (hx : x < 6)
    (hs : ∀ o v, subscripted i false o v = operate [o, v] (getItem o v) := by intro _ _; with_unfolding_all rfl) : EvD w k env Mu ρ (.Subscript l i pos) (.ints (nb nr x)) :=
  ev_item a .fro b h0 (near_get (i := x.toNat) (by omega)) (by omega) hs

theorem cmp_key {nr : List (List Int)} {a b x y : Int} (ha : a = 1 ∨ a = -1) (hb : b = 1 ∨ b = -1) (hx : 0 ≤ x ∧ x < 6) (hy : 0 ≤ y ∧ y < 6) :
    decide (cmpZ a b y (lenZ nr y) x (lenZ nr x) < 0) = decide (keyZ nr a b y < keyZ nr a b x) := by
  rw [decide_eq_decide]
  have s := cmp_sign (x0 := y) (y0 := x) (x2 := lenZ nr y) (y2 := lenZ nr x) ha hb (by omega) (by omega)
  have e : 6 * a * (lenZ nr y - lenZ nr x) + b * (y - x) = keyZ nr a b y - keyZ nr a b x := by
    show _ = (6 * a * lenZ nr y + b * y) - (6 * a * lenZ nr x + b * x)
    rw [Int.mul_sub, Int.mul_sub]
    generalize 6 * a * lenZ nr y = p
    generalize 6 * a * lenZ nr x = q
    generalize b * y = u
    generalize b * x = v
    omega
  rw [e] at s
  generalize keyZ nr a b y = p at s ⊢
  generalize keyZ nr a b x = q at s ⊢
  generalize cmpZ a b y (lenZ nr y) x (lenZ nr x) = c at s ⊢
  clear e ha hb hx hy
  omega

theorem nb_len {nr : List (List Int)} (N : NearOk nr) (x : Int) : (nb nr x).length ≤ 6 := Pts.len ⟨N.nd x, N.rg x⟩
theorem getD_mem {l : List Int} {i : Nat} (h : i < l.length) : l.getD i 0 ∈ l := by
  rw [List.getD_eq_getElem?_getD, List.getElem?_eq_getElem h]; exact List.getElem_mem _
noncomputable abbrev wF (w : World) (nr : List (List Int)) (a b : Int) (order : List Int) (place : Nat) : Str → Option PD := rL [("near", nearD nr), ("judge", jud w a b), ("order", .ints order), ("place", .int place)]
set_option maxRecDepth 100000 in
set_option maxHeartbeats 4000000 in
theorem walk_ok {nr : List (List Int)} {a b c : Int} (N : NearOk nr) (ha : a = 1 ∨ a = -1) (hb : b = 1 ∨ b = -1) (hc : 0 ≤ c ∧ c < 6) :
    CallD w (k + 2) (.ref 105) [nearD nr, .int c, jud w a b] (.ints (walkZ nr a b c)) := by
  refine call_fn (names := ["near", "begin", "judge"]) (es := [nearD nr, .int c, jud w a b]) (by (walk_at "mu")) ?hcd ?hb ?bd ?hkind ?hnd rfl ?hcn ?_ ?_ ?_
  case hcd => (walk_at "mu")
  case hkind => (walk_at "mu")
  case hb => exact hb_plain fun vs h => by obtain ⟨x, y, z, rfl⟩ := len_three h; (walk_at "mu")
  case hnd => decide
  case hcn => decide
  case bd =>
    intro L
    refine ex_unpack (xs := [("order", _), ("place", _)]) (ds := [.ints [c], .int 0]) (ev_tuple (args_cons (d := .ints [c]) (ev_list (ds := [.int c]) (args_cons (by (walk_at "mnm")) args_nil) (by simp)) (args_cons (by (walk_at "mev")) args_nil)) (by simp)) (by rfl) rfl rfl ?_ ?_
    · intro p hp
      simp only [List.mem_cons, List.not_mem_nil, or_false] at hp
      rcases hp with rfl | rfl <;> (walk_at "mu")
    refine ex_can [("near", nearD nr), ("judge", jud w a b), ("order", .ints [c]), ("place", .int (0 : Nat))] (by (walk_at "mcan")) ?_
    refine ex_while (J := fun m Mu' ρ' => Mu' = [] ∧ ∃ (order : List Int) (place : Nat), ρ' = wF w nr a b order place ∧ Pts order ∧ place + m = 7 ∧ place ≤ order.length ∧ walkR nr a b m order place = walkZ nr a b c) 7 ?_ ?_
    · exact ⟨rfl, [c], 0, rfl, ⟨by simp, by simpa using hc⟩, rfl, by simp, rfl⟩
    · rintro m Mu' ρ' ⟨rfl, order, place, rfl, P, hm, hpl, hw⟩
      have hl := P.len
      refine ⟨decide ((place : Int) < (order.length : Nat)), tst_cmp (by (walk_at "mnm")) (ev_call (by (walk_at "mnm")) (by (walk_at "mcal")) (args_cons (by (walk_at "mnm")) args_nil) (cd_lenI (by omega))) op_lt, fun t => ?_, fun t => ?_⟩
      · have t := of_decide_eq_true t
        have hlt : place < order.length := by omega
        obtain ⟨m, rfl⟩ : ∃ m', m = m' + 1 := ⟨m - 1, by omega⟩
        rw [walkR, if_pos hlt] at hw
        have hx : 0 ≤ order.getD place 0 ∧ order.getD place 0 < 6 := by
          rw [List.getD_eq_getElem?_getD, List.getElem?_eq_getElem hlt]
          exact P.rg _ (List.getElem_mem _)
        have nl := nb_len N (order.getD place 0)
        have nd : (newsZ nr order place).length ≤ 6 := Nat.le_trans (List.length_filter_le _ _) nl
        -- rows
        refine ex_old (asg_comp (n := (nb nr (order.getD place 0)).length) (bs := fun i => [("other", .int ((nb nr (order.getD place 0)).getD i 0))]) (p := fun i => !decide ((nb nr (order.getD place 0)).getD i 0 ∈ order)) (f := fun i => rowOf nr ((nb nr (order.getD place 0)).getD i 0))
          ?it (by (walk_at "mcok")) (by (walk_at "mhk")) (by omega) (fun i hi C => tsts_one ?ts) ?el (by (walk_at "mu")) (by (walk_at "mu"))) ?_
        case it => exact itr_ints (ev_near (x := order.getD place 0) N.len (by (walk_at "mnm")) (ev_itemI (x := place) (ns := order) (by (walk_at "mnm")) .fro (by (walk_at "mnm")) (by omega) (by omega) (by omega)) hx.1 hx.2)
        case ts => exact tst_notin (by (walk_at "mnm")) (by (walk_at "mnm")) .fro
        case el =>
          intro i hi _ C
          have hy := N.rg _ _ (getD_mem hi)
          exact ev_tuple (args_cons (by (walk_at "mnm")) (args_cons (by (walk_at "mev")) (args_cons (ev_call (by (walk_at "mnm")) (by (walk_at "mcal")) (args_cons (ev_near N.len (by (walk_at "mnm")) (by (walk_at "mnm")) hy.1 hy.2) args_nil) (cd_lenI (by have := nb_len N ((nb nr (order.getD place 0)).getD i 0); omega))) args_nil))) (by simp)
        rw [outOf_all (fun y => !decide (y ∈ order)) (rowOf nr) 0]
        rw [show (nb nr (order.getD place 0)).filter (fun y => !decide (y ∈ order)) = newsZ nr order place from rfl]
        have hn6 : ∀ y ∈ newsZ nr order place, 0 ≤ y ∧ y < 6 := fun y m => N.rg _ y (newsZ_mem.mp m).1
        rw [stepZ] at hw
        have sp := step_pts N ha hb (place := place) P
        rw [stepZ] at sp
        have bl : (blockK (keyZ nr a b) (newsZ nr order place)).length = (newsZ nr order place).length := blockF_len _ _
        generalize newsZ nr order place = news at hw sp nd hn6 bl ⊢
        refine ex_can [("near", nearD nr), ("judge", jud w a b), ("order", .ints order), ("place", .int place), ("rows", .list (news.map (rowOf nr)))] (by (walk_at "mcan")) ?_
        refine ex_new (asg_new (new_repeat (d := .int 0) (n := (news.length : Nat)) ?l1 ?l2 (by omega) (by omega)) (by (walk_at "mu"))) fun D => ?_
        case l1 => exact ev_list (ds := [.int 0]) (args_cons (by (walk_at "mev")) args_nil) (by simp)
        case l2 => exact ev_call (by (walk_at "mnm")) (by (walk_at "mcal")) (args_cons (by (walk_at "mnm")) args_nil) (cd_lenM (f := rowOf nr) (by omega))
        rw [show (PD.list (List.replicate ((news.length : Nat) : Int).toNat (PD.int 0))) = .ints (blockF (keyZ nr a b) news (news.take 0)) by simp [blockF]]
        refine ex_can [("near", nearD nr), ("judge", jud w a b), ("order", .ints order), ("place", .int place), ("rows", .list (news.map (rowOf nr))), ("block", .raw (.ref D))] (by (walk_at "mcan")) ?_
        refine ex_for (J := fun i Mu' ρ' => Mu' = [(D, .ints (blockF (keyZ nr a b) news (news.take i)))] ∧ ρ' = rL [("near", nearD nr), ("judge", jud w a b), ("order", .ints order), ("place", .int place), ("rows", .list (news.map (rowOf nr))), ("block", .raw (.ref D))]) (itr_map (l := news) (f := rowOf nr) 0 (by (walk_at "mnm"))) (by (walk_at "mhk")) ⟨rfl, rfl⟩ ?_ ?_
        · rintro i Mu' ρ' hi ⟨rfl, rfl⟩
          have hx6 := hn6 _ (getD_mem hi)
          have hxm := getD_mem hi
          have tk : news.take (i + 1) = news.take i ++ [news.getD i 0] := take_snoc hi 0
          generalize news.getD i 0 = x at hx6 hxm tk ⊢
          refine ex_can [("near", nearD nr), ("judge", jud w a b), ("order", .ints order), ("place", .int place), ("rows", .list (news.map (rowOf nr))), ("block", .raw (.ref D)), ("row", rowOf nr x)] (by (walk_at "mcan")) ?_
          have hr := rankK_lt (κ := keyZ nr a b) hxm
          refine ex_setitem (i := 0) (ds := (blockF (keyZ nr a b) news (news.take i)).map .int) (d := .int x) (j := (rankK (keyZ nr a b) news x : Nat)) rfl ?sb (by (walk_at "mnm")) ?sc (by omega) (by rw [List.length_map, blockF_len]; omega) (by rw [List.length_map, blockF_len]; omega) ?_
          case sb => exact ev_itemT (ds := [.int x, .int (5 - x), .int (lenZ nr x)]) (x := 0) (by (walk_at "mnm")) (by (walk_at "mev")) (by decide) rfl (by decide)
          case sc =>
            have c := cd_lenM (w := w) (k := k + 1) (l := news.filter fun y => decide (keyZ nr a b y < keyZ nr a b x)) (f := rowOf nr) (Nat.le_trans (List.length_filter_le _ _) (by omega))
            rw [← outOf_all _ _ 0] at c
            refine ev_call (by (walk_at "mnm")) (by (walk_at "mcal")) (args_cons (EvNew.ev (new_comp (n := news.length) (bs := fun i => [("one", rowOf nr (news.getD i 0))]) ?it (by (walk_at "mcok")) (by (walk_at "mhk")) (by omega) (fun i hi C => tsts_one ?ts) ?el)) args_nil) c
            case it => exact itr_map (l := news) (f := rowOf nr) 0 (by (walk_at "mnm"))
            case ts =>
              have hy6 := hn6 _ (getD_mem hi)
              exact (tst_cmp (ev_compare (a := a) (b := b) (x1 := 5 - news.getD i 0) (y1 := 5 - x) (by (walk_at "mnm")) (args_cons (by (walk_at "mnm")) (args_cons (by (walk_at "mnm")) args_nil))) (by (walk_at "mev")) op_lt).eq (cmp_key ha hb hx6 hy6)
            case el =>
              intro i hi _ C
              (walk_at "mnm")
          refine ex_can _ (by (walk_at "mcan")) (ex_nil ⟨?_, rfl⟩)
          rw [tk, blockF_snoc]
          simp [List.map_set]
        · rintro Mu' ρ' ⟨rfl, rfl⟩
          rw [List.take_of_length_le (Nat.le_refl _), show blockF (keyZ nr a b) news news = blockK (keyZ nr a b) news from rfl]
          refine ex_old (asg_new (ev_concat (by (walk_at "mnm")) .fro (by (walk_at "mnm")) (.mut (.head _)) (by rw [List.length_map, List.length_map, bl]; omega)) (by (walk_at "mu"))) ?_
          refine ex_assign (d := .int (place + 1 : Nat)) ((ev_bin (by (walk_at "mnm")) (by (walk_at "mev")) op_add).eq (by simp)) ?_ (by (walk_at "mu"))
          rw [← List.map_append]
          refine ex_shed (Mu' := []) (ρ' := wF w nr a b (order ++ blockK (keyZ nr a b) news) (place + 1)) (List.nil_sublist _) (AllR.of (by (walk_at "mcan"))) ?_
          exact ex_nil ⟨m, by omega, rfl, _, _, rfl, sp, by omega, by rw [List.length_append]; omega, hw⟩
      · have t := of_decide_eq_false t
        rw [show walkR nr a b m order place = order by cases m with | zero => rfl | succ m => rw [walkR, if_neg (by omega)]] at hw
        exact ex_return (by (walk_at "mnm")) (by rw [hw])
  all_goals rfl
end
end
section
open PySem PySem.W PyProof.Rows PySem.Calls
section
variable {w : World} {k : Nat} {env : Env} {Mu : List (Addr × PD)} {ρ : Str → Option PD} {e : Expr} {d : PD} {N : Nx} {R : PD → Prop} {rest : List Stmt}

theorem itr_enumI {x y : Str} {xp yp tp np pos : Pos} {j : Nat} {l : Expr} {nm : Str} {ns : List Int} (hf : EvD w k env Mu ρ (.Name nm np) (.raw (.type "enumerate"))) (a : EvD w k env Mu ρ l (.ints ns))
    (he2 : starEach (l :: []) env = (false, eval l env) :: starEach [] env := by rfl) :
    Itr w k env Mu ρ (.Tuple [.Name x xp, .Name y yp] j tp) (.Call (.Name nm np) [l] [] pos) ns.length (fun i => [(x, .int i), (y, .int (ns.getD i 0))]) := by
  have it := itr_enum (x := x) (y := y) (xp := xp) (yp := yp) (tp := tp) (j := j) (pos := pos) hf a he2
  rw [List.length_map] at it
  refine it.congr fun i hi => ?_
  rw [List.getD_eq_getElem?_getD, List.getElem?_map, List.getD_eq_getElem?_getD, List.getElem?_eq_getElem hi]; rfl

theorem insR_len (ns : List Int) (x : Int) : (insR ns x).length = ns.length + 1 := by
  have q := bisZ_range ns x
  unfold insR
  rw [List.length_append, List.length_cons, List.length_take, List.length_drop]; omega
/-- a place and its neighbours' places -/
noncomputable def rowF (order l : List Int) (p : Int) : List Int := l.foldl (fun r o => insR r (order.idxOf o : Nat)) [p]
theorem rowF_snoc (order l : List Int) (p o : Int) : rowF order (l ++ [o]) p = insR (rowF order l p) (order.idxOf o : Nat) := by
  unfold rowF; rw [List.foldl_append]; rfl
theorem rowF_len (order : List Int) (p : Int) (l : List Int) : (rowF order l p).length = l.length + 1 := by
  unfold rowF
  have key : ∀ (l acc : List Int), (l.foldl (fun r o => insR r (order.idxOf o : Nat)) acc).length = acc.length + l.length := fun l => by
    induction l with
    | nil => intro acc; simp
    | cons o l ih => intro acc; rw [List.foldl_cons, ih, insR_len, List.length_cons]; omega
  rw [key]; simp; omega
noncomputable def rowZ (nr : List (List Int)) (order : List Int) (i : Nat) : List Int := rowF order (nb nr (order.getD i 0)) i
noncomputable def firstsZ (nr : List (List Int)) (order : List Int) (n : Nat) : List Int := (List.range n).map fun i => (rowZ nr order i).headD 0
noncomputable def lastsZ (nr : List (List Int)) (order : List Int) (n : Nat) : List Int := (List.range n).map fun i => (rowZ nr order i).getLastD 0
/-- the order of a walk: all points, each once -/
structure OrdOk (order : List Int) : Prop where
  pts : Pts order
  all : ∀ x, 0 ≤ x → x < 6 → x ∈ order

noncomputable abbrev eF (nr : List (List Int)) (order : List Int) (D1 D2 : Addr) : List (Str × PD) := [("near", nearD nr), ("order", .ints order), ("firsts", .raw (.ref D1)), ("lasts", .raw (.ref D2))]
set_option maxRecDepth 100000 in
set_option maxHeartbeats 4000000 in
theorem ends_ok {nr : List (List Int)} {order : List Int} (N : NearOk nr) (O : OrdOk order) :
    CallD w (k + 3) (.ref 112) [nearD nr, .ints order] (.tup [.ints (firstsZ nr order order.length), .ints (lastsZ nr order order.length)]) := by
  refine call_fn (names := ["near", "order"]) (es := [nearD nr, .ints order]) (by (walk_at "mu")) ?hcd ?hb ?bd ?hkind ?hnd rfl ?hcn ?_ ?_ ?_
  case hcd => (walk_at "mu")
  case hkind => (walk_at "mu")
  case hb => exact hb_plain fun vs h => by obtain ⟨x, y, rfl⟩ := len_two h; (walk_at "mu")
  case hnd => decide
  case hcn => decide
  case bd =>
    intro L
    have hl := O.pts.len
    refine ex_pair (P := fun Mu' ds => ∃ D1 D2, Mu' = [(D2, .ints []), (D1, .ints [])] ∧ ds = [.raw (.ref D1), .raw (.ref D2)]) (argsM_new (d := .ints []) (new_list (ds := []) args_nil) fun D1 => argsM_new (d := .ints []) (new_list (ds := []) args_nil) fun D2 => argsM_nil ⟨D1, D2, rfl, rfl⟩) (by (walk_at "mu")) (by (walk_at "mu")) ?_ (by rintro Mu' ds ⟨D1, D2, rfl, rfl⟩; rfl)
    rintro Mu' p q ⟨D1, D2, rfl, e⟩
    obtain ⟨rfl, rfl⟩ : p = .raw (.ref D1) ∧ q = .raw (.ref D2) := by simpa using e
    refine ex_can (eF nr order D1 D2) (by (walk_at "mcan")) ?_
    refine ex_for (J := fun i Mu' ρ' => Mu' = [(D2, .ints (lastsZ nr order i)), (D1, .ints (firstsZ nr order i))] ∧ ρ' = rL (eF nr order D1 D2)) (itr_enumI (ns := order) (by (walk_at "mnm")) (by (walk_at "mnm"))) (by (walk_at "mhk")) ⟨rfl, rfl⟩ ?_ ?_
    · rintro i Mu' ρ' hi ⟨rfl, rfl⟩
      have hx := O.pts.rg _ (getD_mem hi)
      refine ex_can (("place", .int i) :: ("point", .int (order.getD i 0)) :: eF nr order D1 D2) (by (walk_at "mcan")) ?_
      refine ex_new (asg_new (new_list (ds := [.int i]) (args_cons (by (walk_at "mnm")) args_nil) (by simp)) (by (walk_at "mu"))) fun D3 => ?_
      refine ex_can (("point", .int (order.getD i 0)) :: ("row", .raw (.ref D3)) :: eF nr order D1 D2) (by (walk_at "mcan")) ?_
      refine ex_for (n := (nb nr (order.getD i 0)).length) (bs := fun j => [("other", .int ((nb nr (order.getD i 0)).getD j 0))]) (J := fun j Mu' ρ' => Mu' = [(D3, .ints (rowF order ((nb nr (order.getD i 0)).take j) i)), (D2, .ints (lastsZ nr order i)), (D1, .ints (firstsZ nr order i))] ∧ ρ' = rL (("point", .int (order.getD i 0)) :: ("row", .raw (.ref D3)) :: eF nr order D1 D2))
        ?it (by (walk_at "mhk")) ⟨rfl, rfl⟩ ?_ ?_
      case it => exact itr_ints (ev_near N.len (by (walk_at "mnm")) (by (walk_at "mnm")) hx.1 hx.2)
      · rintro j Mu' ρ' hj ⟨rfl, rfl⟩
        have hy := N.rg _ _ (getD_mem hj)
        have tk := take_snoc hj 0
        have hle : ((nb nr (order.getD i 0)).take j).length ≤ 6 := Nat.le_trans (List.length_take_le _ _) (by have := nb_len N (order.getD i 0); omega)
        refine ex_insort (i := 0) (D := D3) (ns := rowF order ((nb nr (order.getD i 0)).take j) i) (n := (order.idxOf ((nb nr (order.getD i 0)).getD j 0) : Nat)) (by (walk_at "mnm")) rfl (by (walk_at "mnm")) ?sb (by rw [rowF_len]; omega) ?_
        case sb => exact ev_index (by (walk_at "mnm")) .fro (by (walk_at "mnm")) (O.all _ hy.1 hy.2) (by omega)
        refine ex_can _ (by (walk_at "mcan")) (ex_nil ⟨?_, rfl⟩)
        rw [tk, rowF_snoc]; rfl
      · rintro Mu' ρ' ⟨rfl, rfl⟩
        rw [List.take_of_length_le (Nat.le_refl _), show rowF order (nb nr (order.getD i 0)) i = rowZ nr order i from rfl]
        have hrl : (rowZ nr order i).length = (nb nr (order.getD i 0)).length + 1 := rowF_len _ _ _
        have hn6 := nb_len N (order.getD i 0)
        have hi6 : i < 6 := by omega
        refine ex_append (i := 2) (D := D1) (ds := (firstsZ nr order i).map .int) (d := .int ((rowZ nr order i).headD 0)) rfl (by (walk_at "mnm")) ?sb (by simp [firstsZ]; omega) ?_
        case sb =>
          refine (ev_itemI (x := 0) (ns := rowZ nr order i) (by (walk_at "mnm")) (.mut (.head _)) (by (walk_at "mev")) (by decide) (by simp; omega) (by decide)).eq ?_
          cases rowZ nr order i <;> rfl
        refine ex_append (i := 1) (D := D2) (ds := (lastsZ nr order i).map .int) (d := .int ((rowZ nr order i).getLastD 0)) rfl (by (walk_at "mnm")) ?sc (by simp [lastsZ]; omega) ?_
        case sc =>
          refine ev_last (by (walk_at "mnm")) (.mut (.head _)) (by (walk_at "mev")) ?_ (by rw [List.length_map]; omega)
          rw [List.getLast?_map]
          cases h : rowZ nr order i with
          | nil => rw [h] at hrl; simp at hrl
          | cons a l => rw [List.getLastD_cons, List.getLast?_cons]; simp [List.getLastD_eq_getLast?]
        refine ex_shed (Mu' := [(D2, .ints (lastsZ nr order (i + 1))), (D1, .ints (firstsZ nr order (i + 1)))]) (ρ' := rL (eF nr order D1 D2)) ?_ (AllR.of (by (walk_at "mcan"))) (ex_nil ⟨rfl, rfl⟩)
        rw [lastsZ, firstsZ, lastsZ, firstsZ, List.range_succ, List.map_append, List.map_append, PD.ints, PD.ints, List.map_append, List.map_append]
        exact List.sublist_cons_self ..
    · rintro Mu' ρ' ⟨rfl, rfl⟩
      exact ex_returnM (ev_tuple (ds := [.raw (.ref D1), .raw (.ref D2)]) (args_cons (by (walk_at "mnm")) (args_cons (by (walk_at "mnm")) args_nil)) (by simp)) (.tup (.cons (.mut (.tail _ (.head _))) (.cons (.mut (.head _)) .nil))) rfl
  all_goals rfl
end
end
section
open PySem PySem.W PyProof.Rows PySem.Calls
section
variable {w : World} {k : Nat} {env : Env} {Mu : List (Addr × PD)} {ρ : Str → Option PD} {e : Expr} {d : PD} {N : Nx} {R : PD → Prop} {rest : List Stmt}

theorem outOf_none {p : Nat → Bool} {f : Nat → PD} : ∀ n, (∀ i, i < n → p i = false) → outOf p f n = []
  | 0, _ => rfl
  | n + 1, h => by rw [outOf, outOf_none n fun i hi => h i (by omega), h n (by omega)]; rfl

/-- what _law_inside asks of a pair -/
noncomputable def PairIn (order lasts : List Int) (p : Int) : Prop := p / 6 ∈ order ∧ p % 6 ∈ order ∧
  ((sortZ [(order.idxOf (p / 6) : Nat), (order.idxOf (p % 6) : Nat)]).getD 1 0 ≤ lasts.getD ((sortZ [((order.idxOf (p / 6) : Nat) : Int), (order.idxOf (p % 6) : Nat)]).getD 0 0).toNat 0)
theorem sort_two (a b : Int) : sortZ [a, b] = if b < a then [b, a] else [a, b] := by
  show insZ a (insZ b []) = _
  simp [insZ]
set_option maxRecDepth 100000 in
set_option maxHeartbeats 4000000 in
theorem inside_ok {l : List (Int × Int)} {order lasts ends : List Int} (O : OrdOk order) (hl : lasts.length = 6) (he : ends.length = 6) (hle : ∀ i : Nat, i < 6 → lasts.getD i 0 ≤ ends.getD i 0) (hp : ∀ p ∈ l, PairIn order lasts p.1) :
    CallD w (k + 2) (.ref 134) [.dict l, .ints order, .ints lasts, .ints ends] (.bool true) := by
  refine call_fn (names := ["pairs", "order", "lasts", "ends"]) (es := [.dict l, .ints order, .ints lasts, .ints ends]) (by (walk_at "mu")) ?hcd ?hb ?bd ?hkind ?hnd rfl ?hcn ?_ ?_ ?_
  case hcd => (walk_at "mu")
  case hkind => (walk_at "mu")
  case hb => exact hb_plain fun vs h => by obtain ⟨x, y, z, u, rfl⟩ := len_four h; (walk_at "mu")
  case hnd => decide
  case hcn => decide
  case bd =>
    intro L
    have ho := O.pts.len
    refine ex_for (J := fun i Mu' ρ' => Mu' = [] ∧ ρ' = rL [("pairs", .dict l), ("order", .ints order), ("lasts", .ints lasts), ("ends", .ints ends)]) (itr_keys (l := l) (by (walk_at "mnm"))) (by (walk_at "mhk")) ⟨rfl, rfl⟩ ?_ ?_
    · rintro i Mu' ρ' hi ⟨rfl, rfl⟩
      have hm : l.getD i (0, 0) ∈ l := by
        rw [List.getD_eq_getElem?_getD, List.getElem?_eq_getElem hi]; exact List.getElem_mem _
      obtain ⟨q1, q2, q3⟩ := hp _ hm
      generalize (l.getD i (0, 0)).1 = p at q1 q2 q3 ⊢
      have i1 := List.idxOf_lt_length_iff.mpr q1
      have i2 := List.idxOf_lt_length_iff.mpr q2
      refine ex_assign (d := .ints (sortZ [(order.idxOf (p / 6) : Nat), (order.idxOf (p % 6) : Nat)])) ?_ ?_ (by (walk_at "mu"))
      · refine ev_call (by (walk_at "mnm")) (by (walk_at "mcal")) (args_cons (d := .ints [((order.idxOf (p / 6) : Nat) : Int), (order.idxOf (p % 6) : Nat)]) (ev_list (ds := [.int (order.idxOf (p / 6) : Nat), .int (order.idxOf (p % 6) : Nat)]) (args_cons ?sb (args_cons ?sc args_nil)) (by simp)) args_nil) (cd_sorted (by simp))
        case sb => exact ev_index (by (walk_at "mnm")) .fro (by (walk_at "mev")) q1 (by omega)
        case sc => exact ev_index (by (walk_at "mnm")) .fro (by (walk_at "mev")) q2 (by omega)
      have hs : ∃ u v : Nat, sortZ [(order.idxOf (p / 6) : Nat), (order.idxOf (p % 6) : Nat)] = [(u : Int), (v : Int)] ∧ u < 6 ∧ v < 6 := by
        rw [sort_two]; split
        · exact ⟨_, _, rfl, by omega, by omega⟩
        · exact ⟨_, _, rfl, by omega, by omega⟩
      obtain ⟨u, v, hs, hu, hv⟩ := hs
      rw [hs] at q3 ⊢
      refine ex_ifF ((tst_cmp (ev_itemI (x := 1) (ns := [(u : Int), (v : Int)]) (by (walk_at "mnm")) .fro (by (walk_at "mev")) (by decide) (by simp) (by decide)) (ev_itemI (x := u) (ns := lasts) (by (walk_at "mnm")) .fro ?sb (by omega) (by omega) (by omega)) op_gt).eq ?_) (ex_can _ (by (walk_at "mcan")) (ex_nil ⟨rfl, rfl⟩))
      case sb => exact ev_itemI (x := 0) (ns := [(u : Int), (v : Int)]) (by (walk_at "mnm")) .fro (by (walk_at "mev")) (by decide) (by simp) (by decide)
      have q3 : (v : Int) ≤ lasts.getD u 0 := q3
      refine decide_eq_false ?_
      show ¬ ((v : Int) > lasts.getD ((u : Nat) : Int).toNat 0)
      rw [Int.toNat_natCast]; omega
    · rintro Mu' ρ' ⟨rfl, rfl⟩
      have e0 : PD.list (outOf (fun i => decide (lasts.getD i 0 > ends.getD i 0)) (fun i => PD.int i) 6) = .ints [] := by
        rw [outOf_none 6 fun i hi => decide_eq_false (by have := hle i hi; omega)]; rfl
      refine ex_return (ev_cmp ((EvNew.ev (new_comp (n := 6) (bs := fun i => [("place", .int i)]) (p := fun i => decide (lasts.getD i 0 > ends.getD i 0)) (f := fun i => .int i) ?it (by (walk_at "mcok")) (by (walk_at "mhk")) (by decide) (fun i hi C => tsts_one ?ts) ?el)).eq e0) (ev_list args_nil (by simp)) (op_eqL (ns := []) (ms := [])) ) rfl
      case it => exact itr_range1 (b := 6) (by (walk_at "mnm")) (by (walk_at "mev")) (by decide) (by decide)
      case ts =>
        have hi : i < 6 := hi
        exact (tst_cmp (ev_itemI (x := i) (ns := lasts) (by (walk_at "mnm")) .fro (by (walk_at "mnm")) (by omega) (by omega) (by omega)) (ev_itemI (x := i) (ns := ends) (by (walk_at "mnm")) .fro (by (walk_at "mnm")) (by omega) (by omega) (by omega)) op_gt).eq (by rw [Int.toNat_natCast])
      case el =>
        intro i hi _ C
        (walk_at "mnm")
  all_goals rfl
end
end
section
theorem insR_perm (ns : List Int) (x : Int) : (insR ns x).Perm (x :: ns) := by
  unfold insR
  refine List.perm_middle.trans (.cons x ?_)
  rw [List.take_append_drop]
theorem mem_insR {ns : List Int} {x y : Int} : y ∈ insR ns x ↔ y = x ∨ y ∈ ns := by
  rw [(insR_perm ns x).mem_iff, List.mem_cons]
theorem nodup_insR {ns : List Int} {x : Int} (h : ns.Nodup) (n : x ∉ ns) : (insR ns x).Nodup := (insR_perm ns x).nodup_iff.mpr (List.nodup_cons.mpr ⟨n, h⟩)

/-- a tie -/
noncomputable def tieStep (rows : List (List Int)) (p o : Int) : List (List Int) :=
  if o ≠ p ∧ o ∉ nb rows p then ((rows.set p.toNat (insR (nb rows p) o)).set o.toNat (insR (nb (rows.set p.toNat (insR (nb rows p) o)) o) p)) else rows
structure TI (rows : List (List Int)) : Prop where
  len : rows.length = 6
  nd : ∀ x, (nb rows x).Nodup
  rg : ∀ x, ∀ y ∈ nb rows x, 0 ≤ y ∧ y < 6
  ne : ∀ x, 0 ≤ x → x ∉ nb rows x
  sym : ∀ x y, 0 ≤ x → 0 ≤ y → y ∈ nb rows x → x ∈ nb rows y
theorem nb_set {rows : List (List Int)} {i : Nat} {r : List Int} {x : Int} (hi : i < rows.length) : nb (rows.set i r) x = if i = x.toNat then r else nb rows x := by
  unfold nb
  rw [List.getD_eq_getElem?_getD, List.getD_eq_getElem?_getD, List.getElem?_set]
  by_cases h : i = x.toNat
  · rw [if_pos h, if_pos h, if_pos hi]; rfl
  · rw [if_neg h, if_neg h]
theorem tieStep_len (rows : List (List Int)) (p o : Int) : (tieStep rows p o).length = rows.length := by
  unfold tieStep; split <;> simp
theorem nb_tie {rows : List (List Int)} {p o : Int} (hl : rows.length = 6) (hp : 0 ≤ p ∧ p < 6) (ho : 0 ≤ o ∧ o < 6) (c : o ≠ p ∧ o ∉ nb rows p) {x : Int} (hx : 0 ≤ x) :
    nb (tieStep rows p o) x = if x = p then insR (nb rows p) o else if x = o then insR (nb rows o) p else nb rows x := by
  unfold tieStep
  rw [if_pos c, nb_set (by rw [List.length_set]; omega), nb_set (by omega), nb_set (by omega)]
  have a : (o.toNat = x.toNat) ↔ x = o := by omega
  have b : (p.toNat = x.toNat) ↔ x = p := by omega
  have d : ¬ (p.toNat = o.toNat) := by omega
  simp only [a, b, d, if_false]
  by_cases h : x = p
  · have h' : ¬ x = o := fun e => c.1 (e ▸ h)
    rw [if_neg h', if_pos h]
    simp [h]
  · rw [if_neg h]
    by_cases h' : x = o
    · rw [if_pos h', if_neg h]
    · rw [if_neg h', if_neg h]
theorem mem_tie {rows : List (List Int)} {p o : Int} (T : TI rows) (hp : 0 ≤ p ∧ p < 6) (ho : 0 ≤ o ∧ o < 6) (hne : o ≠ p) {x y : Int} (hx : 0 ≤ x) :
    y ∈ nb (tieStep rows p o) x ↔ y ∈ nb rows x ∨ (x = p ∧ y = o) ∨ (x = o ∧ y = p) := by
  by_cases c : o ≠ p ∧ o ∉ nb rows p
  · rw [nb_tie T.len hp ho c hx]
    by_cases h : x = p
    · rw [if_pos h, mem_insR, h]
      have : ¬ p = o := fun e => hne e.symm
      simp [this, or_comm]
    · rw [if_neg h]
      by_cases h' : x = o
      · rw [if_pos h', mem_insR, h']; simp [hne, or_comm]
      · rw [if_neg h']; simp [h, h']
  · unfold tieStep; rw [if_neg c]
    have c' : o ∈ nb rows p := by
      cases Decidable.em (o ∈ nb rows p) with
      | inl h => exact h
      | inr h => exact absurd ⟨hne, h⟩ c
    constructor
    · exact .inl
    · rintro (h | ⟨rfl, rfl⟩ | ⟨rfl, rfl⟩)
      · exact h
      · exact c'
      · exact T.sym _ _ hp.1 ho.1 c'
theorem TI.step {rows : List (List Int)} {p o : Int} (T : TI rows) (hp : 0 ≤ p ∧ p < 6) (ho : 0 ≤ o ∧ o < 6) : TI (tieStep rows p o) := by
  by_cases c : o ≠ p ∧ o ∉ nb rows p
  · have hx : ∀ x : Int, nb (tieStep rows p o) x = nb (tieStep rows p o) (x.toNat : Int) := fun x => by unfold nb; rw [Int.toNat_natCast]
    have m := fun {x y : Int} => mem_tie (x := x) (y := y) T hp ho c.1
    refine ⟨by rw [tieStep_len, T.len], fun x => ?_, fun x y h => ?_, fun x h0 h => ?_, fun x y h0 h1 h => ?_⟩
    · rw [hx, nb_tie T.len hp ho c (by omega)]
      split
      · exact nodup_insR (T.nd p) c.2
      · split
        · exact nodup_insR (T.nd o) fun h => c.2 (T.sym o p ho.1 hp.1 h)
        · exact T.nd _
    · rw [hx] at h
      rcases (m (by omega)).mp h with h | ⟨_, rfl⟩ | ⟨_, rfl⟩
      · exact T.rg _ y h
      · exact ho
      · exact hp
    · rcases (m h0).mp h with h | ⟨e1, e2⟩ | ⟨e1, e2⟩
      · exact T.ne x h0 h
      · exact c.1 (e2 ▸ e1)
      · exact c.1 (e1 ▸ e2)
    · rcases (m h0).mp h with h | ⟨e1, e2⟩ | ⟨e1, e2⟩
      · exact (m h1).mpr (.inl (T.sym x y h0 h1 h))
      · exact (m h1).mpr (.inr (.inr ⟨e2, e1⟩))
      · exact (m h1).mpr (.inr (.inl ⟨e2, e1⟩))
  · unfold tieStep; rw [if_neg c]; exact T
/-- both ties of a point -/
noncomputable def tiePoint (numbers : List Int) (rows : List (List Int)) (p : Nat) : List (List Int) :=
  tieStep (tieStep rows p (numbers.getD (p - 1) 0 % p)) p (numbers.getD (p - 1) 0 / p % 6)
noncomputable def tiesAt (numbers : List Int) : Nat → List (List Int)
  | 0 => List.replicate 6 []
  | i + 1 => tiePoint numbers (tiesAt numbers i) (i + 1)
theorem TI.init : TI (List.replicate 6 []) := by
  have e : ∀ x : Int, nb (List.replicate 6 []) x = [] := fun x => by
    unfold nb
    rw [List.getD_eq_getElem?_getD, List.getElem?_replicate]; split <;> rfl
  exact ⟨rfl, fun x => by rw [e]; exact List.nodup_nil, fun x y h => (by rw [e] at h; cases h), fun x _ h => (by rw [e] at h; cases h), fun x y _ _ h => (by rw [e] at h; cases h)⟩
theorem num_rg (n : Int) {p : Nat} (hp : 1 ≤ p ∧ p < 6) : (0 ≤ n % p ∧ n % p < 6) ∧ (0 ≤ n / p % 6 ∧ n / p % 6 < 6) := by
  have h1 := Int.emod_nonneg n (show (p : Int) ≠ 0 by omega)
  have h2 := Int.emod_lt_of_pos n (show (0 : Int) < p by omega)
  omega
theorem ties_ti (numbers : List Int) : ∀ i, i < 6 → TI (tiesAt numbers i)
  | 0, _ => TI.init
  | i + 1, h => by
    have T := ties_ti numbers i (by omega)
    have q := num_rg (numbers.getD (i + 1 - 1) 0) (p := i + 1) (by omega)
    exact (T.step (by omega) q.1).step (by omega) q.2
theorem tie_keeps {rows : List (List Int)} {p o : Int} (T : TI rows) (hp : 0 ≤ p ∧ p < 6) (ho : 0 ≤ o ∧ o < 6) {x y : Int} (hx : 0 ≤ x) (h : y ∈ nb rows x) : y ∈ nb (tieStep rows p o) x := by
  by_cases c : o = p
  · unfold tieStep; rw [if_neg fun q => q.1 c]; exact h
  · exact (mem_tie T hp ho c hx).mpr (.inl h)
theorem ties_con (numbers : List Int) : ∀ i : Nat, i < 6 → ∀ x : Int, 1 ≤ x → x ≤ (i : Int) → ∃ y, 0 ≤ y ∧ y < x ∧ y ∈ nb (tiesAt numbers i) x
  | 0, _, x, h1, h2 => by omega
  | i + 1, h, x, h1, h2 => by
    have T := ties_ti numbers i (by omega)
    have q := num_rg (numbers.getD (i + 1 - 1) 0) (p := i + 1) (by omega)
    have T' := T.step (p := (i + 1 : Nat)) (by omega) q.1
    by_cases e : x = (i + 1 : Nat)
    · subst e
      have h3 := Int.emod_lt_of_pos (numbers.getD (i + 1 - 1) 0) (show (0 : Int) < (i + 1 : Nat) by omega)
      refine ⟨_, q.1.1, h3, tie_keeps T' (by omega) q.2 (by omega) ?_⟩
      exact (mem_tie T (by omega) q.1 (by omega) (by omega)).mpr (.inr (.inl ⟨rfl, rfl⟩))
    · obtain ⟨y, a, b, c⟩ := ties_con numbers i (by omega) x h1 (by omega)
      exact ⟨y, a, b, tie_keeps T' (by omega) q.2 (by omega) (tie_keeps T (by omega) q.1 (by omega) c)⟩
noncomputable def tiesZ (numbers : List Int) : List (List Int) := tiesAt numbers 5
theorem ties_near (numbers : List Int) : NearOk (tiesZ numbers) :=
  have T := ties_ti numbers 5 (by omega)
  ⟨T.len, T.nd, T.rg, T.ne, T.sym, fun x h1 h2 => ties_con numbers 5 (by omega) x h1 (by omega)⟩

end
section
open PySem PySem.W PyProof.Rows PySem.Calls
section
variable {w : World} {k : Nat} {env : Env} {H : List Addr} {Mu : List (Addr × PD)} {ρ : Str → Option PD} {h : Heap} {e : Expr} {d : PD} {N : Nx} {R : PD → Prop} {rest : List Stmt}
theorem own_perm {Mu' : List (Addr × PD)} (p : Mu'.Perm Mu) : ∀ q, q ∈ own env Mu' ↔ q ∈ own env Mu := fun q => by
  simp only [own, List.mem_cons, List.mem_append, (p.map (·.1)).mem_iff]
theorem StE.perm {Mu' : List (Addr × PD)} (S : StE w env H Mu ρ h) (p : Mu'.Perm Mu) : StE w env H Mu' ρ h := by
  have hm : ∀ q ∈ hid env Mu' H, q ∈ hid env Mu H := fun q m => by
    rcases List.mem_append.mp m with m | m
    · exact List.mem_append_left _ ((own_perm p q).mp m)
    · exact List.mem_append_right _ m
  have z : Sub (Fz (hid env Mu H) h) (Fz (hid env Mu' H) h) := Fz_less hm
  exact { gd := S.gd.sub z
          ns := let ⟨m, a, b⟩ := S.ns; ⟨m, a, fun x d e k => let ⟨v, c, r⟩ := b x d e k; ⟨v, c, r.sub z⟩⟩
          cl := fun x d e k => let ⟨c, v, a, b, r⟩ := S.cl x d e k; ⟨c, v, a, b, r.sub z⟩
          ce := S.ce, cd := S.cd
          mu := fun q hq => (S.mu q (p.mem_iff.mp hq)).mono hm
          md := ((p.map (·.1)).nodup_iff).mpr S.md
          lm := fun q => S.lm ((p.map (·.1)).mem_iff.mp q)
          hl := S.hl, eg := S.eg, eb := S.eb, ek := S.ek }
theorem ex_perm {Mu' : List (Addr × PD)} (p : Mu'.Perm Mu) {ss : List Stmt} (b : Ex w k env Mu' ρ ss N R) : Ex w k env Mu ρ ss N R := fun A H h0 s hA S B =>
  b A H h0 s hA (S.perm p) ⟨B.sb, fun q m => B.no q ((own_perm p q).mp m)⟩

/-- rows that may change, at addresses -/
noncomputable def muR (Ds : List Addr) (rows : List (List Int)) : List (Addr × PD) := (Ds.zip rows).map fun q => (q.1, PD.ints q.2)
theorem muR_get {Ds : List Addr} {rows : List (List Int)} (hd : Ds.length = 6) (hr : rows.length = 6) {i : Nat} (hi : i < 6) : (muR Ds rows)[i]? = some (Ds.getD i 0, .ints (rows.getD i [])) := by
  have h1 : Ds[i]? = some (Ds.getD i 0) := by rw [List.getD_eq_getElem?_getD, List.getElem?_eq_getElem (by omega)]; rfl
  have h2 : rows[i]? = some (rows.getD i []) := by rw [List.getD_eq_getElem?_getD, List.getElem?_eq_getElem (by omega)]; rfl
  unfold muR
  rw [List.getElem?_map, List.getElem?_zip_eq_some (z := (Ds.getD i 0, rows.getD i [])) |>.mpr ⟨h1, h2⟩]
  rfl
theorem muR_nil : ∀ Ds : List Addr, muR Ds (List.replicate Ds.length []) = Ds.map fun D => (D, PD.ints [])
  | [] => rfl
  | D :: Ds => by
    have ih := muR_nil Ds
    unfold muR at ih ⊢
    rw [List.length_cons, List.replicate_succ, List.zip_cons_cons, List.map_cons, ih]; rfl
theorem argsM_empties {pos : Pos} : ∀ (ps : List Pos) {Mu : List (Addr × PD)} {P : List (Addr × PD) → List PD → Prop}, (∀ Ds : List Addr, Ds.length = ps.length → P ((Ds.map fun D => (D, PD.ints [])).reverse ++ Mu) (Ds.map fun D => .raw (.ref D))) → ArgsM w k env Mu ρ pos (ps.map fun p => .List [] p) P
  | [], _, _, h => argsM_nil (h [] rfl)
  | p :: ps, _, _, h => argsM_new (d := .ints []) (new_list (ds := []) args_nil) fun D => argsM_empties ps fun Ds hl => by
    have := h (D :: Ds) (by simp [hl])
    simpa using this
theorem muR_set {Ds : List Addr} {rows : List (List Int)} (hd : Ds.length = 6) (hr : rows.length = 6) {i : Nat} (hi : i < 6) (r : List Int) : (muR Ds rows).set i (Ds.getD i 0, .ints r) = muR Ds (rows.set i r) := by
  have hl : (muR Ds rows).length = 6 := by simp [muR, hd, hr]
  refine List.ext_getElem? fun j => ?_
  rcases Nat.lt_or_ge j 6 with hj | hj
  · rw [muR_get hd (by simp [hr]) hj, List.getElem?_set, muR_get hd hr hj]
    by_cases e : i = j
    · subst e
      simp [hl, hj, List.getD_eq_getElem?_getD, hr]
    · simp [e, List.getD_eq_getElem?_getD, List.getElem?_set]
  · rw [List.getElem?_eq_none (by simp [hl]; omega), List.getElem?_eq_none (by simp [muR, hd, hr]; omega)]
noncomputable abbrev addrs (Ds : List Addr) : PD := .list (Ds.map fun D => .raw (.ref D))
theorem muR_mem {Ds : List Addr} {rows : List (List Int)} (hd : Ds.length = 6) (hr : rows.length = 6) {i : Nat} (hi : i < 6) : (Ds.getD i 0, PD.ints (rows.getD i [])) ∈ muR Ds rows := List.mem_of_getElem? (muR_get hd hr hi)
theorem muR_melt : ∀ (Ds : List Addr) (rows : List (List Int)) (Mu : List (Addr × PD)), Ds.length = rows.length → (∀ q ∈ muR Ds rows, q ∈ Mu) → MeltL Mu (Ds.map fun D => .raw (.ref D)) (rows.map PD.ints)
  | [], [], _, _, _ => .nil
  | [], _ :: _, _, h, _ => by simp at h
  | _ :: _, [], _, h, _ => by simp at h
  | D :: Ds, r :: rows, Mu, h, f => .cons (.mut (f (D, .ints r) (.head _))) (muR_melt Ds rows Mu (by simpa using h) fun q m => f q (.tail _ m))

theorem argsM_empties' {pos : Pos} {es : List Expr} {ps : List Pos} {P : List (Addr × PD) → List PD → Prop} (hes : es = ps.map fun p => .List [] p) (h : ∀ Ds : List Addr, Ds.length = ps.length → P ((Ds.map fun D => (D, PD.ints [])).reverse ++ Mu) (Ds.map fun D => .raw (.ref D))) : ArgsM w k env Mu ρ pos es P := by
  subst hes
  exact @argsM_empties w k env ρ pos ps Mu P h
theorem ex_assignL' {x : Str} {st : Stmt} {xp lp pos : Pos} {es : List Expr} {P : List (Addr × PD) → List PD → Prop} (hst : st = .Assign [.Name x xp] (.List es lp) pos) (a : ArgsM w k env Mu ρ lp es P) (hx : okN env x) (hP : ∀ Mu' ds, P Mu' ds → ds.length ≤ 1000)
    (b : ∀ Mu' ds, P Mu' ds → Ex w k env Mu' (upd ρ x (.list ds)) rest N R)
    (hs : swapsWith (.List es lp) (some (.Name x xp)) pos.line env = pure false) : Ex w k env Mu ρ (st :: rest) N R :=
  @Eq.rec Stmt _ (fun st _ => Ex w k env Mu ρ (st :: rest) N R) (@ex_assignL w k env Mu ρ N R rest x xp lp pos es P a hx hP b hs) st hst.symm
theorem itr_tints {x : Str} {xp : Pos} {iter : Expr} {l : List Int} (a : EvD w k env Mu ρ iter (.tints l)) : Itr w k env Mu ρ (.Name x xp) iter l.length (fun i => [(x, .int (l.getD i 0))]) := by
  have it := itr_tuple (x := x) (xp := xp) a
  rw [List.length_map] at it
  refine it.congr fun i hi => ?_
  rw [List.getD_eq_getElem?_getD, List.getElem?_map, List.getD_eq_getElem?_getD, List.getElem?_eq_getElem hi]; rfl
theorem ev_row {l i : Expr} {pos : Pos} {Ds : List Addr} {x : Int} (hD : Ds.length = 6) (a : EvD w k env Mu ρ l (addrs Ds)) (b : EvD w k env Mu ρ i (.int x)) (h0 : 0 ≤ x) (hx : x < 6)
    (hs : ∀ o v, subscripted i false o v = operate [o, v] (getItem o v) := by intro _ _; with_unfolding_all rfl) : EvD w k env Mu ρ (.Subscript l i pos) (.raw (.ref (Ds.getD x.toNat 0))) :=
  ev_item a .fro b h0 (map_get (f := fun D => PD.raw (.ref D)) 0 (by omega)) (by omega) hs
theorem TI.row {rows : List (List Int)} (T : TI rows) (x : Int) : (nb rows x).length ≤ 6 := Pts.len ⟨T.nd x, T.rg x⟩
noncomputable abbrev tF (numbers : List Int) (Ds : List Addr) : List (Str × PD) := [("numbers", .ints numbers), ("near", addrs Ds)]
set_option maxRecDepth 100000 in
set_option maxHeartbeats 4000000 in
theorem ties_ok {numbers : List Int} (hn : numbers.length = 5) : CallD w (k + 3) (.ref 95) [.ints numbers] (nearD (tiesZ numbers)) := by
  refine call_fn (names := ["numbers"]) (es := [.ints numbers]) (by (walk_at "mu")) ?hcd ?hb ?bd ?hkind ?hnd rfl ?hcn ?_ ?_ ?_
  case hcd => (walk_at "mu")
  case hkind => (walk_at "mu")
  case hb => exact hb_plain fun vs h => by obtain ⟨x, rfl⟩ := len_one h; (walk_at "mu")
  case hnd => decide
  case hcn => decide
  case bd =>
    intro L
    with_reducible refine ex_assignL' (P := fun Mu' ds => ∃ Ds : List Addr, Ds.length = 6 ∧ Mu' = (Ds.map fun D => (D, PD.ints [])).reverse ++ [] ∧ ds = Ds.map fun D => .raw (.ref D)) rfl ?ha ?hx ?hP ?hbb ?hs
    case ha =>
      with_reducible refine argsM_empties' (ps := [⟨74, 12, 74, 14⟩, ⟨74, 16, 74, 18⟩, ⟨74, 20, 74, 22⟩, ⟨74, 24, 74, 26⟩, ⟨74, 28, 74, 30⟩, ⟨74, 32, 74, 34⟩]) ?hes ?hfs
      case hes => rfl
      case hfs => exact fun Ds hl => ⟨Ds, hl, rfl, rfl⟩
    case hx => (walk_at "mu")
    case hP => rintro Mu' ds ⟨Ds, hl, rfl, rfl⟩; rw [List.length_map]; omega
    case hs => rfl
    rintro Mu' ds ⟨Ds, hD, rfl, rfl⟩
    rw [List.append_nil, ← muR_nil, hD]
    refine ex_perm (Mu' := muR Ds (tiesAt numbers 0)) (List.reverse_perm _).symm ?_
    refine ex_can (tF numbers Ds) (by (walk_at "mcan")) ?_
    refine ex_for (n := 5) (bs := fun i => [("point", .int (1 + i))]) (J := fun i Mu' ρ' => Mu' = muR Ds (tiesAt numbers i) ∧ ρ' = rL (tF numbers Ds)) ?it (by (walk_at "mhk")) ⟨rfl, rfl⟩ ?_ ?_
    case it => exact itr_range2 (a := 1) (b := 6) (by (walk_at "mnm")) (by (walk_at "mev")) (by (walk_at "mev")) (by decide) (by decide) (by decide) (by decide)
    · rintro i Mu' ρ' hi ⟨rfl, rfl⟩
      have hi : i < 5 := hi
      rw [show (1 + (i : Int)) = ((i + 1 : Nat) : Int) by omega]
      have T := ties_ti numbers i (by omega)
      have q := num_rg (numbers.getD (i + 1 - 1) 0) (p := i + 1) (by omega)
      refine ex_can (("point", .int (i + 1 : Nat)) :: tF numbers Ds) (by (walk_at "mcan")) ?_
      refine ex_assign (d := .int (numbers.getD (i + 1 - 1) 0)) ((ev_itemI (x := ((i + 1 : Nat) : Int) - 1) (ns := numbers) (by (walk_at "mnm")) .fro (by (walk_at "mev")) (by omega) (by omega) (by omega)).eq (by rw [show (((i + 1 : Nat) : Int) - 1).toNat = i + 1 - 1 by omega])) ?_ (by (walk_at "mu"))
      rw [show tiesAt numbers (i + 1) = tiePoint numbers (tiesAt numbers i) (i + 1) from rfl, tiePoint]
      have hp : (0 : Int) ≤ (i + 1 : Nat) ∧ ((i + 1 : Nat) : Int) < 6 := by omega
      have hp0 : (0 : Int) < (i + 1 : Nat) := by omega
      generalize ((i + 1 : Nat) : Int) = p at q hp hp0 ⊢
      generalize tiesAt numbers i = rows at T ⊢
      generalize numbers.getD (i + 1 - 1) 0 = n at q ⊢
      refine ex_can (("point", .int p) :: ("number", .int n) :: tF numbers Ds) (by (walk_at "mcan")) ?_
      refine ex_for (n := 2) (bs := fun j => [("other", .int (([n % p, n / p % 6] : List Int).getD j 0))]) (J := fun j Mu' ρ' => Mu' = muR Ds ((([n % p, n / p % 6] : List Int).take j).foldl (fun r o => tieStep r p o) rows) ∧ ρ' = rL (("point", .int p) :: ("number", .int n) :: tF numbers Ds)) ?it2 (by (walk_at "mhk")) ⟨rfl, rfl⟩ ?_ ?_
      case it2 => exact itr_tints (l := [n % p, n / p % 6]) (ev_tuple (ds := [.int (n % p), .int (n / p % 6)]) (args_cons (ev_bin (by (walk_at "mnm")) (by (walk_at "mnm")) (op_mod hp0)) (args_cons (ev_bin (ev_bin (by (walk_at "mnm")) (by (walk_at "mnm")) (op_div hp0 (by omega))) (by (walk_at "mev")) (op_mod (by decide))) args_nil)) (by simp))
      · rintro j Mu' ρ' hj ⟨rfl, rfl⟩
        have hoT : (0 ≤ ([n % p, n / p % 6] : List Int).getD j 0 ∧ ([n % p, n / p % 6] : List Int).getD j 0 < 6) ∧ TI ((([n % p, n / p % 6] : List Int).take j).foldl (fun r o => tieStep r p o) rows) := by
          match j, hj with
          | 0, _ => exact ⟨q.1, T⟩
          | 1, _ => exact ⟨q.2, T.step hp q.1⟩
        obtain ⟨ho, T'⟩ := hoT
        rw [take_snoc (by exact hj) 0, List.foldl_append, List.foldl_cons, List.foldl_nil]
        generalize ([n % p, n / p % 6] : List Int).getD j 0 = o at ho ⊢
        generalize (([n % p, n / p % 6] : List Int).take j).foldl (fun r o => tieStep r p o) rows = rows' at T' ⊢
        refine ex_can (("point", .int p) :: ("number", .int n) :: ("other", .int o) :: tF numbers Ds) (by (walk_at "mcan")) ?_
        refine ex_if (N' := fun Mu' ρ' => Mu' = muR Ds (tieStep rows' p o) ∧ ρ' = rL (("point", .int p) :: ("number", .int n) :: tF numbers Ds)) (tst_and (tst_cmp (by (walk_at "mnm")) (by (walk_at "mnm")) op_ne) fun _ => tst_notin (ns := nb rows' p) (by (walk_at "mnm")) (ev_row (x := p) hD (by (walk_at "mnm")) (by (walk_at "mnm")) hp.1 hp.2) (.mut (muR_mem hD T'.len (by omega)))) (fun c => ?_) (fun c => ?_) (fun Mu' ρ' z => ex_nil z)
        · simp only [Bool.and_eq_true, bne_iff_ne, ne_eq, Bool.not_eq_true', decide_eq_false_iff_not] at c
          have hne : ¬ p.toNat = o.toNat := by omega
          have e1 : nb (rows'.set p.toNat (insR (nb rows' p) o)) o = nb rows' o := by rw [nb_set (by rw [T'.len]; omega), if_neg hne]
          have hl2 : (rows'.set p.toNat (insR (nb rows' p) o)).length = 6 := by rw [List.length_set, T'.len]
          refine ex_insort (i := p.toNat) (D := Ds.getD p.toNat 0) (ns := nb rows' p) (n := o) (by (walk_at "mnm")) (muR_get hD T'.len (by omega)) (ev_row (x := p) hD (by (walk_at "mnm")) (by (walk_at "mnm")) hp.1 hp.2) (by (walk_at "mnm")) (by have := T'.row p; omega) ?_
          rw [muR_set hD T'.len (by omega)]
          refine ex_insort (i := o.toNat) (D := Ds.getD o.toNat 0) (ns := nb (rows'.set p.toNat (insR (nb rows' p) o)) o) (n := p) (by (walk_at "mnm")) (muR_get hD hl2 (by omega)) (ev_row (x := o) hD (by (walk_at "mnm")) (by (walk_at "mnm")) ho.1 ho.2) (by (walk_at "mnm")) (by rw [e1]; have := T'.row o; omega) ?_
          rw [muR_set hD hl2 (by omega)]
          refine ex_can _ (by (walk_at "mcan")) (ex_nil ⟨?_, rfl⟩)
          rw [tieStep, if_pos c]
        · refine ex_can _ (by (walk_at "mcan")) (ex_nil ⟨?_, rfl⟩)
          have c' : ¬ (o ≠ p ∧ o ∉ nb rows' p) := fun h => by
            rw [decide_eq_false h.2, bne_iff_ne.mpr h.1] at c; cases c
          rw [tieStep, if_neg c']
      · rintro Mu' ρ' ⟨rfl, rfl⟩
        exact ex_can _ (by (walk_at "mcan")) (ex_nil ⟨rfl, rfl⟩)
    · rintro Mu' ρ' ⟨rfl, rfl⟩
      exact ex_returnM (by (walk_at "mnm")) (.list (muR_melt Ds (tiesAt numbers 5) _ (by rw [hD, (ties_ti numbers 5 (by omega)).len]) fun q m => m)) rfl
  all_goals rfl
end
end
section
open PySem PySem.W PyProof.Rows PySem.Calls
/-- one spot of a search over early points -/
noncomputable def reachStep (nr : List (List Int)) (order : List Int) (place : Nat) (reached : List Int) (spot : Nat) : List Int :=
  if order.idxOf (reached.getD spot 0) ≤ place then reached ++ (nb nr (reached.getD spot 0)).filter (fun y => !decide (y ∈ reached)) else reached
noncomputable def reachR (nr : List (List Int)) (order : List Int) (place : Nat) : Nat → List Int → Nat → List Int
  | 0, reached, _ => reached
  | f + 1, reached, spot => if spot < reached.length then reachR nr order place f (reachStep nr order place reached spot) (spot + 1) else reached
noncomputable def reachZ (nr : List (List Int)) (order : List Int) (place : Nat) : List Int := reachR nr order place 7 [order.getD place 0] 0
noncomputable def waysAt (nr : List (List Int)) (order : List Int) (i : Nat) : List Int := ((reachZ nr order i).filter fun o => decide (((order.idxOf o : Nat) : Int) > (i : Nat))).map (pairZ (order.getD i 0))
noncomputable def waysTo (nr : List (List Int)) (order : List Int) : Nat → List Int
  | 0 => []
  | i + 1 => waysTo nr order i ++ waysAt nr order i
noncomputable def waysZ (nr : List (List Int)) (order : List Int) : List Int := sortZ (waysTo nr order order.length)
theorem reachStep_pts {nr : List (List Int)} {order reached : List Int} {place spot : Nat} (N : NearOk nr) (P : Pts reached) : Pts (reachStep nr order place reached spot) := by
  unfold reachStep
  split
  · refine ⟨List.nodup_append.mpr ⟨P.nd, (N.nd _).filter _, fun x hx y hy e => ?_⟩, fun x hx => ?_⟩
    · subst e
      have := (List.mem_filter.mp hy).2
      simp [hx] at this
    · rcases List.mem_append.mp hx with h | h
      · exact P.rg x h
      · exact N.rg _ x (List.mem_filter.mp h).1
  · exact P
theorem reachR_pts {nr : List (List Int)} {order : List Int} {place : Nat} (N : NearOk nr) : ∀ (f : Nat) {reached : List Int} (spot : Nat), Pts reached → Pts (reachR nr order place f reached spot)
  | 0, _, _, P => P
  | f + 1, _, spot, P => by
    unfold reachR; split
    · exact reachR_pts N f _ (reachStep_pts N P)
    · exact P
theorem reachR_done {nr : List (List Int)} {order reached : List Int} {place spot : Nat} (h : ¬ spot < reached.length) (f : Nat) : reachR nr order place f reached spot = reached := by
  cases f with
  | zero => rfl
  | succ f => rw [reachR, if_neg h]
theorem one_pts {x : Int} (h : 0 ≤ x ∧ x < 6) : Pts [x] := ⟨by simp, by simpa using h⟩
theorem reachZ_pts {nr : List (List Int)} {order : List Int} {place : Nat} (N : NearOk nr) (O : Pts order) (h : place < order.length) : Pts (reachZ nr order place) := reachR_pts N 7 0 (one_pts (O.rg _ (getD_mem h)))
theorem waysAt_len {nr : List (List Int)} {order : List Int} {i : Nat} (N : NearOk nr) (O : Pts order) (h : i < order.length) : (waysAt nr order i).length ≤ 6 := by
  unfold waysAt
  rw [List.length_map]
  exact Nat.le_trans (List.length_filter_le _ _) (reachZ_pts N O h).len
theorem waysTo_len {nr : List (List Int)} {order : List Int} (N : NearOk nr) (O : Pts order) : ∀ i, i ≤ order.length → (waysTo nr order i).length ≤ 6 * i
  | 0, _ => Nat.le_refl _
  | i + 1, h => by
    rw [waysTo, List.length_append]
    have := waysTo_len N O i (by omega)
    have := waysAt_len (i := i) N O (by omega)
    omega
section
variable {w : World} {k : Nat} {env : Env} {H : List Addr} {Mu : List (Addr × PD)} {ρ : Str → Option PD} {h : Heap} {e : Expr} {d : PD} {N : Nx} {R : PD → Prop} {rest : List Stmt}

noncomputable abbrev yF (nr : List (List Int)) (order : List Int) (i : Nat) : List (Str × PD) := [("near", nearD nr), ("order", .ints order), ("pairs", .ints (waysTo nr order i))]
set_option maxRecDepth 100000 in
set_option maxHeartbeats 4000000 in
theorem ways_ok {nr : List (List Int)} {order : List Int} (N : NearOk nr) (O : OrdOk order) : CallD w (k + 2) (.ref 129) [nearD nr, .ints order] (.ints (waysZ nr order)) := by
  refine call_fn (names := ["near", "order"]) (es := [nearD nr, .ints order]) (by (walk_at "mu")) ?hcd ?hb ?bd ?hkind ?hnd rfl ?hcn ?_ ?_ ?_
  case hcd => (walk_at "mu")
  case hkind => (walk_at "mu")
  case hb => exact hb_plain fun vs h => by obtain ⟨x, y, rfl⟩ := len_two h; (walk_at "mu")
  case hnd => decide
  case hcn => decide
  case bd =>
    intro L
    have ho := O.pts.len
    refine ex_assign (d := .ints []) (ev_list (ds := []) args_nil (by simp)) ?_ (by (walk_at "mu"))
    refine ex_can (yF nr order 0) (by (walk_at "mcan")) ?_
    refine ex_for (n := order.length) (bs := fun i => [("place", .int i), ("point", .int (order.getD i 0))]) (J := fun i Mu' ρ' => Mu' = [] ∧ ρ' = rL (yF nr order i)) ?it (by (walk_at "mhk")) ⟨rfl, rfl⟩ ?_ ?_
    case it => exact itr_enumI (ns := order) (by (walk_at "mnm")) (by (walk_at "mnm"))
    · rintro i Mu' ρ' hi ⟨rfl, rfl⟩
      have hx := O.pts.rg _ (getD_mem hi)
      have hwl := waysTo_len N O.pts i (by omega)
      refine ex_can (("place", .int i) :: ("point", .int (order.getD i 0)) :: yF nr order i) (by (walk_at "mcan")) ?_
      refine ex_unpack (xs := [("reached", _), ("spot", _)]) (ds := [.ints [order.getD i 0], .int 0]) (ev_tuple (args_cons (d := .ints [order.getD i 0]) (ev_list (ds := [.int (order.getD i 0)]) (args_cons (by (walk_at "mnm")) args_nil) (by simp)) (args_cons (by (walk_at "mev")) args_nil)) (by simp)) (by rfl) rfl rfl ?_ ?_
      · intro p hp
        simp only [List.mem_cons, List.not_mem_nil, or_false] at hp
        rcases hp with rfl | rfl <;> (walk_at "mu")
      refine ex_can (("place", .int i) :: ("point", .int (order.getD i 0)) :: ("reached", .ints [order.getD i 0]) :: ("spot", .int (0 : Nat)) :: yF nr order i) (by (walk_at "mcan")) ?_
      refine ex_while (J := fun m Mu' ρ' => Mu' = [] ∧ ∃ (reached : List Int) (spot : Nat), ρ' = rL (("place", .int i) :: ("point", .int (order.getD i 0)) :: ("reached", .ints reached) :: ("spot", .int spot) :: yF nr order i) ∧ Pts reached ∧ spot + m = 7 ∧ spot ≤ reached.length ∧ reachR nr order i m reached spot = reachZ nr order i) 7 ?_ ?_
      · exact ⟨rfl, _, 0, rfl, one_pts hx, rfl, by simp, rfl⟩
      · rintro m Mu' ρ' ⟨rfl, reached, spot, rfl, P, hm, hsp, hw⟩
        have hl := P.len
        refine ⟨decide ((spot : Int) < (reached.length : Nat)), tst_cmp (by (walk_at "mnm")) (ev_call (by (walk_at "mnm")) (by (walk_at "mcal")) (args_cons (by (walk_at "mnm")) args_nil) (cd_lenI (by omega))) op_lt, fun t => ?_, fun t => ?_⟩
        · have t := of_decide_eq_true t
          have hlt : spot < reached.length := by omega
          obtain ⟨m, rfl⟩ : ∃ m', m = m' + 1 := ⟨m - 1, by omega⟩
          rw [reachR, if_pos hlt] at hw
          have hy := P.rg _ (getD_mem hlt)
          have sp := reachStep_pts (order := order) (place := i) (spot := spot) N P
          have hge : reached.length ≤ (reachStep nr order i reached spot).length := by
            unfold reachStep; split <;> simp
          refine ex_if (N' := fun Mu' ρ' => Mu' = [] ∧ ρ' = rL (("place", .int i) :: ("point", .int (order.getD i 0)) :: ("reached", .ints (reachStep nr order i reached spot)) :: ("spot", .int spot) :: yF nr order i)) (c := decide (((order.idxOf (reached.getD spot 0) : Nat) : Int) ≤ (i : Nat))) ?ts (fun c => ?_) (fun c => ?_) ?_
          case ts => exact tst_cmp (ev_index (by (walk_at "mnm")) .fro (ev_itemI (x := spot) (ns := reached) (by (walk_at "mnm")) .fro (by (walk_at "mnm")) (by omega) (by omega) (by omega)) (O.all _ hy.1 hy.2) (by omega)) (by (walk_at "mnm")) op_le
          · have c := of_decide_eq_true c
            have c : order.idxOf (reached.getD spot 0) ≤ i := by omega
            have nl := nb_len N (reached.getD spot 0)
            refine ex_old (asg_new (ev_concat (es := ((nb nr (reached.getD spot 0)).filter fun y => !decide (y ∈ reached)).map .int) (by (walk_at "mnm")) .fro ?cc .fro ?cz) (by (walk_at "mu"))) ?_
            case cc =>
              refine (EvNew.ev (new_comp (n := (nb nr (reached.getD spot 0)).length) (bs := fun j => [("other", .int ((nb nr (reached.getD spot 0)).getD j 0))]) (p := fun j => !decide ((nb nr (reached.getD spot 0)).getD j 0 ∈ reached)) (f := fun j => .int ((nb nr (reached.getD spot 0)).getD j 0)) ?it3 (by (walk_at "mcok")) (by (walk_at "mhk")) (by omega) (fun i hi C => tsts_one ?ts3) ?el3)).eq ?eq3
              case it3 => exact itr_ints (ev_near N.len (by (walk_at "mnm")) (ev_itemI (x := spot) (ns := reached) (by (walk_at "mnm")) .fro (by (walk_at "mnm")) (by omega) (by omega) (by omega)) hy.1 hy.2)
              case ts3 => exact tst_notin (by (walk_at "mnm")) (by (walk_at "mnm")) .fro
              case el3 =>
                intro j hj _ C
                (walk_at "mnm")
              case eq3 => rw [outOf_all (fun y => !decide (y ∈ reached)) PD.int 0]
            case cz =>
              rw [List.length_map, List.length_map]
              have := List.length_filter_le (fun y => !decide (y ∈ reached)) (nb nr (reached.getD spot 0))
              omega
            rw [← List.map_append, show reached ++ (nb nr (reached.getD spot 0)).filter (fun y => !decide (y ∈ reached)) = reachStep nr order i reached spot by rw [reachStep, if_pos c]]
            exact ex_can _ (by (walk_at "mcan")) (ex_nil ⟨rfl, rfl⟩)
          · have c := of_decide_eq_false c
            have c : ¬ order.idxOf (reached.getD spot 0) ≤ i := by omega
            rw [show reachStep nr order i reached spot = reached by rw [reachStep, if_neg c]]
            exact ex_can _ (by (walk_at "mcan")) (ex_nil ⟨rfl, rfl⟩)
          rintro Mu' ρ' ⟨rfl, rfl⟩
          refine ex_assign (d := .int (spot + 1 : Nat)) ((ev_bin (by (walk_at "mnm")) (by (walk_at "mev")) op_add).eq (by simp)) ?_ (by (walk_at "mu"))
          exact ex_can _ (by (walk_at "mcan")) (ex_nil ⟨m, by omega, rfl, _, _, rfl, sp, by omega, by omega, hw⟩)
        · have t := of_decide_eq_false t
          rw [reachR_done (by omega)] at hw
          subst hw
          refine ex_old (asg_new (ev_concat (es := (waysAt nr order i).map .int) (by (walk_at "mnm")) .fro ?cc .fro ?cz) (by (walk_at "mu"))) ?_
          case cc =>
            refine (EvNew.ev (new_comp (n := (reachZ nr order i).length) (bs := fun j => [("other", .int ((reachZ nr order i).getD j 0))]) (p := fun j => decide (((order.idxOf ((reachZ nr order i).getD j 0) : Nat) : Int) > (i : Nat))) (f := fun j => .int (pairZ (order.getD i 0) ((reachZ nr order i).getD j 0))) ?it3 (by (walk_at "mcok")) (by (walk_at "mhk")) (by omega) (fun j hj C => tsts_one ?ts3) ?el3)).eq ?eq3
            case it3 => exact itr_ints (by (walk_at "mnm"))
            case ts3 =>
              have hz := P.rg _ (getD_mem hj)
              exact tst_cmp (ev_index (by (walk_at "mnm")) .fro (by (walk_at "mnm")) (O.all _ hz.1 hz.2) (by omega)) (by (walk_at "mnm")) op_gt
            case el3 =>
              intro j hj _ C
              exact ev_call (by (walk_at "mnm")) (by (walk_at "mcal")) (args_cons (by (walk_at "mnm")) (args_cons (by (walk_at "mnm")) args_nil)) pair_ok
            case eq3 =>
              rw [outOf_all (fun y => decide (((order.idxOf y : Nat) : Int) > (i : Nat))) (fun y => PD.int (pairZ (order.getD i 0) y)) 0, waysAt, List.map_map]; rfl
          case cz =>
            rw [List.length_map, List.length_map]
            have := waysAt_len (i := i) N O.pts hi
            omega
          rw [← List.map_append]
          exact ex_can _ (by (walk_at "mcan")) (ex_nil ⟨rfl, rfl⟩)
    · rintro Mu' ρ' ⟨rfl, rfl⟩
      have hwl := waysTo_len N O.pts order.length (by omega)
      exact ex_return (ev_call (by (walk_at "mnm")) (by (walk_at "mcal")) (args_cons (by (walk_at "mnm")) args_nil) (cd_sorted (by omega))) rfl
  all_goals rfl
end
end
section
open PySem PySem.W PyProof.Rows PySem.Calls

section
variable {prog : Program} {w : World} {A : Around} {s : Shared}
/-- a comprehension's turns, whatever it does with an item -/
theorem comp_turnsG {e target iter : Expr} {ifs : List Expr} {dp : Nat} {body : Sem Unit} {it acc : Value} {env : Env} {R : Result → Shared → Prop}
    (heq : compTurn e dp it acc env = (do
      standAt iter.pos
      match ← pyNext it with
      | none => pure (.done .next)
      | some v =>
        letOwnedTupleGo target it v
        assign target env v
        let mut ok := true
        for c in ifs do
          if ok then ok ← isTrue c env (eval c env)
        if ok then body
        again (.compLoop e dp it acc env)))
    (hu : ∀ A : Around, A.under (.compLoop e dp it acc env) = A) (hd : (model prog w).den (.compLoop e dp it acc env) = (compTurn e dp it acc env).onRaise (fun x => do noteFrame x env; theTreesLotGoes x))
    (I : Nat → Shared → Prop)
    (turn : ∀ n s, I n s → wpAny (model prog w) A (pyNext it) (fun r s₁ => match r with
      | none => R (.ok .next) s₁
      | some v => wpAny (model prog w) A (letOwnedTupleGo target it v) (fun _ s₀ => wpAny (model prog w) A (assign target env v) (fun _ s₂ =>
          wpAny (model prog w) A (forIn ifs true fun c r => if r = true then do let ok ← isTrue c env (eval c env); pure (ForInStep.yield ok) else pure (ForInStep.yield r)) (fun ok s₃ =>
            if ok = true then wpAny (model prog w) A body (fun _ s₄ => ∃ m, m < n ∧ I m s₄) NoE s₃
            else ∃ m, m < n ∧ I m s₃) NoE s₂) NoE s₀) NoE s₁) NoE s)
    (n : Nat) (h : I n s) : codeAny (model prog w) A (.compLoop e dp it acc env) R s := by
  refine codeAny_loop rfl I (fun n s hI => ?_) n h
  rw [hu, hd]
  refine wpAny_noted ?_
  rw [heq]
  refine wpAny_bind (wpAny_standAt (wpAny_bind (wpAny_mono (turn n s hI) (fun r s₁ h₁ => ?_) fun _ _ h' => h'.elim)))
  cases r with
  | none => exact wpAny_pure h₁
  | some v =>
    refine wpAny_bind (wpAny_mono h₁ (fun _ s₀ h₀' => ?_) fun _ _ h' => h'.elim)
    refine wpAny_bind (wpAny_mono h₀' (fun _ s₂ h₂ => ?_) fun _ _ h' => h'.elim)
    refine wpAny_bind (wpAny_mono h₂ (fun okb s₃ h₃ => ?_) fun _ _ h' => h'.elim)
    cases okb with
    | false => exact wpAny_pure ⟨rfl, h₃⟩
    | true => exact wpAny_bind (wpAny_mono h₃ (fun _ s₄ h₄ => wpAny_pure ⟨rfl, h₄⟩) fun _ _ h' => h'.elim)
theorem comp_startG {e : Expr} {dp : Nat} {g : Comprehension} {it acc : Value} {env : Env} {R : Result → Shared → Prop} (hg : (clausesOf e)[dp]? = some g) (ha : g.is_async = 0)
    (hu : A.under (.compStart e dp it acc env) = A) (hd : (model prog w).den (.compStart e dp it acc env) = (compStart e dp it acc env).onRaise (fun x => do noteFrame x env; standAt theWindowsPlace))
    (h0 : codeAny (model prog w) A (.compLoop e dp it acc env) R s)
    (h : wpAny (model prog w) A (pyIter it) (fun it' s' => codeAny (model prog w) A (.compLoop e dp it' acc env) R s') NoE s) :
    codeAny (model prog w) A (.compStart e dp it acc env) R s := by
  refine codeAny_of_tree ?_
  rw [hu, hd]
  refine wpAny_notedAt ?_
  unfold compStart
  rw [hg]
  simp only [Option.elim, ha, bne_self_eq_false, Bool.false_eq_true, if_false]
  show wpAny _ A (ask >>= _) _ _ s
  refine wpAny_bind (wpAny_askSetting (wpAny_ite ?_))
  split
  · first
      | exact wpAny_bind (wpAny_pure (wpAny_pure (And.intro rfl h0)))
      | exact wpAny_pure (And.intro rfl h0)
  · have h' := wpAny_mono (E' := notedBy (model prog w) A env fun x s' => R (.error x) s') h (fun _ _ y => y) fun _ _ z => z.elim
    first
      | exact wpAny_bind (wpAny_rule (wpAny_bind (wpAny_standAt (wpAny_bind (wpAny_mono h' (fun it' s' h' => wpAny_pure (And.intro rfl h')) fun _ _ x => x)))))
      | (refine wpAny_bind (wpAny_rule ?_); show wpAny _ _ (standAt g.iter.pos >>= _) _ _ s; exact wpAny_bind (wpAny_standAt (wpAny_bind (wpAny_mono h' (fun it' s' h' => wpAny_pure (And.intro rfl h')) fun _ _ x => x))))
end

section
variable {w : World} {k : Nat} {env : Env} {H : List Addr} {Mu : List (Addr × PD)} {ρ : Str → Option PD}

/-- the turns of a comprehension in its own frame -/
theorem loopG {A : Around} {s₃ : Shared} {e target iter : Expr} {ifs : List Expr} {dp n : Nat} {body : Sem Unit} {env' : Env} {H' : List Addr} {bs : Nat → List (Str × PD)} {p : Nat → Bool} {acc : Nat → PD} {F0 : Heap}
    {I D : Addr} {fp wr : List Addr} {P Md : Nat → Value → Heap → Prop} {Sti : Nat → Heap → Prop} {R : Result → Shared → Prop}
    (hA : OkA A k)
    (heq : compTurn e dp (.ref I) (.ref D) env' = (do
      standAt iter.pos
      match ← pyNext (.ref I) with
      | none => pure (.done .next)
      | some v =>
        letOwnedTupleGo target (.ref I) v
        assign target env' v
        let mut ok := true
        for c in ifs do
          if ok then ok ← isTrue c env' (eval c env')
        if ok then body
        again (.compLoop e dp (.ref I) (.ref D) env')))
    (hu : ∀ A : Around, A.under (.compLoop e dp (.ref I) (.ref D) env') = A) (hd : (MM w).den (.compLoop e dp (.ref I) (.ref D) env') = (compTurn e dp (.ref I) (.ref D) env').onRaise (fun x => do noteFrame x env'; theTreesLotGoes x))
    (W : KTurns PR w A target I fp wr n P Md Sti) (hwH : ∀ q ∈ wr, q ∈ H') (hDH : D ∈ H') (hCfp : env'.locals ∉ fp) (hDfp : D ∉ fp) (hDo : D ∉ own env' Mu) (hwo : ∀ q ∈ wr, q ∉ own env' Mu) (hal : ∀ i g, Sti i g → ∀ b ∈ fp, ∃ o, g.get? b = some o)
    {Hf : List Addr} (hHf : ∀ q ∈ Hf, q ∈ H' ∧ q ∉ wr)
    (asg : ∀ (i : Nat) (v : Value) (s' : Shared), i < n → P i v s'.heap → StE w env' H' Mu ρ s'.heap → Sub F0 (Fz (hid env' Mu H') s'.heap) →
        wpAny (MM w) A (assign target env' v) (fun _ s'' => Grew s' s'' ∧ StE w env' H' Mu (updL ρ (bs i)) s''.heap ∧ KBs env' ((bs i).map (·.1)) s'.heap s''.heap) NoE s')
    (hloc : ∀ i, i < n → ∀ q ∈ bs i, env'.kindOf q.1 = some .local) (hfo : ∀ i, i < n → ∀ q ∈ bs i, ρ q.1 = none)
    (tests : ∀ i, i < n → Tsts w k env' Mu (updL ρ (bs i)) ifs (p i))
    (hbody : ∀ i, i < n → p i = true → ∀ t : Shared, StE w env' H' Mu (updL ρ (bs i)) t.heap → MutAt w (hid env' Mu H') t.heap D (acc i) →
      wpAny (MM w) A body (fun _ t' => Grew t t' ∧ StE w env' H' Mu (updL ρ (bs i)) t'.heap ∧ MutAt w (hid env' Mu H') t'.heap D (acc (i + 1)) ∧ KB [D, env'.locals] t.heap t'.heap) NoE t)
    (hskip : ∀ i, i < n → p i = false → acc (i + 1) = acc i)
    (S : StE w env' H' Mu ρ s₃.heap) (st : Sti 0 s₃.heap) (ma : MutAt w (hid env' Mu H') s₃.heap D (acc 0)) (z : Sub F0 (Fz (hid env' Mu H') s₃.heap))
    (fin : ∀ s', Grew s₃ s' → StE w env' Hf Mu ρ s'.heap → MutAt w (hid env' Mu Hf) s'.heap D (acc n) → KB (D :: env'.locals :: wr) s₃.heap s'.heap → R (.ok .next) s') :
    codeAny (MM w) A (.compLoop e dp (.ref I) (.ref D) env') R s₃ := by
  have hDhid : D ∈ hid env' Mu H' := List.mem_append_right _ hDH
  have hChid : env'.locals ∈ hid env' Mu H' := List.mem_append_left _ (.head _)
  have hwhid : ∀ q ∈ wr, q ∈ hid env' Mu H' := fun q m => List.mem_append_right _ (hwH q m)
  have hDne : ∀ q ∈ own env' Mu, q ≠ D := fun q m e => hDo (e ▸ m)
  have hDwr : D ∉ wr := fun m => hDfp (W.sub D m)
  refine comp_turnsG heq hu hd (fun q s' => ∃ i, Grew s₃ s' ∧ StE w env' H' Mu ρ s'.heap ∧ Sti i s'.heap ∧ MutAt w (hid env' Mu H') s'.heap D (acc i) ∧ Sub F0 (Fz (hid env' Mu H') s'.heap) ∧ KB (D :: env'.locals :: wr) s₃.heap s'.heap ∧ i ≤ n ∧ q = n + 1 - i) ?_ (n + 1) ⟨0, Grew.refl _, S, st, ma, z, KB.refl _ _, Nat.zero_le _, rfl⟩
  rintro q s' ⟨i, g, S', sti, ma', z', kb', hi, rfl⟩
  have mv : ∀ (t : Heap), KB wr s'.heap t → (∃ j, Sti j t) → StE w env' H' Mu ρ t := fun t kb ⟨j, sj⟩ =>
    S'.move (Fz_mono (kb.mono hwhid)) (fun q m o e => kb q o (fun x => hwo q x m) e) fun q m => by
      by_cases hq : q ∈ wr
      · exact hal _ _ sj q (W.sub q hq)
      · obtain ⟨o, e⟩ := S'.hl q m; exact ⟨o, kb q o hq e⟩
  by_cases hlt : i < n
  · refine wpn (W.item i s' (fun r s₁ => ∃ v, r = some v ∧ Grew s' s₁ ∧ Md i v s₁.heap ∧ KB wr s'.heap s₁.heap) NoE hlt sti fun v h₁ tk md kb => ⟨v, rfl, ⟨_, _, rfl⟩, md, fun b o n' e => kb b o n' e⟩) fun r' t₁ ⟨v, e', g₁, md, kb₁⟩ => ?_
    subst e'
    dsimp only
    refine wpn (W.go i v t₁ (fun _ s₂ => Grew t₁ s₂ ∧ P i v s₂.heap ∧ Sti (i + 1) s₂.heap ∧ KB wr t₁.heap s₂.heap) NoE md fun h₂ p₂ st₂ kb => ⟨⟨_, _, rfl⟩, p₂, st₂, fun b o n' e => kb b o n' e⟩) fun _ t₂ ⟨g₂, p₂, st₂, kb₂⟩ => ?_
    have kb := kb₁.trans kb₂
    have S₂ := mv t₂.heap kb ⟨_, st₂⟩
    have z2 : Sub (Fz (hid env' Mu H') s'.heap) (Fz (hid env' Mu H') t₂.heap) := Fz_mono (kb.mono hwhid)
    have m2 : MutAt w (hid env' Mu H') t₂.heap D (acc i) := ma'.keep (fun o e => kb _ o hDwr e) z2
    refine wpn (asg i v t₂ hlt p₂ S₂ (Sub.trans z' z2)) fun _ t₃ ⟨g₃, S₃, _, kb₃⟩ => ?_
    have kbC : KB [env'.locals] t₂.heap t₃.heap := kb₃ fun y m => by
      obtain ⟨q, hq, rfl⟩ := List.mem_map.mp m
      exact hloc i hlt q hq
    have z3 : Sub (Fz (hid env' Mu H') t₂.heap) (Fz (hid env' Mu H') t₃.heap) := Fz_mono (kbC.mono fun q m => by rw [List.mem_singleton.mp m]; exact hChid)
    have m3 : MutAt w (hid env' Mu H') t₃.heap D (acc i) := m2.keep (fun o e => kbC _ o (fun m => hDne _ (.head _) (List.mem_singleton.mp m).symm) e) z3
    have st3 : Sti (i + 1) t₃.heap := W.frame _ _ _ st₂ fun b m o e => kbC b o (fun x => hCfp (List.mem_singleton.mp x ▸ m)) e
    have gg : Grew s₃ t₃ := ((g.trans g₁).trans g₂).trans g₃
    have kall : KB (D :: env'.locals :: wr) s₃.heap t₃.heap := kb'.trans ((kb.mono fun q m => .tail _ (.tail _ m)).trans (kbC.mono fun q m => by rw [List.mem_singleton.mp m]; exact .tail _ (.head _)))
    have fgt : ∀ x d, ρ x = some d → updL ρ (bs i) x = some d := fun x d e => by
      rw [updL_other fun m => ?_]; exact e
      obtain ⟨q, hq, rfl⟩ := List.mem_map.mp m
      rw [hfo i hlt q hq] at e; cases e
    have again : ∀ t : Shared, Grew t₃ t → StE w env' H' Mu (updL ρ (bs i)) t.heap → MutAt w (hid env' Mu H') t.heap D (acc (i + 1)) → KB [D, env'.locals] t₃.heap t.heap → ∃ m, m < n + 1 - i ∧ ∃ i, Grew s₃ t ∧ StE w env' H' Mu ρ t.heap ∧ Sti i t.heap ∧ MutAt w (hid env' Mu H') t.heap D (acc i) ∧ Sub F0 (Fz (hid env' Mu H') t.heap) ∧ KB (D :: env'.locals :: wr) s₃.heap t.heap ∧ i ≤ n ∧ m = n + 1 - i :=
      fun t gt St mt kt => ⟨n + 1 - (i + 1), by omega, i + 1, gg.trans gt, St.forget fgt, W.frame _ _ _ st3 fun b m o e => kt b o (fun x => by
          rcases List.mem_cons.mp x with rfl | x
          · exact hDfp m
          · exact hCfp (List.mem_singleton.mp x ▸ m)) e, mt, Sub.trans (Sub.trans (Sub.trans z' z2) z3) (Fz_mono (kt.mono fun q m => by
          rcases List.mem_cons.mp m with rfl | m
          · exact hDhid
          · rw [List.mem_singleton.mp m]; exact hChid)), kall.trans (kt.mono fun q m => by
          rcases List.mem_cons.mp m with rfl | m
          · exact .head _
          · rw [List.mem_singleton.mp m]; exact .tail _ (.head _)), hlt, rfl⟩
    refine wpn (tests i hlt A H' t₃ hA S₃) fun c t₄ ⟨k₄, ec⟩ => ?_
    have S₄ := S₃.sub k₄.heap
    have m4 : MutAt w (hid env' Mu H') t₄.heap D (acc i) := m3.keep (fun o e => k₄.heap _ _ e) (fz_up k₄)
    cases hp : p i with
    | false =>
      rw [ec, hp]
      simp only [Bool.false_eq_true, if_false]
      exact again t₄ k₄.grew S₄ (by rw [hskip i hlt hp]; exact m4) (.of k₄.heap)
    | true =>
      rw [ec, hp]
      simp only [if_true]
      exact wpn (hbody i hlt hp t₄ S₄ m4) fun _ t₅ ⟨g₅, S₅, m5, k5⟩ => again t₅ (k₄.grew.trans g₅) S₅ m5 ((KB.of k₄.heap).trans k5)
  · have hin : i = n := by omega
    subst hin
    refine wpn (W.done s' (fun r s₁ => r = none ∧ Grew s' s₁ ∧ KB wr s'.heap s₁.heap) NoE sti fun h₁ tk kb => ⟨rfl, ⟨_, _, rfl⟩, fun b o n' e => kb b o n' e⟩) fun r' t₁ ⟨e', g₁, kb⟩ => ?_
    subst e'
    dsimp only
    have hless : ∀ q ∈ hid env' Mu Hf, q ∈ hid env' Mu H' := fun q m => by
      rcases List.mem_append.mp m with m | m
      · exact List.mem_append_left _ m
      · exact List.mem_append_right _ (hHf q m).1
    have z2 : Sub (Fz (hid env' Mu H') s'.heap) (Fz (hid env' Mu Hf) t₁.heap) := Sub.trans (Fz_mono (kb.mono hwhid)) (Fz_less hless)
    refine fin t₁ (g.trans g₁) (S'.move z2 (fun q m o e => kb q o (fun x => hwo q x m) e) fun q m => ?_) (ma'.keep (fun o e => kb _ o hDwr e) z2) (kb'.trans (kb.mono fun q m => .tail _ (.tail _ m)))
    obtain ⟨o, e⟩ := S'.hl q (hHf q m).1
    exact ⟨o, kb q o (hHf q m).2 e⟩
end
end
section
open PySem PySem.W PyProof.Rows PySem.Calls

section
variable {w : World} {k : Nat} {env : Env} {H : List Addr} {Mu : List (Addr × PD)} {ρ : Str → Option PD}

structure CompDoneG (w : World) (env : Env) (H : List Addr) (Mu : List (Addr × PD)) (s : Shared) (out : PD) (D C : Addr) (s' : Shared) : Prop where
  gr : Grew s s'
  sb : Sub s.heap s'.heap
  nD : s.heap.get? D = none
  nC : s.heap.get? C = none
  ne : C ≠ D
  ns : ∃ m, s'.heap.Ns C m
  li : MutAt w (C :: D :: hid env Mu H) s'.heap D out

/-- the turn of a comprehension with one clause at hand -/
noncomputable def TurnEq (e target iter : Expr) (ifs : List Expr) (dp : Nat) (it acc : Value) (env : Env) (body : Sem Unit) : Prop :=
  compTurn e dp it acc env = (do
      standAt iter.pos
      match ← pyNext it with
      | none => pure (.done .next)
      | some v =>
        letOwnedTupleGo target it v
        assign target env v
        let mut ok := true
        for c in ifs do
          if ok then ok ← isTrue c env (eval c env)
        if ok then body
        again (.compLoop e dp it acc env))
structure CompExpr (e : Expr) : Prop where
  ul : ∀ (A : Around) dp it acc env, A.under (.compLoop e dp it acc env) = A
  us : ∀ (A : Around) dp it acc env, A.under (.compStart e dp it acc env) = A
  dl : ∀ (w : World) dp it acc env, (MM w).den (.compLoop e dp it acc env) = (compTurn e dp it acc env).onRaise (fun x => do noteFrame x env; theTreesLotGoes x)
  ds : ∀ (w : World) dp it acc env, (MM w).den (.compStart e dp it acc env) = (compStart e dp it acc env).onRaise (fun x => do noteFrame x env; standAt theWindowsPlace)
theorem compExpr_list (elt : Expr) (gens : List Comprehension) (scope : Scope) (pos : Pos) : CompExpr (.ListComp elt gens scope pos) := ⟨fun _ _ _ _ _ => rfl, fun _ _ _ _ _ => rfl, fun _ _ _ _ _ => rfl, fun _ _ _ _ _ => rfl⟩
theorem compExpr_dict (kx vx : Expr) (gens : List Comprehension) (scope : Scope) (pos : Pos) : CompExpr (.DictComp kx vx gens scope pos) := ⟨fun _ _ _ _ _ => rfl, fun _ _ _ _ _ => rfl, fun _ _ _ _ _ => rfl, fun _ _ _ _ _ => rfl⟩

theorem comp_coreG {A : Around} {s : Shared} {e target iter : Expr} {ifs : List Expr} {more : List Comprehension} {scope : Scope} {n : Nat} {bs : Nat → List (Str × PD)} {p : Nat → Bool} {acc : Nat → PD} {bodyS : Addr → Env → Sem Unit} {oAcc : Obj} {newAcc : Sem Value} {RR : Value → Addr → Result → Shared → Prop}
    (hA : OkA A k) (S : StE w env H Mu ρ s.heap) (it : Itr w k env Mu ρ target iter n bs) (ok : CompOk env scope) (hbs : ∀ i, i < n → ∀ q ∈ bs i, scope.names.lookup q.1 = some .local)
    (ce : CompExpr e) (hg : clausesOf e = ⟨target, iter, ifs, 0⟩ :: more) (heq : ∀ I D env', TurnEq e target iter ifs 0 (.ref I) (.ref D) env' (bodyS D env'))
    (hnew : ∀ (s : Shared) (Q : Value → Shared → Prop), Q (.ref s.heap.objs.size) { s with heap := s.heap.push oAcc } → wpAny (MM w) A newAcc Q NoE s) (hfr : oAcc.isFreed = false) (hacc0 : ∀ (M : List Addr) (h : Heap) (D : Addr), mainGlobals < D → h.get? D = some oAcc → MutAt w M h D (acc 0))
    (tests : ∀ i, i < n → ∀ C, Tsts w k (cenvOf env scope C) Mu (updL (seen scope ρ) (bs i)) ifs (p i))
    (hbody : ∀ i, i < n → p i = true → ∀ (C D : Addr) (H' : List Addr) (t : Shared), D ∈ H' → D ∉ own (cenvOf env scope C) Mu → StE w (cenvOf env scope C) H' Mu (updL (seen scope ρ) (bs i)) t.heap → MutAt w (hid (cenvOf env scope C) Mu H') t.heap D (acc i) →
      wpAny (MM w) A (bodyS D (cenvOf env scope C)) (fun _ t' => Grew t t' ∧ StE w (cenvOf env scope C) H' Mu (updL (seen scope ρ) (bs i)) t'.heap ∧ MutAt w (hid (cenvOf env scope C) Mu H') t'.heap D (acc (i + 1)) ∧ KB [D, C] t.heap t'.heap) NoE t)
    (hskip : ∀ i, i < n → p i = false → acc (i + 1) = acc i)
    (hRR : ∀ D C s', CompDoneG w env H Mu s (acc n) D C s' → RR (.ref D) C (.ok .next) s') :
    wpAny (MM w) A (eval iter env) (fun xv s₁ => wpAny (MM w) A (pyIter xv) (fun itv s₂ => wpAny (MM w) A newAcc (fun av s₃ =>
      wpAny (MM w) A (newFunctionEnv scope env.globals (cloF env.cells scope.names []) [] env.qual none .none (some env)) (fun cenv s₄ =>
        codeAny (MM w) A (.compStart e 0 itv av { cenv with scope := relabel scope env }) (RR av cenv.locals) s₄) NoE s₃) NoE s₂) NoE s₁) NoE s := by
  refine wpn (it A H s hA S) fun xv s₁ x => wpn x fun itv s₂ ⟨kp, I, fp, wr, P, Md, Sti, e', W, st, hw, hal, hfp, self, asg⟩ => ?_
  subst e'
  refine hnew _ _ (wpAny_newFunctionEnv ok.cell (by intro y hy; simp at hy) (fun h₄ hns hsb => ?_) ok.kd)
  dsimp only at hns hsb ⊢
  generalize hH3 : s₂.heap.push oAcc = H3 at hns hsb ⊢
  have hC : H3.objs.size = s₂.heap.objs.size + 1 := by rw [← hH3, Heap.size_push]
  have nD2 : s₂.heap.get? s₂.heap.objs.size = none := none_of_size
  have nC2 : s₂.heap.get? H3.objs.size = none := none_of_le (by rw [hC]; exact Nat.le_succ _)
  have nD : s.heap.get? s₂.heap.objs.size = none := none_back kp.heap nD2
  have nC : s.heap.get? H3.objs.size = none := none_back kp.heap nC2
  have hCD : H3.objs.size ≠ s₂.heap.objs.size := by rw [hC]; exact Nat.succ_ne_self _
  have s23 : Sub s₂.heap H3 := by rw [← hH3]; exact sub_push _ _
  have s34 : Sub H3 h₄ := fun b o e => hsb.extBut b o (Nat.ne_of_lt (Heap.lt_size e)) (Heap.get?_push_of_some _ e)
  have s24 := Sub.trans s23 s34
  have s04 := Sub.trans kp.heap s24
  have hacc : h₄.get? s₂.heap.objs.size = some oAcc := s34 _ _ (hH3 ▸ Heap.get?_push_size _ hfr)
  have hn : h₄.Ns H3.objs.size fun _ => none := hns
  have hgD : mainGlobals < s₂.heap.objs.size := by
    have G := S.gd.sub (Fz_sub _ s.heap)
    obtain ⟨_, o, _, _, e, _⟩ := G.g
    exact Heap.lt_size (kp.heap _ _ e)
  let H' : List Addr := s₂.heap.objs.size :: (wr ++ hid env Mu H)
  have hH : ∀ q ∈ hid env Mu H, q ∈ H' := fun q m => .tail _ (List.mem_append_right _ m)
  have hN : ∀ q ∈ H', q ∉ hid env Mu H → s.heap.get? q = none := fun q m n' => by
    rcases List.mem_cons.mp m with rfl | m
    · exact nD
    · rcases List.mem_append.mp m with m | m
      · exact hw q m
      · exact absurd m n'
  have fpAlive : ∀ b ∈ fp, ∃ o, s₂.heap.get? b = some o := hal _ _ st
  have fpD : s₂.heap.objs.size ∉ fp := fun m => by obtain ⟨o, e⟩ := fpAlive _ m; rw [nD2] at e; cases e
  have fpC : H3.objs.size ∉ fp := fun m => by obtain ⟨o, e⟩ := fpAlive _ m; rw [nC2] at e; cases e
  have st₄ : Sti 0 h₄ := W.frame _ _ _ st fun b _ o e => s24 b o e
  have aliveH : ∀ q ∈ H', ∃ o, h₄.get? q = some o := fun q m => by
    rcases List.mem_cons.mp m with rfl | m
    · exact ⟨_, hacc⟩
    · rcases List.mem_append.mp m with m | m
      · exact hal _ _ st₄ q (W.sub q m)
      · obtain ⟨o, e⟩ := S.alive q m; exact ⟨o, s04 _ _ e⟩
  have S₄ : StE w (cenvOf env scope H3.objs.size) H' Mu (seen scope ρ) h₄ := comp_state S s04 nC hn hH hN aliveH ok.fr ok.cell ok.kd
  have hclo : ∀ p ∈ cloF env.cells scope.names [], env.cells.lookup p.1 = some p.2 := clo_ok scope.names [] (List.all_eq_true.mpr fun p m => by
        have := List.all_eq_true.mp ok.fr p m
        rcases Bool.or_eq_true_iff.mp this with q | q
        · simp [q]
        · simp only [Bool.and_eq_true] at q; simp [q.1]) fun p m => nomatch m
  have ownH : ∀ q ∈ own (cenvOf env scope H3.objs.size) Mu, q ≠ H3.objs.size → q ∈ own env Mu := fun q m n' => by
    rcases List.mem_cons.mp m with rfl | m
    · exact absurd rfl n'
    · rcases List.mem_append.mp m with m | m
      · obtain ⟨p, hp, rfl⟩ := List.mem_map.mp m
        exact .tail _ (List.mem_append_left _ (List.mem_map.mpr ⟨_, mem_of_lookup (hclo p hp), rfl⟩))
      · exact .tail _ (List.mem_append_right _ m)
  have dC : ∀ q ∈ own (cenvOf env scope H3.objs.size) Mu, q ≠ H3.objs.size → ∃ o, s.heap.get? q = some o := fun q m n' => S.own_alive q (ownH q m n')
  have wrN : ∀ q ∈ wr, q ∉ own (cenvOf env scope H3.objs.size) Mu := fun q m m' => by
    by_cases hq : q = H3.objs.size
    · exact fpC (hq ▸ W.sub q m)
    · obtain ⟨o, e⟩ := dC q m' hq; rw [hw q m] at e; cases e
  have DN : s₂.heap.objs.size ∉ own (cenvOf env scope H3.objs.size) Mu := fun m' => by
    obtain ⟨o, e⟩ := dC _ m' (Ne.symm hCD); rw [nD] at e; cases e
  have z0 : Sub (Fz (wr ++ hid env Mu H) s₂.heap) (Fz (hid (cenvOf env scope H3.objs.size) Mu H') h₄) := Fz_more' (.of s24) fun q m n' => by
    rcases List.mem_append.mp m with m | m
    · by_cases hq : q = H3.objs.size
      · rw [hq]; exact nC2
      · exact absurd (List.mem_append_right _ (List.mem_append_left _ (ownH q m hq))) n'
    · rcases List.mem_cons.mp m with rfl | m
      · exact nD2
      · exact absurd m n'
  have wrH : ∀ q ∈ wr, q ∉ hid env Mu H := fun q m m' => by obtain ⟨o, e⟩ := S.alive q m'; rw [hw q m] at e; cases e
  have loop : ∀ s₅ : Shared, s₅ = { s₂ with heap := h₄, toks := s₂.toks + ([] : List (Str × Value)).length } → codeAny (MM w) A (.compLoop e 0 (.ref I) (.ref s₂.heap.objs.size) (cenvOf env scope H3.objs.size)) (RR (.ref s₂.heap.objs.size) H3.objs.size) s₅ := by
    rintro s₅ rfl
    refine loopG (H' := H') (Hf := s₂.heap.objs.size :: hid env Mu H) hA (heq I _ _) (fun A => ce.ul A _ _ _ _) (ce.dl w _ _ _ _) W (fun q m => .tail _ (List.mem_append_left _ m)) (.head _) fpC fpD DN wrN hal (fun q m => by
        rcases List.mem_cons.mp m with rfl | m
        · exact ⟨.head _, fun m' => fpD (W.sub _ m')⟩
        · exact ⟨hH q m, fun m' => wrH q m' m⟩)
      (F0 := Fz (wr ++ hid env Mu H) s₂.heap) (fun i v s' hi hP S' z => asg (cenvOf env scope H3.objs.size) A i v s' H' Mu (seen scope ρ) hA.h hi hP S' z fun q m => by rw [relabel_local' (hbs i hi q m)]; rfl)
      (fun i hi q m => relabel_local' (hbs i hi q m)) (fun i hi q m => by simp only [seen, hbs i hi q m, if_true]) (fun i hi => tests i hi _) (fun i hi hp t S' ma => hbody i hi hp _ _ H' t (.head _) DN S' ma) hskip S₄ st₄ (hacc0 _ _ _ hgD hacc) z0 fun s' g S' ma kb => ?_
    refine hRR _ _ _ ⟨kp.grew.trans (Grew.trans ⟨_, _, rfl⟩ g), fun b o e => kb b o (fun m => ?_) (s04 b o e), nD, nC, hCD, let ⟨m, a, _⟩ := S'.ns; ⟨m, a⟩, ma.mono fun q m => ?_⟩
    · rcases List.mem_cons.mp m with rfl | m
      · rw [nD] at e; cases e
      · rcases List.mem_cons.mp m with rfl | m
        · have nC : s.heap.get? H3.objs.size = none := nC
          rw [show (cenvOf env scope H3.objs.size).locals = H3.objs.size from rfl, nC] at e; cases e
        · rw [hw b m] at e; cases e
    · rcases List.mem_cons.mp m with rfl | m
      · exact List.mem_append_left _ (.head _)
      · exact List.mem_append_right _ m
  have := loop _ rfl
  refine comp_startG (by rw [hg]; rfl) rfl (ce.us A _ _ _ _) (ce.ds w _ _ _ _) this ?_
  exact self _ _ st₄ (loop _ rfl)
end
end
section
open PySem PySem.W PyProof.Rows PySem.Calls

section
variable {w : World} {k : Nat} {env : Env} {H : List Addr} {Mu : List (Addr × PD)} {ρ : Str → Option PD} {h' : Heap} {e : Expr}

theorem compDoneG_rd {s s' : Shared} {out : PD} {D C : Addr} (S : StE w env H Mu ρ s.heap) (x : CompDoneG w env H Mu s out D C s') (sb : Heap.SameBut C s'.heap h') :
    Sub s.heap h' ∧ MutAt w (D :: hid env Mu H) h' D out := by
  have kb : KB [C] s'.heap h' := KB.same sb (.head _)
  refine ⟨fun b o e => kb b o (fun m => by rw [List.mem_singleton.mp m, x.nC] at e; cases e) (x.sb b o e), x.li.keep (fun o e => kb _ o (fun m => x.ne (List.mem_singleton.mp m).symm) e) ?_⟩
  exact Sub.trans (Fz_mono (kb.mono fun q m => by rw [List.mem_singleton.mp m]; exact .head _)) (Fz_less fun q m => .tail _ m)

/-- as a value -/
theorem post_new {A : Around} {s s' : Shared} {out : PD} {D C : Addr} (S : StE w env H Mu ρ s.heap) (x : CompDoneG w env H Mu s out D C s') :
    compPost (MM w) A NoE none (fun v s' => Kp s s' ∧ ∃ D, v = .ref D ∧ s.heap.get? D = none ∧ MutAt w (D :: hid env Mu H) s'.heap D out) (.ref D) C (.ok .next) s' := by
  obtain ⟨m, n⟩ := x.ns
  refine ⟨m, n, fun h' sb => ?_⟩
  obtain ⟨a, b⟩ := compDoneG_rd S x sb
  obtain ⟨h₁, t₁, rfl⟩ := x.gr
  exact ⟨Kp.to a, D, rfl, x.nD, b⟩
/-- given to a name -/
theorem post_asg {A : Around} {s s' : Shared} {h0 : Heap} {out : PD} {D C : Addr} {y : Str} {yp : Pos} (S : StE w env H Mu ρ s.heap) (B : Ba h0 env Mu s.heap) (x : CompDoneG w env H Mu s out D C s') (hy : env.kindOf y = some .local) :
    compPost (MM w) A NoE (some (assign (.Name y yp) env)) (fun _ s' => Grew s s' ∧ ∃ D, D ∉ H ∧ StE w env H ((D, out) :: Mu) (upd ρ y (.raw (.ref D))) s'.heap ∧ Ba h0 env ((D, out) :: Mu) s'.heap) (.ref D) C (.ok .next) s' := by
  obtain ⟨m, hn⟩ := x.ns
  have nDH : D ∉ H := fun m => by obtain ⟨o, e⟩ := S.hl D m; rw [x.nD] at e; cases e
  have S₂ : StE w env (C :: H) ((D, out) :: Mu) ρ s'.heap := S.introH x.sb x.nD (fun q m => by
      rcases List.mem_cons.mp m with rfl | m
      · exact .inr x.nC
      · exact .inl m) (fun q m => by
      rcases List.mem_cons.mp m with rfl | m
      · obtain ⟨o, _, _, e, _⟩ := hn; exact ⟨o, e⟩
      · obtain ⟨o, e⟩ := S.hl q m; exact ⟨o, x.sb _ _ e⟩) (x.li.mono fun q m => by
    rcases List.mem_cons.mp m with rfl | m
    · exact .tail _ (.head _)
    · rcases List.mem_append.mp m with m | m
      · exact .tail _ (.tail _ (List.mem_append_left _ m))
      · rcases List.mem_cons.mp m with rfl | m
        · exact .head _
        · exact .tail _ (.tail _ (List.mem_append_right _ m)))
  have B₂ : Ba h0 env ((D, out) :: Mu) s'.heap := B.intro x.sb x.nD
  show wpAny _ A (assign (.Name y yp) env (.ref D)) _ _ _
  refine wpAny_assign_Name (wpn (wp_store S₂ (by rw [hy]; rfl) (d := .raw (.ref D)) rfl) fun _ s₃ ⟨g₃, S₃, kbo, kb₃⟩ => ?_)
  have hCL : C ≠ env.locals := fun e => by obtain ⟨_, ⟨o, _, _, e', _⟩, _⟩ := S.ns; rw [← e, x.nC] at e'; cases e'
  refine ⟨m, ?_, fun h₄ sb => ⟨(x.gr.trans g₃).trans ⟨h₄, s₃.toks, rfl⟩, D, nDH, ?_, ?_⟩⟩
  · obtain ⟨o, es, ep, e, rr⟩ := hn
    exact ⟨o, es, ep, kb₃ (fun z mz => by rw [List.mem_singleton.mp mz]; exact hy) _ _ (fun m => hCL (List.mem_singleton.mp m)) e, rr⟩
  · have kC : KB [C] s₃.heap h₄ := KB.same sb (.head _)
    have nown : ∀ q ∈ own env ((D, out) :: Mu), q ≠ C := fun q m e => by
      subst e
      simp only [own, List.map_cons, List.mem_append, List.mem_cons] at m
      rcases m with m | m | m | m
      · exact hCL m
      · obtain ⟨o, e⟩ := S.own_alive q (.tail _ (List.mem_append_left _ m)); rw [x.nC] at e; cases e
      · exact x.ne m
      · obtain ⟨o, e⟩ := S.own_alive q (.tail _ (List.mem_append_right _ m)); rw [x.nC] at e; cases e
    exact S₃.move (Sub.trans (Fz_mono (kC.mono fun q m => by rw [List.mem_singleton.mp m]; exact List.mem_append_right _ (.head _))) (Fz_less fun q m => by
      rcases List.mem_append.mp m with m | m
      · exact List.mem_append_left _ m
      · exact List.mem_append_right _ (.tail _ m))) (fun q m o e => kC q o (fun z => nown q m (List.mem_singleton.mp z)) e) fun q m => by
      obtain ⟨o, e⟩ := S₃.hl q (.tail _ m)
      exact ⟨o, (sb.2 q fun z => by subst z; obtain ⟨o, e⟩ := S.hl q m; rw [x.nC] at e; cases e).trans e⟩
  · have B₃ := B₂.store kbo
    exact ⟨fun b o e => (sb.2 b fun q => by subst q; have := none_back B.sb x.nC; rw [this] at e; cases e).trans (B₃.sb b o e), B₃.no⟩

/-! a dict comprehension -/
theorem dictOf_nil {h : Heap} {D : Addr} (e : h.get? D = some { cls := .type "dict", data := .dict #[] }) : h.DictOf (intKind PR w) D [] := by
  have q := Heap.dictOf_iff.mp (Heap.DictOf.new (knd := intKind PR w) h)
  obtain ⟨o, e', r⟩ := q
  rw [Heap.get?_push_size _ rfl] at e'
  cases e'
  exact Heap.dictOf_iff.mpr ⟨_, e, r⟩
noncomputable def dictTo (kf vf : Nat → Int) : Nat → List (Int × Int)
  | 0 => []
  | i + 1 => storeD (dictTo kf vf i) (kf i) (vf i)
theorem dictTo_len (kf vf : Nat → Int) : ∀ i, (dictTo kf vf i).length ≤ i
  | 0 => Nat.le_refl _
  | i + 1 => by
    have := dictTo_len kf vf i
    have := storeD_length (dictTo kf vf i) (kf i) (vf i)
    rw [dictTo]; omega
theorem dict_body {A : Around} {t : Shared} {env' : Env} {H' : List Addr} {kx vx : Expr} {D C : Addr} {key val : Int} {l : List (Int × Int)} {ps : Pos} (hA : OkA A k) (a : EvD w k env' Mu ρ kx (.int key)) (b : EvD w k env' Mu ρ vx (.int val)) (hz : l.length ≤ 1000)
    (hD : D ∈ H') (hDo : D ∉ own env' Mu) (S : StE w env' H' Mu ρ t.heap) (m : MutAt w (hid env' Mu H') t.heap D (.dict l)) :
    wpAny (MM w) A (do
      let kv ← eval kx env'
      let vv ← holding [kv] (eval vx env')
      standAt ps
      holding [kv, vv] (dictSet D kv vv)) (fun _ t' => Grew t t' ∧ StE w env' H' Mu ρ t'.heap ∧ MutAt w (hid env' Mu H') t'.heap D (.dict (storeD l key val)) ∧ KB [D, C] t.heap t'.heap) NoE t := by
  refine wpAny_bind (wpn (a A H' t hA S) fun kv t₁ ⟨k₁, tk, ek⟩ => ?_)
  subst ek
  refine wpAny_bind (wpAny_holding (wpn (b A H' t₁ hA (S.sub k₁.heap)) fun vv t₂ ⟨k₂, tv, ev⟩ => ?_))
  subst ev
  have kk := k₁.trans k₂
  have S₂ := S.sub kk.heap
  have m₂ : MutAt w (hid env' Mu H') t₂.heap D (.dict l) := m.keep (fun o e => kk.heap _ _ e) (fz_up kk)
  obtain ⟨kvs, lo, p, r⟩ := m₂
  have hl := r.length
  refine wpAny_bind (wpAny_standAt (wpAny_holding ?_))
  refine wpAny_dictSet_pairs (knd := intKind PR w) (k := key) (intKind_is _ _ _ _) p (fun h₄ p₄ sb => ?_) (by rw [sizeLine_eq]; omega)
  have kb : KB [D] t₂.heap h₄ := KB.same sb (.head _)
  have z : Sub (Fz (hid env' Mu H') t₂.heap) (Fz (hid env' Mu H') h₄) := Fz_mono (kb.mono fun q mq => by rw [List.mem_singleton.mp mq]; exact List.mem_append_right _ hD)
  refine ⟨kk.grew.trans ⟨h₄, t₂.toks + 1, rfl⟩, S₂.move z (fun q mq o e => kb q o (fun x => hDo (List.mem_singleton.mp x ▸ mq)) e) (fun q mq => ?_), ⟨_, lo, p₄, r.stored⟩, (KB.of kk.heap).trans (kb.mono fun q mq => by rw [List.mem_singleton.mp mq]; exact .head _)⟩
  by_cases hq : q = D
  · subst hq
    obtain ⟨o, e, _⟩ := Heap.dictOf_iff.mp p₄
    exact ⟨o, e⟩
  · obtain ⟨o, e⟩ := S₂.hl q mq
    exact ⟨o, kb q o (fun x => hq (List.mem_singleton.mp x)) e⟩

theorem turnEq_dict {kx vx target iter : Expr} {ifs : List Expr} {scope : Scope} {pos : Pos} (it : Value) (D : Addr) (env : Env) :
    TurnEq (.DictComp kx vx [⟨target, iter, ifs, 0⟩] scope pos) target iter ifs 0 it (.ref D) env (do
            let kv ← eval kx env
            let vv ← holding [kv] (eval vx env)
            standAt { kx.pos with endLine := vx.pos.endLine, endCol := vx.pos.endCol }
            holding [kv, vv] (dictSet D kv vv)) := compTurn_dict kx vx target iter ifs scope pos it D env
theorem asg_dcomp {y : Str} {yp spos : Pos} {kx vx target iter : Expr} {scope : Scope} {pos : Pos} {n : Nat} {bs : Nat → List (Str × PD)} {kf vf : Nat → Int}
    (it : Itr w k env Mu ρ target iter n bs) (ok : CompOk env scope) (hbs : ∀ i, i < n → ∀ q ∈ bs i, scope.names.lookup q.1 = some .local) (hsz : n ≤ 1000)
    (hkx : ∀ i, i < n → ∀ C, EvD w k (cenvOf env scope C) Mu (updL (seen scope ρ) (bs i)) kx (.int (kf i))) (hvx : ∀ i, i < n → ∀ C, EvD w k (cenvOf env scope C) Mu (updL (seen scope ρ) (bs i)) vx (.int (vf i)))
    (hy : env.kindOf y = some .local)
    (hsw : swapsWith (.DictComp kx vx [⟨target, iter, [], 0⟩] scope pos) (some (.Name y yp)) spos.line env = pure true)
    (hs : ∀ x, foldedSetIterable iter env x = pure x := by intro _; rfl) :
    AsgN w k env Mu ρ (.Assign [.Name y yp] (.DictComp kx vx [⟨target, iter, [], 0⟩] scope pos) spos) y (.dict (dictTo kf vf n)) := fun A H h0 s hA S B => by
  rw [exec_Assign_Name_used _ _ _ _ hsw]
  refine wpAny_bind (wpAny_standAt (wpAny_bind ?_))
  show wpAny _ A (do let _ ← comprehension (.DictComp kx vx [⟨target, iter, [], 0⟩] scope pos) scope env _ newDict false (eval iter env) (some (assign (.Name y yp) env))) _ _ s
  refine wpAny_bind (wpAny_mono (wpAny_comprehension_free (use := some (assign (.Name y yp) env)) (Q := fun _ s' => Grew s s' ∧ ∃ D, D ∉ H ∧ StE w env H ((D, .dict (dictTo kf vf n)) :: Mu) (upd ρ y (.raw (.ref D))) s'.heap ∧ Ba h0 env ((D, .dict (dictTo kf vf n)) :: Mu) s'.heap) rfl hs ok.clo ok.kd ok.names
    (comp_coreG (p := fun _ => true) (acc := fun i => .dict (dictTo kf vf i)) (oAcc := { cls := .type "dict", data := .dict #[] }) (RR := fun acc C => compPost (MM w) A NoE (some (assign (.Name y yp) env)) _ acc C) hA S it ok hbs (compExpr_dict ..) rfl (fun I D env' => turnEq_dict (.ref I) D env')
      (fun s Q q => wpAny_newObj_type q) rfl (fun M h D lt e => ⟨[], beq_eq_false_iff_ne.mpr fun q => (by rw [q] at lt; exact absurd lt (by decide)), dictOf_nil e, trivial⟩) (fun i hi C => tsts_nil) (fun i hi _ C D H' t hD hDo S' m => dict_body hA (hkx i hi C) (hvx i hi C) (Nat.le_trans (dictTo_len kf vf i) (by omega)) hD hDo S' m)
      (fun i hi q => by cases q) fun D C s' x => post_asg S B x hy)) (fun _ s' hq => wpAny_pure (wpAny_pure ⟨rfl, hq⟩)) fun _ _ e => e)
end
end
section
open PySem PySem.W PyProof.Rows PySem.Calls

section
variable {w : World} {k : Nat} {env : Env} {H : List Addr} {Mu : List (Addr × PD)} {ρ : Str → Option PD} {h' : Heap} {e : Expr} {N : Nx} {R : PD → Prop} {rest : List Stmt}

theorem list_body {A : Around} {t : Shared} {env' : Env} {H' : List Addr} {elt : Expr} {D C : Addr} {d : PD} {l : List PD} (hA : OkA A k) (a : EvD w k env' Mu ρ elt d) (hz : l.length ≤ 1000)
    (hD : D ∈ H') (hDo : D ∉ own env' Mu) (S : StE w env' H' Mu ρ t.heap) (m : MutAt w (hid env' Mu H') t.heap D (.list l)) :
    wpAny (MM w) A (do let _ ← call (.builtin "list.append") [.ref D, ← eval elt env']) (fun _ t' => Grew t t' ∧ StE w env' H' Mu ρ t'.heap ∧ MutAt w (hid env' Mu H') t'.heap D (.list (l ++ [d])) ∧ KB [D, C] t.heap t'.heap) NoE t := by
  refine wpAny_bind (wpn (a A H' t hA S) fun v t₁ ⟨k₁, rv⟩ => ?_)
  have S₁ := S.sub k₁.heap
  have m₁ : MutAt w (hid env' Mu H') t₁.heap D (.list l) := m.keep (fun o e => k₁.heap _ _ e) (fz_up k₁)
  obtain ⟨vs, pl, r⟩ := m₁
  have hl := r.length
  refine wpAny_bind (wpAny_list_append_plain pl (fun h₆ p₆ sb₆ => wpAny_pure ?_) (by rw [List.size_toArray, sizeLine_eq]; omega))
  have kb : KB [D] t₁.heap h₆ := KB.same sb₆ (.head _)
  have z : Sub (Fz (hid env' Mu H') t₁.heap) (Fz (hid env' Mu H') h₆) := Fz_mono (kb.mono fun q mq => by rw [List.mem_singleton.mp mq]; exact List.mem_append_right _ hD)
  refine ⟨k₁.grew.trans ⟨h₆, t₁.toks, rfl⟩, S₁.move z (fun q mq o e => kb q o (fun x => hDo (List.mem_singleton.mp x ▸ mq)) e) (fun q mq => ?_), ⟨vs ++ [v], by rw [show (vs ++ [v]).toArray = vs.toArray.push v by simp]; exact p₆, Rds.snoc (r.sub z) (rv.sub z)⟩, (KB.of k₁.heap).trans (kb.mono fun q mq => by rw [List.mem_singleton.mp mq]; exact .head _)⟩
  by_cases hq : q = D
  · subst hq
    obtain ⟨o, e⟩ := p₆
    exact ⟨_, e⟩
  · obtain ⟨o, e⟩ := S₁.hl q mq
    exact ⟨o, kb q o (fun x => hq (List.mem_singleton.mp x)) e⟩

/-- the items that two clauses make -/
noncomputable def nestTo (n2 : Nat → Nat) (f : Nat → Nat → PD) : Nat → List PD
  | 0 => []
  | i + 1 => nestTo n2 f i ++ (List.range (n2 i)).map (f i)
theorem nestTo_len (n2 : Nat → Nat) (f : Nat → Nat → PD) (n : Nat) (h : ∀ i, i < n → n2 i ≤ 30) : ∀ i, i ≤ n → (nestTo n2 f i).length ≤ 30 * i
  | 0, _ => Nat.le_refl _
  | i + 1, hi => by
    have := nestTo_len n2 f n h i (by omega)
    have := h i (by omega)
    rw [nestTo, List.length_append, List.length_map, List.length_range]; omega

theorem turnEq_two {elt t1 i1 t2 i2 : Expr} {scope : Scope} {pos : Pos} (it acc : Value) (env : Env) :
    TurnEq (.ListComp elt [⟨t1, i1, [], 0⟩, ⟨t2, i2, [], 0⟩] scope pos) t1 i1 [] 0 it acc env (do
        let x ← eval i2 env
        standAt i2.pos
        let x ← foldedSetIterable i2 env x
        let _ ← runOwn (.compStart (.ListComp elt [⟨t1, i1, [], 0⟩, ⟨t2, i2, [], 0⟩] scope pos) 1 (← holding [x] (pyIter x)) acc env) env) := by
  unfold TurnEq compTurn
  simp only [List.getElem?_cons_zero, List.getElem?_cons_succ, bind_assoc, pure_bind, bne_self_eq_false, Bool.false_eq_true, if_false]
  rfl
theorem turnEq_two1 {elt t1 i1 t2 i2 : Expr} {scope : Scope} {pos : Pos} (it acc : Value) (env : Env) :
    TurnEq (.ListComp elt [⟨t1, i1, [], 0⟩, ⟨t2, i2, [], 0⟩] scope pos) t2 i2 [] 1 it acc env (do let _ ← call (.builtin "list.append") [acc, ← eval elt env]) := by
  unfold TurnEq
  rfl

theorem new_comp2 {elt t1 i1 t2 i2 : Expr} {scope : Scope} {pos : Pos} {n : Nat} {n2 : Nat → Nat} {bs : Nat → List (Str × PD)} {bs2 : Nat → Nat → List (Str × PD)} {f : Nat → Nat → PD}
    (it : Itr w k env Mu ρ t1 i1 n bs) (ok : CompOk env scope) (hbs : ∀ i, i < n → ∀ q ∈ bs i, scope.names.lookup q.1 = some .local) (hsz : n ≤ 30) (hsz2 : ∀ i, i < n → n2 i ≤ 30)
    (it2 : ∀ i, i < n → ∀ C, Itr w k (cenvOf env scope C) Mu (updL (seen scope ρ) (bs i)) t2 i2 (n2 i) (bs2 i))
    (hbs2 : ∀ i, i < n → ∀ j, j < n2 i → ∀ q ∈ bs2 i j, scope.names.lookup q.1 = some .local ∧ q.1 ∉ (bs i).map (·.1))
    (el : ∀ i, i < n → ∀ j, j < n2 i → ∀ C, EvD w k (cenvOf env scope C) Mu (updL (updL (seen scope ρ) (bs i)) (bs2 i j)) elt (f i j))
    (hs : ∀ x, foldedSetIterable i1 env x = pure x := by intro _; rfl) (hs2 : ∀ env x, foldedSetIterable i2 env x = pure x := by intro _ _; rfl) :
    EvNew w k env Mu ρ (.ListComp elt [⟨t1, i1, [], 0⟩, ⟨t2, i2, [], 0⟩] scope pos) (.list (nestTo n2 f n)) := fun A H s hA S => by
  rw [eval_ListComp]
  refine wpAny_comprehension_free (use := none) rfl hs ok.clo ok.kd ok.names (comp_coreG (p := fun _ => true) (acc := fun i => .list (nestTo n2 f i)) (oAcc := { cls := .type "list", data := .seq ([] : List Value).toArray }) (RR := fun acc C => compPost (MM w) A NoE none _ acc C) hA S it ok hbs (compExpr_list ..) rfl (fun I D env' => turnEq_two (.ref I) (.ref D) env')
      (fun s Q q => wpAny_newObj_type q) rfl (fun M h D _ e => ⟨[], ⟨_, e⟩, Rds.nil⟩) (fun i hi C => tsts_nil) ?_ (fun i hi q => by cases q) fun D C s' x => post_new S x)
  intro i hi _ C D H' t hD hDo S' m
  have hlen := nestTo_len n2 f n hsz2 i (by omega)
  have h2 := hsz2 i hi
  refine wpAny_bind (wpn (it2 i hi C A H' t hA S') fun xv t₁ x => wpAny_bind (wpAny_standAt (wpAny_bind (wpAny_of_eq (hs2 _ _) (wpAny_bind (wpAny_holding (wpn x fun itv s₂ ⟨kp, I, fp, wr, P, Md, Sti, e', W, st, hw, hal, hfp, self, asg⟩ => ?_)))))))
  subst e'
  refine wpAny_bind (wpAny_runOwn ?_)
  have hwo : ∀ q ∈ wr, q ∉ hid (cenvOf env scope C) Mu H' := fun q mq m' => by obtain ⟨o, e⟩ := S'.alive q m'; rw [hw q mq] at e; cases e
  have z0 : Sub (Fz (hid (cenvOf env scope C) Mu H') t.heap) (Fz (hid (cenvOf env scope C) Mu (wr ++ H')) s₂.heap) := Fz_more' (.of kp.heap) fun q mq n' => by
    rcases List.mem_append.mp mq with mq | mq
    · exact absurd (List.mem_append_left _ mq) n'
    · rcases List.mem_append.mp mq with mq | mq
      · exact hw q mq
      · exact absurd (List.mem_append_right _ mq) n'
  have S₂ : StE w (cenvOf env scope C) (wr ++ H') Mu (updL (seen scope ρ) (bs i)) s₂.heap := S'.move z0 (fun q mq o e => kp.heap q o e) fun q mq => by
    rcases List.mem_append.mp mq with mq | mq
    · exact hal _ _ st q (W.sub q mq)
    · obtain ⟨o, e⟩ := S'.hl q mq; exact ⟨o, kp.heap _ _ e⟩
  have loop : codeAny (MM w) A (.compLoop (.ListComp elt [⟨t1, i1, [], 0⟩, ⟨t2, i2, [], 0⟩] scope pos) 1 (.ref I) (.ref D) (cenvOf env scope C)) (fun r s' => match r with
      | .ok fl => wpAny (MM w) A (pure ()) (fun _ t' => Grew t t' ∧ StE w (cenvOf env scope C) H' Mu (updL (seen scope ρ) (bs i)) t'.heap ∧ MutAt w (hid (cenvOf env scope C) Mu H') t'.heap D (.list (nestTo n2 f (i + 1))) ∧ KB [D, C] t.heap t'.heap) NoE s'
      | .error e => False) s₂ := by
    refine loopG (H' := wr ++ H') (Hf := H') (acc := fun j => .list (nestTo n2 f i ++ (List.range j).map (f i))) (p := fun _ => true) (bs := bs2 i) hA (turnEq_two1 (.ref I) (.ref D) _) (fun A => (compExpr_list _ _ _ _).ul A _ _ _ _) ((compExpr_list _ _ _ _).dl w _ _ _ _) W
      (fun q mq => List.mem_append_left _ mq) (List.mem_append_right _ hD) (fun m' => hfp _ m' (List.mem_append_left _ (.head _))) (fun m' => hfp _ m' (List.mem_append_right _ hD)) hDo (fun q mq m' => hwo q mq (List.mem_append_left _ m')) hal
      (fun q mq => ⟨List.mem_append_right _ mq, fun m' => hwo q m' (List.mem_append_right _ mq)⟩)
      (F0 := Fz (wr ++ hid (cenvOf env scope C) Mu H') s₂.heap) (fun j v s' hj hP Sj z => asg (cenvOf env scope C) A j v s' (wr ++ H') Mu _ hA.h hj hP Sj z fun q mq => by rw [relabel_local' (hbs2 i hi j hj q mq).1]; rfl)
      (fun j hj q mq => relabel_local' (hbs2 i hi j hj q mq).1) (fun j hj q mq => by
        rw [updL_other (hbs2 i hi j hj q mq).2]
        simp only [seen, (hbs2 i hi j hj q mq).1, if_true]) (fun j hj => tsts_nil) (fun j hj _ tt Sj mj => ?_) (fun j hj q => by cases q) S₂ st ?_ (Fz_less fun q mq => ?_) fun s' g Sf mf kb => wpAny_pure ⟨kp.grew.trans g, Sf, mf, fun b o nb e => kb b o (fun mb => ?_) (kp.heap b o e)⟩
    · have e1 : nestTo n2 f i ++ (List.range (j + 1)).map (f i) = (nestTo n2 f i ++ (List.range j).map (f i)) ++ [f i j] := by
        rw [List.range_succ, List.map_append, List.append_assoc]; rfl
      rw [e1]
      exact list_body hA (el i hi j hj C) (by rw [List.length_append, List.length_map, List.length_range]; omega) (List.mem_append_right _ hD) hDo Sj mj
    · rw [show nestTo n2 f i ++ (List.range 0).map (f i) = nestTo n2 f i by simp]
      exact m.keep (fun o e => kp.heap _ _ e) z0
    · rcases List.mem_append.mp mq with mq | mq
      · exact List.mem_append_right _ (List.mem_append_left _ mq)
      · rcases List.mem_append.mp mq with mq | mq
        · exact List.mem_append_left _ mq
        · exact List.mem_append_right _ (List.mem_append_right _ mq)
    · rcases List.mem_cons.mp mb with rfl | mb
      · exact nb (.head _)
      · rcases List.mem_cons.mp mb with rfl | mb
        · exact nb (.tail _ (.head _))
        · rw [hw b mb] at e; cases e
  have fin := comp_startG (A := A) (prog := PR) (w := w) (dp := 1) (g := ⟨t2, i2, [], 0⟩) (by rfl) rfl ((compExpr_list _ _ _ _).us A _ _ _ _) ((compExpr_list _ _ _ _).ds w _ _ _ _) loop (self _ _ st loop)
  refine codeAny_mono (show codeAny (MM w) (A.mark none) _ _ _ from fin) fun r s' y => ?_
  cases r with
  | ok f => exact y
  | error e => exact y.elim

/-- x, y = a, b by way of a tuple -/
theorem ex_unpackM {st : Stmt} {xs : List (Str × Pos)} {elts es : List Expr} {j j' : Nat} {tp vp pos : Pos} {P : List (Addr × PD) → List PD → Prop} (hst : st = .Assign [.Tuple elts j tp] (.Tuple es j' vp) pos) (a : ArgsM w k env Mu ρ vp es P) (hP : ∀ Mu' ds, P Mu' ds → ds.length = xs.length ∧ ds.length ≤ 1000)
    (he : (assignEach elts env).map (·.2) = xs.map fun p => assign (.Name p.1 p.2) env) (hstar : (assignEach elts env).findIdx? (·.1) = none)
    (hk : ∀ p ∈ xs, okN env p.1) (b : ∀ Mu' ds, P Mu' ds → Ex w k env Mu' (updL ρ ((xs.map (·.1)).zip ds)) rest N R)
    (hs : swapsWithSole [.Tuple elts j tp] (.Tuple es j' vp) pos.line env = pure false) (hw : swappedStores [.Tuple elts j tp] (.Tuple es j' vp) env = pure none) :
    Ex w k env Mu ρ (st :: rest) N R := by
  subst hst
  exact @ex_cons w k env Mu ρ N (fun Mu' ρ' => ∃ ds, P Mu' ds ∧ ρ' = updL ρ ((xs.map (·.1)).zip ds)) R _ rest (fun A H h0 s hA S B => by
    refine Assign_Tuple (Tuple_ (wpn (a A H h0 s hA S B) fun vs s₁ ⟨k₁, Mu', ds, p, S₁, B₁, f, r⟩ => ?_)) hs hw
    obtain ⟨hlen, hz⟩ := hP _ _ p
    have hl := r.length
    refine wpAny_newObj_type ?_ (by show vs.toArray.size ≤ sizeLine; rw [List.size_toArray, sizeLine_eq]; omega)
    have sp := sub_push s₁.heap { cls := .type "tuple", data := .seq vs.toArray }
    have ht : IsTup (s₁.heap.push { cls := .type "tuple", data := .seq vs.toArray }) s₁.heap.objs.size vs.toArray := ⟨_, Heap.get?_push_size _ rfl, rfl, _, rfl⟩
    have hn : (assignEach elts env).length = vs.toArray.size := by
      have := congrArg List.length he
      rw [List.length_map, List.length_map] at this
      rw [List.size_toArray]; omega
    refine assign_Tuple_tuple (s := { s₁ with heap := s₁.heap.push _ }) hA.h ht hn hstar fun h₂ e₂ => ?_
    rw [he]
    have s₂ : Sub s₁.heap h₂ := Sub.trans sp (sub_extBut e₂)
    refine wpn (asg_all xs ds vs Mu' ρ { s₁ with heap := h₂ } (S₁.sub s₂) (r.sub (Fz_mono (.of s₂))) hlen.symm hk) fun _ s₃ ⟨g₃, S₃, kb⟩ => ?_
    exact ⟨(k₁.grew.trans ⟨h₂, s₁.toks, rfl⟩).trans g₃, _, _, ⟨ds, p, rfl⟩, S₃, (B₁.sub s₂).store kb⟩) fun Mu' ρ' ⟨ds, p, e⟩ => by subst e; exact b Mu' ds p
end
end
section
open PySem PySem.W PyProof.Rows PySem.Calls
/-! points struck out -/
noncomputable def laterZ (ties : List (List Int)) (order : List Int) (i : Nat) : List Int := (order.drop (i + 1)).filter fun o => decide (o ∈ nb ties (order.getD i 0))
noncomputable def tieOne (later : List Int) (t : List (List Int)) (o : Int) : List (List Int) := t.set o.toNat (nb t o ++ later.filter fun x => (x != o) && !decide (x ∈ nb t o))
noncomputable def tieAll (ties : List (List Int)) (later : List Int) : List (List Int) := later.foldl (tieOne later) ties
noncomputable def tiesS (nr : List (List Int)) (order : List Int) : Nat → List (List Int)
  | 0 => nr
  | i + 1 => tieAll (tiesS nr order i) (laterZ (tiesS nr order i) order i)
noncomputable abbrev laterS (nr : List (List Int)) (order : List Int) (i : Nat) : List Int := laterZ (tiesS nr order i) order i
noncomputable def tableS (nr : List (List Int)) (order : List Int) (i : Nat) : List (Int × Int) := dictTo (fun j => pairZ (order.getD i 0) ((laterS nr order i).getD j 0)) (fun _ => 1) (laterS nr order i).length
noncomputable def cntS (nr : List (List Int)) (order : List Int) : Nat → Int
  | 0 => 0
  | i + 1 => (laterS nr order i).length + cntS nr order i
noncomputable def sqS (nr : List (List Int)) (order : List Int) : Nat → Int
  | 0 => 0
  | i + 1 => ((laterS nr order i).length : Int) ^ 2 + sqS nr order i
noncomputable def dicS (nr : List (List Int)) (order : List Int) : Nat → List (Int × Int)
  | 0 => []
  | i + 1 => addZ (dicS nr order i) (tableS nr order i)

structure SI (ties : List (List Int)) : Prop where
  len : ties.length = 6
  pts : ∀ x, Pts (nb ties x)
theorem SI.one {t : List (List Int)} {later : List Int} {o : Int} (T : SI t) (P : Pts later) (ho : 0 ≤ o ∧ o < 6) : SI (tieOne later t o) := by
  refine ⟨by rw [tieOne, List.length_set, T.len], fun x => ?_⟩
  rw [tieOne, nb_set (by rw [T.len]; omega)]
  split
  · refine ⟨List.nodup_append.mpr ⟨(T.pts o).nd, P.nd.filter _, fun x hx y hy e => ?_⟩, fun x hx => ?_⟩
    · subst e
      have := (List.mem_filter.mp hy).2
      simp only [Bool.and_eq_true, Bool.not_eq_true', decide_eq_false_iff_not] at this
      exact this.2 hx
    · rcases List.mem_append.mp hx with h | h
      · exact (T.pts o).rg x h
      · exact P.rg x (List.mem_filter.mp h).1
  · exact T.pts x
theorem SI.fold {later : List Int} (P : Pts later) : ∀ (l : List Int) {t : List (List Int)}, SI t → (∀ o ∈ l, 0 ≤ o ∧ o < 6) → SI (l.foldl (tieOne later) t)
  | [], _, T, _ => T
  | o :: l, _, T, h => by
    rw [List.foldl_cons]
    exact SI.fold P l (T.one P (h o (.head _))) fun x m => h x (.tail _ m)
theorem later_pts {ties : List (List Int)} {order : List Int} (P : Pts order) (i : Nat) : Pts (laterZ ties order i) :=
  ⟨(P.nd.sublist (List.drop_sublist _ _)).filter _, fun x hx => P.rg x (List.mem_of_mem_drop (List.mem_filter.mp hx).1)⟩
theorem tiesS_si {nr : List (List Int)} {order : List Int} (N : NearOk nr) (P : Pts order) : ∀ i, SI (tiesS nr order i)
  | 0 => ⟨N.len, fun x => ⟨N.nd x, N.rg x⟩⟩
  | i + 1 => by
    have T := tiesS_si N P i
    exact SI.fold (later_pts P i) _ T (later_pts P i).rg
theorem dicS_len {nr : List (List Int)} {order : List Int} (P : Pts order) : ∀ i, (dicS nr order i).length ≤ 6 * i
  | 0 => Nat.le_refl _
  | i + 1 => by
    have h1 := dicS_len (nr := nr) P i
    have h2 := dictTo_len (fun j => pairZ (order.getD i 0) ((laterS nr order i).getD j 0)) (fun _ => 1) (laterS nr order i).length
    have h3 : (laterS nr order i).length ≤ 6 := (later_pts (ties := tiesS nr order i) P i).len
    have h4 := addZ_len (dicS nr order i) (tableS nr order i)
    have h5 : (tableS nr order i).length ≤ (laterS nr order i).length := h2
    rw [dicS]
    omega
theorem pickD_drop (ds : List PD) (a : Nat) (h : a ≤ ds.length) : pickD ds (some (a : Int)) none none = ds.drop a := by
  have hb : sliceBounds (some (a : Int)) none none ds.length = ((a : Int), (ds.length : Int), (1 : Int)) := by
    unfold sliceBounds
    simp
    omega
  unfold pickD
  rw [hb]
  dsimp only
  have := pick_run ds.toArray a (ds.length - a)
  rw [sliceRange_one]
  simp only [List.getElem?_toArray] at this
  rw [this, List.take_of_length_le (by simp)]

section
variable {w : World} {k : Nat} {env : Env} {H : List Addr} {Mu : List (Addr × PD)} {ρ : Str → Option PD} {h : Heap} {e : Expr} {d : PD} {N : Nx} {R : PD → Prop} {rest : List Stmt}
theorem EvNew.eq {d d' : PD} (t : EvNew w k env Mu ρ e d) (h : d = d') : EvNew w k env Mu ρ e d' := h ▸ t
/-- a row of ties that change -/
theorem ev_nearM {l i : Expr} {pos : Pos} {D : Addr} {nr : List (List Int)} {x : Int} (hn : nr.length = 6) (a : EvD w k env Mu ρ l (.raw (.ref D))) (m : (D, nearD nr) ∈ Mu) (b : EvD w k env Mu ρ i (.int x)) (h0 : 0 ≤ x) (hx : x < 6)
    (hs : ∀ o v, subscripted i false o v = operate [o, v] (getItem o v) := by intro _ _; with_unfolding_all rfl) : EvD w k env Mu ρ (.Subscript l i pos) (.ints (nb nr x)) :=
  ev_item a (.mut m) b h0 (near_get (i := x.toNat) (by omega)) (by omega) hs

noncomputable abbrev sE (nr : List (List Int)) (order : List Int) (i : Nat) : PD := entD i (cntS nr order i) (sqS nr order i) 0 (dicS nr order i)
set_option maxRecDepth 100000 in
set_option maxHeartbeats 4000000 in
theorem struck_ok {nr : List (List Int)} {order : List Int} (N : NearOk nr) (O : OrdOk order) : CallD w (k + 3) (.ref 124) [nearD nr, .ints order] (sE nr order order.length) := by
  refine call_fn (names := ["near", "order"]) (es := [nearD nr, .ints order]) (by (walk_at "mu")) ?hcd ?hb ?bd ?hkind ?hnd rfl ?hcn ?_ ?_ ?_
  case hcd => (walk_at "mu")
  case hkind => (walk_at "mu")
  case hb => exact hb_plain fun vs h => by obtain ⟨x, y, rfl⟩ := len_two h; (walk_at "mu")
  case hnd => decide
  case hcn => decide
  case bd =>
    intro L
    have ho := O.pts.len
    with_reducible refine ex_unpackM (P := fun Mu' ds => ∃ D, Mu' = [(D, nearD nr)] ∧ ds = [.raw (.ref D), entD 0 0 0 0 []]) (xs := [("ties", ⟨112, 4, 112, 8⟩), ("entry", ⟨112, 10, 112, 15⟩)]) rfl ?ha ?hP ?he ?hstar ?hk ?hbb ?hs ?hw
    case hP => rintro Mu' ds ⟨D, rfl, rfl⟩; exact ⟨rfl, by simp⟩
    case he => rfl
    case hstar => rfl
    case hs => rfl
    case hw => rfl
    case hk =>
      intro p hp
      simp only [List.mem_cons, List.not_mem_nil, or_false] at hp
      rcases hp with rfl | rfl <;> (walk_at "mu")
    case ha =>
      refine argsM_new (d := nearD nr) ?hc fun D => argsM_old (d := entD 0 0 0 0 []) ?ht (argsM_nil ⟨D, rfl, rfl⟩)
      case ht => exact ev_tuple (args_cons (by (walk_at "mev")) (args_cons (by (walk_at "mev")) (args_cons (by (walk_at "mev")) (args_cons (by (walk_at "mev")) (args_cons new_dict.ev args_nil))))) (by simp)
      case hc =>
        have e0 : PD.list (outOf (fun _ => true) (fun j => PD.ints (nr.getD j [])) nr.length) = nearD nr := by
          rw [outOf_all (fun _ => true) PD.ints [] nr, List.filter_eq_self.mpr (fun _ _ => rfl)]
        refine EvNew.eq (new_comp (n := nr.length) (bs := fun j => [("row", PD.ints (nr.getD j []))]) ?it2 (by (walk_at "mcok")) (by (walk_at "mhk")) (by rw [N.len]; decide) (fun j hj C => tsts_nil) ?el2) e0
        case it2 => exact itr_map (l := nr) (f := PD.ints) [] (by (walk_at "mnm"))
        case el2 =>
          intro j hj _ C
          exact ev_call (by (walk_at "mnm")) (by (walk_at "mcal")) (args_cons (by (walk_at "mnm")) args_nil) (cd_list (by rw [List.length_map]; have := nb_len N (j : Int); rw [nb, Int.toNat_natCast] at this; omega))
    case hbb =>
      rintro Mu' ds ⟨D, rfl, rfl⟩
      refine ex_can [("order", .ints order), ("ties", .raw (.ref D)), ("entry", sE nr order 0)] (by (walk_at "mcan")) ?_
      refine ex_for (n := order.length) (bs := fun i => [("place", .int i), ("point", .int (order.getD i 0))]) (J := fun i Mu' ρ' => Mu' = [(D, nearD (tiesS nr order i))] ∧ ρ' = rL [("order", .ints order), ("ties", .raw (.ref D)), ("entry", sE nr order i)]) ?it (by (walk_at "mhk")) ⟨rfl, rfl⟩ ?_ ?_
      case it => exact itr_enumI (ns := order) (by (walk_at "mnm")) (by (walk_at "mnm"))
      · rintro i Mu' ρ' hi ⟨rfl, rfl⟩
        have hx := O.pts.rg _ (getD_mem hi)
        have T := tiesS_si N O.pts i
        have PL := later_pts (ties := tiesS nr order i) O.pts i
        have hl6 := PL.len
        have hdl := dicS_len (nr := nr) O.pts i
        have htl := dictTo_len (fun j => pairZ (order.getD i 0) ((laterS nr order i).getD j 0)) (fun _ => 1) (laterS nr order i).length
        refine ex_can (("place", .int i) :: ("point", .int (order.getD i 0)) :: [("order", .ints order), ("ties", .raw (.ref D)), ("entry", sE nr order i)]) (by (walk_at "mcan")) ?_
        refine ex_old (asg_comp (n := (order.drop (i + 1)).length) (bs := fun j => [("other", .int ((order.drop (i + 1)).getD j 0))]) (p := fun j => decide ((order.drop (i + 1)).getD j 0 ∈ nb (tiesS nr order i) (order.getD i 0))) (f := fun j => .int ((order.drop (i + 1)).getD j 0)) ?it2 (by (walk_at "mcok")) (by (walk_at "mhk")) (by rw [List.length_drop]; omega) (fun j hj C => tsts_one ?ts2) ?el2 (by (walk_at "mu")) (by (walk_at "mu"))) ?_
        case it2 =>
          refine itr_ints (l := order.drop (i + 1)) ?_
          refine (ev_slice (ds := order.map .int) (x := some ((i + 1 : Nat) : Int)) (y := none) (z := none) (by (walk_at "mnm")) .fro (evp_some ?sq) evp_none evp_none (by simp) (by rw [List.length_map]; omega)).eq ?seq
          case sq => exact (ev_bin (dl := .int i) (dr := .int 1) (by (walk_at "mnm")) (by (walk_at "mev")) op_add).eq (by simp)
          case seq => rw [pickD_drop _ _ (by rw [List.length_map]; omega), ← List.map_drop]
        case ts2 => exact tst_in (by (walk_at "mnm")) (ev_nearM T.len (by (walk_at "mnm")) (.head _) (by (walk_at "mnm")) hx.1 hx.2) .fro
        case el2 =>
          intro j hj _ C
          (walk_at "mnm")
        rw [outOf_all (fun o => decide (o ∈ nb (tiesS nr order i) (order.getD i 0))) PD.int 0, show (order.drop (i + 1)).filter (fun o => decide (o ∈ nb (tiesS nr order i) (order.getD i 0))) = laterS nr order i from rfl]
        have tb : tableS nr order i = dictTo (fun j => pairZ (order.getD i 0) ((laterS nr order i).getD j 0)) (fun _ => 1) (laterS nr order i).length := rfl
        have ce : sE nr order (i + 1) = entD (i + 1 : Nat) ((laterS nr order i).length + cntS nr order i) (((laterS nr order i).length : Int) ^ 2 + sqS nr order i) 0 (addZ (dicS nr order i) (tableS nr order i)) := rfl
        have c4 : tiesS nr order (i + 1) = (laterS nr order i).foldl (tieOne (laterS nr order i)) (tiesS nr order i) := rfl
        have hl6 : (laterS nr order i).length ≤ 6 := hl6
        have PL : Pts (laterS nr order i) := PL
        have htl : (tableS nr order i).length ≤ (laterS nr order i).length := htl
        rw [ce, c4]
        generalize laterS nr order i = later at tb hl6 PL htl ⊢
        refine ex_can (("point", .int (order.getD i 0)) :: ("later", .ints later) :: [("order", .ints order), ("ties", .raw (.ref D)), ("entry", sE nr order i)]) (by (walk_at "mcan")) ?_
        refine ex_for (n := later.length) (bs := fun j => [("other", .int (later.getD j 0))]) (J := fun j Mu' ρ' => Mu' = [(D, nearD ((later.take j).foldl (tieOne later) (tiesS nr order i)))] ∧ ρ' = rL (("point", .int (order.getD i 0)) :: ("later", .ints later) :: [("order", .ints order), ("ties", .raw (.ref D)), ("entry", sE nr order i)])) ?it3 (by (walk_at "mhk")) ⟨rfl, rfl⟩ ?_ ?_
        case it3 => exact itr_ints (by (walk_at "mnm"))
        · rintro j Mu' ρ' hj ⟨rfl, rfl⟩
          have T2 : SI ((later.take j).foldl (tieOne later) (tiesS nr order i)) := SI.fold PL _ T fun x m => PL.rg x (List.mem_of_mem_take m)
          have hor := PL.rg _ (getD_mem hj)
          rw [take_snoc hj 0, List.foldl_append, List.foldl_cons, List.foldl_nil]
          generalize later.getD j 0 = o at hor ⊢
          generalize (later.take j).foldl (tieOne later) (tiesS nr order i) = t at T2 ⊢
          have hro := (T2.pts o).len
          have hfl := List.length_filter_le (fun x => (x != o) && !decide (x ∈ nb t o)) later
          refine ex_can (("other", .int o) :: ("point", .int (order.getD i 0)) :: ("later", .ints later) :: [("order", .ints order), ("ties", .raw (.ref D)), ("entry", sE nr order i)]) (by (walk_at "mcan")) ?_
          refine ex_setitem (i := 0) (D := D) (ds := t.map PD.ints) (d := .ints (nb t o ++ later.filter fun x => (x != o) && !decide (x ∈ nb t o))) (j := o) rfl ?sb (by (walk_at "mnm")) (by (walk_at "mnm")) hor.1 (by rw [List.length_map, T2.len]; omega) (by rw [List.length_map, T2.len]; omega) ?_
          case sb =>
            refine (ev_concat (ds := (nb t o).map .int) (es := (later.filter fun x => (x != o) && !decide (x ∈ nb t o)).map .int) (ev_nearM T2.len (by (walk_at "mnm")) (.head _) (by (walk_at "mnm")) hor.1 hor.2) .fro ?cc .fro (by rw [List.length_map, List.length_map]; omega)).ev.eq (by rw [← List.map_append])
            case cc =>
              refine (EvNew.ev (new_comp (n := later.length) (bs := fun j => [("one", .int (later.getD j 0))]) (p := fun j => (later.getD j 0 != o) && !decide (later.getD j 0 ∈ nb t o)) (f := fun j => .int (later.getD j 0)) ?it4 (by (walk_at "mcok")) (by (walk_at "mhk")) (by omega) (fun j hj C => tsts_one ?ts4) ?el4)).eq ?eq4
              case it4 => exact itr_ints (by (walk_at "mnm"))
              case ts4 => exact tst_and (tst_cmp (by (walk_at "mnm")) (by (walk_at "mnm")) op_ne) fun _ => tst_notin (by (walk_at "mnm")) (ev_nearM T2.len (by (walk_at "mnm")) (.head _) (by (walk_at "mnm")) hor.1 hor.2) .fro
              case el4 =>
                intro j hj _ C
                (walk_at "mnm")
              case eq4 => rw [outOf_all (fun x => (x != o) && !decide (x ∈ nb t o)) PD.int 0]
          refine ex_can _ (by (walk_at "mcan")) (ex_nil ⟨?_, rfl⟩)
          show [(D, PD.list ((t.map PD.ints).set o.toNat (.ints _)))] = [(D, PD.list ((tieOne later t o).map PD.ints))]
          rw [tieOne, List.map_set]
        · rintro Mu' ρ' ⟨rfl, rfl⟩
          rw [List.take_of_length_le (Nat.le_refl _)]
          refine ex_old (asg_dcomp (n := later.length) (bs := fun j => [("other", .int (later.getD j 0))]) (kf := fun j => pairZ (order.getD i 0) (later.getD j 0)) (vf := fun _ => 1) ?it5 (by (walk_at "mcok")) (by (walk_at "mhk")) (by omega) ?kx5 ?vx5 (by (walk_at "mu")) (by (walk_at "mu"))) ?_
          case it5 => exact itr_ints (by (walk_at "mnm"))
          case kx5 =>
            intro j hj C
            exact ev_call (by (walk_at "mnm")) (by (walk_at "mcal")) (args_cons (by (walk_at "mnm")) (args_cons (by (walk_at "mnm")) args_nil)) pair_ok
          case vx5 =>
            intro j hj C
            (walk_at "mev")
          rw [← tb]
          refine ex_can (("later", .ints later) :: ("table", .dict (tableS nr order i)) :: [("order", .ints order), ("ties", .raw (.ref D)), ("entry", sE nr order i)]) (by (walk_at "mcan")) ?_
          refine ex_assign (d := entD (i + 1 : Nat) (later.length + cntS nr order i) ((later.length : Int) ^ 2 + sqS nr order i) 0 (addZ (dicS nr order i) (tableS nr order i))) ?sv (ex_can _ (by (walk_at "mcan")) (ex_nil ⟨rfl, rfl⟩)) (by (walk_at "mu"))
          refine EvD.eq (ev_call (by (walk_at "mnm")) (by (walk_at "mcal")) (args_cons (by (walk_at "mnm")) (args_cons (d := entD 1 later.length ((later.length : Int) ^ 2) 0 (tableS nr order i)) ?tup args_nil)) (stats_ok (by omega))) ?teq
          case teq =>
            rw [show (1 : Int) + (i : Nat) = ((i + 1 : Nat) : Int) by omega]; rfl
          case tup =>
            refine ev_tuple (args_cons (by (walk_at "mev")) (args_cons ?l1 (args_cons ?l2 (args_cons (by (walk_at "mev")) (args_cons (by (walk_at "mnm")) args_nil))))) (by simp)
            case l1 => exact ev_call (by (walk_at "mnm")) (by (walk_at "mcal")) (args_cons (by (walk_at "mnm")) args_nil) (cd_lenI (by omega))
            case l2 => exact ev_bin (ev_call (by (walk_at "mnm")) (by (walk_at "mcal")) (args_cons (by (walk_at "mnm")) args_nil) (cd_lenI (by omega))) (by (walk_at "mev")) (op_pow (i := (later.length : Int)) (j := 2) (by decide) (by decide) (by omega))
      · rintro Mu' ρ' ⟨rfl, rfl⟩
        exact ex_return (by (walk_at "mnm")) rfl
  all_goals rfl
end
end
section
set_option maxRecDepth 100000
open PySem PySem.W PyProof.Rows PySem.Calls

namespace BA
theorem mro : mroOf (.type "bytearray") = pure [.type "bytearray", .type "object"] := by rw [mroOf_type]; kernel_rfl
theorem lookup_new : typeLookup (.type "bytearray") "__new__" = pure (some (.builtin "bytearray.__new__")) := by rw [typeLookup_type, builtinLookup_eq_fast]; kernel_rfl
theorem slot_init : Slot "bytearray" "__init__" "bytearray.__init__" :=
  .of (owner := "bytearray") (n := "__init__") (by rw [typeLookup_type, builtinLookup_eq_fast]; kernel_rfl) (by decide +kernel) (by decide +kernel) (by decide +kernel)
    (by first | exact .inl (by decide +kernel) | exact .inr (by decide +kernel)) (by rw [isSubtype_type]; kernel_rfl)
theorem called : TypeCalled "bytearray" "bytearray.__new__" "bytearray.__init__" :=
  ⟨by decide +kernel, by decide +kernel, ⟨_, _, mro⟩, madeBy_type mro lookup_new (by decide +kernel), by decide +kernel, by rw [isSubtype_type]; kernel_rfl, slot_init⟩
theorem typeCall (a : Value) : checkTypeCall "bytearray" ⟨[a], []⟩ = pure () := by kernel_rfl
theorem newCall (a : Value) : checkBuiltinCall "bytearray.__new__" ⟨[.type "bytearray", a], []⟩ = pure () := by kernel_rfl
theorem entry_init : entryFor table "bytearray.__init__" = some Builtin.«bytearray.__init__» := by first | exact entryFor_of_fast (by kernel_rfl) | exact entryFor_of_tree (by kernel_rfl)
theorem lookup_rel : typeLookup (.type "bytearray") (Str.ofString "__release_buffer__") = pure (some (.builtin "bytearray.__release_buffer__")) := by rw [typeLookup_type, builtinLookup_eq_fast]; kernel_rfl
theorem sub_self : isSubtype (.type "bytearray") (.type "bytearray") = pure true := by rw [isSubtype_type]; kernel_rfl
theorem bind1 (v : Value) : Builtin.Bytes.bindOptional "bytearray.__init__" "bytearray" ["source", "encoding", "errors"] [v] [] = pure [some v, none, none] := by kernel_rfl
theorem entry_new : entryFor table "bytearray.__new__" = some Builtin.«list.__new__» := entryFor_alias (id' := "list.__new__") (by kernel_rfl) rfl (by decide +kernel) (by kernel_rfl)
theorem plain_new : plainId "bytearray.__new__" = true := by decide +kernel
theorem args_init (v a : Value) : argsOk "bytearray.__init__" ⟨[v, a], []⟩ := by unfold argsOk; kernel_rfl
set_option maxHeartbeats 4000000 in
theorem owner_new : ("bytearray.__new__".splitOn ".__new__").headD "" = "bytearray" := by simp +decide [String.splitOn, String.splitOnAux]
theorem rel_ends : ("bytearray.__release_buffer__").endsWith ("." ++ "__release_buffer__") = true := by decide +kernel
theorem rel_drop : ("bytearray.__release_buffer__").dropRight ("__release_buffer__".length + 1) = "bytearray" := by decide +kernel
theorem lookup_index : typeLookup (.type "int") (Str.ofString "__index__") = pure (some (.builtin "int.__index__")) := by rw [typeLookup_type, builtinLookup_eq_fast]; kernel_rfl
theorem init_nd (args : Args) (q : Pos) : isDec (.builtin "bytearray.__init__" args, q) = false := by
  show decId "bytearray.__init__" = false
  decide +kernel
theorem typ_nd (args : Args) (q : Pos) : isDec (.builtin "type.__call__" args, q) = false := by
  show decId "type.__call__" = false
  decide +kernel
end BA

end
section
set_option maxRecDepth 100000
noncomputable abbrev Sub' (h h' : PySem.Heap) : Prop := ∀ b o, h.get? b = some o → h'.get? b = some o
open PySem PySem.W PyProof.Rows PySem.Calls
section
variable {prog : Program} {w : World} {A : Around} {s : Shared} {R : Result → Shared → Prop} {E : Value → Shared → Prop}
theorem code_barr_new (a : Value) {Q₁ : Value → Shared → Prop}
    (h : Q₁ (.ref s.heap.objs.size) { s with heap := s.heap.push { cls := .type "bytearray", data := .bytearray #[] } }) :
    codeAny (model prog w) A (.call (.builtin "bytearray.__new__") ⟨[.type "bytearray", a], []⟩) (wants Q₁ E) s := by
  refine codeAny_of_tree ?_
  show wpAny _ A.in1 (do checkBuiltinCall "bytearray.__new__" ⟨[.type "bytearray", a], []⟩; again (.builtin "bytearray.__new__" ⟨[.type "bytearray", a], []⟩)) _ _ s
  refine wpAny_bind (wpAny_of_eq (BA.newCall a) (wpAny_pure ⟨plainId_quiet BA.plain_new _, codeAny_builtin_stack BA.entry_new rfl fun p st => ?_⟩))
  rw [Around.under_plainId BA.plain_new _]
  have hsub := BA.sub_self
  have hown := BA.owner_new
  obtain ⟨hp, g, d, tk, os⟩ := s
  simp only [hown]
  wp_walk
  exact h

theorem codeN_builtin {id : String} {args : Args} {b : Builtin} (hb : entryFor table id = some b) (hd : ∀ q, isDec (.builtin id args, q) = false)
    (h : wpN (model prog w) (A.under (.builtin id args)) (b args)
      (fun fin s' => match fin with | .done f => R (.ok f) s' | .again c' => c'.quiet = true ∧ codeN (model prog w) A c' R s') (fun e s' => R (.error e) s') s) :
    codeN (model prog w) A (.builtin id args) R s := by
  refine codeN_of_tree hd ?_
  show wpN _ _ (match entryFor table id with | some b => b args | none => unsupported ((withoutEnding? id "#data").getD id)) _ _ s
  rw [hb]; exact h
theorem codeN_call_builtin {id : String} {args : Args} {b : Builtin} (hq : plainId id = true) (hb : entryFor table id = some b) (hd : ∀ q, isDec (.builtin id args, q) = false)
    (h : wpAny (model prog w) A.in1 (checkBuiltinCall id args) (fun _ s₁ => wpN (model prog w) A.in1 (b args)
      (fun fin s' => match fin with | .done f => R (.ok f) s' | .again c' => c'.quiet = true ∧ codeN (model prog w) A c' R s') (fun e s' => R (.error e) s') s₁)
      (fun e s' => R (.error e) s') s) : codeN (model prog w) A (.call (.builtin id) args) R s := by
  refine codeN_of_tree (fun _ => rfl) ?_
  show wpN _ A.in1 (do checkBuiltinCall id args; again (.builtin id args)) _ _ s
  refine wpN_bind (wpN_any (wpAny_mono h (fun _ s₁ h₁ => wpN_any (wpAny_pure ⟨plainId_quiet hq args, codeN_builtin hb hd ?_⟩)) fun _ _ z => z))
  rw [Around.under_plainId hq args]; exact h₁

theorem wpN_ite {α : Type} {M : Model} {c : Bool} {a b : Sem α} {Q : α → Shared → Prop} (hc : c = false) (h : wpN M A b Q E s) : wpN M A (if c = true then a else b) Q E s := by
  subst hc; exact h
theorem callType_N {T newId initId : String} {Bi : Builtin} {args : List Value} {Q Q₁ : Value → Shared → Prop} (ft : TypeCalled T newId initId)
    (hct : checkTypeCall T ⟨args, []⟩ = pure ()) (entryI : entryFor table initId = some Bi) (hd : ∀ a q, isDec (.builtin initId a, q) = false)
    (hnew : codeAny (model prog w) A.in1 (.call (.builtin newId) ⟨.type T :: args, []⟩) (wants Q₁ NoE) s)
    (hnext : ∀ obj s₁, Q₁ obj s₁ → s₁.TypeIs obj T ∧ argsOk initId ⟨obj :: args, []⟩ ∧
      wpN (model prog w) A.in1.in1 (Bi ⟨obj :: args, []⟩)
        (fun fin s' => match fin with | .done f => wants (fun r s₂ => r = .none ∧ Q obj s₂) E (.ok f) s' | .again c' => c'.quiet = true ∧ codeN (model prog w) A.in1 c' (wants (fun r s₂ => r = .none ∧ Q obj s₂) E) s')
        (fun e s' => wants (fun r s₂ => r = .none ∧ Q obj s₂) E (.error e) s') s₁) :
    wpN (model prog w) A (call (.type T) args) Q E s := by
  obtain ⟨c, tl, hmro⟩ := ft.mro
  refine wpN_call (codeN_of_tree (fun _ => rfl) ?_)
  show wpN _ _ (callAny (.type T) _) _ _ _
  refine wpN_any (wpAny_pure ⟨Code.quiet_builtin _ (by decide +kernel), codeN_builtin F.entry_type_call (BA.typ_nd _) ?_⟩)
  rw [Around.under_plain (weight_type_call_type T args []) rfl]
  unfold Builtin.«type.__call__»
  dsimp only
  refine wpN_ite ft.notType ?_
  refine wpN_ite ft.canCreate ?_
  refine wpN_bind (wpN_any (wpAny_of_eq hct ?_))
  refine wpN_bind (wpN_any (wpAny_of_eq hmro ?_))
  refine wpN_ite rfl ?_
  refine wpN_bind (wpN_any (wpAny_of_eq ft.made ?_))
  refine wpN_bind (wpN_any (wpAny_pure ?_))
  refine wpN_bind (wpN_holding (wpN_call (codeN_mono (codeN_any hnew) fun r s₁ hr => ?_)))
  cases r with
  | error e => exact hr.elim
  | ok fl =>
    cases fl with
    | ret obj =>
      obtain ⟨hT, hok, hsi⟩ := hnext _ _ hr
      refine wpN_bind (wpN_any (wpAny_isInstance hT ft.sub ?_))
      refine wpN_ite rfl ?_
      refine wpN_bind (wpN_holding ?_)
      unfold callSpecial?
      refine wpN_bind (wpN_any (wpAny_specialOf hT ft.init.lookup ?_))
      dsimp only
      refine wpN_holding (wpN_bind (wpN_any (wpAny_of_eq (ft.init.bind obj) ?_)))
      dsimp only
      refine wpN_bind (wpN_call (codeN_mono (codeN_call_builtin ft.init.plain entryI (hd _) (ft.init.check _ _ _ _ _ _ _ _ hT hok hsi)) fun r₂ s₂ hr₂ => ?_))
      cases r₂ with
      | error e => exact hr₂
      | ok fl₂ =>
        cases fl₂ with
        | ret r =>
          obtain ⟨rfl, hq⟩ := hr₂
          refine wpN_any (wpAny_pure (wpN_ite rfl ?_))
          exact wpN_any (wpAny_pure hq)
        | _ => exact hr₂.elim
    | _ => exact hr.elim

theorem wpAny_slotIsOwn_rel {S : Addr} {Q : Bool → Shared → Prop} (hT : s.TypeIs (.ref S) "bytearray") (h : Q false s) : wpAny (model prog w) A (Builtin.Bytes.ownRelease (.ref S)) Q E s := by
  unfold Builtin.Bytes.ownRelease Builtin.Bytes.slotIsOwn
  refine wpAny_bind (wpAny_bind (wpAny_specialOf hT BA.lookup_rel ?_))
  dsimp only
  rw [BA.rel_ends, BA.rel_drop]
  refine bm_if_false rfl ?_
  refine wpAny_isInstance hT BA.sub_self ?_
  exact wpAny_pure h

theorem nd_any {S : Addr} {Γ : Ctx} {p : Pos} (h : nd Γ) : (((Γ.code, p) :: Γ.below).any fun x =>
      match x with
      | (.builtin "bytearray.__contains__" ⟨v :: _, _⟩, _) | (.builtin "bytearray.__mod__" ⟨v :: _, _⟩, _)
      | (.builtin "bytearray.__rmod__" ⟨_ :: v :: _, _⟩, _) | (.builtin "_struct.pack_into.held" ⟨v :: _, _⟩, _) => Builtin.Bytes.sameRef v (.ref S)
      | (.builtin "bytearray.find.held" ⟨_ :: _ :: held, _⟩, _) => held.any (Builtin.Bytes.sameRef (.ref S))
      | (.builtin id ⟨v :: _, _⟩, _) => Builtin.Bytes.sameRef v (.ref S) && Builtin.Bytes.decodersThatHold.contains id
      | _ => false) = false := by
  have hn := h p
  rw [List.any_eq_false] at hn ⊢
  intro x hx
  have hx := hn x hx
  have k : ∀ (id : String) (args : Args) (q : Pos), x = (.builtin id args, q) → decId id = false := fun id args q e => by
    subst e; simpa [isDec] using hx
  split
  · exact absurd (k _ _ _ rfl) (by decide +kernel)
  · exact absurd (k _ _ _ rfl) (by decide +kernel)
  · exact absurd (k _ _ _ rfl) (by decide +kernel)
  · exact absurd (k _ _ _ rfl) (by decide +kernel)
  · exact absurd (k _ _ _ rfl) (by decide +kernel)
  · have z := k _ _ _ rfl
    unfold decId at z
    have z' : ∀ (l m : List String) (id : String), (l ++ m).contains id = false → l.contains id = false := fun l m id hh => by
      rw [List.contains_eq_any_beq, List.any_append, Bool.or_eq_false_iff] at hh
      rw [List.contains_eq_any_beq]; exact hh.1
    rw [z' _ _ _ z, Bool.and_false]; exact Bool.false_ne_true
  · exact Bool.false_ne_true
theorem wpN_exported {S : Addr} {Q : Bool → Shared → Prop} (h : Q false s) : wpN (model prog w) A (Builtin.Bytes.exported (.ref S)) Q E s := fun Γ p hΓ hn => by
  unfold Builtin.Bytes.exported
  show Sem.wp _ Γ (Sem.bind stack _) _ _ p s
  have z := nd_any (S := S) (p := p) hn
  unfold stack
  rw [Sem.wp_bind, Sem.wp_stack, Sem.wp_pure]
  exact Eq.mpr (congrArg (fun b : Bool => Sem.wp (model prog w) Γ (pure b) (fun a _ s' => Q a s') (fun e _ s' => E e s') p s) z) (wpAny_pure (M := model prog w) h Γ p hΓ)

theorem asStr_int (i : Int) (t : Tok) : asStr? (.int i t) = pure none := by
  show (do notAStandIn (.int i t); pure none) = _
  rfl
noncomputable def zeros (n : Nat) : Array UInt8 := Array.replicate n 0
theorem barr_init {S : Addr} {n : Nat} {t : Tok} {Q : Value → Shared → Prop} (hS : s.heap.get? S = some { cls := .type "bytearray", data := .bytearray #[] }) (hn : n ≤ 1000)
    (h : ∀ h' tk, (∀ b o, b ≠ S → s.heap.get? b = some o → h'.get? b = some o) → h'.get? S = some { cls := .type "bytearray", data := .bytearray (zeros n) } → Q .none { s with heap := h', toks := tk }) :
    wpN (model prog w) A.in1 (Builtin.«bytearray.__init__» ⟨[.ref S, .int n t], []⟩)
      (fun fin s' => match fin with | .done f => wants Q E (.ok f) s' | .again c' => c'.quiet = true ∧ codeN (model prog w) A c' (wants Q E) s') (fun e s' => wants Q E (.error e) s') s := by
  have hT : s.TypeIs (.ref S) "bytearray" := ⟨_, hS, rfl⟩
  unfold Builtin.«bytearray.__init__»
  dsimp only
  refine wpN_bind (wpN_any (wpAny_slotIsOwn_rel hT ?_))
  refine wpN_ite rfl ?_
  refine wpN_bind (wpN_any (wpAny_of_eq (BA.bind1 _) ?_))
  dsimp only
  refine wpN_bind (wpN_any (wpAny_of_eq (a := ()) rfl ?_))
  refine wpN_bind (wpN_any (wpAny_of_eq (a := ()) rfl ?_))
  refine wpN_bind ?_
  unfold orM
  refine wpN_bind (wpN_exported ?_)
  refine wpN_any (wpAny_bind ?_)
  unfold Builtin.Bytes.exportsOf
  dsimp only
  refine wpAny_bind (wpAny_load hS (wpAny_pure (wpAny_pure ?_)))
  refine wpN_ite rfl ?_
  refine wpN_any ?_
  have hS₁ := Heap.get?_update_self (Obj.mapBytearray fun _ => #[]) hS rfl
  refine wpAny_bind ?_
  show wpAny _ _ (updateBytearray S _) _ _ _
  unfold updateBytearray
  refine wpAny_bind (wpAny_load hS ?_)
  show wpAny _ _ (update S (Obj.mapBytearray _) >>= fun _ => lookBehind S) _ _ _
  refine wpAny_bind (wpAny_update hS ?_)
  refine wpAny_lookBehind hS₁ (by show (if (#[] : Array UInt8).size > sizeLine then some "bytearray:memory" else none) = none; rw [if_neg]; exact Nat.not_lt_zero _) ?_
  with_reducible refine wpAny_bind ?_
  rw [asStr_int]
  with_reducible refine wpAny_pure ?_
  with_reducible refine bm_if_false rfl ?_
  with_reducible refine wpAny_bind ?_
  with_reducible refine bm_if_false rfl ?_
  with_reducible refine bm_if_false rfl ?_
  with_reducible refine wpAny_pure ?_
  with_reducible refine wpAny_bind (wpAny_specialOf (typeIs_int _ _ _) BA.lookup_index ?_)
  with_reducible refine bm_if_true rfl ?_
  with_reducible refine wpAny_bind (wpAny_attempt ?_)
  rw [show asIndex (.int (n : Int) t) = pure (n : Int) from rfl]
  with_reducible refine wpAny_pure ?_
  dsimp only
  rw [show Builtin.Bytes.fitsIndex (n : Int) = true from by unfold Builtin.Bytes.fitsIndex; simp only [Bool.and_eq_true, decide_eq_true_eq]; omega,
    show Builtin.Bytes.tooLong (n : Int).toNat = false from by unfold Builtin.Bytes.tooLong; rw [sizeLine_eq, decide_eq_false_iff_not, Int.toNat_natCast]; omega,
    show ((n : Int) == 2 ^ 63 - 1) = false from by simp only [beq_eq_false_iff_ne]; omega,
    if_neg (show ¬ ((n : Int) < 0) by omega)]
  with_reducible refine bm_if_false rfl ?_
  with_reducible refine bm_if_false rfl ?_
  with_reducible refine bm_if_false rfl ?_
  with_reducible refine wpAny_bind (wpAny_rule ?_)
  have oth : ∀ b o, b ≠ S → s.heap.get? b = some o → (s.heap.update S (Obj.mapBytearray fun _ => #[])).get? b = some o := fun b o hb e => (Heap.get?_update_other _ _ (Ne.symm hb)).trans e
  by_cases hz : (n : Int) > 0
  · rw [if_pos hz]
    with_reducible refine wpAny_bind ?_
    show wpAny _ _ (updateBytearray S _) _ _ _
    unfold updateBytearray
    with_reducible refine wpAny_bind (wpAny_load hS₁ ?_)
    show wpAny _ _ (update S (Obj.mapBytearray _) >>= fun _ => lookBehind S) _ _ _
    refine wpAny_bind (wpAny_update hS₁ ?_)
    have hS₂ := Heap.get?_update_self (Obj.mapBytearray fun _ => Array.replicate (n : Int).toNat 0) hS₁ rfl
    refine wpAny_lookBehind hS₂ (by show (if (Array.replicate (n : Int).toNat (0 : UInt8)).size > sizeLine then some "bytearray:memory" else none) = none; rw [if_neg]; rw [Array.size_replicate, sizeLine_eq, Int.toNat_natCast]; omega) ?_
    exact wpAny_pure <| h _ _ (fun b o hb e => (Heap.get?_update_other _ _ (Ne.symm hb)).trans (oth b o hb e)) hS₂
  · rw [if_neg hz]
    obtain rfl : n = 0 := by omega
    exact wpAny_pure <| h _ _ oth hS₁

/-- bytearray(n), where no decoder is on the stack -/
theorem callN_barr {n : Nat} {t : Tok} {Q : Value → Shared → Prop} (hn : n ≤ 1000)
    (h : ∀ S h' tk, Sub' s.heap h' → s.heap.get? S = none → h'.get? S = some { cls := .type "bytearray", data := .bytearray (zeros n) } → Q (.ref S) { s with heap := h', toks := tk }) :
    wpN (model prog w) A (call (.type "bytearray") [.int n t]) Q E s := by
  refine callType_N (Q₁ := fun obj s₁ => obj = .ref s.heap.objs.size ∧ s₁ = { s with heap := s.heap.push { cls := .type "bytearray", data := .bytearray #[] } }) BA.called (BA.typeCall _) BA.entry_init BA.init_nd (code_barr_new _ ⟨rfl, rfl⟩) fun obj s₁ h₁ => ?_
  obtain ⟨rfl, rfl⟩ := h₁
  have hS : (s.heap.push { cls := .type "bytearray", data := .bytearray #[] }).get? s.heap.objs.size = some { cls := .type "bytearray", data := .bytearray #[] } := Heap.get?_push_size _ rfl
  refine ⟨⟨_, hS, rfl⟩, BA.args_init _ _, barr_init hS hn fun h' tk hk hS' => ⟨rfl, ?_⟩⟩
  refine h _ _ _ (fun b o e => hk b o (Nat.ne_of_lt (Heap.lt_size e)) (Heap.get?_push_of_some _ e)) ?_ hS'
  cases e : s.heap.get? s.heap.objs.size with
  | none => rfl
  | some o => exact absurd (Heap.lt_size e) (Nat.lt_irrefl _)
end
end
section
set_option maxRecDepth 100000
open PySem PySem.W PyProof.Rows PySem.Calls PyProof.V

/-! the judgements, where no decoder is on the stack -/
noncomputable def EvDN (w : World) (k : Nat) (env : Env) (Mu : List (Addr × PD)) (ρ : Str → Option PD) (e : Expr) (d : PD) : Prop :=
  ∀ (A : Around) (H : List Addr) (s : Shared), OkA A k → StE w env H Mu ρ s.heap → wpN (MM w) A (eval e env) (fun v s' => Kp s s' ∧ Rd w (Fz (hid env Mu H) s'.heap) d v) NoE s
noncomputable def EvNewN (w : World) (k : Nat) (env : Env) (Mu : List (Addr × PD)) (ρ : Str → Option PD) (e : Expr) (d : PD) : Prop :=
  ∀ (A : Around) (H : List Addr) (s : Shared), OkA A k → StE w env H Mu ρ s.heap → wpN (MM w) A (eval e env) (fun v s' => Kp s s' ∧ ∃ D, v = .ref D ∧ s.heap.get? D = none ∧ MutAt w (D :: hid env Mu H) s'.heap D d) NoE s
noncomputable def CallN (w : World) (k : Nat) (f : Value) (ds : List PD) (d : PD) : Prop :=
  ∀ (A : Around) (H : List Addr) (s : Shared) (vs : List Value), OkA A k → Gd w (Fz H s.heap) → (∀ q ∈ H, ∃ o, s.heap.get? q = some o) → Rds w (Fz H s.heap) ds vs →
    wpN (MM w) A (call f vs) (fun v s' => Kp s s' ∧ Rd w (Fz H s'.heap) d v) NoE s
noncomputable def ExN (w : World) (k : Nat) (env : Env) (Mu : List (Addr × PD)) (ρ : Str → Option PD) (ss : List Stmt) (N : Nx) (R : PD → Prop) : Prop :=
  ∀ (A : Around) (H : List Addr) (h0 : Heap) (s : Shared), OkA A k → StE w env H Mu ρ s.heap → Ba h0 env Mu s.heap →
    wpN (MM w) A (execs ss env) (fun f s' => Grew s s' ∧ Fin' w env H h0 N R f s'.heap) NoE s
noncomputable def Ex1N (w : World) (k : Nat) (env : Env) (Mu : List (Addr × PD)) (ρ : Str → Option PD) (st : Stmt) (N : Nx) (R : PD → Prop) : Prop :=
  ∀ (A : Around) (H : List Addr) (h0 : Heap) (s : Shared), OkA A k → StE w env H Mu ρ s.heap → Ba h0 env Mu s.heap →
    wpN (MM w) A (exec st env) (fun f s' => Grew s s' ∧ Fin' w env H h0 N R f s'.heap) NoE s

section
variable {M : Model} {A : Around} {E : Value → Shared → Prop} {s : Shared} {env : Env}
theorem wpN_standAt {pos : Pos} {Q : Unit → Shared → Prop} (h : Q () s) : wpN M A (standAt pos) Q E s := wpN_any (wpAny_standAt h)
theorem wpN_execs_cons {st : Stmt} {rest : List Stmt} {Q : Flow → Shared → Prop}
    (h : wpN M A (exec st env) (fun f s' => match f with | .next => wpN M A (execs rest env) Q E s' | f => Q f s') E s) :
    wpN M A (execs (st :: rest) env) Q E s := fun Γ p hΓ hn => by
  rw [execs_cons, Sem.wp_bind']
  refine Sem.wp_mono M Γ _ (fun f p' s' h' => ?_) (fun _ _ _ h' => h') _ _ (h Γ p hΓ hn)
  cases f <;> first | exact h' Γ p' hΓ hn | exact h'
theorem exec_app {Γ : Ctx} {rest : List Stmt} {Q : Flow → Pos → Shared → Prop} {E' : Value → Pos → Shared → Prop} : ∀ (pre : List Stmt) (p : Pos) (s : Shared),
    Sem.wp M Γ (execs pre env) (fun f p' s' => match f with | .next => Sem.wp M Γ (execs rest env) Q E' p' s' | f => Q f p' s') E' p s → Sem.wp M Γ (execs (pre ++ rest) env) Q E' p s
  | [], p, s, h => h
  | st :: pre, p, s, h => by
    rw [execs_cons, Sem.wp_bind'] at h
    rw [List.cons_append, execs_cons, Sem.wp_bind']
    refine Sem.wp_mono M Γ _ (fun f p' s' h' => ?_) (fun _ _ _ h' => h') _ _ h
    cases f <;> first | exact exec_app pre p' s' h' | exact h'
theorem wpN_execs_app {pre rest : List Stmt} {Q : Flow → Shared → Prop}
    (h : wpAny M A (execs pre env) (fun f s' => match f with | .next => wpN M A (execs rest env) Q E s' | f => Q f s') E s) : wpN M A (execs (pre ++ rest) env) Q E s := fun Γ p hΓ hn =>
  exec_app pre p s (Sem.wp_mono M Γ _ (fun f p' s' h' => by cases f <;> first | exact h' Γ p' hΓ hn | exact h') (fun _ _ _ h' => h') _ _ (h Γ p hΓ))
theorem wpN_Assign_Name {x : Str} {xp : Pos} {value : Expr} {pos : Pos} {Q : Flow → Shared → Prop}
    (h : wpN M A (eval value env) (fun v s₁ => wpAny M A (storeName env x v) (fun _ => Q .next) E s₁) E s)
    (hs : swapsWith value (some (.Name x xp)) pos.line env = pure false := by rfl) :
    wpN M A (exec (.Assign [.Name x xp] value pos) env) Q E s := fun Γ p hΓ hn => by
  simp only [exec_Assign_Name env x xp value pos hs, Sem.wp_bind', Sem.wp_cmd_standAt, Sem.wp_bindName, Sem.wp_pure']
  exact Sem.wp_mono M Γ _ (fun v _ s₁ h₁ => h₁ Γ _ hΓ) (fun _ _ _ h' => h') _ _ (h Γ _ hΓ hn)
theorem wpN_Call_Name {id : Str} {p pos : Pos} {args : List Expr} {keywords : List Keyword} {Q : Value → Shared → Prop}
    (h : wpN M A (eval (.Name id p) env) (fun f s₁ => wpN M A (callWith pos f [] (backTo pos (starEach args env)) (backToKw pos (keywordEach keywords env))) Q E s₁) E s) :
    wpN M A (eval (.Call (.Name id p) args keywords pos) env) Q E s := by
  rw [arm_eval_Call_Name']
  exact wpN_bind h
theorem wpN_keep {α : Type} {vs : List Value} {m : Sem α} {Q : α → Shared → Prop} (h : wpN M A m Q E s) : wpN M A (m.keep vs) Q E s :=
  fun Γ p hΓ hn => by rw [Sem.wp_keep]; exact h Γ p hΓ hn
theorem wpN_operate {vs : List Value} {m : Sem Value} {Q : Value → Shared → Prop} (h : wpN M A m Q E s) : wpN M A (operate vs m) Q E s :=
  fun Γ p hΓ hn => by rw [Sem.wp_operate]; exact h Γ p hΓ hn
theorem evalArgsN {f : Value} {x : Sem Value} {rest : List (Bool × Sem Value)} {Q : Args → Shared → Prop}
    (h : wpN M A (spliced ((false, x) :: rest)) (fun vs s' => Q ⟨vs, []⟩ s') E s) : wpN M A (evalArgs f true ((false, x) :: rest) []) Q E s := by
  unfold evalArgs
  show wpN M A (spliced ((false, x) :: rest) >>= _) Q E s
  refine wpN_bind (wpN_mono h (fun vs s' h' => ?_) fun _ _ x => x)
  refine wpN_holding ?_
  exact wpN_bind (wpN_any (wpAny_pure (wpN_bind (wpN_any (wpAny_pure (wpN_any (wpAny_pure h')))))))
theorem spliced_oneN {x : Sem Value} {Q : List Value → Shared → Prop} (h : wpN M A x (fun v s₁ => Q [v] s₁) E s) : wpN M A (spliced [(false, x)]) Q E s := by
  rw [spliced]
  refine wpN_bind (wpN_mono h (fun v s₁ h₁ => ?_) fun _ _ x => x)
  simp only [Bool.false_eq_true, if_false]
  exact wpN_bind (wpN_any (wpAny_pure (wpN_bind (wpN_any (wpAny_holding (spliced_nil (wpN_any (wpAny_pure h₁))))))))
theorem callWithN_type {pos : Pos} {T : String} {first : List Value} {args : List (Bool × Sem Value)} {Q : Value → Shared → Prop}
    (hplain : args.any (·.1) = false)
    (h : wpN M A (evalArgs (.type T) true args []) (fun a s₁ => wpN M A (call (.type T) (first ++ a.pos) a.kw) Q E s₁) E s) :
    wpN M A (callWith pos (.type T) first args []) Q E s := by
  unfold callWith
  refine wpN_bind (wpN_holding (wpN_mono h (fun a s₁ h₁ => wpN_bind (wpN_standAt ?_)) fun _ _ x => x))
  simp only [hplain, List.any_nil, Bool.or_false]
  refine wpN_bind (wpN_any (wpAny_pure ?_))
  exact wpN_bind (wpN_mono h₁ (fun r s₂ hr => wpN_bind (wpN_any (wpAny_holding (wpAny_point (wpN_any (wpAny_pure hr)))))) fun _ _ x => x)
theorem callWithN_of {P : Heap → Prop} {pos : Pos} {f : Value} {first : List Value} {args : List (Bool × Sem Value)} {keywords : List (Option Str × Sem Value)} {Q : Value → Shared → Prop} (hplain : (args.any (·.1) || keywords.any (·.1.isNone)) = false)
    (hk : ∀ h, P h → ∃ k, (k = Keeper.frame ∨ k = Keeper.machine ∨ k = Keeper.boundFrame) ∧ Looks M h (keeperOf f) k)
    (h : wpN M A (evalArgs f true args keywords) (fun a s₁ => P s₁.heap ∧ wpN M A (call f (first ++ a.pos) a.kw) Q E s₁) E s) : wpN M A (callWith pos f first args keywords) Q E s := by
  unfold callWith
  refine wpN_bind (wpN_holding (wpN_mono h (fun a s₁ h₁ => wpN_bind (wpN_standAt ?_)) fun _ _ x => x))
  obtain ⟨k, hk', L⟩ := hk _ h₁.1
  simp only [hplain]
  refine wpN_bind (wpN_any (L.here ?_))
  have tail : ∀ {t : Sem Value}, wpN M A t Q E s₁ → wpN M A (t >>= fun r => holding [r] point >>= fun _ => pure r) Q E s₁ :=
    fun ht => wpN_bind (wpN_mono ht (fun r s₂ hr => wpN_bind (wpN_any (wpAny_holding (wpAny_point (wpN_any (wpAny_pure hr)))))) fun _ _ x => x)
  have marked (mk : Value) : wpN M A (callMarked mk f (first ++ a.pos) a.kw) Q E s₁ := by unfold callMarked; exact wpN_keep h₁.2
  rcases hk' with rfl | rfl | rfl <;> dsimp only <;> first | exact tail h₁.2 | (split <;> first | exact tail h₁.2 | exact tail (marked _))
end

section
variable {w : World} {k : Nat} {env : Env} {Mu : List (Addr × PD)} {ρ : Str → Option PD} {e : Expr} {d : PD} {N N' : Nx} {R : PD → Prop} {st : Stmt} {rest : List Stmt}
theorem exN_cons (a : Ex1N w k env Mu ρ st N' R) (b : ∀ Mu' ρ', N' Mu' ρ' → Ex w k env Mu' ρ' rest N R) : ExN w k env Mu ρ (st :: rest) N R := fun A H h0 s hA S B =>
  wpN_execs_cons (wpN_to (a A H h0 s hA S B) fun f s₁ ⟨g, x⟩ => by
    cases f with
    | next =>
      obtain ⟨Mu', ρ', n, S', B'⟩ := x
      exact wpN_any (wpn (b Mu' ρ' n A H h0 s₁ hA S' B') fun f s₂ ⟨g₂, x₂⟩ => ⟨g.trans g₂, x₂⟩)
    | ret v => exact ⟨g, x⟩
    | brk => exact x.elim
    | cont => exact x.elim)
theorem exN_app {pre : List Stmt} (a : Ex w k env Mu ρ pre N' R) (b : ∀ Mu' ρ', N' Mu' ρ' → ExN w k env Mu' ρ' rest N R) : ExN w k env Mu ρ (pre ++ rest) N R := fun A H h0 s hA S B =>
  wpN_execs_app (wpn (a A H h0 s hA S B) fun f s₁ ⟨g, x⟩ => by
    cases f with
    | next =>
      obtain ⟨Mu', ρ', n, S', B'⟩ := x
      exact wpN_to (b Mu' ρ' n A H h0 s₁ hA S' B') fun f s₂ ⟨g₂, x₂⟩ => ⟨g.trans g₂, x₂⟩
    | ret v => exact ⟨g, x⟩
    | brk => exact x.elim
    | cont => exact x.elim)
theorem exN_any (a : Ex w k env Mu ρ rest N R) : ExN w k env Mu ρ rest N R := fun A H h0 s hA S B => wpN_any (a A H h0 s hA S B)
/-- the name gets a made object that may change -/
theorem exN_new {x : Str} {xp pos : Pos} (a : EvNewN w k env Mu ρ e d) (b : ∀ D, Ex w k env ((D, d) :: Mu) (upd ρ x (.raw (.ref D))) rest N R)
    (hx : (env.kindOf x == some .local || (env.kindOf x == some .cell && (env.cells.lookup x).isSome)) = true)
    (hs : swapsWith e (some (.Name x xp)) pos.line env = pure false := by rfl) : ExN w k env Mu ρ (.Assign [.Name x xp] e pos :: rest) N R :=
  exN_cons (N' := fun Mu' ρ' => ∃ D, Mu' = (D, d) :: Mu ∧ ρ' = upd ρ x (.raw (.ref D))) (fun A H h0 s hA S B => wpN_Assign_Name (wpN_to (a A H s hA S) fun v s₁ ⟨k₁, D, ev, n, m⟩ => by
    subst ev
    exact wpn (wp_store (S.intro k₁.heap n m) hx (d := .raw (.ref D)) rfl) fun _ s₂ ⟨g, S₂, kb⟩ => ⟨k₁.grew.trans g, _, _, ⟨D, rfl, rfl⟩, S₂, (B.intro k₁.heap n).store kb.1⟩) hs)
    fun Mu' ρ' ⟨D, e, e'⟩ => by subst e; subst e'; exact b D
theorem exN_assign {x : Str} {xp pos : Pos} (a : EvDN w k env Mu ρ e d) (b : Ex w k env Mu (upd ρ x d) rest N R)
    (hx : (env.kindOf x == some .local || (env.kindOf x == some .cell && (env.cells.lookup x).isSome)) = true)
    (hs : swapsWith e (some (.Name x xp)) pos.line env = pure false := by rfl) : ExN w k env Mu ρ (.Assign [.Name x xp] e pos :: rest) N R :=
  exN_cons (N' := only Mu (upd ρ x d)) (fun A H h0 s hA S B => wpN_Assign_Name (wpN_to (a A H s hA S) fun v s₁ ⟨k₁, r⟩ => wpn (wp_store (S.sub k₁.heap) hx r) fun _ s₂ ⟨g, S₂, kb⟩ =>
    ⟨k₁.grew.trans g, Mu, _, ⟨rfl, rfl⟩, S₂, (B.sub k₁.heap).store kb.1⟩) hs) fun Mu' ρ' ⟨e, e'⟩ => by subst e; subst e'; exact b

theorem rds_one {h : Heap} {v : Value} (r : Rd w h d v) : Rds w h [d] [v] := Rds.cons r (by exact rfl)
/-- f(e), where f is known to the program alone -/
theorem evN_call1 {x : Str} {xp pos : Pos} {f : Value} {d' : PD} (hf : EvD w k env Mu ρ (.Name x xp) (.raw f)) (hc : keepIn (KK w) f = true) (ha : EvDN w k env Mu ρ e d') (c : CallN w k f [d'] d)
    (he : starEach [e] env = [(false, eval e env)] := by rfl) : EvDN w k env Mu ρ (.Call (.Name x xp) [e] [] pos) d := fun A H s hA S =>
  wpN_Call_Name (wpN_any (wpn (hf A H s hA S) fun f' s₁ ⟨k₁, e'⟩ => by
    have e' : f' = f := e'
    subst e'
    refine callWithN_of (P := (KK w).In) (by rw [he]; rfl) (keeps_K hc) ?_
    rw [he]
    refine evalArgsN ?_
    refine spliced_oneN (wpN_to (ha A H s₁ hA (S.sub k₁.heap)) fun v s₂ ⟨k₂, r⟩ => ?_)
    have S₂ := (S.sub k₁.heap).sub k₂.heap
    exact ⟨(S₂.gd.sub (Fz_sub _ _)).k, wpN_to (c A _ s₂ [v] hA S₂.gd S₂.alive (rds_one r)) fun v s₃ ⟨k₃, q⟩ => ⟨(k₁.trans k₂).trans k₃, q⟩⟩))
theorem evN_callT {x : Str} {xp pos : Pos} {T : String} {d' : PD} (hf : EvD w k env Mu ρ (.Name x xp) (.raw (.type T))) (ha : EvDN w k env Mu ρ e d') (c : CallD w k (.type T) [d'] d)
    (he : starEach [e] env = [(false, eval e env)] := by rfl) : EvDN w k env Mu ρ (.Call (.Name x xp) [e] [] pos) d := fun A H s hA S =>
  wpN_Call_Name (wpN_any (wpn (hf A H s hA S) fun f' s₁ ⟨k₁, e'⟩ => by
    have e' : f' = .type T := e'
    subst e'
    refine callWithN_type (by rw [he]; rfl) ?_
    rw [he]
    refine evalArgsN ?_
    refine spliced_oneN (wpN_to (ha A H s₁ hA (S.sub k₁.heap)) fun v s₂ ⟨k₂, r⟩ => ?_)
    have S₂ := (S.sub k₁.heap).sub k₂.heap
    exact wpN_any (wpn (c A _ s₂ [v] hA S₂.gd S₂.alive (rds_one r)) fun v s₃ ⟨k₃, q⟩ => ⟨(k₁.trans k₂).trans k₃, q⟩)))
/-- bytearray(n) -/
theorem new_barr {x : Str} {xp pos : Pos} {n : Nat} (hf : EvD w k env Mu ρ (.Name x xp) (.raw (.type "bytearray"))) (ha : EvD w k env Mu ρ e (.int n)) (hn : n ≤ 1000)
    (he : starEach [e] env = [(false, eval e env)] := by rfl) : EvNewN w k env Mu ρ (.Call (.Name x xp) [e] [] pos) (.barr (zeros n).toList) := fun A H s hA S =>
  wpN_Call_Name (wpN_any (wpn (hf A H s hA S) fun f' s₁ ⟨k₁, e'⟩ => by
    have e' : f' = .type "bytearray" := e'
    subst e'
    refine callWithN_type (by rw [he]; rfl) ?_
    rw [he]
    refine evalArgsN ?_
    refine spliced_oneN (wpN_any (wpn (ha A H s₁ hA (S.sub k₁.heap)) fun v s₂ ⟨k₂, t, r⟩ => ?_))
    subst r
    refine callN_barr hn fun D h' tk sb nn g => ?_
    exact ⟨(k₁.trans k₂).trans (Kp.to sb), D, rfl, none_back (Sub.trans k₁.heap k₂.heap) nn, g⟩))
end
section
variable {w : World}
theorem enter_fnN {A : Around} {k : Nat} {H : List Addr} {s : Shared} {R : Result → Shared → Prop} {f : Addr} {oc : Value} {od : Option Addr} {osl : Array (Option Value)} {name qual : Str} {params : Arguments} {body : List Stmt} {scope : Scope} {dV kV doc pm cdv ct : Value} {an : Option Addr}
    {names : List Str} {es : List PD} {vs us : List Value} {Mu : List (Addr × PD)} {N : Nx} {R' : PD → Prop}
    (hA : OkA A (k + 1)) (ho : (KK w).lookup f = some ⟨oc, od, .func (fnOf name qual params body scope dV kV doc pm an cdv ct), osl⟩) (hcd : codeIn (KK w) cdv qual = true)
    (G : Gd w (Fz (Mu.map (·.1) ++ H) s.heap)) (hl : ∀ q ∈ H, ∃ o, s.heap.get? q = some o) (hmu : ∀ p ∈ Mu, MutAt w (Mu.map (·.1) ++ H) s.heap p.1 p.2) (hmd : (Mu.map (·.1)).Nodup)
    (r : Rds w (Fz (Mu.map (·.1) ++ H) s.heap) es us) (hb : BindsTo s (fnOf name qual params body scope dV kV doc pm an cdv ct) ⟨vs, []⟩ (names.zip us))
    (hkind : (names.all fun y => scope.names.lookup y == some .local || (scope.names.lookup y == some .cell && ((cellsFrom 0 scope.names []).lookup y).isSome)) = true)
    (hnd : names.Nodup) (hlen : names.length = es.length) (hcn : ((cellsFrom 0 scope.names []).map (·.1)).Nodup)
    (bd : ∀ L, ExN w k (envOfC qual scope L f cdv) Mu (fun y => (names.zip es).lookup y) body N R')
    (fin : ∀ fl s', Grew s s' → Fin' w (envOfC qual scope s.heap.objs.size f cdv) H (Fz (Mu.map (·.1)) s.heap) N R' fl s'.heap → R (.ok (.ret (match fl with | .ret v => v | _ => .none))) s')
    (hco : scope.isCoroutine = false) (hgen : scope.isGenerator = false) (hk : scope.kind = .function) : codeN (MM w) A (.call (.ref f) ⟨vs, []⟩) R s := by
  have G' := G.sub (Fz_sub _ s.heap)
  have hnames : ∀ n, ((cellsFrom n scope.names []).map (·.1)).Nodup := fun n => by rw [cellsFrom_names scope.names n 0 [] [] rfl]; exact hcn
  have hlook : ∀ n x, ((cellsFrom 0 scope.names []).lookup x).isSome = true → ((cellsFrom n scope.names []).lookup x).isSome = true := fun n x e => by
    obtain ⟨c, hc⟩ := Option.isSome_iff_exists.mp e
    have m : x ∈ (cellsFrom 0 scope.names []).map (·.1) := List.mem_map.mpr ⟨_, mem_of_lookup hc, rfl⟩
    rw [cellsFrom_names scope.names 0 n [] [] rfl] at m
    obtain ⟨p, hp, rfl⟩ := List.mem_map.mp m
    rw [lookup_of_mem_nodup (hnames n) hp]; rfl
  refine codeN_call_fn hA.room (G'.k _ _ ho) rfl hco hgen rfl (codeRec_of G'.k hcd) (hb _ _ _ _ ?_)
  refine wpAny_newFunctionEnv_cells hk (fun x hx => ?_) fun env' he s' x => ?_
  · have hm : x.1 ∈ names := (List.of_mem_zip (show (x.1, x.2) ∈ names.zip us from hx)).1
    have := List.all_eq_true.mp hkind _ hm
    rcases Bool.or_eq_true_iff.mp this with q | q
    · exact .inl (by simpa using q)
    · simp only [Bool.and_eq_true, beq_iff_eq] at q
      exact .inr ⟨q.1, hlook _ _ q.2⟩
  · subst he
    have hlu : names.length = us.length := hlen.trans r.length.symm
    have nd1 : ((names.zip us).map (·.1)).Nodup := by rw [zip_fst names us hlu]; exact hnd
    have kp := x.toInCall.keep
    refine ⟨G'.nl.keeps kp, ?_⟩
    have hnew : ∀ q ∈ hid (envOfC qual scope s.heap.objs.size f cdv) Mu H, q ∉ Mu.map (·.1) ++ H → s.heap.get? q = none := fun q m n => by
      rcases List.mem_append.mp m with m | m
      · rcases List.mem_cons.mp m with rfl | m
        · exact none_of_size
        · rcases List.mem_append.mp m with m | m
          · obtain ⟨p, hp, rfl⟩ := List.mem_map.mp m
            exact none_of_le (Nat.le_of_lt (x.above p.1 p.2 hp))
          · exact absurd (List.mem_append_left _ m) n
      · exact absurd (List.mem_append_right _ m) n
    have z : Sub (Fz (Mu.map (·.1) ++ H) s.heap) (Fz (hid (envOfC qual scope s.heap.objs.size f cdv) Mu H) s'.heap) := Fz_more' (.of kp) hnew
    have ha : ∀ p ∈ Mu, ∃ o, s.heap.get? p.1 = some o := fun p hp => (hmu p hp).alive
    have S : StE w (envOfC qual scope s.heap.objs.size f cdv) H Mu (fun y => (names.zip es).lookup y) s'.heap :=
      { gd := G.sub z
        ns := ⟨_, x.toInCall.ns, fun y d e kd => by
          obtain ⟨v, q, b⟩ := zip_look names es us y d r e
          refine ⟨v, ?_, b.sub z⟩
          have := bindL_look (envOfC qual scope s.heap.objs.size f cdv).kindOf y kd (names.zip us) (fun _ => none)
          rw [look_rev _ _ nd1, q] at this
          exact this⟩
        cl := fun y d e kd => by
          obtain ⟨v, q, b⟩ := zip_look names es us y d r e
          have hm : y ∈ names := (List.of_mem_zip (mem_of_lookup e)).1
          have hk' := List.all_eq_true.mp hkind _ hm
          have kd' : scope.names.lookup y = some .cell ∨ scope.names.lookup y = some .free := kd
          rcases Bool.or_eq_true_iff.mp hk' with q' | q'
          · have q' : scope.names.lookup y = some .local := by simpa using q'
            rw [q'] at kd'; rcases kd' with z | z <;> cases z
          · simp only [Bool.and_eq_true, beq_iff_eq] at q'
            obtain ⟨c, hc⟩ := Option.isSome_iff_exists.mp (hlook (s.heap.objs.size + 1) y q'.2)
            have C := x.cell y c hc
            have kn : (envOfC qual scope s.heap.objs.size f cdv).kindOf y ≠ some .local := by
              show scope.names.lookup y ≠ _; rw [q'.1]; intro z; cases z
            have := bindC_look (envOfC qual scope s.heap.objs.size f cdv).kindOf y kn (names.zip us) (fun _ => none)
            rw [look_rev _ _ nd1, q] at this
            exact ⟨c, v, hc, by rw [← show bindC _ _ _ y = some v from this]; exact C, b.sub z⟩
        ce := fun p hp => ⟨_, x.cell p.1 p.2 (lookup_of_mem_nodup (hnames _) hp)⟩
        cd := fun a b c h1 h2 => name_of_addr x.apart (mem_of_lookup h1) (mem_of_lookup h2)
        mu := fun p hp => (hmu p hp).keep (fun o e => kp _ _ e) z
        md := hmd
        lm := fun m => by
          obtain ⟨p, hp, e⟩ := List.mem_map.mp m
          obtain ⟨o, q⟩ := ha p hp
          rw [e, show (envOfC qual scope s.heap.objs.size f cdv).locals = s.heap.objs.size from rfl, none_of_size] at q
          cases q
        hl := fun q m => by obtain ⟨o, e⟩ := hl q m; exact ⟨o, kp _ _ e⟩
        eg := rfl, eb := rfl, ek := hk }
    have B : Ba (Fz (Mu.map (·.1)) s.heap) (envOfC qual scope s.heap.objs.size f cdv) Mu s'.heap :=
      ⟨Sub.trans (Fz_sub _ _) kp, fun q m => by
        by_cases hq : q ∈ Mu.map (·.1)
        · exact Fz_none hq
        · have : s.heap.get? q = none := by
            rcases List.mem_cons.mp m with rfl | m
            · exact none_of_size
            · rcases List.mem_append.mp m with m | m
              · obtain ⟨p, hp, rfl⟩ := List.mem_map.mp m
                exact none_of_le (Nat.le_of_lt (x.above p.1 p.2 hp))
              · exact absurd m hq
          cases e : (Fz (Mu.map (·.1)) s.heap).get? q with
          | none => rfl
          | some o => rw [Fz_of e] at this; cases this⟩
    have g0 : Grew s s' := x.toInCall.same
    exact wpN_to (bd _ _ H _ s' (hA.deeper _) S B) fun fl s₂ ⟨g, y⟩ => fin fl s₂ (g0.trans g) y

/-- a def that changes nothing of what stood -/
theorem call_fnN {k : Nat} {f : Addr} {oc : Value} {od : Option Addr} {osl : Array (Option Value)} {name qual : Str} {params : Arguments} {body : List Stmt} {scope : Scope} {dV kV doc pm cdv ct : Value} {an : Option Addr}
    {names : List Str} {ds es : List PD} {d : PD}
    (ho : (KK w).lookup f = some ⟨oc, od, .func (fnOf name qual params body scope dV kV doc pm an cdv ct), osl⟩) (hcd : codeIn (KK w) cdv qual = true)
    (hb : ∀ (g : Heap) (s : Shared) (vs : List Value), (KK w).In s.heap → Rds w g ds vs → ∃ us, Rds w g es us ∧ BindsTo s (fnOf name qual params body scope dV kV doc pm an cdv ct) ⟨vs, []⟩ (names.zip us))
    (bd : ∀ L, ExN w k (envOfC qual scope L f cdv) [] (fun y => (names.zip es).lookup y) body (fun _ _ => False) (fun r => r = d))
    (hkind : (names.all fun y => scope.names.lookup y == some .local || (scope.names.lookup y == some .cell && ((cellsFrom 0 scope.names []).lookup y).isSome)) = true)
    (hnd : names.Nodup) (hlen : names.length = es.length) (hcn : ((cellsFrom 0 scope.names []).map (·.1)).Nodup)
    (hco : scope.isCoroutine = false) (hgen : scope.isGenerator = false) (hk : scope.kind = .function) : CallN w (k + 1) (.ref f) ds d := fun A H s vs hA G al r => by
  obtain ⟨us, ru, bt⟩ := hb _ s vs (G.sub (Fz_sub _ _)).k r
  refine wpN_call (enter_fnN (Mu := []) (N := fun _ _ => False) (R' := fun r => r = d) hA ho hcd G al (fun p hp => nomatch hp) List.nodup_nil ru bt hkind hnd hlen hcn bd (fun fl s' g x => ?_) hco hgen hk)
  cases fl with
  | next => obtain ⟨_, _, x, _⟩ := x; exact x.elim
  | brk => exact x.elim
  | cont => exact x.elim
  | ret v =>
    obtain ⟨d', e, q, sb⟩ := x
    subst e
    obtain ⟨h, t, rfl⟩ := g
    exact ⟨Kp.to sb, q.sub (Fz_less (Hin_all fun q m => let ⟨o, e⟩ := al q m; ⟨o, Fz_get (List.not_mem_nil) e⟩))⟩
end
end
section
set_option maxRecDepth 100000
open PySem PySem.W PyProof.Rows PySem.Calls PyProof.V

namespace BA
theorem slot_setitem : Slot "bytearray" "__setitem__" "bytearray.__setitem__" :=
  .of (owner := "bytearray") (n := "__setitem__") (by rw [typeLookup_type, builtinLookup_eq_fast]; kernel_rfl) (by decide +kernel) (by decide +kernel) (by decide +kernel)
    (by first | exact .inl (by decide +kernel) | exact .inr (by decide +kernel)) (by rw [isSubtype_type]; kernel_rfl)
theorem entry_setitem : entryFor table "bytearray.__setitem__" = some Builtin.«bytearray.__setitem__» := entryFor_of_tree (by kernel_rfl)
theorem args_setitem (a b c : Value) : argsOk "bytearray.__setitem__" ⟨[a, b, c], []⟩ := by unfold argsOk; kernel_rfl
theorem noBytes : typeLookup (.type "bytearray") (Str.ofString "__bytes__") = pure none := by rw [typeLookup_type, builtinLookup_eq_fast]; kernel_rfl
theorem noIndex : typeLookup (.type "bytearray") (Str.ofString "__index__") = pure none := by rw [typeLookup_type, builtinLookup_eq_fast]; kernel_rfl
theorem lookup_buf : typeLookup (.type "bytearray") (Str.ofString "__buffer__") = pure (some (.builtin "bytearray.__buffer__")) := by rw [typeLookup_type, builtinLookup_eq_fast]; kernel_rfl
theorem buf_ends : ("bytearray.__buffer__").endsWith ("." ++ "__buffer__") = true := by decide +kernel
theorem buf_drop : ("bytearray.__buffer__").dropRight ("__buffer__".length + 1) = "bytearray" := by decide +kernel
end BA
end
section
set_option maxRecDepth 100000
open PySem PySem.W PyProof.Rows PySem.Calls PyProof.V

section
variable {w : World} {A : Around} {s : Shared}
theorem upd_barr {S : Addr} {b : Array UInt8} {f : Array UInt8 → Array UInt8} {Q : Unit → Shared → Prop} {M : Model} {E : Value → Shared → Prop} (hS : s.heap.get? S = some { cls := .type "bytearray", data := .bytearray b }) (hz : (f b).size ≤ 1000)
    (h : (s.heap.update S (Obj.mapBytearray f)).get? S = some { cls := .type "bytearray", data := .bytearray (f b) } → Q () { s with heap := s.heap.update S (Obj.mapBytearray f) }) : wpAny M A (Builtin.Bytes.write (.ref S) f) Q E s := by
  show wpAny _ _ (updateBytearray S _) _ _ _
  unfold updateBytearray
  refine wpAny_bind (wpAny_load hS ?_)
  show wpAny _ _ (update S (Obj.mapBytearray f) >>= fun _ => lookBehind S) _ _ _
  refine wpAny_bind (wpAny_update hS ?_)
  have hS₁ := Heap.get?_update_self (Obj.mapBytearray f) hS rfl
  refine wpAny_lookBehind hS₁ (by show (if (f b).size > sizeLine then some "bytearray:memory" else none) = none; rw [if_neg]; rw [sizeLine_eq]; omega) ?_
  exact h hS₁

theorem setItem_barr {D : Addr} {b : Array UInt8} {j v : Int} {t t' : Tok} {Q : Unit → Shared → Prop} (hS : s.heap.get? D = some { cls := .type "bytearray", data := .bytearray b })
    (h0 : 0 ≤ j) (hn : j < b.size) (hz : b.size ≤ 1000) (hv : 0 ≤ v) (hv' : v < 256)
    (hQ : ∀ h', h'.get? D = some { cls := .type "bytearray", data := .bytearray (b.setIfInBounds j.toNat v.toNat.toUInt8) } → Heap.SameBut D s.heap h' → Q () { s with heap := h' }) :
    wpAny (MM w) A (setItem (.ref D) (.int j t) (.int v t')) Q NoE s := by
  have hT : s.TypeIs (.ref D) "bytearray" := ⟨_, hS, rfl⟩
  unfold setItem
  try with_reducible refine wpAny_holding ?_
  refine wpAny_bind (wpAny_sequenceKey hT (by decide) ?_)
  refine wpAny_bind (wpAny_callSpecial?_slot (name := Str.ofString "__setitem__") hT BA.slot_setitem (wpAny_call_entry BA.slot_setitem hT BA.entry_setitem ?_ (BA.args_setitem _ _ _)))
  unfold Builtin.«bytearray.__setitem__»
  refine bm_if_false rfl ?_
  dsimp only
  with_reducible refine wpAny_bind ?_
  unfold Builtin.Bytes.subscript?
  with_reducible refine wpAny_bind (wpAny_specialOf (typeIs_int _ _ _) BA.lookup_index ?_)
  with_reducible refine bm_if_false rfl ?_
  rw [show asIndex (.int j t) = pure j from rfl]
  with_reducible refine wpAny_bind (wpAny_pure ?_)
  rw [show Builtin.Bytes.fitsIndex j = true from by unfold Builtin.Bytes.fitsIndex; simp only [Bool.and_eq_true, decide_eq_true_eq]; omega]
  with_reducible refine bm_if_false rfl ?_
  with_reducible refine wpAny_pure ?_
  dsimp only
  with_reducible refine wpAny_bind ?_
  unfold Builtin.Bytes.byteValue
  rw [show asIndex (.int v t') = pure v from rfl]
  with_reducible refine wpAny_bind (wpAny_pure ?_)
  rw [show (decide (v < 0) || decide (v ≥ 256)) = false from by simp only [Bool.or_eq_false_iff, decide_eq_false_iff_not]; omega]
  with_reducible refine bm_if_false rfl ?_
  with_reducible refine wpAny_pure ?_
  with_reducible refine wpAny_bind ?_
  unfold Builtin.Bytes.payload Builtin.Bytes.payload?
  refine wpAny_bind (wpAny_bind (wpAny_load hS ?_))
  refine wpAny_pure (wpAny_pure ?_)
  rw [seqIndex_nonneg h0 hn]
  dsimp only
  with_reducible refine wpAny_bind ?_
  refine upd_barr hS (by rw [Array.size_setIfInBounds]; exact hz) fun g => ?_
  exact wpAny_pure ⟨.none, rfl, wpAny_pure (hQ _ g (Heap.SameBut.update ..))⟩

theorem ownBuf {S : Addr} {M : Model} {E : Value → Shared → Prop} {Q : Bool → Shared → Prop} (hT : s.TypeIs (.ref S) "bytearray") (h : Q true s) : wpAny M A (Builtin.Bytes.slotIsOwn (.ref S) "__buffer__") Q E s := by
  unfold Builtin.Bytes.slotIsOwn
  refine wpAny_bind (wpAny_specialOf hT BA.lookup_buf ?_)
  dsimp only
  rw [BA.buf_ends, BA.buf_drop]
  refine bm_if_false rfl ?_
  exact wpAny_isInstance hT BA.sub_self h

theorem newCallB (a : Value) : checkBuiltinCall "bytes.__new__" ⟨[.type "bytes", a], []⟩ = pure () := PySem.F.bm_newCall a
theorem bytes_barr {D : Addr} {b : Array UInt8} {Q : Value → Shared → Prop} (hS : s.heap.get? D = some { cls := .type "bytearray", data := .bytearray b }) (hz : b.size ≤ 1000)
    (hQ : ∀ t k, Q (.bytes b t) { s with toks := k }) : wpAny (MM w) A (call (.type "bytes") [.ref D]) Q NoE s := by
  have hT : s.TypeIs (.ref D) "bytearray" := ⟨_, hS, rfl⟩
  refine callType_codes (Q₁ := fun obj s₁ => s₁.TypeIs obj "bytes" ∧ Q obj s₁) PySem.F.bm_called (PySem.F.bm_typeCall _) PySem.F.entry_object_init ?_ fun obj s₁ h₁ => ?_
  · refine codeAny_of_tree ?_
    show wpAny _ A.in1.in1 (do checkBuiltinCall "bytes.__new__" ⟨[.type "bytes", .ref D], []⟩; again (.builtin "bytes.__new__" ⟨[.type "bytes", .ref D], []⟩)) _ _ s
    refine wpAny_bind (wpAny_of_eq (PySem.F.bm_newCall _) (wpAny_pure ⟨plainId_quiet PySem.F.bm_plain _, codeAny_builtin PySem.F.bm_entry ?_⟩))
    rw [Around.under_plainId PySem.F.bm_plain _]
    unfold Builtin.«bytes.__new__»
    refine wpAny_bind (wpAny_of_eq (a := true) rfl ?_)
    refine bm_if_false rfl ?_
    refine wpAny_bind (wpAny_of_eq PySem.F.bm_sub ?_)
    refine bm_if_false rfl ?_
    refine wpAny_bind (wpAny_of_eq (PySem.F.bm_bind _) ?_)
    refine wpAny_bind (wpAny_of_eq (a := ()) rfl ?_)
    refine wpAny_bind (wpAny_of_eq (a := ()) rfl ?_)
    refine bm_if_false rfl ?_
    refine wpAny_bind (wpAny_specialOf hT BA.noBytes ?_)
    refine wpAny_bind (wpAny_bind ?_)
    show wpAny _ _ (load D >>= _) _ _ _
    refine wpAny_bind (wpAny_load hS ?_)
    refine wpAny_pure (wpAny_pure ?_)
    refine bm_if_false rfl ?_
    refine wpAny_bind (wpAny_specialOf hT BA.noIndex ?_)
    refine bm_if_true rfl ?_
    first
      | show wpAny _ _ (Builtin.Bytes.buffer? "bytes.__new__" (.ref D) true >>= _) _ _ _
      | (refine wpAny_bind ?_; show wpAny _ _ (Builtin.Bytes.buffer? "bytes.__new__" (.ref D) true >>= _) _ _ _)
    refine wpAny_bind ?_
    unfold Builtin.Bytes.buffer?
    refine wpAny_bind (wpAny_specialOf hT BA.lookup_buf ?_)
    refine wpAny_bind (ownBuf hT ?_)
    with_reducible refine bm_if_false rfl ?_
    with_reducible refine wpAny_bind (wpAny_specialOf hT BA.lookup_buf ?_)
    refine wpAny_bind (wpAny_slotIsOwn_rel hT ?_)
    refine bm_if_false rfl ?_
    refine wpAny_bind ?_
    unfold Builtin.Bytes.payload Builtin.Bytes.payload?
    refine wpAny_bind (wpAny_bind (wpAny_load hS ?_))
    refine wpAny_pure (wpAny_pure (wpAny_pure ?_))
    dsimp only
    refine wpAny_bind (wpAny_rule ?_)
    refine wpAny_bind (wpAny_mkBytes ?_ (by rw [sizeLine_eq]; omega))
    show wpAny _ _ (if (Value.type "bytes" == Value.type "bytes") = true then _ else _) _ _ _
    refine bm_if_true (by decide) ?_
    first
      | exact wpAny_pure ⟨PySem.W.typeIs_bytes _ _ _, hQ _ _⟩
      | exact wpAny_bind (wpAny_pure (wpAny_pure ⟨PySem.W.typeIs_bytes _ _ _, hQ _ _⟩))
  · exact ⟨h₁.1, PySem.F.args_object_init_2 obj _, object_init_meets PySem.F.bm_called.init.lookup PySem.F.bm_called.made (by decide) PR w A.in1 _ s₁ ⟨h₁.1, rfl, h₁.2⟩⟩
end
end
section
set_option maxRecDepth 100000
open PySem PySem.W PyProof.Rows PySem.Calls PyProof.V

section
variable {w : World} {k : Nat} {env : Env} {Mu : List (Addr × PD)} {ρ : Str → Option PD} {e : Expr} {d : PD} {N N' : Nx} {R : PD → Prop} {st : Stmt} {rest : List Stmt}

/-- for x in range(0, 6, 6) -/
theorem itr_range3 {x : Str} {xp np pos : Pos} {e₀ e₁ e₂ : Expr} {nm : Str} (hf : EvD w k env Mu ρ (.Name nm np) (.raw (.type "range"))) (h₀ : EvD w k env Mu ρ e₀ (.int 0)) (h₁ : EvD w k env Mu ρ e₁ (.int 6)) (h₂ : EvD w k env Mu ρ e₂ (.int 6))
    (he0 : starEach (e₀ :: [e₁, e₂]) env = (false, eval e₀ env) :: starEach [e₁, e₂] env := by rfl) (he1 : starEach (e₁ :: [e₂]) env = (false, eval e₁ env) :: starEach [e₂] env := by rfl) (he2 : starEach (e₂ :: []) env = (false, eval e₂ env) :: starEach [] env := by rfl) :
    Itr w k env Mu ρ (.Name x xp) (.Call (.Name nm np) [e₀, e₁, e₂] [] pos) 1 (fun i => [(x, .int (0 + (i : Int) * 6))]) := fun A H s hA S =>
  wpAny_Call_Name_kw (wpn (hf A H s hA S) fun f' s₁ ⟨k₁, e⟩ => by
    have e : f' = .type "range" := e
    subst e
    show wpAny (MM w) A (callWith pos (.type "range") [] (backTo pos (starEach [e₀, e₁, e₂] env)) []) _ _ _
    refine call_any (.inr (.inl ⟨_, rfl⟩)) (by rw [he0, he1, he2]; rfl) (wpn (args_cons h₀ (args_cons h₁ (args_cons h₂ args_nil he2) he1) he0 A H s₁ hA (S.sub k₁.heap)) fun vs s₂ ⟨k₂, r⟩ => ?_)
    have S₂ := (S.sub k₁.heap).sub k₂.heap
    refine ⟨(S₂.gd.sub (Fz_sub _ _)).k, ?_⟩
    obtain ⟨v, vs1, rfl, ⟨t, rfl⟩, r1⟩ := r.cons_inv
    obtain ⟨v, vs2, rfl, ⟨u, rfl⟩, r2⟩ := Rds.cons_inv r1
    obtain ⟨v, vs3, rfl, ⟨q, rfl⟩, r3⟩ := Rds.cons_inv r2
    rw [Rds.nil_inv r3]
    refine call_range_3 (by decide) ?_ (.inl (by decide +kernel))
    have S₃ := S₂.sub (sub_push s₂.heap { cls := .type "range", data := .fields #[.int 0 t, .int 6 u, .int 6 q] })
    have k₃ := (k₁.trans k₂).trans (Kp.to (s := s₂) (t := s₂.toks) (sub_push s₂.heap { cls := .type "range", data := .fields #[.int 0 t, .int 6 u, .int 6 q] }))
    generalize hh : s₂.heap.push { cls := .type "range", data := .fields #[.int 0 t, .int 6 u, .int 6 q] } = h3 at S₃ k₃ ⊢
    have hr : IsRange h3 s₂.heap.objs.size 0 6 6 t u q := hh ▸ IsRange.new ..
    have W := Walks.range (prog := PR) (w := w) hA.h h3.objs.size 0 6 1
    refine wpAny_pyIter_range (s := { s₂ with heap := h3, toks := s₂.toks }) hr (by decide +kernel) (itr_walk (ds := fun i => .int (0 + (i : Int) * 6)) (k₃.trans (Kp.to (sub_push _ _))) W ?_ ?_ ?_ ?_ ?_)
    · show IsRangeIter _ _ _ _ _
      rw [show Builtin.Range.rangeSize 0 6 6 = 1 from by decide +kernel]
      exact Heap.get?_push_size _ rfl
    · intro b m
      rw [List.mem_singleton.mp m]
      exact none_back k₃.heap none_of_size
    · intro i g st b m
      rw [List.mem_singleton.mp m]; exact ⟨_, st⟩
    · intro b m
      rw [List.mem_singleton.mp m]; exact S₃.fresh none_of_size
    · intro i v g hi ⟨t, e⟩ z
      subst e
      exact ⟨t, rfl⟩)

theorem ev_itemB {l i : Expr} {pos : Pos} {bs : List UInt8} {x : Int} (a : EvD w k env Mu ρ l (.bytes bs)) (b : EvD w k env Mu ρ i (.int x)) (h0 : 0 ≤ x) (hx : x < bs.length) (hz : bs.length ≤ 1000)
    (hs : ∀ o v, subscripted i false o v = operate [o, v] (getItem o v) := by intro _ _; with_unfolding_all rfl) : EvD w k env Mu ρ (.Subscript l i pos) (.int (bs.getD x.toNat 0).toNat) := fun A H s hA S =>
  Subscript_ (wpn (a A H s hA S) fun u s₁ ⟨k₁, t', r₁⟩ => wpn (b A H s₁ hA (S.sub k₁.heap)) fun v s₂ ⟨k₂, t, r₂⟩ => by
    subst r₂; subst r₁
    exact tail_any (PySem.W.typeIs_bytes _ _ _) FB.slot_bytes_getitem.lookup (getItem_bytes (by omega) h0 hx ⟨(k₁.trans k₂).trans (Kp.tok _ _), _, rfl⟩) (hs _ _))
theorem cd_lenB {bs : List UInt8} (hz : bs.length ≤ 1000) : CallD w k (.builtin "len") [.bytes bs] (.int bs.length) := fun A H s vs hA G al r => by
  obtain ⟨v, vs1, rfl, ⟨t, rfl⟩, r1⟩ := r.cons_inv
  rw [Rds.nil_inv r1]
  exact len_bytes (by rw [List.size_toArray]; omega) ⟨Kp.tok s _, _, by rw [List.size_toArray]⟩

/-- b[j] = x, of a bytearray -/
theorem ex_setitemB {o y x : Expr} {apos spos : Pos} {i : Nat} {D : Addr} {bs : List UInt8} {j v : Int} (hi : Mu[i]? = some (D, .barr bs)) (b : EvD w k env Mu ρ x (.int v)) (a : EvD w k env Mu ρ o (.raw (.ref D))) (c : EvD w k env Mu ρ y (.int j))
    (hj : 0 ≤ j) (hj' : j < bs.length) (hz : bs.length ≤ 1000) (hv : 0 ≤ v) (hv' : v < 256)
    (n : Ex w k env (Mu.set i (D, .barr (bs.set j.toNat v.toNat.toUInt8))) ρ rest N R)
    (hs : swapsWith x (some (.Subscript o y apos)) spos.line env = pure false := by rfl) :
    Ex w k env Mu ρ (.Assign [.Subscript o y apos] x spos :: rest) N R :=
  ex_cons (N' := only (Mu.set i (D, .barr (bs.set j.toNat v.toNat.toUInt8))) ρ) (fun A H h0 s hA S B => by
    refine wpAny_Assign_Subscript (wpn (b A H s hA S) fun v' s₁ ⟨k₁, t', rv⟩ => wpn (a A H s₁ hA (S.sub k₁.heap)) fun ov s₂ ⟨k₂, ro⟩ => wpn (c A H s₂ hA ((S.sub k₁.heap).sub k₂.heap)) fun iv s₃ ⟨k₃, t, ri⟩ => ?_) hs
    have ro : ov = .ref D := ro
    subst ro; subst ri; subst rv
    have S₃ := ((S.sub k₁.heap).sub k₂.heap).sub k₃.heap
    have p : s₃.heap.get? D = some { cls := .type "bytearray", data := .bytearray bs.toArray } := S₃.mu _ (List.mem_of_getElem? hi)
    refine setItem_barr p hj (by rw [List.size_toArray]; exact hj') (by rw [List.size_toArray]; exact hz) hv hv' fun h₄ p₄ sb => ?_
    have kk := (k₁.trans k₂).trans k₃
    exact ⟨kk.grew.trans ⟨h₄, s₃.toks, rfl⟩, _, _, ⟨rfl, rfl⟩, S₃.turn hi sb (by show h₄.get? D = _; rw [p₄]; simp), (B.sub kk.heap).turn hi sb⟩) fun Mu' ρ' ⟨e, e'⟩ => by subst e; subst e'; exact n

/-- bytes(b), of a bytearray -/
theorem ev_bytesB {x : Str} {xp pos : Pos} {D : Addr} {bs : List UInt8} (hf : EvD w k env Mu ρ (.Name x xp) (.raw (.type "bytes"))) (a : EvD w k env Mu ρ e (.raw (.ref D))) (m : (D, PD.barr bs) ∈ Mu) (hz : bs.length ≤ 1000)
    (he : starEach [e] env = [(false, eval e env)] := by rfl) : EvD w k env Mu ρ (.Call (.Name x xp) [e] [] pos) (.bytes bs) := fun A H s hA S =>
  wpAny_Call_Name_kw (wpn (hf A H s hA S) fun f' s₁ ⟨k₁, e'⟩ => by
    have e' : f' = .type "bytes" := e'
    subst e'
    refine PySem.callWith_type (by rw [he]; rfl) ?_
    rw [he]
    refine evalArgs_plain (spliced_cons (wpn (a A H s₁ hA (S.sub k₁.heap)) fun v s₂ ⟨k₂, r⟩ => spliced_nil ?_))
    have r : v = .ref D := r
    subst r
    have p : s₂.heap.get? D = some { cls := .type "bytearray", data := .bytearray bs.toArray } := ((S.sub k₁.heap).sub k₂.heap).mu _ m
    exact bytes_barr p (by rw [List.size_toArray]; exact hz) fun t q => ⟨(k₁.trans k₂).trans (Kp.tok _ _), t, rfl⟩)
end
end
section
set_option maxRecDepth 100000
open PySem PySem.W PyProof.Rows PySem.Calls PyProof.V

section
variable {prog : Program} {w : World} {A : Around} {E : Value → Shared → Prop} {s : Shared} {b : Array UInt8} {t : Tok}
theorem hint_bytes {Q : Bool → Shared → Prop} (h : Q false s) : wpAny (model prog w) A (Builtin.List.listLengthHint (.bytes b t)) Q E s := by
  unfold Builtin.List.listLengthHint
  refine wpAny_bind (wpAny_specialOf (PySem.W.typeIs_bytes _ _ _) FB.slot_bytes_len.lookup ?_)
  generalize hid : ("bytes.__len__" : String) = id0
  wp_delta
  rw [show splitId id0 = some ("bytes", "__len__") from by subst hid; decide +kernel]
  subst hid
  refine wpAny_bind (wpAny_isInstance (T := "bytes") (b := true) (PySem.W.typeIs_bytes _ _ _) (by rw [isSubtype_type]; kernel_rfl) ?_)
  refine wpAny_ite_split (fun hab => absurd hab (by decide)) (fun _ => ?_)
  refine wpAny_ite_split (fun _ => ?_) (fun hab => absurd (by decide +kernel) hab)
  refine wpAny_bind (wpAny_typeOf (PySem.W.typeIs_bytes _ _ _) ?_)
  exact wpAny_pure h

noncomputable abbrev byteAt (b : Array UInt8) (i : Nat) (v : Value) : Prop := ∃ c u, b[i]? = some c ∧ v = .int (c.toNat : Int) u
theorem extend_bytes {R : Result → Shared → Prop} (hh : A.handled = none) (S : Addr) (res : Value) (c₀ : Nat) (hS : s.heap.get? S = some { cls := .type "list", data := .seq #[] c₀ })
    (hR : ∀ h' tk acc' c', (∀ q o, q ≠ S → s.heap.get? q = some o → h'.get? q = some o) → h'.get? S = some { cls := .type "list", dict := none, data := .seq acc' c', slots := #[] } → ItemsOf (byteAt b) acc' b.size → R (.ok (.ret res)) { s with heap := h', toks := tk }) (hn : b.size ≤ sizeLine) :
    wpAny (model prog w) A.in1 (Builtin.List.listExtendWith (.ref S) (.bytes b t) res)
      (fun fin s' => match fin with | .done f => R (.ok f) s' | .again c' => c'.quiet = true ∧ codeAny (model prog w) A c' R s') (fun e s' => R (.error e) s') s := by
  have hSI : S ≠ s.heap.objs.size := Nat.ne_of_lt (Heap.lt_size hS)
  have hSf : S ∉ [s.heap.objs.size] := by simp only [List.mem_singleton]; exact hSI
  have W := KBw.walks (prog := prog) (w := w) (A := A.in1) hh s.heap.objs.size b t
  have key : ∀ (h : Heap) (c₁ tk : Nat), KBw.IsBytesIter h s.heap.objs.size b t 0 → (∀ q o, q ≠ S → s.heap.get? q = some o → h.get? q = some o) →
      h.get? S = some { cls := .type "list", data := .seq #[] c₁ } → codeAny (model prog w) A (.builtin "list.extend.loop" ⟨[.ref S, .ref s.heap.objs.size, res], []⟩) R { s with heap := h, toks := tk } := by
    intro h c₁ tk hst hk hS₁
    refine codeAny_extend_loopS W.toS hn S hSf res b.size 0 _ #[] c₁ rfl (Nat.zero_le _) hst hS₁ (ItemsOf.nil _) fun s' acc' c' hm hS' hacc => ?_
    rw [Moved.eq_with hm]
    refine hR s'.heap s'.toks acc' c' (fun q o hb e => hm.heap q o (fun hmem => ?_) (hk q o hb e)) hS' hacc
    rcases List.mem_cons.mp hmem with e' | hmem
    · exact hb e'
    · exact absurd (Heap.lt_size e) (by rw [List.mem_singleton.mp hmem]; exact Nat.lt_irrefl _)
  unfold Builtin.List.listExtendWith
  refine wpAny_bind (wpAny_typeOf (T := "bytes") (PySem.W.typeIs_bytes _ _ _) ?_)
  have h1 : Builtin.List.listSameRef (.ref S) (.bytes b t) = false := rfl
  have h2 : (Value.type "bytes" == Value.type "list") = false := by decide
  have h3 : (Value.type "bytes" == Value.type "tuple") = false := by decide
  simp only [h1, h2, h3, Bool.or_false, Bool.false_eq_true, if_false]
  refine wpAny_bind (KBw.pyIter_bytes ?_)
  have hS₁ := Heap.get?_push_of_some { cls := .type "bytes_iterator", data := .fields #[.bytes b t, .int 0 0] } hS
  have st : KBw.IsBytesIter (s.heap.push { cls := .type "bytes_iterator", data := .fields #[.bytes b t, .int 0 0] }) s.heap.objs.size b t 0 := ⟨_, Heap.get?_push_size _ rfl, rfl, rfl⟩
  refine wpAny_bind (wpAny_holding (hint_bytes ?_))
  refine wpAny_ite_split (fun _ => ?_) (fun _ => wpAny_pure ⟨plainId_quiet PySem.F.plain_extend_loop _, key _ c₀ _ st (fun q o _ e => Heap.get?_push_of_some _ e) hS₁⟩)
  refine wpAny_bind (wpAny_rule ?_)
  refine wpAny_bind ?_
  show wpAny _ _ (updateSeq S (·.push .none) >>= fun _ => updateSeq S (·.pop)) _ _ _
  refine wpAny_bind (wpAny_updateSeq hS₁ rfl ?_)
  have hS₂ := Heap.get?_update_self (Obj.mapSeq (·.push Value.none)) hS₁ rfl
  refine wpAny_updateSeq (hz := by seq_fits) hS₂ rfl ?_
  have hS₃ := Heap.get?_update_self (Obj.mapSeq (·.pop)) hS₂ rfl
  refine wpAny_pure ⟨plainId_quiet PySem.F.plain_extend_loop _, key _ _ _ ?_ (fun q o hb e => ?_) hS₃⟩
  · refine W.frame 0 _ _ st fun q hb o e => ?_
    have hbS : q ≠ S := fun h => hSf (h ▸ hb)
    exact (Heap.get?_update_other _ _ (Ne.symm hbS)).trans ((Heap.get?_update_other _ _ (Ne.symm hbS)).trans e)
  · exact (Heap.get?_update_other _ _ (Ne.symm hb)).trans ((Heap.get?_update_other _ _ (Ne.symm hb)).trans (Heap.get?_push_of_some _ e))
theorem init_bytes {R : Result → Shared → Prop} (hh : A.handled = none) (S : Addr) (hS : s.heap.get? S = some { cls := .type "list", data := .seq #[] })
    (hR : ∀ h' tk acc' c', (∀ q o, q ≠ S → s.heap.get? q = some o → h'.get? q = some o) → h'.get? S = some { cls := .type "list", dict := none, data := .seq acc' c', slots := #[] } → ItemsOf (byteAt b) acc' b.size → R (.ok (.ret .none)) { s with heap := h', toks := tk }) (hn : b.size ≤ sizeLine) :
    wpAny (model prog w) A.in1 (Builtin.«list.__init__» ⟨[.ref S, .bytes b t], []⟩)
      (fun fin s' => match fin with | .done f => R (.ok f) s' | .again c' => c'.quiet = true ∧ codeAny (model prog w) A c' R s') (fun e s' => R (.error e) s') s := by
  show wpAny _ _ (do let old ← Builtin.List.listItems (.ref S); Builtin.List.listUpdate (.ref S) (fun _ => #[]); letGo old.toList.reverse; Builtin.List.listExtendWith (.ref S) (.bytes b t) .none) _ _ s
  refine wpAny_bind ?_
  unfold Builtin.List.listItems
  refine wpAny_bind (wpAny_seqItems hS rfl (wpAny_pure ?_))
  show wpAny _ _ (updateSeq S (fun _ => #[]) >>= fun _ => letGo (#[] : Array Value).toList.reverse >>= fun _ => Builtin.List.listExtendWith (.ref S) (.bytes b t) .none) _ _ s
  refine wpAny_bind (wpAny_updateSeq hS rfl ?_)
  have hS₂ := Heap.get?_update_self (Obj.mapSeq (fun _ => (#[] : Array Value))) hS rfl
  have oth : ∀ q o, q ≠ S → s.heap.get? q = some o → (s.heap.update S (Obj.mapSeq (fun _ => (#[] : Array Value)))).get? q = some o :=
    fun q o hb e => (Heap.get?_update_other _ _ (Ne.symm hb)).trans e
  refine wpAny_bind (wpAny_letGo ?_)
  refine extend_bytes hh S .none _ hS₂ (fun h' tk acc' c' hk hS' hacc => ?_) hn
  exact hR h' tk acc' c' (fun q o hb e => hk q o hb (oth q o hb e)) hS' hacc
theorem list_bytes {Q : Value → Shared → Prop} (hh : A.handled = none) (hn : b.size ≤ sizeLine)
    (hQ : ∀ h' tk acc' c', (∀ q o, s.heap.get? q = some o → h'.get? q = some o) → h'.get? s.heap.objs.size = some { cls := .type "list", dict := none, data := .seq acc' c', slots := #[] } → ItemsOf (byteAt b) acc' b.size → Q (.ref s.heap.objs.size) { s with heap := h', toks := tk }) :
    wpAny (model prog w) A (call (.type "list") [.bytes b t]) Q E s := by
  refine callType_codes (Q₁ := fun obj s₁ => obj = .ref s.heap.objs.size ∧ s₁ = { s with heap := s.heap.push { cls := .type "list", data := .seq #[] } }) PySem.F.called_list (PySem.F.typeCall_list_1 _) PySem.F.entry_list_init
    (code_list_new _ ⟨rfl, rfl⟩) fun obj s₁ h₁ => ?_
  obtain ⟨rfl, rfl⟩ := h₁
  have hS : (s.heap.push { cls := .type "list", data := .seq #[] }).get? s.heap.objs.size = some { cls := .type "list", data := .seq #[] } := Heap.get?_push_size _ rfl
  refine ⟨⟨_, hS, rfl⟩, PySem.F.args_list_init_2 _ _, init_bytes (A := A.in1) hh _ hS (fun h' tk acc' c' hk hS' hacc => ?_) hn⟩
  exact ⟨rfl, hQ h' tk acc' c' (fun q o e => hk q o (Nat.ne_of_lt (Heap.lt_size e)) (Heap.get?_push_of_some _ e)) hS' hacc⟩
end
section
variable {w : World} {k : Nat}
theorem rds_of_get {h : Heap} : ∀ {vs : List Value} {ds : List PD}, vs.length = ds.length → (∀ (j : Nat) (v : Value), vs[j]? = some v → ∃ d, ds[j]? = some d ∧ Rd w h d v) → Rds w h ds vs
  | [], [], _, _ => rfl
  | [], _ :: _, e, _ => by simp at e
  | _ :: _, [], e, _ => by simp at e
  | v :: vs, d :: ds, e, r => by
    obtain ⟨d', e', q⟩ := r 0 v rfl
    cases e'
    exact Rds.cons q (rds_of_get (by simpa using e) fun j u hu => r (j + 1) u hu)
theorem cd_listB {bs : List UInt8} (hz : bs.length ≤ 1000) : CallD w k (.type "list") [.bytes bs] (.ints (bs.map fun c => (c.toNat : Int))) := fun A H s vs hA G al r => by
  obtain ⟨v, vs1, rfl, ⟨t, rfl⟩, r1⟩ := r.cons_inv
  rw [Rds.nil_inv r1]
  refine list_bytes hA.h (by rw [List.size_toArray, sizeLine_eq]; omega) fun h' tk acc c hk hS hacc => ⟨Kp.to hk, ?_⟩
  refine rd_newList (vs := acc.toList) (notin_of al none_of_size) ⟨c, by rw [Array.toArray_toList]; exact hS⟩ (rds_of_get ?_ fun j v hv => ?_)
  · have := hacc.1
    simp at this ⊢; exact this
  · obtain ⟨c', u, e, rfl⟩ := hacc.2 j v (by simpa using hv)
    refine ⟨.int c'.toNat, ?_, u, rfl⟩
    have e : bs[j]? = some c' := by simpa using e
    simp [e]
end
end
section
open PySem PySem.W PyProof.Rows PySem.Calls
theorem boot_bytearray : bootBuiltins "bytearray" = some (.type "bytearray") := by decide +kernel
noncomputable def swapTo (bs : List UInt8) : Nat → List UInt8
  | 0 => (zeros 6).toList
  | j + 1 => (swapTo bs j).set (5 - j) (bs.getD j 0)
theorem swapTo_len (bs : List UInt8) : ∀ j, (swapTo bs j).length = 6
  | 0 => by simp [swapTo, zeros]
  | j + 1 => by rw [swapTo, List.length_set]; exact swapTo_len bs j
theorem swap_all {bs : List UInt8} (h : bs.length = 6) : swapTo bs 6 = bs.reverse := by
  match bs, h with
  | [a, b, c, d, e, f], _ => rfl
section
variable {w : World} {k : Nat} {env : Env} {H : List Addr} {Mu : List (Addr × PD)} {ρ : Str → Option PD} {h : Heap} {e : Expr} {d : PD} {N : Nx} {R : PD → Prop} {rest : List Stmt}
noncomputable abbrev bF (bs : List UInt8) (D : Addr) : List (Str × PD) := [("data", .bytes bs), ("width", .int 6), ("swapped_data", .raw (.ref D))]
set_option maxRecDepth 100000 in
set_option maxHeartbeats 4000000 in
theorem byteswap_ok {bs : List UInt8} (hb : bs.length = 6) : CallN w (k + 2) (.ref 88) [.bytes bs, .int 6] (.bytes bs.reverse) := by
  refine call_fnN (names := ["data", "width"]) (es := [.bytes bs, .int 6]) (by (walk_at "mu")) ?hcd ?hb ?bd ?hkind ?hnd rfl ?hcn ?_ ?_ ?_
  case hcd => (walk_at "mu")
  case hkind => (walk_at "mu")
  case hb => exact hb_plain fun vs h => by obtain ⟨x, y, rfl⟩ := len_two h; (walk_at "mu")
  case hnd => decide
  case hcn => decide
  case bd =>
    intro L
    refine exN_new (new_barr (n := 6) (ev_boot (by with_unfolding_all rfl) boot_bytearray (by with_unfolding_all rfl) (by decide) (by with_unfolding_all rfl)) ((ev_call (by (walk_at "mnm")) (by (walk_at "mcal")) (args_cons (by (walk_at "mnm")) args_nil) (cd_lenB (bs := bs) (by omega))).eq (by rw [hb])) (by omega)) (fun D => ?_) (by (walk_at "mu"))
    refine ex_can (bF bs D) (by (walk_at "mcan")) ?_
    refine ex_for (n := 1) (bs := fun i => [("i", .int (0 + (i : Int) * 6))]) (J := fun i Mu' ρ' => Mu' = [(D, .barr (swapTo bs (6 * i)))] ∧ ρ' = rL (bF bs D)) ?it (by (walk_at "mhk")) ⟨rfl, rfl⟩ ?_ ?_
    case it => exact itr_range3 (by (walk_at "mnm")) (by (walk_at "mev")) ((ev_call (by (walk_at "mnm")) (by (walk_at "mcal")) (args_cons (by (walk_at "mnm")) args_nil) (cd_lenB (bs := bs) (by omega))).eq (by rw [hb]; rfl)) (by (walk_at "mnm"))
    · rintro i Mu' ρ' hi ⟨rfl, rfl⟩
      obtain rfl : i = 0 := by omega
      refine ex_can (("i", .int 0) :: bF bs D) (by (walk_at "mcan")) ?_
      refine ex_for (n := 6) (bs := fun j => [("j", .int j)]) (J := fun j Mu' ρ' => Mu' = [(D, .barr (swapTo bs j))] ∧ ρ' = rL (("i", .int 0) :: bF bs D)) ?it2 (by (walk_at "mhk")) ⟨rfl, rfl⟩ ?_ ?_
      case it2 => exact (itr_range1 (b := 6) (by (walk_at "mnm")) (by (walk_at "mnm")) (by decide) (by decide)).congr (by intro j _; simp)
      · rintro j Mu' ρ' hj ⟨rfl, rfl⟩
        refine ex_can (("j", .int j) :: ("i", .int 0) :: bF bs D) (by (walk_at "mcan")) ?_
        have hs := swapTo_len bs j
        refine ex_setitemB (i := 0) (D := D) (bs := swapTo bs j) (j := ((5 - j : Nat) : Int)) (v := (bs.getD j 0).toNat) rfl (ev_itemB (x := (j : Int)) (by (walk_at "mnm")) ((ev_bin (by (walk_at "mnm")) (by (walk_at "mnm")) op_add).eq (by simp)) (by omega) (by omega) (by omega)) (by (walk_at "mnm")) ((ev_bin (ev_bin (ev_bin (by (walk_at "mnm")) (by (walk_at "mnm")) op_add) (by (walk_at "mev")) op_sub) (by (walk_at "mnm")) op_sub).eq (by congr 1; omega)) (by omega) (by omega) (by omega) (by omega) ?hv ?_ (by (walk_at "mu"))
        case hv => have := (bs.getD j 0).toNat_lt; omega
        refine ex_can (("i", .int 0) :: bF bs D) (by (walk_at "mcan")) (ex_nil ⟨?_, rfl⟩)
        simp [swapTo]
      · rintro Mu' ρ' ⟨rfl, rfl⟩
        exact ex_can (bF bs D) (by (walk_at "mcan")) (ex_nil ⟨rfl, rfl⟩)
    · rintro Mu' ρ' ⟨rfl, rfl⟩
      refine ex_return (d := .bytes (swapTo bs 6)) (ev_bytesB (D := D) (by (walk_at "mnm")) (by (walk_at "mnm")) (List.mem_singleton.mpr rfl) (by rw [swapTo_len]; omega)) (by rw [swap_all hb])
  all_goals (walk_at "mu")
end
end
section
set_option maxRecDepth 100000
open PySem PySem.W PyProof.Rows PySem.Calls PyProof.V

section
variable {prog : Program} {w : World} {A : Around} {E : Value → Shared → Prop} {s : Shared}
theorem nextOf_tup {it t : Addr} {i : Nat} {items : Array Value} {x : Value} {Q : Value → Shared → Prop} (hit : IsTupIter s.heap it t i)
    (ht : IsTup s.heap t items) (hx : items[i]? = some x)
    (hQ : ∀ h', IsTupIter h' it t (i + 1) → Heap.SameBut it s.heap h' → Q x { s with heap := h' }) :
    wpAny (model prog w) A (Builtin.SmallTypes.nextOf (.ref it)) Q E s := by
  obtain ⟨o, ho, hc, hd⟩ := id hit
  obtain ⟨ol, hol, _, nl, hdl⟩ := ht
  unfold Builtin.SmallTypes.nextOf
  refine wpAny_bind (wpAny_callSpecial?_slot (name := Str.ofString "__next__") hit.typeIs slot_tupleiter_next
    (wpAny_call_entry slot_tupleiter_next hit.typeIs entry_tupleiter_next ?_ (args_tupleiter_next _)))
  show wpAny _ _ (field (.ref it) 0 >>= _) _ _ s
  refine wpAny_bind (wpAny_field ho hd (x := .ref t) rfl ?_)
  show wpAny _ _ (if (Value.ref t == Value.none) = true then _ else _) _ _ s
  rw [if_neg (show ¬ ((Value.ref t == Value.none) = true) from Bool.false_ne_true)]
  show wpAny _ _ (field (.ref it) 1 >>= _) _ _ s
  refine wpAny_bind (wpAny_field ho hd (x := .int i 0) rfl ?_)
  show wpAny _ _ (seqItems? (.ref t) >>= _) _ _ s
  refine wpAny_bind (wpAny_seqItems hol hdl ?_)
  simp only [Int.toNat_natCast, hx]
  refine wpAny_bind (wpAny_setField ho hd (by simp) (wpAny_pure ⟨x, rfl, wpAny_pure (hQ _ ?_ (Heap.SameBut.update ..))⟩))
  exact ⟨_, Heap.get?_update_self _ ho (Obj.isFreed_of_fields (Obj.data_mapFields hd _)), (Obj.cls_mapFields ..).trans hc, by
    rw [Obj.data_mapFields hd]; simp [rawInt]⟩
theorem nextOf_tup_end {it t : Addr} {i : Nat} {items : Array Value} {Q : Value → Shared → Prop} (hh : A.handled = none)
    (hit : IsTupIter s.heap it t i) (ht : IsTup s.heap t items) (hx : items[i]? = none)
    (hE : ∀ h' e, Heap.ExtBut it s.heap h' → (∃ o, h'.get? e = some o ∧ o.cls = .type "StopIteration") → E (.ref e) { s with heap := h' }) :
    wpAny (model prog w) A (Builtin.SmallTypes.nextOf (.ref it)) Q E s := by
  obtain ⟨o, ho, hc, hd⟩ := id hit
  obtain ⟨ol, hol, _, nl, hdl⟩ := ht
  unfold Builtin.SmallTypes.nextOf
  refine wpAny_bind (wpAny_callSpecial?_slot (name := Str.ofString "__next__") hit.typeIs slot_tupleiter_next
    (wpAny_call_entry slot_tupleiter_next hit.typeIs entry_tupleiter_next ?_ (args_tupleiter_next _)))
  show wpAny _ _ (field (.ref it) 0 >>= _) _ _ s
  refine wpAny_bind (wpAny_field ho hd (x := .ref t) rfl ?_)
  show wpAny _ _ (if (Value.ref t == Value.none) = true then _ else _) _ _ s
  rw [if_neg (show ¬ ((Value.ref t == Value.none) = true) from Bool.false_ne_true)]
  show wpAny _ _ (field (.ref it) 1 >>= _) _ _ s
  refine wpAny_bind (wpAny_field ho hd (x := .int i 0) rfl ?_)
  show wpAny _ _ (seqItems? (.ref t) >>= _) _ _ s
  refine wpAny_bind (wpAny_seqItems hol hdl ?_)
  simp only [Int.toNat_natCast, hx]
  refine wpAny_bind (wpAny_rule (wpAny_bind (wpAny_setField ho hd (by simp) ?_)))
  show wpAny _ _ (newExc (.type "StopIteration") [] >>= _) _ _ _
  refine wpAny_bind ?_
  simp only [newExc, newTuple]
  refine wpAny_bind (wpAny_newObj_type ?_ (by size_fits))
  refine wpAny_bind (m := firstArgMember _ _) (wpAny_of_eq (a := Value.none) (by first | rfl | (simp only [firstArgMember]; rfl)) ?_)
  refine wpAny_newObj_type ?_ (by size_fits)
  simp only [raiseNew]
  refine wpAny_bind (wpAny_handled ?_)
  first | rw [show A.in1.handled = none from hh] | rw [hh]
  refine wpAny_bind (wpAny_pure (wpAny_throw ?_))
  exact hE _ _ (((Heap.SameBut.update ..).extBut.push _).push _) ⟨_, Heap.get?_push_size _ rfl, rfl⟩

theorem Draws.tup {prog : Program} {w : World} {A : Around} (hh : A.handled = none) (it l : Addr) (hne : l ≠ it) (items : Array Value) :
    Draws prog w A it [it, l] items.size (fun i v => items[i]? = some v) (fun i h => IsTupIter h it l i ∧ IsTup h l items) where
  live := fun _ _ st => let ⟨o, ho, _⟩ := st.1; ⟨o, ho⟩
  frame := fun _ _ _ st hk => ⟨let ⟨o, a, b⟩ := st.1; ⟨o, hk it (by simp) o a, b⟩, let ⟨o, a, b⟩ := st.2; ⟨o, hk l (by simp) o a, b⟩⟩
  item := fun i s Q E hi st hQ => by
    refine nextOf_tup st.1 st.2 (x := items[i]) (by simp [hi]) fun h' hit' hs' => ?_
    exact hQ _ h' s.toks (by simp [hi]) ⟨hit', let ⟨o, a, b⟩ := st.2; ⟨o, hs'.extBut l o hne a, b⟩⟩ hs'
  done := fun s Q E st hE => nextOf_tup_end hh st.1 st.2 (by simp) hE

theorem meets_enumerate_newT (l : Addr) (items : Array Value) :
    Meets (Builtin.«enumerate.__new__» ⟨[.type "enumerate", .ref l], []⟩) (fun _ R s => IsTup s.heap l items ∧
      R (.ok (.ret (.ref (s.heap.push { cls := .type "tuple_iterator", data := .fields #[.ref l, .int 0 0] }).objs.size)))
        { s with heap := (s.heap.push { cls := .type "tuple_iterator", data := .fields #[.ref l, .int 0 0] }).push { cls := .type "enumerate", data := .fields #[.none, .bool false, .ref s.heap.objs.size, rawInt 0, .none, .none] } }) :=
  .of_wp fun prog w A R s h => by
    obtain ⟨hp, g, d, tk, os⟩ := s; obtain ⟨hL, h⟩ := h
    have hsub := PySem.sub_enumerate
    wp_walk
    refine wpAny_stack_any fun st => wpAny_pure ?_
    split
    · rename_i c _ _ _ _ _
      cases (c == Value.type "enumerate")
      · wp_walk using iter_tuple hL
        exact ⟨_, rfl, h⟩
      · wp_walk using iter_tuple hL
        exact ⟨_, rfl, h⟩
    · wp_walk using iter_tuple hL
      exact ⟨_, rfl, h⟩

theorem call_enumerate_tup {l : Addr} {items : Array Value} {Q : Value → Shared → Prop} (hL : IsTup s.heap l items)
    (h : ∀ h', IsEnum h' (s.heap.objs.size + 1) s.heap.objs.size 0 .none → IsTupIter h' s.heap.objs.size l 0 →
      (∀ b o, s.heap.get? b = some o → h'.get? b = some o) → Q (.ref (s.heap.objs.size + 1)) { s with heap := h' }) :
    wpAny (model prog w) A (call (.type "enumerate") [.ref l]) Q E s := by
  refine callType_new PySem.F.called_enumerate (by decide) (PySem.F.typeCall_enumerate_1 _) (PySem.F.newCall_enumerate_1 _) (fun obj => PySem.F.args_object_init_2 obj _) PySem.F.entry_enumerate_new
    (meets_enumerate_newT l items) ⟨hL, ?_⟩
  have hz : (s.heap.push { cls := .type "tuple_iterator", data := .fields #[.ref l, .int 0 0] }).objs.size = s.heap.objs.size + 1 := Heap.size_push ..
  show _ ∧ _
  rw [hz]
  have he : IsEnum ((s.heap.push { cls := .type "tuple_iterator", data := .fields #[.ref l, .int 0 0] }).push
      { cls := .type "enumerate", data := .fields #[.none, .bool false, .ref s.heap.objs.size, rawInt 0, .none, .none] }) (s.heap.objs.size + 1) s.heap.objs.size 0 .none := by
    have := Heap.get?_push_size (s.heap.push { cls := .type "tuple_iterator", data := .fields #[.ref l, .int 0 0] })
      (o := { cls := .type "enumerate", data := .fields #[.none, .bool false, .ref s.heap.objs.size, rawInt 0, .none, .none] }) rfl
    rw [hz] at this; exact this
  exact ⟨⟨_, he, rfl⟩, h _ he ⟨_, Heap.get?_push_of_some _ (Heap.get?_push_size _ rfl), rfl, rfl⟩ fun b o x => Heap.get?_push_of_some _ (Heap.get?_push_of_some _ x)⟩
end
section
variable {w : World} {k : Nat} {env : Env} {Mu : List (Addr × PD)} {ρ : Str → Option PD} {e : Expr} {d : PD}
/-- enumerate of a tuple -/
theorem itr_enumT {x y : Str} {xp yp tp np pos : Pos} {j : Nat} {l : Expr} {nm : Str} {ds : List PD} (hf : EvD w k env Mu ρ (.Name nm np) (.raw (.type "enumerate"))) (a : EvD w k env Mu ρ l (.tup ds))
    (he2 : starEach (l :: []) env = (false, eval l env) :: starEach [] env := by rfl) :
    Itr w k env Mu ρ (.Tuple [.Name x xp, .Name y yp] j tp) (.Call (.Name nm np) [l] [] pos) ds.length (fun i => [(x, .int i), (y, ds.getD i .none)]) := fun A H s hA S =>
  wpAny_Call_Name_kw (wpn (hf A H s hA S) fun f' s₁ ⟨k₁, e⟩ => by
    have e : f' = .type "enumerate" := e
    subst e
    show wpAny (MM w) A (callWith pos (.type "enumerate") [] (backTo pos (starEach [l] env)) []) _ _ _
    refine call_any (.inr (.inl ⟨_, rfl⟩)) (by rw [he2]; rfl) (wpn (args_cons a args_nil he2 A H s₁ hA (S.sub k₁.heap)) fun vs s₂ ⟨k₂, r⟩ => ?_)
    have S₂ := (S.sub k₁.heap).sub k₂.heap
    refine ⟨(S₂.gd.sub (Fz_sub _ _)).k, ?_⟩
    obtain ⟨v, vs2, rfl, ⟨q, us, rfl, p, r1⟩, r2⟩ := Rds.cons_inv r
    rw [Rds.nil_inv r2]
    have pn := p
    obtain ⟨o, po, pq⟩ := p
    have pl := Fz_of po
    have hll := Heap.lt_size pl
    refine call_enumerate_tup ⟨o, pl, pq⟩ fun h₃ he hit k₃ => ?_
    refine wpAny_pyIter_enum (s := { s₂ with heap := h₃ }) he ?_
    have hz : us.toArray.size = ds.length := by rw [List.size_toArray, r1.length]
    have W := (WalksT.enumerateD (Draws.tup (prog := PR) (w := w) (A := A.in1) hA.h s₂.heap.objs.size q (Nat.ne_of_lt hll) us.toArray) (s₂.heap.objs.size + 1) (Nat.succ_ne_self _) (by
      intro m
      rcases List.mem_cons.mp m with e | m
      · exact Nat.succ_ne_self _ e
      · exact Nat.ne_of_lt (Nat.lt_succ_of_lt hll) (List.mem_singleton.mp m).symm) (List.mem_cons_self ..)).toU
    rw [hz] at W
    have kk : Kp s { s₂ with heap := h₃ } := (k₁.trans k₂).trans (Kp.to (t := s₂.toks) k₃)
    have n1 : s₂.heap.get? (s₂.heap.objs.size + 1) = none := none_of_le (Nat.le_succ _)
    refine ⟨kk, _, _, _, _, _, _, rfl, KTurns.ofWalksU W, ⟨⟨_, he⟩, hit, ⟨o, k₃ _ _ pl, pq⟩⟩, ?_, ?_, ?_, fun s' Q st' q => W.self 0 s' Q NoE st' q, ?_⟩
    · intro b m
      rcases List.mem_cons.mp m with rfl | m
      · exact none_back (k₁.trans k₂).heap n1
      · rw [List.mem_singleton.mp m]; exact none_back (k₁.trans k₂).heap none_of_size
    · rintro i g ⟨⟨old, he⟩, hit, hl⟩ b m
      rcases List.mem_cons.mp m with rfl | m
      · exact ⟨_, he⟩
      · rcases List.mem_cons.mp m with rfl | m
        · obtain ⟨o, e, _⟩ := hit; exact ⟨o, e⟩
        · rw [List.mem_singleton.mp m]; obtain ⟨o, e, _⟩ := hl; exact ⟨o, e⟩
    · intro b m
      rcases List.mem_cons.mp m with rfl | m
      · exact S₂.fresh n1
      · rcases List.mem_cons.mp m with rfl | m
        · exact S₂.fresh none_of_size
        · rw [List.mem_singleton.mp m]; exact Fz_notin po
    · rintro env' A' i v s' H' Mu' ρ' hh hi ⟨T, vals, rfl, ⟨t, xv, hx, rfl⟩, hT⟩ S' z hk
      obtain ⟨d, e, rd⟩ := r1.get' (show us[i]? = some xv by simpa using hx)
      have hd : ds.getD i .none = d := by rw [List.getD_eq_getElem?_getD, e]; rfl
      try dsimp only at hk ⊢
      rw [hd] at hk ⊢
      refine asg2 hh S' hT ⟨t, rfl⟩ (rd.sub (Sub.trans (Fz_more' (.of k₃) fun q m n' => ?_) z)) (hk _ (.head _)) (hk _ (.tail _ (.head _)))
      rcases List.mem_append.mp m with m | m
      · rcases List.mem_cons.mp m with rfl | m
        · exact n1
        · rw [List.mem_singleton.mp m]; exact none_of_size
      · exact absurd m n')
end
end
section
open PySem PySem.W PyProof.Rows PySem.Calls
/-! what the law draws from its script -/
noncomputable def pickI (ns : List Int) (lo hi st : Option Int) : List Int :=
  (sliceRange (sliceBounds lo hi st ns.length).1 (sliceBounds lo hi st ns.length).2.1 (sliceBounds lo hi st ns.length).2.2).filterMap (ns[·]?)
theorem pickD_ints (ns : List Int) (lo hi st : Option Int) : pickD (ns.map .int) lo hi st = (pickI ns lo hi st).map .int := by
  unfold pickD pickI
  rw [List.length_map, List.map_filterMap]
  congr 1
  funext j
  rw [List.getElem?_map]
noncomputable def drawnZ (sc : List Int) : List Int := sc.map (· % 1000000)
noncomputable def turnZ (sc : List Int) (t : Nat) : Int := (pickI (drawnZ sc) (some (t : Int)) none (some 5)).sum
noncomputable def seedZ (t : Nat) : Int := ([3, 8, 13, 22, 34] : List Int).getD t 0
noncomputable def numZ (sc : List Int) : List Int := (List.range 5).map fun t => seedZ t + turnZ sc t
noncomputable def nrZ (sc : List Int) : List (List Int) := tiesZ (numZ sc)
noncomputable def kindZ (sc : List Int) : Int := (numZ sc).sum + (drawnZ sc).length
noncomputable def fstZ (sc : List Int) : Int := 1 - kindZ sc / 6 % 2 * 2
noncomputable def sndZ (sc : List Int) : Int := 1 - kindZ sc / 12 % 2 * 2
noncomputable def ordZ (sc : List Int) : List Int := walkZ (nrZ sc) (fstZ sc) (sndZ sc) (kindZ sc % 6)
theorem one_or (x : Int) : 1 - x % 2 * 2 = 1 ∨ 1 - x % 2 * 2 = -1 := by omega
theorem nrZ_ok (sc : List Int) : NearOk (nrZ sc) := ties_near _

section
variable {w : World} {k : Nat} {env : Env} {Mu : List (Addr × PD)} {ρ : Str → Option PD} {e : Expr} {d : PD} {N N' : Nx} {R : PD → Prop} {st : Stmt} {rest : List Stmt}
theorem AsgN.eq {x : Str} {d d' : PD} (a : AsgN w k env Mu ρ st x d) (h : d = d') : AsgN w k env Mu ρ st x d' := h ▸ a
theorem exN_split {ss : List Stmt} (n : Nat) (a : Ex w k env Mu ρ (ss.take n) N' R) (b : ∀ Mu' ρ', N' Mu' ρ' → ExN w k env Mu' ρ' (ss.drop n) N R) : ExN w k env Mu ρ ss N R := by
  have z := exN_app (rest := ss.drop n) a b
  rwa [List.take_append_drop] at z

noncomputable abbrev l1F (sc : List Int) : List (Str × PD) := [("script", .ints sc), ("drawn", .ints (drawnZ sc))]
noncomputable abbrev l2F (sc : List Int) : List (Str × PD) := ("numbers", .ints (numZ sc)) :: l1F sc
noncomputable abbrev l3F (sc : List Int) : List (Str × PD) := ("near", nearD (nrZ sc)) :: ("kind", .int (kindZ sc)) :: l1F sc
noncomputable abbrev l4F (sc : List Int) : List (Str × PD) := ("first", .int (fstZ sc)) :: ("second", .int (sndZ sc)) :: l3F sc
noncomputable abbrev l5F (w : World) (sc : List Int) : List (Str × PD) := ("judge", jud w (fstZ sc) (sndZ sc)) :: l4F sc
end
end
section
open PySem PySem.W PyProof.Rows PySem.Calls
noncomputable def endsZ (F : List Int) : List Int := (List.range 6).map fun p : Nat => bisZ F p - 1
noncomputable def nestI (n2 : Nat → Nat) (g : Nat → Nat → Int) : Nat → List Int
  | 0 => []
  | i + 1 => nestI n2 g i ++ (List.range (n2 i)).map (g i)
theorem nestTo_int (n2 : Nat → Nat) (g : Nat → Nat → Int) : ∀ n, nestTo n2 (fun i j => .int (g i j)) n = (nestI n2 g n).map .int
  | 0 => rfl
  | n + 1 => by rw [nestTo, nestI, nestTo_int n2 g n, List.map_append, List.map_map]; rfl
noncomputable def bandZ (order E : List Int) : List Int := sortZ (nestI (fun i => (E.getD i 0 + 1 - ((i : Int) + 1)).toNat) (fun i j => pairZ (order.getD i 0) (order.getD (i + 1 + j) 0)) 6)
noncomputable def countZ (F : List Int) : Int := ((List.range 6).map fun i : Nat => (i : Int) - F.getD i 0).sum
noncomputable def squZ (E : List Int) : Int := ((List.range 6).map fun i : Nat => (E.getD i 0 - i) ^ 2).sum
noncomputable def keysZ (l : List (Int × Int)) : List Int := l.map (·.1)
noncomputable def twosZ (l : List (Int × Int)) : List Int := (l.filter fun p => p.2 == 2).map (·.1)

/-- what plain law says of an order -/
structure LawP (nr : List (List Int)) (order : List Int) : Prop where
  O : OrdOk order
  M : OrdOk order.reverse
  srt : sortZ (firstsZ nr order 6) = firstsZ nr order 6
  low : ∀ i : Nat, i < 6 → (-1 : Int) ≤ (endsZ (firstsZ nr order 6)).getD i 0
  rng : ∀ i : Nat, i < 6 → (endsZ (firstsZ nr order 6)).getD i 0 ≤ 5
  band : sortZ (keysZ (dicS nr order 6)) = bandZ order (endsZ (firstsZ nr order 6))
  ways : waysZ nr order = bandZ order (endsZ (firstsZ nr order 6))
  cnt : cntS nr order 6 = countZ (firstsZ nr order 6)
  sq : sqS nr order 6 = squZ (endsZ (firstsZ nr order 6))
  mways : sortZ (keysZ (dicS nr order.reverse 6)) = waysZ nr order.reverse
  ins : ∀ p ∈ dicS nr order.reverse 6, PairIn order (lastsZ nr order 6) p.1
  le : ∀ i : Nat, i < 6 → (lastsZ nr order 6).getD i 0 ≤ (endsZ (firstsZ nr order 6)).getD i 0
  both : sortZ (keysZ (addZ (dicS nr order 6) (dicS nr order.reverse 6))) = bandZ order (endsZ (firstsZ nr order 6))
  nd : (keysZ (addZ (dicS nr order 6) (dicS nr order.reverse 6))).Nodup
  twice : sortZ (twosZ (addZ (dicS nr order 6) (dicS nr order.reverse 6))) = sortZ (keysZ (dicS nr order.reverse 6))
  sum : sumD (addZ (dicS nr order 6) (dicS nr order.reverse 6)) = cntS nr order 6 + cntS nr order.reverse 6
  l1 : (dicS nr order 6).length ≤ 60
  l2 : (dicS nr order.reverse 6).length ≤ 60
  l3 : (addZ (dicS nr order 6) (dicS nr order.reverse 6)).length ≤ 60
theorem OrdOk.six {order : List Int} (O : OrdOk order) : order.length = 6 := by
  have h := O.pts.len
  have sub : ∀ x ∈ ([0, 1, 2, 3, 4, 5] : List Int), x ∈ order := fun x hx => O.all x (by simp at hx; omega) (by simp at hx; omega)
  exact (perm_of_sub (by decide) sub h).length_eq
theorem OrdOk.perm {order : List Int} (O : OrdOk order) : order.Perm [0, 1, 2, 3, 4, 5] :=
  perm_of_sub (by decide) (fun x hx => O.all x (by simp at hx; omega) (by simp at hx; omega)) O.pts.len
theorem findD_of {l : List (Int × Int)} (nd : (keysZ l).Nodup) : ∀ {p : Int × Int}, p ∈ l → findD l p.1 = some p.2 := by
  induction l with
  | nil => intro p m; cases m
  | cons q l ih =>
    intro p m
    rw [keysZ, List.map_cons, List.nodup_cons] at nd
    rw [findD, List.find?_cons]
    rcases List.mem_cons.mp m with rfl | m
    · simp
    · have ne : q.1 ≠ p.1 := fun e => nd.1 (by rw [e]; exact List.mem_map_of_mem m)
      rw [decide_eq_false ne]
      exact ih nd.2 m
section
variable {w : World} {k : Nat} {env : Env} {Mu : List (Addr × PD)} {ρ : Str → Option PD} {e : Expr} {d : PD} {N N' : Nx} {R : PD → Prop} {st : Stmt} {rest : List Stmt}
theorem EvDN.eq {d d' : PD} (t : EvDN w k env Mu ρ e d) (h : d = d') : EvDN w k env Mu ρ e d' := h ▸ t
/-- f(..), where f is known to the program and walked where no decoder is on the stack -/
theorem evN_call {x : Str} {xp pos : Pos} {args : List Expr} {f : Value} {ds : List PD} (hf : EvD w k env Mu ρ (.Name x xp) (.raw f)) (hc : keepIn (KK w) f = true) (ha : EvArgs w k env Mu ρ pos args ds) (c : CallN w k f ds d)
    (hp : (backTo pos (starEach args env)).any (·.1) = false := by rfl) : EvDN w k env Mu ρ (.Call (.Name x xp) args [] pos) d := fun A H s hA S =>
  wpN_Call_Name (wpN_any (wpn (hf A H s hA S) fun f' s₁ ⟨k₁, e'⟩ => by
    have e' : f' = f := e'
    subst e'
    show wpN (MM w) A (callWith pos f' [] (backTo pos (starEach args env)) []) _ _ _
    refine callWithN_of (P := (KK w).In) (by rw [hp]; rfl) (keeps_K hc) (wpN_any (evalArgs_all hp (wpn (ha A H s₁ hA (S.sub k₁.heap)) fun vs s₂ ⟨k₂, r⟩ => ?_)))
    have S₂ := (S.sub k₁.heap).sub k₂.heap
    exact ⟨(S₂.gd.sub (Fz_sub _ _)).k, wpN_to (c A _ s₂ vs hA S₂.gd S₂.alive r) fun v s₃ ⟨k₃, q⟩ => ⟨(k₁.trans k₂).trans k₃, q⟩⟩))
end
end
section
open PySem PySem.W PyProof.Rows PySem.Calls
section
variable {w : World} {k : Nat} {env : Env} {Mu : List (Addr × PD)} {ρ : Str → Option PD} {e : Expr} {d : PD} {N N' : Nx} {R : PD → Prop} {st : Stmt} {rest : List Stmt}
noncomputable abbrev FZ (nr : List (List Int)) (o : List Int) : List Int := firstsZ nr o 6
noncomputable abbrev EZ (nr : List (List Int)) (o : List Int) : List Int := endsZ (firstsZ nr o 6)
noncomputable abbrev BZ (nr : List (List Int)) (o : List Int) : List Int := bandZ o (EZ nr o)
noncomputable abbrev m0F (nr : List (List Int)) (o : List Int) : List (Str × PD) := [("near", nearD nr), ("order", .ints o)]
noncomputable abbrev m1F (nr : List (List Int)) (o : List Int) : List (Str × PD) := [("near", nearD nr), ("order", .ints o), ("mirror", .ints o.reverse)]
noncomputable abbrev m2F (nr : List (List Int)) (o : List Int) : List (Str × PD) := ("firsts", .ints (FZ nr o)) :: ("lasts", .ints (lastsZ nr o 6)) :: m1F nr o
noncomputable abbrev m3F (nr : List (List Int)) (o : List Int) : List (Str × PD) := ("ends", .ints (EZ nr o)) :: m2F nr o
noncomputable abbrev m4F (nr : List (List Int)) (o : List Int) : List (Str × PD) := ("band", .ints (BZ nr o)) :: m3F nr o
noncomputable abbrev m5F (nr : List (List Int)) (o : List Int) : List (Str × PD) := ("walk", sE nr o 6) :: ("turned", sE nr o.reverse 6) :: m4F nr o
noncomputable abbrev m6F (nr : List (List Int)) (o : List Int) : List (Str × PD) := ("count", .int (countZ (FZ nr o))) :: m5F nr o
noncomputable abbrev BB (nr : List (List Int)) (o : List Int) : List (Int × Int) := addZ (dicS nr o 6) (dicS nr o.reverse 6)
noncomputable abbrev m7F (nr : List (List Int)) (o : List Int) : List (Str × PD) := ("both", entD (6 + 6) (cntS nr o.reverse 6 + cntS nr o 6) (sqS nr o.reverse 6 + sqS nr o 6) (0 + 0) (addZ (dicS nr o 6) (dicS nr o.reverse 6))) :: m6F nr o
noncomputable abbrev m8F (nr : List (List Int)) (o : List Int) : List (Str × PD) := ("twice", .ints (sortZ (twosZ (addZ (dicS nr o 6) (dicS nr o.reverse 6))))) :: m7F nr o
theorem nestI_len (n2 : Nat → Nat) (g : Nat → Nat → Int) (c : Nat) : ∀ n, (∀ i, i < n → n2 i ≤ c) → (nestI n2 g n).length ≤ c * n
  | 0, _ => Nat.le_refl _
  | n + 1, h => by
    have h1 := nestI_len n2 g c n fun i hi => h i (by omega)
    have h2 := h n (by omega)
    rw [nestI, List.length_append, List.length_map, List.length_range, Nat.mul_succ]; omega
theorem tst_orF {x : Expr} {rest : List Expr} {pos : Pos} (hx : Tst w k env Mu ρ x false) (hy : Tst w k env Mu ρ (.BoolOp .Or rest pos) false) : Tst w k env Mu ρ (.BoolOp .Or (x :: rest) pos) false := (tst_or hx fun _ => hy).eq rfl
theorem bytes_back {o : List Int} (h : ∀ x ∈ o, 0 ≤ x ∧ x < 6) : (byteArr o).toList.reverse.map (fun c => (c.toNat : Int)) = o.reverse := by
  rw [List.map_reverse]
  congr 1
  unfold byteArr
  rw [List.map_map]
  conv => rhs; rw [← List.map_id o]
  refine List.map_congr_left fun x hx => ?_
  have := h x hx
  obtain ⟨n, rfl⟩ := Int.eq_ofNat_of_zero_le this.1
  show ((n.toUInt8.toNat : Nat) : Int) = n
  rw [show n.toUInt8.toNat = n % 256 from UInt8.toNat_ofNat]
  omega
set_option maxRecDepth 100000 in
set_option maxHeartbeats 4000000 in
theorem law_ok {sc : List Int} (hsc : sc.length ≤ 63) (P : LawP (nrZ sc) (ordZ sc)) : CallN w (k + 4) (.ref 139) [.ints sc] (.bool true) := by
  refine call_fnN (names := ["script"]) (es := [.ints sc]) (by (walk_at "mu")) ?hcd ?hb ?bd ?hkind ?hnd rfl ?hcn ?_ ?_ ?_
  case hcd => (walk_at "mu")
  case hkind => (walk_at "mu")
  case hb => exact hb_plain fun vs h => by obtain ⟨x, rfl⟩ := len_one h; (walk_at "mu")
  case hnd => decide
  case hcn => decide
  case bd =>
    intro L
    refine exN_split (N' := fun Mu' ρ' => Mu' = [] ∧ ρ' = rL (m0F (nrZ sc) (ordZ sc))) 7 ?pre ?post
    case pre =>
      have hdl : (drawnZ sc).length = sc.length := by simp [drawnZ]
      refine ex_old (asg_new (d := .ints (drawnZ sc)) (EvNew.eq (new_comp (n := sc.length) (bs := fun j => [("cell", .int (sc.getD j 0))]) (p := fun _ => true) (f := fun j => .int (sc.getD j 0 % 1000000)) ?it1 (by (walk_at "mcok")) (by (walk_at "mhk")) (by omega) (fun j hj C => tsts_nil) ?el1) ?eq1) (by (walk_at "mu"))) ?_
      case it1 => exact itr_ints (l := sc) (by (walk_at "mnm"))
      case el1 =>
        intro j hj _ C
        exact ev_bin (ev_call (by (walk_at "mnm")) (by (walk_at "mcal")) (args_cons (by (walk_at "mnm")) args_nil) cd_int) ((ev_bin (by (walk_at "mev")) (by (walk_at "mev")) (op_pow (i := 10) (j := 6) (by decide) (by decide) (by decide))).eq (d' := .int 1000000) rfl) (op_mod (by decide))
      case eq1 => rw [outOf_all (fun _ => true) (fun x => PD.int (x % 1000000)) 0, List.filter_eq_self.mpr (fun _ _ => rfl), drawnZ, PD.ints, List.map_map]; rfl
      refine ex_can (l1F sc) (by (walk_at "mcan")) ?_
      refine ex_old (AsgN.eq (d' := .ints (numZ sc)) (asg_comp (n := 5) (bs := fun j => [("turn", .int j), ("seed", .int (seedZ j))]) (p := fun _ => true) (f := fun j => .int (seedZ j + turnZ sc j)) ?it2 (by (walk_at "mcok")) (by (walk_at "mhk")) (by omega) (fun j hj C => tsts_nil) ?el2 (by (walk_at "mu")) (by (walk_at "mu"))) ?eq2) ?_
      case it2 =>
        refine (itr_enumT (ds := [.int 3, .int 8, .int 13, .int 22, .int 34]) (by (walk_at "mnm")) (by (walk_at "mev"))).congr fun i hi => ?_
        match i, hi with
        | 0, _ => rfl
        | 1, _ => rfl
        | 2, _ => rfl
        | 3, _ => rfl
        | 4, _ => rfl
      case el2 =>
        intro j hj _ C
        refine ev_bin (by (walk_at "mnm")) (ev_call (ds := [.ints (pickI (drawnZ sc) (some (j : Int)) none (some 5))]) (by (walk_at "mnm")) (by (walk_at "mcal")) (args_cons ((ev_slice (ds := (drawnZ sc).map .int) (x := some (j : Int)) (y := none) (z := some 5) (by (walk_at "mnm")) .fro (evp_some (by (walk_at "mnm"))) evp_none (evp_some (by (walk_at "mev"))) (by decide) (by rw [List.length_map]; omega)).eq (by rw [pickD_ints])) args_nil) cd_sum) op_add
      case eq2 => rw [outOf_range, numZ, PD.ints, List.map_map]; rfl
      refine ex_can (l2F sc) (by (walk_at "mcan")) ?_
      refine ex_pair (P := fun Mu' ds => Mu' = [] ∧ ds = [nearD (nrZ sc), .int (kindZ sc)]) (argsM_old (ev_call (by (walk_at "mnm")) (by (walk_at "mcal")) (args_cons (by (walk_at "mnm")) args_nil) (ties_ok (numbers := numZ sc) (by simp [numZ]))) (argsM_old (ev_bin (ev_call (by (walk_at "mnm")) (by (walk_at "mcal")) (args_cons (by (walk_at "mnm")) args_nil) (cd_sum (ns := numZ sc))) (ev_call (by (walk_at "mnm")) (by (walk_at "mcal")) (args_cons (by (walk_at "mnm")) args_nil) (cd_lenI (ns := drawnZ sc) (by omega))) op_add) (argsM_nil ⟨rfl, rfl⟩))) (by (walk_at "mu")) (by (walk_at "mu")) ?_ (by rintro Mu' ds ⟨rfl, rfl⟩; rfl)
      rintro Mu' p q ⟨rfl, e⟩
      obtain ⟨rfl, rfl⟩ : p = nearD (nrZ sc) ∧ q = .int (kindZ sc) := by simpa using e
      refine ex_can (l3F sc) (by (walk_at "mcan")) ?_
      refine ex_pair (P := fun Mu' ds => Mu' = [] ∧ ds = [.int (fstZ sc), .int (sndZ sc)]) (argsM_old (by (walk_at "mev")) (argsM_old (by (walk_at "mev")) (argsM_nil ⟨rfl, rfl⟩))) (by (walk_at "mu")) (by (walk_at "mu")) ?_ (by rintro Mu' ds ⟨rfl, rfl⟩; rfl)
      rintro Mu' p q ⟨rfl, e⟩
      obtain ⟨rfl, rfl⟩ : p = .int (fstZ sc) ∧ q = .int (sndZ sc) := by simpa using e
      refine ex_can (l4F sc) (by (walk_at "mcan")) ?_
      refine ex_assign (d := jud w (fstZ sc) (sndZ sc)) (ev_call (by (walk_at "mnm")) (by (walk_at "mcal")) (args_cons (d := selD (fstZ sc) (sndZ sc)) (ev_list (ds := [.tup [.int 2, .int (fstZ sc)], .tup [.int 0, .int (sndZ sc)]]) (args_cons (ev_tuple (by (walk_at "margs")) (by simp)) (args_cons (ev_tuple (by (walk_at "margs")) (by simp)) args_nil)) (by simp)) args_nil) jud_make) ?_ (by (walk_at "mu"))
      refine ex_can (l5F w sc) (by (walk_at "mcan")) ?_
      have hrow : ∀ r ∈ nrZ sc, r.length ≤ 1000 := fun r hr => by
        obtain ⟨i, hi, rfl⟩ := List.getElem_of_mem hr
        have z := nb_len (nrZ_ok sc) (i : Int)
        rw [nb, Int.toNat_natCast, List.getD_eq_getElem?_getD, List.getElem?_eq_getElem hi] at z
        exact Nat.le_trans z (by decide)
      refine ex_ifF (tst_not (c := true) (tst_bool (ev_call (by (walk_at "mnm")) (by (walk_at "mcal")) (args_cons (by (walk_at "mnm")) (args_cons (by (walk_at "mnm")) (args_cons (by (walk_at "mnm")) (args_cons (by (walk_at "mnm")) args_nil)))) (judged_ok (nr := nrZ sc) (nrZ_ok sc).len hrow (one_or _) (one_or _))) (by intro _; rfl))) ?_
      refine ex_assign (d := .ints (ordZ sc)) (ev_call (by (walk_at "mnm")) (by (walk_at "mcal")) (args_cons (by (walk_at "mnm")) (args_cons (d := .int (kindZ sc % 6)) (by (walk_at "mev")) (args_cons (by (walk_at "mnm")) args_nil))) (walk_ok (nr := nrZ sc) (nrZ_ok sc) (one_or _) (one_or _) (by omega))) ?_ (by (walk_at "mu"))
      exact ex_can (m0F (nrZ sc) (ordZ sc)) (by (walk_at "mcan")) (ex_nil ⟨rfl, rfl⟩)
    case post =>
      rintro Mu' ρ' ⟨rfl, rfl⟩
      have NO := nrZ_ok sc
      generalize nrZ sc = nr at P NO ⊢
      generalize ordZ sc = o at P ⊢
      have ho := P.O.six
      refine exN_assign (d := .ints o.reverse) (EvDN.eq (evN_callT (by (walk_at "mnm")) (evN_call (ds := [.bytes (byteArr o).toList, .int 6]) (by (walk_at "mnm")) (by (walk_at "mu")) (args_cons (ev_call (by (walk_at "mnm")) (by (walk_at "mcal")) (args_cons (by (walk_at "mnm")) args_nil) (cd_bytes (ns := o) (by omega) fun n hn => by have := P.O.pts.rg n hn; omega)) (args_cons (by (walk_at "mev")) args_nil)) (byteswap_ok (by simp [byteArr, ho]))) (cd_listB (by simp [byteArr, ho]))) (by rw [bytes_back P.O.pts.rg])) ?_ (by (walk_at "mu"))
      refine ex_can (m1F nr o) (by (walk_at "mcan")) ?_
      refine ex_unpack (xs := [("firsts", _), ("lasts", _)]) (ds := [.ints (FZ nr o), .ints (lastsZ nr o 6)]) ((ev_call (by (walk_at "mnm")) (by (walk_at "mcal")) (args_cons (by (walk_at "mnm")) (args_cons (by (walk_at "mnm")) args_nil)) (ends_ok (nr := nr) (order := o) NO P.O)).eq (by rw [ho])) (by rfl) rfl rfl ?_ ?_
      · intro p hp
        simp only [List.mem_cons, List.not_mem_nil, or_false] at hp
        rcases hp with rfl | rfl <;> (walk_at "mu")
      refine ex_can (m2F nr o) (by (walk_at "mcan")) ?_
      have hF : (FZ nr o).length = 6 := by simp [firstsZ]
      have hE : (EZ nr o).length = 6 := by simp [endsZ]
      have hlo : ∀ i : Nat, i < 6 → -(2 ^ 62 : Int) ≤ (EZ nr o).getD i 0 + 1 := fun i hi => by
        have := P.low i hi
        show -(2 ^ 62 : Int) ≤ (endsZ (firstsZ nr o 6)).getD i 0 + 1
        omega
      refine ex_old (asg_new (d := .ints (EZ nr o)) (EvNew.eq (new_comp (n := 6) (bs := fun j => [("place", .int j)]) (p := fun _ => true) (f := fun j => .int (bisZ (FZ nr o) j - 1)) ?it3 (by (walk_at "mcok")) (by (walk_at "mhk")) (by omega) (fun j hj C => tsts_nil) ?el3) ?eq3) (by (walk_at "mu"))) ?_
      case it3 => exact (itr_range1 (b := 6) (by (walk_at "mnm")) (by (walk_at "mev")) (by decide) (by decide)).congr (by intro j _; simp)
      case el3 =>
        intro j hj _ C
        exact ev_bin (ev_call (by (walk_at "mnm")) (by (walk_at "mcal")) (args_cons (by (walk_at "mnm")) (args_cons (by (walk_at "mnm")) args_nil)) (bis2 (ns := FZ nr o) (by omega))) (by (walk_at "mev")) op_sub
      case eq3 =>
        rw [outOf_range]
        show PD.list _ = PD.list ((endsZ (firstsZ nr o 6)).map .int)
        unfold endsZ
        rw [List.map_map]; rfl
      refine ex_can (m3F nr o) (by (walk_at "mcan")) ?_
      refine ex_assign (d := .ints (BZ nr o)) (ev_call (ds := [.ints (nestI (fun i => ((EZ nr o).getD i 0 + 1 - ((i : Int) + 1)).toNat) (fun i j => pairZ (o.getD i 0) (o.getD (i + 1 + j) 0)) 6)]) (by (walk_at "mnm")) (by (walk_at "mcal")) (args_cons (EvD.eq (EvNew.ev (new_comp2 (n := 6) (n2 := fun i => ((EZ nr o).getD i 0 + 1 - ((i : Int) + 1)).toNat) (bs := fun i => [("place", .int i)]) (bs2 := fun i j => [("row", .int (i + 1 + j : Nat))]) (f := fun i j => .int (pairZ (o.getD i 0) (o.getD (i + 1 + j) 0))) ?it4 (by (walk_at "mcok")) (by (walk_at "mhk")) (by omega) ?sz4 ?it5 ?hk5 ?el5)) (congrArg PD.list (nestTo_int _ _ _))) args_nil) (cd_sorted ?sz5)) ?_ (by (walk_at "mu"))
      case it4 => exact (itr_range1 (b := 6) (by (walk_at "mnm")) (by (walk_at "mev")) (by decide) (by decide)).congr (by intro j _; simp)
      case sz4 =>
        intro i hi
        have := P.rng i hi
        show ((endsZ (firstsZ nr o 6)).getD i 0 + 1 - ((i : Int) + 1)).toNat ≤ 30
        omega
      case sz5 =>
        refine Nat.lt_of_le_of_lt (nestI_len _ _ 5 6 fun i hi => ?_) (by decide)
        have := P.rng i hi
        show ((endsZ (firstsZ nr o 6)).getD i 0 + 1 - ((i : Int) + 1)).toNat ≤ 5
        omega
      case it5 =>
        intro i hi C
        have hr := P.rng i hi
        have hr : (EZ nr o).getD i 0 ≤ 5 := hr
        have hge : -(2 ^ 62 : Int) ≤ (EZ nr o).getD i 0 + 1 := hlo i hi
        refine (itr_range2 (a := ((i : Int) + 1)) (b := (EZ nr o).getD i 0 + 1) (by (walk_at "mnm")) (ev_bin (by (walk_at "mnm")) (by (walk_at "mev")) op_add) (ev_bin (ev_itemI (x := (i : Int)) (ns := EZ nr o) (by (walk_at "mnm")) .fro (by (walk_at "mnm")) (by omega) (by omega) (by omega)) (by (walk_at "mev")) op_add) (by omega) (by omega) hge (by omega)).congr fun j _ => by simp
      case hk5 =>
        intro i hi j hj
        refine List.forall_mem_singleton.mpr ⟨by (walk_at "mu"), fun m => ?_⟩
        exact absurd (show Str.ofString "row" = Str.ofString "place" from List.mem_singleton.mp m) (by decide)
      case el5 =>
        intro i hi j hj C
        have hr : (EZ nr o).getD i 0 ≤ 5 := P.rng i hi
        have hij : i + 1 + j < 6 := by omega
        exact ev_call (by (walk_at "mnm")) (by (walk_at "mcal")) (args_cons (ev_itemI (x := (i : Int)) (ns := o) (by (walk_at "mnm")) .fro (by (walk_at "mnm")) (by omega) (by omega) (by omega)) (args_cons (ev_itemI (x := ((i + 1 + j : Nat) : Int)) (ns := o) (by (walk_at "mnm")) .fro (by (walk_at "mnm")) (by omega) (by omega) (by omega)) args_nil)) pair_ok
      refine ex_can (m4F nr o) (by (walk_at "mcan")) ?_
      refine ex_pair (P := fun Mu' ds => Mu' = [] ∧ ds = [sE nr o 6, sE nr o.reverse 6]) (argsM_old ((ev_call (by (walk_at "mnm")) (by (walk_at "mcal")) (args_cons (by (walk_at "mnm")) (args_cons (by (walk_at "mnm")) args_nil)) (struck_ok (nr := nr) (order := o) NO P.O)).eq (by rw [ho])) (argsM_old ((ev_call (by (walk_at "mnm")) (by (walk_at "mcal")) (args_cons (by (walk_at "mnm")) (args_cons (by (walk_at "mnm")) args_nil)) (struck_ok (nr := nr) (order := o.reverse) NO P.M)).eq (by rw [P.M.six])) (argsM_nil ⟨rfl, rfl⟩))) (by (walk_at "mu")) (by (walk_at "mu")) ?_ (by rintro Mu' ds ⟨rfl, rfl⟩; rfl)
      rintro Mu' p q ⟨rfl, e⟩
      obtain ⟨rfl, rfl⟩ : p = sE nr o 6 ∧ q = sE nr o.reverse 6 := by simpa using e
      refine ex_can (m5F nr o) (by (walk_at "mcan")) ?_
      refine ex_ifF (tst_orF (Tst.eq (tst_cmp (by (walk_at "mnm")) (ev_call (by (walk_at "mnm")) (by (walk_at "mcal")) (args_cons (by (walk_at "mnm")) args_nil) (cd_sorted (ns := FZ nr o) (by omega))) op_neL) (by simp [P.srt])) (tst_orF (Tst.eq (tst_cmp (ev_call (by (walk_at "mnm")) (by (walk_at "mcal")) (args_cons (ev_itemT (x := 4) (d := .dict (dicS nr o 6)) (by (walk_at "mnm")) (by (walk_at "mev")) (by decide) rfl (by decide)) args_nil) (cd_sortedD (l := dicS nr o 6) ?l1)) (by (walk_at "mnm")) op_neL) ?q1) (tst_orF (Tst.eq (tst_cmp (by (walk_at "mnm")) (ev_call (by (walk_at "mnm")) (by (walk_at "mcal")) (args_cons (by (walk_at "mnm")) (args_cons (by (walk_at "mnm")) args_nil)) (ways_ok (nr := nr) (order := o) NO P.O)) op_neL) ?q2) tst_or_nil))) ?_
      case l1 => have := P.l1; omega
      case q1 =>
        have z : sortZ ((dicS nr o 6).map (·.1)) = BZ nr o := P.band
        rw [z, decide_eq_true rfl]; rfl
      case q2 =>
        have z : waysZ nr o = BZ nr o := P.ways
        rw [z, decide_eq_true rfl]; rfl
      refine ex_assign (d := .int (countZ (FZ nr o))) (ev_call (ds := [.ints ((List.range 6).map fun i : Nat => (i : Int) - (FZ nr o).getD i 0)]) (by (walk_at "mnm")) (by (walk_at "mcal")) (args_cons (EvD.eq (EvNew.ev (new_comp (n := (FZ nr o).length) (bs := fun j => [("place", .int j), ("early", .int ((FZ nr o).getD j 0))]) (p := fun _ => true) (f := fun j => .int (j - (FZ nr o).getD j 0)) ?it6 (by (walk_at "mcok")) (by (walk_at "mhk")) (by omega) (fun j hj C => tsts_nil) ?el6)) ?eq6) args_nil) cd_sum) ?_ (by (walk_at "mu"))
      case it6 => exact itr_enumI (ns := FZ nr o) (by (walk_at "mnm")) (by (walk_at "mnm"))
      case el6 =>
        intro j hj _ C
        exact ev_bin (by (walk_at "mnm")) (by (walk_at "mnm")) op_sub
      case eq6 => rw [outOf_range, hF, PD.ints, List.map_map]; rfl
      refine ex_can (m6F nr o) (by (walk_at "mcan")) ?_
      refine ex_ifF (Tst.eq (tst_cmp (ev_four (by (walk_at "mnm")) (evp_some (by (walk_at "mev")))) (ev_tuple (ds := ([6, countZ (FZ nr o), squZ (EZ nr o), 0] : List Int).map .int) (args_cons (by (walk_at "mev")) (args_cons (by (walk_at "mnm")) (args_cons (ev_call (ds := [.ints ((List.range 6).map fun i : Nat => ((EZ nr o).getD i 0 - i) ^ 2)]) (by (walk_at "mnm")) (by (walk_at "mcal")) (args_cons (EvD.eq (EvNew.ev (new_comp (n := (EZ nr o).length) (bs := fun j => [("place", .int j), ("end", .int ((EZ nr o).getD j 0))]) (p := fun _ => true) (f := fun j => .int (((EZ nr o).getD j 0 - j) ^ 2)) ?it7 (by (walk_at "mcok")) (by (walk_at "mhk")) (by omega) (fun j hj C => tsts_nil) ?el7)) ?eq7) args_nil) cd_sum) (args_cons (by (walk_at "mev")) args_nil)))) (by simp)) (op_neT (ns := [6, cntS nr o 6, sqS nr o 6, 0]) (ms := [6, countZ (FZ nr o), squZ (EZ nr o), 0]))) ?q7) ?_
      case it7 => exact itr_enumI (ns := EZ nr o) (by (walk_at "mnm")) (by (walk_at "mnm"))
      case el7 =>
        intro j hj _ C
        have h1 : (EZ nr o).getD j 0 ≤ 5 := P.rng j (by omega)
        have h2 : -1 ≤ (EZ nr o).getD j 0 := P.low j (by omega)
        exact ev_bin (ev_bin (by (walk_at "mnm")) (by (walk_at "mnm")) op_sub) (by (walk_at "mev")) (op_pow (j := 2) (by decide) (by decide) (by omega))
      case eq7 => rw [outOf_range, hE, PD.ints, List.map_map]; rfl
      case q7 =>
        have z1 : cntS nr o 6 = countZ (FZ nr o) := P.cnt
        have z2 : sqS nr o 6 = squZ (EZ nr o) := P.sq
        rw [z1, z2, decide_eq_true rfl]; rfl
      refine ex_ifF (tst_orF (Tst.eq (tst_cmp (ev_call (by (walk_at "mnm")) (by (walk_at "mcal")) (args_cons (ev_itemT (x := 4) (d := .dict (dicS nr o.reverse 6)) (by (walk_at "mnm")) (by (walk_at "mev")) (by decide) rfl (by decide)) args_nil) (cd_sortedD (l := dicS nr o.reverse 6) ?l2)) (ev_call (by (walk_at "mnm")) (by (walk_at "mcal")) (args_cons (by (walk_at "mnm")) (args_cons (by (walk_at "mnm")) args_nil)) (ways_ok (nr := nr) (order := o.reverse) NO P.M)) op_neL) ?q8) (tst_orF (tst_not (c := true) (tst_bool (ev_call (by (walk_at "mnm")) (by (walk_at "mcal")) (args_cons (ev_itemT (x := 4) (d := .dict (dicS nr o.reverse 6)) (by (walk_at "mnm")) (by (walk_at "mev")) (by decide) rfl (by decide)) (args_cons (by (walk_at "mnm")) (args_cons (by (walk_at "mnm")) (args_cons (by (walk_at "mnm")) args_nil)))) (inside_ok (l := dicS nr o.reverse 6) (order := o) (lasts := lastsZ nr o 6) (ends := EZ nr o) P.O (by simp [lastsZ]) hE P.le P.ins)) (by intro _; rfl))) tst_or_nil)) ?_
      case l2 => have := P.l2; omega
      case q8 =>
        have z : sortZ ((dicS nr o.reverse 6).map (·.1)) = waysZ nr o.reverse := P.mways
        rw [z, decide_eq_true rfl]; rfl
      have hl1 := P.l1
      have hl2 := P.l2
      have hl3 : (BB nr o).length ≤ 60 := P.l3
      refine ex_assign (d := entD (6 + 6) (cntS nr o.reverse 6 + cntS nr o 6) (sqS nr o.reverse 6 + sqS nr o 6) (0 + 0) (addZ (dicS nr o 6) (dicS nr o.reverse 6))) (ev_call (by (walk_at "mnm")) (by (walk_at "mcal")) (args_cons (by (walk_at "mnm")) (args_cons (by (walk_at "mnm")) args_nil)) (stats_ok (by omega))) ?_ (by (walk_at "mu"))
      refine ex_can (m7F nr o) (by (walk_at "mcan")) ?_
      have nd := P.nd
      refine ex_assign (d := .ints (sortZ (twosZ (BB nr o)))) (ev_call (ds := [.ints (twosZ (BB nr o))]) (by (walk_at "mnm")) (by (walk_at "mcal")) (args_cons (EvD.eq (EvNew.ev (new_comp (n := (BB nr o).length) (bs := fun j => [("pair", .int ((BB nr o).getD j (0, 0)).1)]) (p := fun j => ((BB nr o).getD j (0, 0)).2 == 2) (f := fun j => .int ((BB nr o).getD j (0, 0)).1) ?it9 (by (walk_at "mcok")) (by (walk_at "mhk")) (by omega) (fun j hj C => tsts_one ?ts9) ?el9)) ?eq9) args_nil) (cd_sorted ?sz9)) ?_ (by (walk_at "mu"))
      case it9 => exact itr_keys (l := BB nr o) (ev_itemT (x := 4) (d := .dict (BB nr o)) (by (walk_at "mnm")) (by (walk_at "mev")) (by decide) rfl (by decide))
      case ts9 =>
        have hm : (BB nr o).getD j (0, 0) ∈ BB nr o := by
          rw [List.getD_eq_getElem?_getD, List.getElem?_eq_getElem hj]; exact List.getElem_mem _
        exact tst_cmp (ev_itemD (ds := BB nr o) (ev_itemT (x := 4) (d := .dict (BB nr o)) (by (walk_at "mnm")) (by (walk_at "mev")) (by decide) rfl (by decide)) .fro (by (walk_at "mnm")) (findD_of nd hm)) (by (walk_at "mev")) op_eq
      case el9 =>
        intro j hj _ C
        exact (by (walk_at "mnm"))
      case eq9 =>
        rw [outOf_all (fun p : Int × Int => p.2 == 2) (fun p => PD.int p.1) (0, 0)]
        show PD.list _ = PD.list ((((BB nr o).filter fun p => p.2 == 2).map (·.1)).map .int)
        rw [List.map_map]; rfl
      case sz9 =>
        unfold twosZ
        rw [List.length_map]
        exact Nat.lt_of_le_of_lt (List.length_filter_le _ _) (by omega)
      refine ex_can (m8F nr o) (by (walk_at "mcan")) ?_
      refine ex_ifF (tst_orF (Tst.eq (tst_cmp (ev_call (by (walk_at "mnm")) (by (walk_at "mcal")) (args_cons (ev_itemT (x := 4) (d := .dict (BB nr o)) (by (walk_at "mnm")) (by (walk_at "mev")) (by decide) rfl (by decide)) args_nil) (cd_sortedD (l := BB nr o) (by omega))) (by (walk_at "mnm")) op_neL) ?qa) (tst_orF (Tst.eq (tst_cmp (by (walk_at "mnm")) (ev_call (by (walk_at "mnm")) (by (walk_at "mcal")) (args_cons (ev_itemT (x := 4) (d := .dict (dicS nr o.reverse 6)) (by (walk_at "mnm")) (by (walk_at "mev")) (by decide) rfl (by decide)) args_nil) (cd_sortedD (l := dicS nr o.reverse 6) (by omega))) op_neL) ?qb) tst_or_nil)) ?_
      case qa =>
        have z : sortZ ((BB nr o).map (·.1)) = BZ nr o := P.both
        rw [z, decide_eq_true rfl]; rfl
      case qb =>
        have z : sortZ (twosZ (BB nr o)) = sortZ ((dicS nr o.reverse 6).map (·.1)) := P.twice
        rw [z, decide_eq_true rfl]; rfl
      refine ex_return (d := .bool true) (EvD.eq (ev_cmp (ev_call (by (walk_at "mnm")) (by (walk_at "mcal")) (args_cons (ev_itemT (x := 4) (d := .dict (BB nr o)) (by (walk_at "mnm")) (by (walk_at "mev")) (by decide) rfl (by decide)) args_nil) (count_ok (l := BB nr o))) (ev_bin (ev_itemT (x := 1) (d := .int (cntS nr o 6)) (by (walk_at "mnm")) (by (walk_at "mev")) (by decide) rfl (by decide)) (ev_itemT (x := 1) (d := .int (cntS nr o.reverse 6)) (by (walk_at "mnm")) (by (walk_at "mev")) (by decide) rfl (by decide)) op_add) op_eq) ?qc) rfl
      case qc =>
        have z : sumD (BB nr o) = cntS nr o 6 + cntS nr o.reverse 6 := P.sum
        rw [z, beq_self_eq_true]
  all_goals (walk_at "mu")
end
end
section
open PySem PySem.W PyProof.Rows PySem.Calls
theorem plain_of {w : World} {h : Heap} {a : Addr} {vs : List Value} {sc : List Int} (hL : h.IsList a vs.toArray) (W : Well w.params h (.ref a) (ofPy (PyData.list (sc.map PyData.int)))) : h.PlainList a vs.toArray := by
  obtain ⟨o, ho, hc, n, hd⟩ := hL
  generalize hD : ofPy (PyData.list (sc.map PyData.int)) = D at W
  unfold ofPy at hD
  cases W with
  | list e _ =>
    rw [ho] at e
    cases e
    cases hd
    exact ⟨_, ho⟩
  | _ => cases hD
theorem okA_caller : OkA callerA 4 := ⟨rfl, by decide, by decide⟩
set_option maxRecDepth 100000 in
set_option maxHeartbeats 8000000 in
theorem holds_of (hp : ∀ sc : List Int, LawP (nrZ sc) (ordZ sc)) : PySem.Challenge.rw_wf0023_01.Holds := Mine.Head.hd ⟨top_ok, by
  intro w s₀ s₁ mg mb G Y fa o pm cd doc dV kV ho hd hcd hD hmg hg args vals as hpre hlay hrd hwl hlo
  have KX := kIn_of Y
  have hfa : fa = 139 := by
    have e : mg (Str.ofString "law") = some (.ref 139) := mg_of KX G.T.g (by with_unfolding_all rfl)
    have hmg : mg (Str.ofString "law") = some (.ref fa) := hmg
    rw [hmg] at e
    cases e; rfl
  have gd : Gd w (Fz [] s₁.heap) := Gd.sub ⟨KX, ⟨mg, G.T.g⟩, ⟨mb, G.T.b, G.T.builtins⟩, G.T.nolimit⟩ (fun b o e => Fz_get (List.not_mem_nil) e)
  subst hfa
  clear Y hD hd hcd hmg ho G KX
  wrow_args hpre hlay hrd hwl hlo
  rename_i sc _ _ _ _ _ _ _ a vs _ hL _ w1 _ hI _ hl _
  have hlen : sc.length ≤ 63 := by omega
  have pl := plain_of hL w1
  have rd : Rds w (Fz [] s₁.heap) [.ints sc] [.ref a] := rds_one ⟨a, vs, rfl, pl.at fun o e => Fz_get (List.not_mem_nil) e, Rds.of_ints hI⟩
  refine wpN_to (law_ok (k := 0) hlen (hp sc) callerA [] s₁ [.ref a] okA_caller gd (fun q m => nomatch m) rd) fun v s' ⟨kp, e⟩ => ?_
  have e : v = .bool true := e
  subst e
  obtain ⟨⟨h', t', rfl⟩, sb⟩ := kp
  refine ⟨.inl ⟨.bool true, .bool true, [], rfl, fun _ => rfl, .bool true, ?_, fun _ => ⟨List.nodup_nil, fun a m => nomatch m⟩⟩, .of_keep sb, rfl, .of_eq ?_⟩
  · with_unfolding_all rfl
  · exact hg⟩
end
section

/-- keys that each hold a one -/
noncomputable abbrev one (K : List Int) : List (Int × Int) := K.map fun k => (k, 1)
theorem keys_map (f : Int → Int) (K : List Int) : keysZ (K.map fun k => (k, f k)) = K := by
  unfold keysZ; rw [List.map_map]; exact List.map_id K
theorem any_map (f : Int → Int) (K : List Int) (x : Int) : (K.map fun k => (k, f k)).any (fun kv => kv.1 = x) = decide (x ∈ K) := by
  induction K with
  | nil => rfl
  | cons k K ih =>
    rw [List.map_cons, List.any_cons, ih]
    by_cases h : k = x
    · subst h; simp
    · have : ¬ x = k := fun e => h e.symm
      simp [h, this]
theorem storeD_new {f : Int → Int} {K : List Int} {x v : Int} (h : x ∉ K) : storeD (K.map fun k => (k, f k)) x v = (K.map fun k => (k, f k)) ++ [(x, v)] := by
  unfold storeD; rw [any_map, decide_eq_false h]; rfl
theorem storeD_old {f : Int → Int} {K : List Int} {x v : Int} (h : x ∈ K) : storeD (K.map fun k => (k, f k)) x v = K.map fun k => (k, if k = x then v else f k) := by
  unfold storeD
  rw [any_map, decide_eq_true h, if_pos rfl, List.map_map]
  refine List.map_congr_left fun k _ => ?_
  show (if k = x then (k, v) else (k, f k)) = _
  split <;> rfl
theorem findD_map {f : Int → Int} {K : List Int} {x : Int} : findD (K.map fun k => (k, f k)) x = if x ∈ K then some (f x) else none := by
  induction K with
  | nil => rfl
  | cons k K ih =>
    unfold findD at ih ⊢
    rw [List.map_cons, List.find?_cons]
    by_cases h : k = x
    · subst h; simp
    · have h' : ¬ x = k := fun e => h e.symm
      simp only [h, decide_false, List.mem_cons, h', false_or]
      exact ih
theorem dictTo_one (g : Int → Int) (l : List Int) (nd : (l.map g).Nodup) : ∀ i, i ≤ l.length → dictTo (fun j => g (l.getD j 0)) (fun _ => 1) i = one ((l.take i).map g)
  | 0, _ => rfl
  | i + 1, h => by
    have ih := dictTo_one g l nd i (by omega)
    have hs := take_snoc (l := l) (show i < l.length by omega) 0
    rw [dictTo, ih, hs, List.map_append]
    have hn : g (l.getD i 0) ∉ (l.take i).map g := by
      have nd' := nd.sublist ((List.take_sublist (i + 1) l).map g)
      rw [hs, List.map_append] at nd'
      exact fun m => (List.nodup_append.mp nd').2.2 _ m _ (List.mem_singleton.mpr rfl) rfl
    rw [one, storeD_new (f := fun _ => 1) hn, one, List.map_append]; rfl
theorem putAll_one : ∀ (K K0 : List Int), (K0 ++ K).Nodup → (one K).foldl (fun a p => storeD a p.1 p.2) (one K0) = one (K0 ++ K)
  | [], K0, _ => by simp
  | k :: K, K0, nd => by
    rw [show one (k :: K) = (k, 1) :: one K from rfl, List.foldl_cons]
    have hn : k ∉ K0 := fun m => (List.nodup_append.mp nd).2.2 _ m _ (.head _) rfl
    show (one K).foldl _ (storeD (one K0) k 1) = _
    rw [one, one, storeD_new (f := fun _ => 1) hn]
    have := putAll_one K (K0 ++ [k]) (by rw [List.append_assoc]; exact nd)
    rw [List.append_assoc] at this
    rw [show (K0.map fun k => (k, (1 : Int))) ++ [(k, 1)] = one (K0 ++ [k]) by rw [one, List.map_append]; rfl]
    exact this
theorem putAll_id {K : List Int} (nd : K.Nodup) : putAll (one K) = one K := putAll_one K [] nd
theorem addStep_new : ∀ (K K0 : List Int), (K0 ++ K).Nodup → (one K).foldl addStep (one K0) = one (K0 ++ K)
  | [], K0, _ => by simp
  | k :: K, K0, nd => by
    rw [show one (k :: K) = (k, 1) :: one K from rfl, List.foldl_cons]
    have hn : k ∉ K0 := fun m => (List.nodup_append.mp nd).2.2 _ m _ (.head _) rfl
    have e : addStep (one K0) (k, 1) = one (K0 ++ [k]) := by
      unfold addStep
      rw [one, findD_map (f := fun _ => 1), if_neg hn, storeD_new (f := fun _ => 1) hn, one, List.map_append]; rfl
    rw [e]
    have := addStep_new K (K0 ++ [k]) (by rw [List.append_assoc]; exact nd)
    rwa [List.append_assoc] at this
/-- two tables apart -/
theorem addZ_apart {K K' : List Int} (nd : (K ++ K').Nodup) : addZ (one K) (one K') = one (K ++ K') := by
  unfold addZ
  rw [putAll_id (List.nodup_append.mp nd).1, addStep_new K' K nd]
theorem addStep_old (K : List Int) : ∀ (K' done : List Int), (done ++ K').Nodup → (∀ x ∈ K', x ∈ K) →
    (one K').foldl addStep (K.map fun k => (k, if k ∈ done then 2 else 1)) = K.map fun k => (k, if k ∈ done ++ K' then 2 else 1)
  | [], done, _, _ => by simp
  | x :: K', done, nd, h => by
    rw [one, List.map_cons, List.foldl_cons]
    have hx := h x (.head _)
    have hn : x ∉ done := fun m => (List.nodup_append.mp nd).2.2 _ m _ (.head _) rfl
    have e : addStep (K.map fun k => (k, if k ∈ done then 2 else 1)) (x, 1) = K.map fun k => (k, if k ∈ done ++ [x] then 2 else 1) := by
      unfold addStep
      rw [findD_map (f := fun k => if k ∈ done then 2 else 1), if_pos hx, storeD_old (f := fun k => if k ∈ done then 2 else 1) hx]
      refine List.map_congr_left fun k _ => ?_
      by_cases hk : k = x
      · subst hk; simp [hn]
      · simp [hk]
    rw [e]
    have := addStep_old K K' (done ++ [x]) (by rw [List.append_assoc]; exact nd) fun y m => h y (.tail _ m)
    rwa [List.append_assoc] at this
/-- a table within another -/
theorem addZ_within {K K' : List Int} (nd : K.Nodup) (nd' : K'.Nodup) (h : ∀ x ∈ K', x ∈ K) : addZ (one K) (one K') = K.map fun k => (k, if k ∈ K' then 2 else 1) := by
  unfold addZ
  rw [putAll_id nd]
  have := addStep_old K K' [] nd' h
  simpa using this
theorem twos_within {K K' : List Int} (nd : K.Nodup) (nd' : K'.Nodup) (h : ∀ x ∈ K', x ∈ K) : (twosZ (addZ (one K) (one K'))).Perm K' := by
  rw [addZ_within nd nd' h]
  have e : twosZ (K.map fun k => (k, if k ∈ K' then (2 : Int) else 1)) = K.filter fun k => decide (k ∈ K') := by
    unfold twosZ
    rw [List.filter_map, List.map_map]
    rw [show (Prod.fst ∘ fun k => (k, if k ∈ K' then (2 : Int) else 1)) = id from rfl, List.map_id]
    refine List.filter_congr fun k _ => ?_
    by_cases hk : k ∈ K' <;> simp [hk]
  rw [e]
  refine (List.perm_ext_iff_of_nodup (nd.filter _) nd').mpr fun a => ?_
  rw [List.mem_filter, decide_eq_true_iff]
  exact ⟨fun x => x.2, fun x => ⟨h a x, x⟩⟩
theorem sum_two {K K' : List Int} (nd : K.Nodup) (nd' : K'.Nodup) (h : ∀ x ∈ K', x ∈ K) : sumD (addZ (one K) (one K')) = K.length + K'.length := by
  rw [addZ_within nd nd' h]
  have p : (K.filter fun k => decide (k ∈ K')).Perm K' := (List.perm_ext_iff_of_nodup (nd.filter _) nd').mpr fun a => by
    rw [List.mem_filter, decide_eq_true_iff]
    exact ⟨fun x => x.2, fun x => ⟨h a x, x⟩⟩
  rw [← p.length_eq]
  clear p nd h
  induction K with
  | nil => rfl
  | cons k K ih =>
    unfold sumD at ih ⊢
    rw [List.map_cons, List.map_cons, List.sum_cons, ih, List.filter_cons]
    by_cases hk : k ∈ K'
    · simp only [hk, if_true, decide_true, List.length_cons]; omega
    · simp only [hk, if_false, decide_false, Bool.false_eq_true, List.length_cons]; omega
end
section

section
variable {nr : List (List Int)} {order : List Int}
noncomputable abbrev at' (order : List Int) (i : Nat) : Int := order.getD i 0
theorem getD_eq {l : List Int} {i : Nat} (h : i < l.length) : l.getD i 0 = l[i] := by
  rw [List.getD_eq_getElem?_getD, List.getElem?_eq_getElem h]; rfl
theorem idx_o (nd : order.Nodup) {i : Nat} (h : i < order.length) : order.idxOf (order.getD i 0) = i := by
  rw [getD_eq h]
  exact nd.idxOf_getElem i h
theorem o_idx {x : Int} (h : x ∈ order) : order.getD (order.idxOf x) 0 = x := by
  have hl := List.idxOf_lt_length_iff.mpr h
  rw [getD_eq hl]
  exact List.getElem_idxOf hl
theorem o_inj (nd : order.Nodup) {i j : Nat} (hi : i < order.length) (hj : j < order.length) (e : order.getD i 0 = order.getD j 0) : i = j := by
  rw [← idx_o nd hi, e, idx_o nd hj]
theorem mem_drop {i : Nat} {y : Int} (nd : order.Nodup) : y ∈ order.drop i ↔ y ∈ order ∧ i ≤ order.idxOf y := by
  constructor
  · intro h
    obtain ⟨j, hj, e⟩ := List.getElem_of_mem h
    rw [List.length_drop] at hj
    rw [List.getElem_drop] at e
    refine ⟨List.mem_of_mem_drop h, ?_⟩
    rw [← e, nd.idxOf_getElem]
    omega
  · rintro ⟨h, l⟩
    have hl := List.idxOf_lt_length_iff.mpr h
    refine List.mem_iff_getElem.mpr ⟨order.idxOf y - i, by rw [List.length_drop]; omega, ?_⟩
    rw [List.getElem_drop]
    have : i + (order.idxOf y - i) = order.idxOf y := by omega
    simp only [this]
    exact List.getElem_idxOf hl

/-! ties after strikes -/
theorem mem_tieOne {later : List Int} {t : List (List Int)} {o x y : Int} (ht : t.length = 6) (ho : 0 ≤ o ∧ o < 6) (hx : 0 ≤ x) :
    y ∈ nb (tieOne later t o) x ↔ y ∈ nb t x ∨ (x = o ∧ y ∈ later ∧ y ≠ x) := by
  rw [tieOne, nb_set (by rw [ht]; omega)]
  by_cases h : x = o
  · subst h
    rw [if_pos rfl, List.mem_append, List.mem_filter]
    generalize nb t x = r
    by_cases hy : y ∈ r
    · simp [hy]
    · simp [hy]
  · rw [if_neg (by omega)]
    simp [h]
theorem tieOne_len (later : List Int) (t : List (List Int)) (o : Int) : (tieOne later t o).length = t.length := by rw [tieOne, List.length_set]
theorem mem_fold {later : List Int} {x y : Int} (hx : 0 ≤ x) : ∀ (l : List Int) (t : List (List Int)), t.length = 6 → (∀ o ∈ l, 0 ≤ o ∧ o < 6) → (y ∈ nb (l.foldl (tieOne later) t) x ↔ y ∈ nb t x ∨ (x ∈ l ∧ y ∈ later ∧ y ≠ x))
  | [], t, _, _ => by simp
  | o :: l, t, ht, h => by
    rw [List.foldl_cons, mem_fold hx l _ (by rw [tieOne_len]; exact ht) (fun o m => h o (.tail _ m)), mem_tieOne ht (h o (.head _)) hx, List.mem_cons]
    constructor
    · rintro ((a | ⟨a, b⟩) | ⟨a, b⟩)
      · exact .inl a
      · exact .inr ⟨.inl a, b⟩
      · exact .inr ⟨.inr a, b⟩
    · rintro (a | ⟨a | a, b⟩)
      · exact .inl (.inl a)
      · exact .inl (.inr ⟨a, b⟩)
      · exact .inr ⟨a, b⟩
theorem mem_later {ties : List (List Int)} {i : Nat} {y : Int} (nd : order.Nodup) : y ∈ laterZ ties order i ↔ (y ∈ order ∧ i + 1 ≤ order.idxOf y) ∧ y ∈ nb ties (order.getD i 0) := by
  unfold laterZ
  rw [List.mem_filter, mem_drop nd, decide_eq_true_iff]
theorem W_succ (N : NearOk nr) (P : Pts order) {p : Nat} {x y : Int} (hx : 0 ≤ x) : y ∈ nb (tiesS nr order (p + 1)) x ↔ y ∈ nb (tiesS nr order p) x ∨ (x ∈ laterS nr order p ∧ y ∈ laterS nr order p ∧ y ≠ x) := by
  rw [tiesS, tieAll]
  exact mem_fold hx _ _ (tiesS_si N P p).len (later_pts P p).rg

/-! ways over places below a bound (Floyd and Warshall) -/
noncomputable def Cn (A : Nat → Nat → Prop) : Nat → Nat → Nat → Prop
  | 0, i, j => A i j
  | p + 1, i, j => Cn A p i j ∨ (Cn A p i p ∧ Cn A p p j)
variable {A : Nat → Nat → Prop}
theorem Cn.sym (s : ∀ i j, A i j → A j i) : ∀ (p i j : Nat), Cn A p i j → Cn A p j i
  | 0, i, j, h => s i j h
  | p + 1, i, j, h => by
    rcases h with h | ⟨a, b⟩
    · exact .inl (Cn.sym s p i j h)
    · exact .inr ⟨Cn.sym s p p j b, Cn.sym s p i p a⟩
theorem Cn.up {p q : Nat} (l : p ≤ q) {i j : Nat} (h : Cn A p i j) : Cn A q i j := by
  induction q with
  | zero => obtain rfl : p = 0 := by omega
            exact h
  | succ q ih =>
    rcases Nat.lt_or_ge q p with g | g
    · obtain rfl : p = q + 1 := by omega
      exact h
    · exact .inl (ih g)
/-- through a place below the bound -/
theorem Cn.trans : ∀ (p i z j : Nat), z < p → Cn A p i z → Cn A p z j → Cn A p i j
  | 0, _, _, _, h, _, _ => absurd h (Nat.not_lt_zero _)
  | p + 1, i, z, j, h, a, b => by
    have toP : ∀ {i}, Cn A (p + 1) i p → Cn A p i p := fun h => h.elim id (·.1)
    have ofP : ∀ {j}, Cn A (p + 1) p j → Cn A p p j := fun h => h.elim id (·.2)
    rcases Nat.lt_or_ge z p with g | g
    · rcases a with a | ⟨a1, a2⟩
      · rcases b with b | ⟨b1, b2⟩
        · exact .inl (Cn.trans p i z j g a b)
        · exact .inr ⟨Cn.trans p i z p g a b1, b2⟩
      · rcases b with b | ⟨b1, b2⟩
        · exact .inr ⟨a1, Cn.trans p p z j g a2 b⟩
        · exact .inr ⟨a1, b2⟩
    · obtain rfl : z = p := by omega
      exact .inr ⟨toP a, ofP b⟩
/-- the last step of a way -/
theorem Cn.last : ∀ (p i j : Nat), Cn A p i j → ∃ c, A c j ∧ (c = i ∨ c < p)
  | 0, i, j, h => ⟨i, h, .inl rfl⟩
  | p + 1, i, j, h => by
    rcases h with h | ⟨a, b⟩
    · obtain ⟨c, hc, e⟩ := Cn.last p i j h
      exact ⟨c, hc, e.imp id (by omega)⟩
    · obtain ⟨c, hc, e⟩ := Cn.last p p j b
      exact ⟨c, hc, .inr (by omega)⟩

noncomputable abbrev Adj (nr : List (List Int)) (order : List Int) (i j : Nat) : Prop := (i < 6 ∧ j < 6) ∧ order.getD j 0 ∈ nb nr (order.getD i 0)
theorem o_rg (O : OrdOk order) {i : Nat} (h : i < 6) : 0 ≤ order.getD i 0 ∧ order.getD i 0 < 6 := O.pts.rg _ (getD_mem (by rw [O.six]; exact h))
theorem Adj.sym (N : NearOk nr) (O : OrdOk order) : ∀ i j, Adj nr order i j → Adj nr order j i := fun i j ⟨⟨hi, hj⟩, h⟩ =>
  ⟨⟨hj, hi⟩, N.sym _ _ (o_rg O hi).1 (o_rg O hj).1 h⟩
theorem W_iff (N : NearOk nr) (O : OrdOk order) : ∀ (p i j : Nat), p ≤ i → p ≤ j → i < 6 → j < 6 → i ≠ j → (order.getD j 0 ∈ nb (tiesS nr order p) (order.getD i 0) ↔ Cn (Adj nr order) p i j)
  | 0, i, j, _, _, hi, hj, ne => ⟨fun h => ⟨⟨hi, hj⟩, h⟩, fun h => h.2⟩
  | p + 1, i, j, pi, pj, hi, hj, ne => by
    have h6 := O.six
    have nd := O.pts.nd
    rw [W_succ N O.pts (o_rg O hi).1, mem_later nd, mem_later nd, W_iff N O p i j (by omega) (by omega) hi hj ne, W_iff N O p p i (Nat.le_refl _) (by omega) (by omega) hi (by omega), W_iff N O p p j (Nat.le_refl _) (by omega) (by omega) hj (by omega),
      idx_o nd (by omega), idx_o nd (by omega)]
    have m1 : order.getD i 0 ∈ order := getD_mem (by omega)
    have m2 : order.getD j 0 ∈ order := getD_mem (by omega)
    have ne' : order.getD j 0 ≠ order.getD i 0 := fun e => ne (o_inj nd (by omega) (by omega) e).symm
    constructor
    · rintro (h | ⟨⟨_, a⟩, ⟨_, b⟩, _⟩)
      · exact .inl h
      · exact .inr ⟨Cn.sym (Adj.sym N O) _ _ _ a, b⟩
    · rintro (h | ⟨a, b⟩)
      · exact .inl h
      · exact .inr ⟨⟨⟨m1, by omega⟩, Cn.sym (Adj.sym N O) _ _ _ a⟩, ⟨⟨m2, by omega⟩, b⟩, ne'⟩
theorem later_iff (N : NearOk nr) (O : OrdOk order) {i : Nat} (hi : i < 6) {y : Int} : y ∈ laterS nr order i ↔ ∃ j, j < 6 ∧ i < j ∧ order.getD j 0 = y ∧ Cn (Adj nr order) i i j := by
  have h6 := O.six
  have nd := O.pts.nd
  rw [mem_later nd]
  constructor
  · rintro ⟨⟨m, l⟩, h⟩
    have hl := List.idxOf_lt_length_iff.mpr m
    refine ⟨order.idxOf y, by omega, by omega, o_idx m, (W_iff N O i i _ (Nat.le_refl _) (by omega) hi (by omega) (by omega)).mp ?_⟩
    rw [o_idx m]; exact h
  · rintro ⟨j, hj, l, rfl, h⟩
    exact ⟨⟨getD_mem (by omega), by rw [idx_o nd (by omega)]; omega⟩, (W_iff N O i i j (Nat.le_refl _) (by omega) hi hj (by omega)).mpr h⟩
end
end
section
theorem sortZ_congr {a b : List Int} (h : a.Perm b) : sortZ a = sortZ b := eq_sortZ ((sortZ_perm a).trans h) (sortZ_rises a)

section
variable {nr : List (List Int)} {order : List Int}
theorem mem_step {reached : List Int} {i spot : Nat} {y : Int} : y ∈ reachStep nr order i reached spot ↔ y ∈ reached ∨ (order.idxOf (reached.getD spot 0) ≤ i ∧ y ∈ nb nr (reached.getD spot 0)) := by
  unfold reachStep
  generalize reached.getD spot 0 = x
  split
  · rename_i h
    rw [List.mem_append, List.mem_filter]
    constructor
    · rintro (a | ⟨a, _⟩)
      · exact .inl a
      · exact .inr ⟨h, a⟩
    · rintro (a | ⟨_, a⟩)
      · exact .inl a
      · by_cases hy : y ∈ reached
        · exact .inl hy
        · exact .inr ⟨a, by rw [decide_eq_false hy]; rfl⟩
  · rename_i h
    exact ⟨.inl, fun q => q.elim id fun z => absurd z.1 h⟩
theorem step_get {reached : List Int} {i spot t : Nat} (h : t < reached.length) : (reachStep nr order i reached spot).getD t 0 = reached.getD t 0 := by
  unfold reachStep
  split
  · rw [List.getD_eq_getElem?_getD, List.getElem?_append_left h, ← List.getD_eq_getElem?_getD]
  · rfl
theorem step_le {reached : List Int} {i spot : Nat} : reached.length ≤ (reachStep nr order i reached spot).length := by
  unfold reachStep; split <;> simp
/-- all that holds of a start and is handed on holds of what is reached -/
theorem reach_all {i : Nat} {Q : Int → Prop} (hQ : ∀ x y, Q x → order.idxOf x ≤ i → y ∈ nb nr x → Q y) : ∀ (f : Nat) (reached : List Int) (spot : Nat), (∀ x ∈ reached, Q x) → ∀ x ∈ reachR nr order i f reached spot, Q x
  | 0, reached, spot, h => h
  | f + 1, reached, spot, h => by
    unfold reachR
    split
    · rename_i hl
      refine reach_all hQ f _ _ fun x hx => ?_
      rcases mem_step.mp hx with m | ⟨a, b⟩
      · exact h x m
      · exact hQ _ x (h _ (getD_mem hl)) a b
    · exact h
theorem reach_sub {i : Nat} : ∀ (f : Nat) (reached : List Int) (spot : Nat), ∀ x ∈ reached, x ∈ reachR nr order i f reached spot
  | 0, reached, spot, x, h => h
  | f + 1, reached, spot, x, h => by
    unfold reachR
    split
    · exact reach_sub f _ _ x (mem_step.mpr (.inl h))
    · exact h
/-- what is reached is closed -/
theorem reach_closed (N : NearOk nr) {i : Nat} : ∀ (f : Nat) (reached : List Int) (spot : Nat), Pts reached → spot + f = 7 → spot ≤ reached.length → (∀ t, t < spot → order.idxOf (reached.getD t 0) ≤ i → ∀ y ∈ nb nr (reached.getD t 0), y ∈ reached) →
    ∀ x ∈ reachR nr order i f reached spot, order.idxOf x ≤ i → ∀ y ∈ nb nr x, y ∈ reachR nr order i f reached spot
  | 0, reached, spot, P, hf, hl, h => by
    have := P.len
    omega
  | f + 1, reached, spot, P, hf, hl, h => by
    unfold reachR
    split
    · rename_i hlt
      refine reach_closed N f _ _ (reachStep_pts N P) (by omega) (Nat.le_trans hlt step_le) fun t ht hi y hy => ?_
      have ht' : t < reached.length := by omega
      rw [step_get ht'] at hi hy
      rcases Nat.lt_or_ge t spot with g | g
      · exact mem_step.mpr (.inl (h t g hi y hy))
      · obtain rfl : t = spot := by omega
        exact mem_step.mpr (.inr ⟨hi, hy⟩)
    · rename_i hge
      intro x hx hi y hy
      obtain ⟨t, ht, e⟩ := List.getElem_of_mem hx
      have e' : reached.getD t 0 = x := by rw [getD_eq ht]; exact e
      exact h t (by omega) (by rw [e']; exact hi) y (by rw [e']; exact hy)
theorem reach_iff (N : NearOk nr) (O : OrdOk order) {i : Nat} (hi : i < 6) {y : Int} : y ∈ reachZ nr order i ↔ y = order.getD i 0 ∨ ∃ j, j < 6 ∧ order.getD j 0 = y ∧ Cn (Adj nr order) (i + 1) i j := by
  have h6 := O.six
  have nd := O.pts.nd
  constructor
  · intro h
    refine reach_all (nr := nr) (order := order) (i := i) (Q := fun y => y = order.getD i 0 ∨ ∃ j, j < 6 ∧ order.getD j 0 = y ∧ Cn (Adj nr order) (i + 1) i j) ?_ 7 [order.getD i 0] 0 (fun x hx => .inl (List.mem_singleton.mp hx)) y h
    rintro x y q hx hy
    have ry := N.rg _ _ hy
    have my := O.all y ry.1 ry.2
    have ly := List.idxOf_lt_length_iff.mpr my
    refine .inr ⟨order.idxOf y, by omega, o_idx my, ?_⟩
    rcases q with rfl | ⟨z, hz, rfl, c⟩
    · exact Cn.up (Nat.zero_le _) (show Adj nr order i _ from ⟨⟨hi, by omega⟩, by rw [o_idx my]; exact hy⟩)
    · rw [idx_o nd (by omega)] at hx
      exact Cn.trans _ i z _ (by omega) c (Cn.up (Nat.zero_le _) (show Adj nr order z _ from ⟨⟨hz, by omega⟩, by rw [o_idx my]; exact hy⟩))
  · have st : order.getD i 0 ∈ reachZ nr order i := reach_sub 7 _ 0 _ (List.mem_singleton.mpr rfl)
    have cl := reach_closed (order := order) (i := i) N 7 [order.getD i 0] 0 (one_pts (o_rg O hi)) rfl (Nat.zero_le _) (fun t ht => absurd ht (Nat.not_lt_zero _))
    have key : ∀ (p z j : Nat), p ≤ i + 1 → z ≤ i → order.getD z 0 ∈ reachZ nr order i → Cn (Adj nr order) p z j → order.getD j 0 ∈ reachZ nr order i := by
      intro p
      induction p with
      | zero =>
        intro z j _ hz m c
        exact cl _ m (by rw [idx_o nd (by omega)]; exact hz) _ c.2
      | succ p ih =>
        intro z j hp hz m c
        rcases c with c | ⟨a, b⟩
        · exact ih z j (by omega) hz m c
        · exact ih p j (by omega) (by omega) (ih z p (by omega) hz m a) b
    rintro (rfl | ⟨j, hj, rfl, c⟩)
    · exact st
    · exact key (i + 1) i j (Nat.le_refl _) (Nat.le_refl _) st c

/-! the ties as pairs -/
theorem pair_inj {a b c d : Int} (ha : 0 ≤ a ∧ a < 6) (hb : 0 ≤ b ∧ b < 6) (hc : 0 ≤ c ∧ c < 6) (hd : 0 ≤ d ∧ d < 6) (e : pairZ a b = pairZ c d) : (a = c ∧ b = d) ∨ (a = d ∧ b = c) := by
  unfold pairZ at e
  split at e <;> split at e <;> split at e <;> split at e <;> omega
theorem pair_symm (a b : Int) : pairZ a b = pairZ b a := by
  unfold pairZ
  (repeat' split) <;> omega
theorem nodup_map {l : List Int} {f : Int → Int} (nd : l.Nodup) (h : ∀ x ∈ l, ∀ y ∈ l, f x = f y → x = y) : (l.map f).Nodup := by
  rw [List.Nodup, List.pairwise_map]
  exact List.Pairwise.imp_of_mem (fun hx hy ne e => ne (h _ hx _ hy e)) nd
noncomputable def keysTo (nr : List (List Int)) (order : List Int) : Nat → List Int
  | 0 => []
  | i + 1 => keysTo nr order i ++ (laterS nr order i).map (pairZ (order.getD i 0))
theorem mem_keysTo (N : NearOk nr) (O : OrdOk order) {q : Int} : ∀ n, n ≤ 6 → (q ∈ keysTo nr order n ↔ ∃ i j, i < n ∧ i < j ∧ j < 6 ∧ pairZ (order.getD i 0) (order.getD j 0) = q ∧ Cn (Adj nr order) i i j)
  | 0, _ => by simp [keysTo]
  | n + 1, h => by
    rw [keysTo, List.mem_append, mem_keysTo N O n (by omega), List.mem_map]
    constructor
    · rintro (⟨i, j, a, b, c, d, e⟩ | ⟨y, hy, e⟩)
      · exact ⟨i, j, by omega, b, c, d, e⟩
      · obtain ⟨j, hj, l, rfl, c⟩ := (later_iff N O (by omega)).mp hy
        exact ⟨n, j, by omega, l, hj, e, c⟩
    · rintro ⟨i, j, a, b, c, d, e⟩
      rcases Nat.lt_or_ge i n with g | g
      · exact .inl ⟨i, j, g, b, c, d, e⟩
      · obtain rfl : i = n := by omega
        exact .inr ⟨_, (later_iff N O (by omega)).mpr ⟨j, c, b, rfl, e⟩, d⟩
theorem pair_place (O : OrdOk order) {i j i' j' : Nat} (h : i < j) (hj : j < 6) (h' : i' < j') (hj' : j' < 6) (e : pairZ (order.getD i 0) (order.getD j 0) = pairZ (order.getD i' 0) (order.getD j' 0)) : i = i' ∧ j = j' := by
  have h6 := O.six
  have nd := O.pts.nd
  rcases pair_inj (o_rg O (by omega)) (o_rg O hj) (o_rg O (by omega)) (o_rg O hj') e with ⟨a, b⟩ | ⟨a, b⟩
  · exact ⟨o_inj nd (by omega) (by omega) a, o_inj nd (by omega) (by omega) b⟩
  · have := o_inj nd (by omega) (by omega) a
    have := o_inj nd (by omega) (by omega) b
    omega
theorem keys_at_nd (N : NearOk nr) (O : OrdOk order) {i : Nat} (hi : i < 6) : ((laterS nr order i).map (pairZ (order.getD i 0))).Nodup := by
  refine nodup_map (later_pts O.pts i).nd ?_
  intro x hx y hy e
  obtain ⟨j, hj, l, rfl, _⟩ := (later_iff N O hi).mp hx
  obtain ⟨j', hj', l', rfl, _⟩ := (later_iff N O hi).mp hy
  rw [(pair_place O l hj l' hj' e).2]
theorem keysTo_nd (N : NearOk nr) (O : OrdOk order) : ∀ n, n ≤ 6 → (keysTo nr order n).Nodup
  | 0, _ => List.nodup_nil
  | n + 1, h => by
    refine List.nodup_append.mpr ⟨keysTo_nd N O n (by omega), keys_at_nd N O (by omega), fun x hx y hy e => ?_⟩
    subst e
    obtain ⟨i, j, a, b, c, d, _⟩ := (mem_keysTo N O n (by omega)).mp hx
    obtain ⟨y, hy, e⟩ := List.mem_map.mp hy
    obtain ⟨j', hj', l', rfl, _⟩ := (later_iff N O (by omega)).mp hy
    have := (pair_place O b c l' hj' (d.trans e.symm)).1
    omega
theorem dicS_eq (N : NearOk nr) (O : OrdOk order) : ∀ n, n ≤ 6 → dicS nr order n = one (keysTo nr order n)
  | 0, _ => rfl
  | n + 1, h => by
    have nd := keysTo_nd N O (n + 1) h
    have e : tableS nr order n = one ((laterS nr order n).map (pairZ (order.getD n 0))) := by
      unfold tableS
      rw [dictTo_one (pairZ (order.getD n 0)) _ (keys_at_nd N O (by omega)) _ (Nat.le_refl _), List.take_length]
    rw [dicS, dicS_eq N O n (by omega), e, addZ_apart nd, keysTo]
theorem waysAt_perm (N : NearOk nr) (O : OrdOk order) {i : Nat} (hi : i < 6) : (waysAt nr order i).Perm ((laterS nr order i).map (pairZ (order.getD i 0))) := by
  have h6 := O.six
  have nd := O.pts.nd
  unfold waysAt
  refine List.Perm.map _ ((List.perm_ext_iff_of_nodup ((reachZ_pts N O.pts (by omega)).nd.filter _) (later_pts O.pts i).nd).mpr fun y => ?_)
  rw [List.mem_filter, decide_eq_true_iff, reach_iff N O hi, later_iff N O hi]
  constructor
  · rintro ⟨rfl | ⟨j, hj, rfl, c⟩, g⟩
    · rw [idx_o nd (by omega)] at g; omega
    · rw [idx_o nd (by omega)] at g
      exact ⟨j, hj, by omega, rfl, c.elim id (·.2)⟩
  · rintro ⟨j, hj, l, rfl, c⟩
    exact ⟨.inr ⟨j, hj, rfl, .inl c⟩, by rw [idx_o nd (by omega)]; omega⟩
theorem waysTo_perm (N : NearOk nr) (O : OrdOk order) : ∀ n, n ≤ 6 → (waysTo nr order n).Perm (keysTo nr order n)
  | 0, _ => .nil
  | n + 1, h => by
    rw [waysTo, keysTo]
    exact (waysTo_perm N O n (by omega)).append (waysAt_perm N O (by omega))
/-- Rose, Tarjan and Lueker -/
theorem ways_eq (N : NearOk nr) (O : OrdOk order) : sortZ (keysZ (dicS nr order 6)) = waysZ nr order := by
  rw [dicS_eq N O 6 (Nat.le_refl _), one, keys_map, waysZ, O.six]
  exact sortZ_congr (waysTo_perm N O 6 (Nat.le_refl _)).symm
theorem cntS_eq (nr : List (List Int)) (order : List Int) : ∀ n, cntS nr order n = (keysTo nr order n).length
  | 0 => rfl
  | n + 1 => by
    rw [cntS, keysTo, cntS_eq nr order n, List.length_append, List.length_map]
    omega
end
end
section
theorem rises_get {ns : List Int} (h : ns.Pairwise (· ≤ ·)) {i j : Nat} (l : i ≤ j) (hj : j < ns.length) : ns.getD i 0 ≤ ns.getD j 0 := by
  rcases Nat.lt_or_ge i j with g | g
  · rw [getD_eq hj, getD_eq (show i < ns.length by omega)]
    exact List.pairwise_iff_getElem.mp h i j (by omega) hj g
  · obtain rfl : i = j := by omega
    exact Int.le_refl _
theorem bisR_spec {ns : List Int} {x : Int} (s : ns.Pairwise (· ≤ ·)) : ∀ (f lo hi : Nat), lo ≤ hi → hi ≤ ns.length → hi - lo < f → (∀ i, i < lo → ns.getD i 0 ≤ x) → (∀ i, hi ≤ i → i < ns.length → x < ns.getD i 0) →
    ∃ r : Nat, bisR ns x f lo hi = r ∧ r ≤ ns.length ∧ (∀ i, i < r → ns.getD i 0 ≤ x) ∧ (∀ i, r ≤ i → i < ns.length → x < ns.getD i 0)
  | 0, lo, hi, _, _, h, _, _ => absurd h (Nat.not_lt_zero _)
  | f + 1, lo, hi, h1, h2, h3, a, b => by
    unfold bisR
    by_cases hl : lo < hi
    · rw [if_pos (by omega)]
      have hm : ((lo : Int) + hi) / 2 = ((lo + hi) / 2 : Nat) := by omega
      rw [hm, Int.toNat_natCast]
      split
      · rename_i hx
        refine bisR_spec s f lo ((lo + hi) / 2) (by omega) (by omega) (by omega) a fun i hi' hil => ?_
        have := rises_get s hi' hil
        omega
      · rename_i hx
        have := bisR_spec s f ((lo + hi) / 2 + 1) hi (by omega) h2 (by omega) (fun i hi' => ?_) b
        · rwa [show (((lo + hi) / 2 + 1 : Nat) : Int) = ((lo + hi) / 2 : Nat) + 1 by omega] at this
        · have := rises_get s (show i ≤ (lo + hi) / 2 by omega) (by omega)
          omega
    · rw [if_neg (by omega)]
      obtain rfl : lo = hi := by omega
      exact ⟨lo, rfl, h2, a, b⟩
theorem bis_spec {ns : List Int} (x : Int) (s : ns.Pairwise (· ≤ ·)) : ∃ r : Nat, bisZ ns x = r ∧ r ≤ ns.length ∧ (∀ i, i < r → ns.getD i 0 ≤ x) ∧ (∀ i, r ≤ i → i < ns.length → x < ns.getD i 0) :=
  bisR_spec s (ns.length + 1) 0 ns.length (Nat.zero_le _) (Nat.le_refl _) (by omega) (fun i h => absurd h (Nat.not_lt_zero _)) fun i h h' => by omega
theorem mem_get {ns : List Int} {y : Int} (h : y ∈ ns) : ∃ i, i < ns.length ∧ ns.getD i 0 = y := by
  obtain ⟨i, hi, e⟩ := List.getElem_of_mem h
  exact ⟨i, hi, by rw [getD_eq hi]; exact e⟩
theorem insR_rises {ns : List Int} (x : Int) (s : ns.Pairwise (· ≤ ·)) : (insR ns x).Pairwise (· ≤ ·) := by
  obtain ⟨r, hr, hl, a, b⟩ := bis_spec x s
  unfold insR
  rw [hr, Int.toNat_natCast]
  have ha : ∀ y ∈ ns.take r, y ≤ x := fun y hy => by
    obtain ⟨i, hi, e⟩ := List.getElem_of_mem hy
    rw [List.length_take] at hi
    rw [List.getElem_take] at e
    have := a i (by omega)
    rw [getD_eq (by omega), e] at this
    exact this
  have hb : ∀ y ∈ ns.drop r, x < y := fun y hy => by
    obtain ⟨i, hi, e⟩ := List.getElem_of_mem hy
    rw [List.length_drop] at hi
    rw [List.getElem_drop] at e
    have := b (r + i) (by omega) (by omega)
    rw [getD_eq (by omega), e] at this
    exact this
  refine List.pairwise_append.mpr ⟨s.sublist (List.take_sublist _ _), List.pairwise_cons.mpr ⟨fun y hy => Int.le_of_lt (hb y hy), s.sublist (List.drop_sublist _ _)⟩, fun y hy z hz => ?_⟩
  rcases List.mem_cons.mp hz with rfl | hz
  · exact ha y hy
  · exact Int.le_trans (ha y hy) (Int.le_of_lt (hb z hz))
theorem head_least : ∀ {ns : List Int}, ns ≠ [] → ns.Pairwise (· ≤ ·) → ns.headD 0 ∈ ns ∧ ∀ y ∈ ns, ns.headD 0 ≤ y
  | [], h, _ => absurd rfl h
  | a :: l, _, s => ⟨.head _, fun y hy => by
    rcases List.mem_cons.mp hy with rfl | hy
    · exact Int.le_refl _
    · exact (List.pairwise_cons.mp s).1 y hy⟩
theorem last_most : ∀ {ns : List Int}, ns ≠ [] → ns.Pairwise (· ≤ ·) → ns.getLastD 0 ∈ ns ∧ ∀ y ∈ ns, y ≤ ns.getLastD 0
  | [], h, _ => absurd rfl h
  | [a], _, s => ⟨.head _, fun y hy => by rw [List.mem_singleton.mp hy]; exact Int.le_refl _⟩
  | a :: b :: l, _, s => by
    have ih := last_most (ns := b :: l) (by simp) (List.pairwise_cons.mp s).2
    have e : (a :: b :: l).getLastD 0 = (b :: l).getLastD 0 := rfl
    rw [e]
    refine ⟨.tail _ ih.1, fun y hy => ?_⟩
    rcases List.mem_cons.mp hy with rfl | hy
    · exact (List.pairwise_cons.mp s).1 _ ih.1
    · exact ih.2 y hy

section
variable {nr : List (List Int)} {order : List Int}
theorem rowF_perm (order : List Int) (p : Int) : ∀ (l acc : List Int), (l.foldl (fun r o => insR r (order.idxOf o : Nat)) acc).Perm (acc ++ l.map fun o => ((order.idxOf o : Nat) : Int))
  | [], acc => by simp
  | o :: l, acc => by
    rw [List.foldl_cons, List.map_cons]
    refine (rowF_perm order p l _).trans (((insR_perm acc _).append_right _).trans ?_)
    rw [List.cons_append]
    exact List.perm_middle.symm
theorem rowF_rises (order : List Int) : ∀ (l acc : List Int), acc.Pairwise (· ≤ ·) → (l.foldl (fun r o => insR r (order.idxOf o : Nat)) acc).Pairwise (· ≤ ·)
  | [], acc, h => h
  | o :: l, acc, h => by
    rw [List.foldl_cons]
    exact rowF_rises order l _ (insR_rises _ h)
theorem row_rises (nr : List (List Int)) (order : List Int) (i : Nat) : (rowZ nr order i).Pairwise (· ≤ ·) := rowF_rises order _ _ (List.pairwise_singleton ..)
theorem mem_row (N : NearOk nr) (O : OrdOk order) {i : Nat} (hi : i < 6) {z : Int} : z ∈ rowZ nr order i ↔ z = i ∨ ∃ j : Nat, Adj nr order i j ∧ z = j := by
  have h6 := O.six
  have nd := O.pts.nd
  unfold rowZ rowF
  rw [(rowF_perm order i _ _).mem_iff, List.mem_append, List.mem_singleton, List.mem_map]
  constructor
  · rintro (h | ⟨y, hy, rfl⟩)
    · exact .inl h
    · have ry := N.rg _ _ hy
      have my := O.all y ry.1 ry.2
      have ly := List.idxOf_lt_length_iff.mpr my
      exact .inr ⟨_, ⟨⟨hi, by omega⟩, by rw [o_idx my]; exact hy⟩, rfl⟩
  · rintro (h | ⟨j, ⟨⟨_, hj⟩, hy⟩, rfl⟩)
    · exact .inl h
    · exact .inr ⟨_, hy, by rw [idx_o nd (by omega)]⟩
theorem row_ne (nr : List (List Int)) (order : List Int) (i : Nat) : rowZ nr order i ≠ [] := fun e => by
  have := rowF_len order i (nb nr (order.getD i 0))
  rw [show rowF order (nb nr (order.getD i 0)) i = rowZ nr order i from rfl, e] at this
  simp at this
theorem range_get {f : Nat → Int} {n i : Nat} (h : i < n) : ((List.range n).map f).getD i 0 = f i := by
  rw [getD_eq (by simpa using h)]; simp
/-- the least of a place and its neighbours' places -/
theorem first_spec (N : NearOk nr) (O : OrdOk order) {i : Nat} (hi : i < 6) : ∃ f : Nat, (firstsZ nr order 6).getD i 0 = f ∧ f ≤ i ∧ (f = i ∨ Adj nr order i f) ∧ ∀ j, Adj nr order i j → f ≤ j := by
  obtain ⟨m, l⟩ := head_least (row_ne nr order i) (row_rises nr order i)
  have e : (firstsZ nr order 6).getD i 0 = (rowZ nr order i).headD 0 := range_get hi
  have l0 := l i ((mem_row N O hi).mpr (.inl rfl))
  rcases (mem_row N O hi).mp m with h | ⟨f, hf, h⟩
  · exact ⟨i, by rw [e, h], Nat.le_refl _, .inl rfl, fun j hj => by
      have := l j ((mem_row N O hi).mpr (.inr ⟨j, hj, rfl⟩)); omega⟩
  · exact ⟨f, by rw [e, h], by omega, .inr hf, fun j hj => by
      have := l j ((mem_row N O hi).mpr (.inr ⟨j, hj, rfl⟩)); omega⟩
theorem last_spec (N : NearOk nr) (O : OrdOk order) {i : Nat} (hi : i < 6) : ∃ g : Nat, (lastsZ nr order 6).getD i 0 = g ∧ i ≤ g ∧ g < 6 ∧ (g = i ∨ Adj nr order i g) ∧ ∀ j, Adj nr order i j → j ≤ g := by
  obtain ⟨m, l⟩ := last_most (row_ne nr order i) (row_rises nr order i)
  have e : (lastsZ nr order 6).getD i 0 = (rowZ nr order i).getLastD 0 := range_get hi
  have l0 := l i ((mem_row N O hi).mpr (.inl rfl))
  rcases (mem_row N O hi).mp m with h | ⟨f, hf, h⟩
  · exact ⟨i, by rw [e, h], Nat.le_refl _, hi, .inl rfl, fun j hj => by
      have := l j ((mem_row N O hi).mpr (.inr ⟨j, hj, rfl⟩)); omega⟩
  · exact ⟨f, by rw [e, h], by omega, hf.1.2, .inr hf, fun j hj => by
      have := l j ((mem_row N O hi).mpr (.inr ⟨j, hj, rfl⟩)); omega⟩
end
end
section
section
variable {nr : List (List Int)} {order : List Int}
/-- an order whose first neighbours rise -/
structure Rise (nr : List (List Int)) (order : List Int) : Prop where
  N : NearOk nr
  O : OrdOk order
  mono : ∀ i j : Nat, i ≤ j → j < 6 → (firstsZ nr order 6).getD i 0 ≤ (firstsZ nr order 6).getD j 0
theorem firsts_len (nr : List (List Int)) (order : List Int) : (firstsZ nr order 6).length = 6 := by simp [firstsZ]
theorem Rise.rises (B : Rise nr order) : (firstsZ nr order 6).Pairwise (· ≤ ·) := List.pairwise_iff_getElem.mpr fun i j hi hj l => by
  have h6 := firsts_len nr order
  have := B.mono i j (by omega) (by omega)
  rwa [getD_eq hi, getD_eq hj] at this
theorem Rise.srt (B : Rise nr order) : sortZ (firstsZ nr order 6) = firstsZ nr order 6 := (eq_sortZ (.refl _) B.rises).symm
theorem ends_spec (B : Rise nr order) {i : Nat} (hi : i < 6) : ∃ g : Nat, (endsZ (firstsZ nr order 6)).getD i 0 = g ∧ i ≤ g ∧ g < 6 ∧ ∀ j : Nat, j < 6 → ((firstsZ nr order 6).getD j 0 ≤ i ↔ j ≤ g) := by
  obtain ⟨r, hr, hl, a, b⟩ := bis_spec (i : Int) B.rises
  have h6 := firsts_len nr order
  obtain ⟨f, hf, fi, _⟩ := first_spec B.N B.O hi
  have hir : i < r := by
    rcases Nat.lt_or_ge i r with g | g
    · exact g
    · have := b i g (by omega); omega
  have e : (endsZ (firstsZ nr order 6)).getD i 0 = bisZ (firstsZ nr order 6) i - 1 := range_get hi
  refine ⟨r - 1, by rw [e, hr]; omega, by omega, by omega, fun j hj => ⟨fun h => ?_, fun h => a j (by omega)⟩⟩
  rcases Nat.lt_or_ge j r with g | g
  · omega
  · have := b j g (by omega); omega
theorem fill_iff (B : Rise nr order) : ∀ (i j : Nat), i < j → j < 6 → (Cn (Adj nr order) i i j ↔ (firstsZ nr order 6).getD j 0 ≤ i) := by
  intro i
  have mp : ∀ i j : Nat, i < j → j < 6 → Cn (Adj nr order) i i j → (firstsZ nr order 6).getD j 0 ≤ i := fun i j l hj h => by
    obtain ⟨c, hc, e⟩ := Cn.last i i j h
    obtain ⟨f, hf, _, _, h4⟩ := first_spec B.N B.O hj
    have := h4 c (Adj.sym B.N B.O _ _ hc)
    omega
  induction i with
  | zero =>
    intro j l hj
    refine ⟨mp 0 j l hj, fun h => ?_⟩
    obtain ⟨f, hf, h2, h3, h4⟩ := first_spec B.N B.O hj
    rcases h3 with h3 | h3
    · omega
    · obtain rfl : f = 0 := by omega
      exact Adj.sym B.N B.O _ _ h3
  | succ i ih =>
    intro j l hj
    refine ⟨mp (i + 1) j l hj, fun h => ?_⟩
    obtain ⟨f, hf, h2, h3, h4⟩ := first_spec B.N B.O hj
    rcases Nat.lt_or_ge i f with g | g
    · rcases h3 with h3 | h3
      · omega
      · obtain rfl : f = i + 1 := by omega
        exact Cn.up (Nat.zero_le _) (show Cn (Adj nr order) 0 _ _ from Adj.sym B.N B.O _ _ h3)
    · have m := B.mono (i + 1) j (by omega) hj
      exact .inr ⟨Cn.sym (Adj.sym B.N B.O) _ _ _ ((ih (i + 1) (by omega) (by omega)).mpr (by omega)), (ih j (by omega) hj).mpr (by omega)⟩
noncomputable abbrev n2Z (nr : List (List Int)) (order : List Int) (i : Nat) : Nat := ((endsZ (firstsZ nr order 6)).getD i 0 + 1 - ((i : Int) + 1)).toNat
theorem later_perm (B : Rise nr order) {i : Nat} (hi : i < 6) : (laterS nr order i).Perm ((List.range (n2Z nr order i)).map fun j => order.getD (i + 1 + j) 0) := by
  have h6 := B.O.six
  have nd := B.O.pts.nd
  obtain ⟨g, hg, g1, g2, g3⟩ := ends_spec B hi
  have hn : n2Z nr order i = g - i := by
    show ((endsZ (firstsZ nr order 6)).getD i 0 + 1 - ((i : Int) + 1)).toNat = _
    rw [hg]; omega
  rw [hn]
  have nd2 : ((List.range (g - i)).map fun j => order.getD (i + 1 + j) 0).Nodup := by
    rw [List.Nodup, List.pairwise_map]
    refine List.Pairwise.imp_of_mem (fun {a b} ha hb ne e => ne ?_) List.nodup_range
    have ha := List.mem_range.mp ha
    have hb := List.mem_range.mp hb
    have := o_inj nd (by omega) (by omega) e
    omega
  refine (List.perm_ext_iff_of_nodup (later_pts B.O.pts i).nd nd2).mpr fun y => ?_
  rw [later_iff B.N B.O hi, List.mem_map]
  constructor
  · rintro ⟨j, hj, l, rfl, c⟩
    have := (g3 j hj).mp ((fill_iff B i j l hj).mp c)
    exact ⟨j - i - 1, List.mem_range.mpr (by omega), by rw [show i + 1 + (j - i - 1) = j by omega]⟩
  · rintro ⟨t, ht, rfl⟩
    have ht := List.mem_range.mp ht
    exact ⟨i + 1 + t, by omega, by omega, rfl, (fill_iff B i _ (by omega) (by omega)).mpr ((g3 _ (by omega)).mpr (by omega))⟩
theorem keys_nest (B : Rise nr order) : ∀ n, n ≤ 6 → (keysTo nr order n).Perm (nestI (n2Z nr order) (fun i j => pairZ (order.getD i 0) (order.getD (i + 1 + j) 0)) n)
  | 0, _ => .nil
  | n + 1, h => by
    rw [keysTo, nestI]
    refine (keys_nest B n (by omega)).append ?_
    have := (later_perm B (i := n) (by omega)).map (pairZ (order.getD n 0))
    rwa [List.map_map] at this
theorem Rise.band (B : Rise nr order) : sortZ (keysZ (dicS nr order 6)) = bandZ order (endsZ (firstsZ nr order 6)) := by
  rw [dicS_eq B.N B.O 6 (Nat.le_refl _), one, keys_map, bandZ]
  exact sortZ_congr (keys_nest B 6 (Nat.le_refl _))
theorem later_len (B : Rise nr order) {i : Nat} (hi : i < 6) : ((laterS nr order i).length : Int) = (endsZ (firstsZ nr order 6)).getD i 0 - i := by
  obtain ⟨g, hg, g1, g2, g3⟩ := ends_spec B hi
  rw [(later_perm B hi).length_eq, List.length_map, List.length_range, hg]
  show ((((endsZ (firstsZ nr order 6)).getD i 0 + 1 - ((i : Int) + 1)).toNat : Nat) : Int) = _
  rw [hg]; omega
theorem Rise.sq (B : Rise nr order) : sqS nr order 6 = squZ (endsZ (firstsZ nr order 6)) := by
  have e : squZ (endsZ (firstsZ nr order 6)) = ((endsZ (firstsZ nr order 6)).getD 0 0 - (0 : Nat)) ^ 2 + (((endsZ (firstsZ nr order 6)).getD 1 0 - (1 : Nat)) ^ 2 + (((endsZ (firstsZ nr order 6)).getD 2 0 - (2 : Nat)) ^ 2 +
    (((endsZ (firstsZ nr order 6)).getD 3 0 - (3 : Nat)) ^ 2 + (((endsZ (firstsZ nr order 6)).getD 4 0 - (4 : Nat)) ^ 2 + (((endsZ (firstsZ nr order 6)).getD 5 0 - (5 : Nat)) ^ 2 + 0))))) := rfl
  rw [e]
  simp only [sqS]
  rw [later_len B (i := 0) (by decide), later_len B (i := 1) (by decide), later_len B (i := 2) (by decide), later_len B (i := 3) (by decide), later_len B (i := 4) (by decide), later_len B (i := 5) (by decide)]
  omega
noncomputable def bit (b : Prop) [Decidable b] : Int := if b then 1 else 0
theorem bit_iff {a b : Prop} [Decidable a] [Decidable b] (h : a ↔ b) : bit a = bit b := by
  unfold bit
  by_cases hb : b
  · rw [if_pos hb, if_pos (h.mpr hb)]
  · rw [if_neg hb, if_neg fun x => hb (h.mp x)]
theorem bit_at {F : Int} {f i j g : Nat} (hf : F = f) (q : F ≤ (i : Int) ↔ j ≤ g) : bit (j ≤ g) = bit (f ≤ i) :=
  bit_iff (q.symm.trans (by rw [hf]; exact Int.ofNat_le))
theorem row : ∀ (i g : Nat), i < 6 → g < 6 → i ≤ g → (g : Int) - (i : Nat) = ((List.range (5 - i)).map fun t => bit (i + 1 + t ≤ g)).sum := by
  have key : ∀ i : Fin 6, ∀ g : Fin 6, i.1 ≤ g.1 → (g.1 : Int) - (i.1 : Nat) = ((List.range (5 - i.1)).map fun t => bit (i.1 + 1 + t ≤ g.1)).sum := by decide
  exact fun i g hi hg h => key ⟨i, hi⟩ ⟨g, hg⟩ h
theorem col : ∀ (j f : Nat), j < 6 → f < 6 → f ≤ j → (j : Int) - f = ((List.range j).map fun i : Nat => bit (f ≤ i)).sum := by
  have key : ∀ j : Fin 6, ∀ f : Fin 6, f.1 ≤ j.1 → (j.1 : Int) - (f.1 : Nat) = ((List.range j.1).map fun i => bit (f.1 ≤ i)).sum := by decide
  exact fun i g hi hg h => key ⟨i, hi⟩ ⟨g, hg⟩ h
theorem Rise.cnt (B : Rise nr order) : cntS nr order 6 = countZ (firstsZ nr order 6) := by
  have e : countZ (firstsZ nr order 6) = ((0 : Nat) - (firstsZ nr order 6).getD 0 0) + (((1 : Nat) - (firstsZ nr order 6).getD 1 0) + (((2 : Nat) - (firstsZ nr order 6).getD 2 0) + (((3 : Nat) - (firstsZ nr order 6).getD 3 0) +
    (((4 : Nat) - (firstsZ nr order 6).getD 4 0) + (((5 : Nat) - (firstsZ nr order 6).getD 5 0) + 0))))) := rfl
  rw [e]
  simp only [cntS]
  rw [later_len B (i := 0) (by decide), later_len B (i := 1) (by decide), later_len B (i := 2) (by decide), later_len B (i := 3) (by decide), later_len B (i := 4) (by decide), later_len B (i := 5) (by decide)]
  obtain ⟨f0, hf0, a0, _⟩ := first_spec B.N B.O (show 0 < 6 by decide)
  obtain ⟨f1, hf1, a1, _⟩ := first_spec B.N B.O (show 1 < 6 by decide)
  obtain ⟨f2, hf2, a2, _⟩ := first_spec B.N B.O (show 2 < 6 by decide)
  obtain ⟨f3, hf3, a3, _⟩ := first_spec B.N B.O (show 3 < 6 by decide)
  obtain ⟨f4, hf4, a4, _⟩ := first_spec B.N B.O (show 4 < 6 by decide)
  obtain ⟨f5, hf5, a5, _⟩ := first_spec B.N B.O (show 5 < 6 by decide)
  obtain ⟨g0, hg0, b0, c0, q0⟩ := ends_spec B (show 0 < 6 by decide)
  obtain ⟨g1, hg1, b1, c1, q1⟩ := ends_spec B (show 1 < 6 by decide)
  obtain ⟨g2, hg2, b2, c2, q2⟩ := ends_spec B (show 2 < 6 by decide)
  obtain ⟨g3, hg3, b3, c3, q3⟩ := ends_spec B (show 3 < 6 by decide)
  obtain ⟨g4, hg4, b4, c4, q4⟩ := ends_spec B (show 4 < 6 by decide)
  obtain ⟨g5, hg5, b5, c5, q5⟩ := ends_spec B (show 5 < 6 by decide)
  have r0 : (g0 : Int) - (0 : Nat) = bit (1 ≤ g0) + (bit (2 ≤ g0) + (bit (3 ≤ g0) + (bit (4 ≤ g0) + (bit (5 ≤ g0) + (0))))) := row 0 g0 (by decide) c0 b0
  have r1 : (g1 : Int) - (1 : Nat) = bit (2 ≤ g1) + (bit (3 ≤ g1) + (bit (4 ≤ g1) + (bit (5 ≤ g1) + (0)))) := row 1 g1 (by decide) c1 b1
  have r2 : (g2 : Int) - (2 : Nat) = bit (3 ≤ g2) + (bit (4 ≤ g2) + (bit (5 ≤ g2) + (0))) := row 2 g2 (by decide) c2 b2
  have r3 : (g3 : Int) - (3 : Nat) = bit (4 ≤ g3) + (bit (5 ≤ g3) + (0)) := row 3 g3 (by decide) c3 b3
  have r4 : (g4 : Int) - (4 : Nat) = bit (5 ≤ g4) + (0) := row 4 g4 (by decide) c4 b4
  have r5 : (g5 : Int) - (5 : Nat) = 0 := row 5 g5 (by decide) c5 b5
  have s0 : ((0 : Nat) : Int) - f0 = 0 := col 0 f0 (by decide) (Nat.lt_of_le_of_lt a0 (by decide)) a0
  have s1 : ((1 : Nat) : Int) - f1 = bit (f1 ≤ 0) + (0) := col 1 f1 (by decide) (Nat.lt_of_le_of_lt a1 (by decide)) a1
  have s2 : ((2 : Nat) : Int) - f2 = bit (f2 ≤ 0) + (bit (f2 ≤ 1) + (0)) := col 2 f2 (by decide) (Nat.lt_of_le_of_lt a2 (by decide)) a2
  have s3 : ((3 : Nat) : Int) - f3 = bit (f3 ≤ 0) + (bit (f3 ≤ 1) + (bit (f3 ≤ 2) + (0))) := col 3 f3 (by decide) (Nat.lt_of_le_of_lt a3 (by decide)) a3
  have s4 : ((4 : Nat) : Int) - f4 = bit (f4 ≤ 0) + (bit (f4 ≤ 1) + (bit (f4 ≤ 2) + (bit (f4 ≤ 3) + (0)))) := col 4 f4 (by decide) (Nat.lt_of_le_of_lt a4 (by decide)) a4
  have s5 : ((5 : Nat) : Int) - f5 = bit (f5 ≤ 0) + (bit (f5 ≤ 1) + (bit (f5 ≤ 2) + (bit (f5 ≤ 3) + (bit (f5 ≤ 4) + (0))))) := col 5 f5 (by decide) (Nat.lt_of_le_of_lt a5 (by decide)) a5
  have x01 : bit (1 ≤ g0) = bit (f1 ≤ 0) := bit_at hf1 (q0 1 (by decide))
  have x02 : bit (2 ≤ g0) = bit (f2 ≤ 0) := bit_at hf2 (q0 2 (by decide))
  have x03 : bit (3 ≤ g0) = bit (f3 ≤ 0) := bit_at hf3 (q0 3 (by decide))
  have x04 : bit (4 ≤ g0) = bit (f4 ≤ 0) := bit_at hf4 (q0 4 (by decide))
  have x05 : bit (5 ≤ g0) = bit (f5 ≤ 0) := bit_at hf5 (q0 5 (by decide))
  have x12 : bit (2 ≤ g1) = bit (f2 ≤ 1) := bit_at hf2 (q1 2 (by decide))
  have x13 : bit (3 ≤ g1) = bit (f3 ≤ 1) := bit_at hf3 (q1 3 (by decide))
  have x14 : bit (4 ≤ g1) = bit (f4 ≤ 1) := bit_at hf4 (q1 4 (by decide))
  have x15 : bit (5 ≤ g1) = bit (f5 ≤ 1) := bit_at hf5 (q1 5 (by decide))
  have x23 : bit (3 ≤ g2) = bit (f3 ≤ 2) := bit_at hf3 (q2 3 (by decide))
  have x24 : bit (4 ≤ g2) = bit (f4 ≤ 2) := bit_at hf4 (q2 4 (by decide))
  have x25 : bit (5 ≤ g2) = bit (f5 ≤ 2) := bit_at hf5 (q2 5 (by decide))
  have x34 : bit (4 ≤ g3) = bit (f4 ≤ 3) := bit_at hf4 (q3 4 (by decide))
  have x35 : bit (5 ≤ g3) = bit (f5 ≤ 3) := bit_at hf5 (q3 5 (by decide))
  have x45 : bit (5 ≤ g4) = bit (f5 ≤ 4) := bit_at hf5 (q4 5 (by decide))
  rw [hf0, hf1, hf2, hf3, hf4, hf5, hg0, hg1, hg2, hg3, hg4, hg5, r0, r1, r2, r3, r4, r5, s0, s1, s2, s3, s4, s5, x01, x02, x03, x04, x05, x12, x13, x14, x15, x23, x24, x25, x34, x35, x45]
  simp only [Int.add_assoc, Int.add_comm, Int.add_left_comm]
end
end
section
section
variable {nr : List (List Int)} {order : List Int}
theorem OrdOk.rev (O : OrdOk order) : OrdOk order.reverse :=
  ⟨⟨(List.reverse_perm order).nodup_iff.mpr O.pts.nd, fun x h => O.pts.rg x (List.mem_reverse.mp h)⟩, fun x a b => List.mem_reverse.mpr (O.all x a b)⟩
theorem rev_get (O : OrdOk order) {i : Nat} (hi : i < 6) : order.reverse.getD i 0 = order.getD (5 - i) 0 := by
  have h6 := O.six
  rw [getD_eq (by rw [List.length_reverse]; omega), getD_eq (by omega), List.getElem_reverse]
  congr 1
  omega
theorem adj_rev (O : OrdOk order) {i j : Nat} (h : Adj nr order.reverse i j) : Adj nr order (5 - i) (5 - j) := by
  obtain ⟨⟨hi, hj⟩, m⟩ := h
  rw [rev_get O hi, rev_get O hj] at m
  exact ⟨⟨by omega, by omega⟩, m⟩
/-- a tie of the mirrored order lies, by the walk's places, up to the last neighbour -/
theorem mirror_pair (N : NearOk nr) (O : OrdOk order) {q : Int} (h : q ∈ keysTo nr order.reverse 6) : ∃ a b : Nat, a < b ∧ b < 6 ∧ q = pairZ (order.getD a 0) (order.getD b 0) ∧ (b : Int) ≤ (lastsZ nr order 6).getD a 0 := by
  obtain ⟨i, j, hi, l, hj, e, c⟩ := (mem_keysTo N O.rev 6 (Nat.le_refl _)).mp h
  obtain ⟨c, hc, z⟩ := Cn.last i i j c
  have hc' := adj_rev O hc
  have hc6 := hc.1.1
  obtain ⟨g, hg, _, _, _, g4⟩ := last_spec N O (show 5 - j < 6 by omega)
  have := g4 _ (Adj.sym N O _ _ hc')
  refine ⟨5 - j, 5 - i, by omega, by omega, ?_, by rw [hg]; omega⟩
  rw [← e, rev_get O hi, rev_get O hj, pair_symm]
theorem Rise.le (B : Rise nr order) {i : Nat} (hi : i < 6) : (lastsZ nr order 6).getD i 0 ≤ (endsZ (firstsZ nr order 6)).getD i 0 := by
  obtain ⟨g, hg, g1, g2, g3, _⟩ := last_spec B.N B.O hi
  obtain ⟨e, he, e1, e2, e3⟩ := ends_spec B hi
  rw [hg, he]
  rcases g3 with g3 | g3
  · omega
  · obtain ⟨f, hf, _, _, f4⟩ := first_spec B.N B.O g2
    have := f4 i (Adj.sym B.N B.O _ _ g3)
    have := (e3 g g2).mp (by omega)
    omega
/-- Liu and Sherman -/
theorem Rise.within (B : Rise nr order) : ∀ q ∈ keysTo nr order.reverse 6, q ∈ keysTo nr order 6 := fun q h => by
  obtain ⟨a, b, l, hb, rfl, hl⟩ := mirror_pair B.N B.O h
  have := B.le (i := a) (by omega)
  obtain ⟨e, he, e1, e2, e3⟩ := ends_spec B (show a < 6 by omega)
  exact (mem_keysTo B.N B.O 6 (Nat.le_refl _)).mpr ⟨a, b, by omega, l, hb, rfl, (fill_iff B a b l hb).mpr ((e3 b hb).mpr (by omega))⟩
theorem pair_parts {a b : Int} (ha : 0 ≤ a ∧ a < 6) (hb : 0 ≤ b ∧ b < 6) : (pairZ a b / 6 = a ∧ pairZ a b % 6 = b) ∨ (pairZ a b / 6 = b ∧ pairZ a b % 6 = a) := by
  unfold pairZ
  split <;> split <;> omega
theorem pair_in (N : NearOk nr) (O : OrdOk order) {q : Int} (h : q ∈ keysTo nr order.reverse 6) : PairIn order (lastsZ nr order 6) q := by
  obtain ⟨a, b, l, hb, rfl, hl⟩ := mirror_pair N O h
  have h6 := O.six
  have nd := O.pts.nd
  have ma : order.getD a 0 ∈ order := getD_mem (by omega)
  have mb : order.getD b 0 ∈ order := getD_mem (by omega)
  have ia := idx_o nd (show a < order.length by omega)
  have ib := idx_o nd (show b < order.length by omega)
  unfold PairIn
  rcases pair_parts (o_rg O (show a < 6 by omega)) (o_rg O hb) with ⟨e1, e2⟩ | ⟨e1, e2⟩
  · rw [e1, e2, ia, ib]
    refine ⟨ma, mb, ?_⟩
    rw [sort_two, if_neg (by omega)]
    show (b : Int) ≤ (lastsZ nr order 6).getD (a : Int).toNat 0
    rw [Int.toNat_natCast]; exact hl
  · rw [e1, e2, ia, ib]
    refine ⟨mb, ma, ?_⟩
    rw [sort_two, if_pos (by omega)]
    show (b : Int) ≤ (lastsZ nr order 6).getD (a : Int).toNat 0
    rw [Int.toNat_natCast]; exact hl
theorem keys_len (N : NearOk nr) (O : OrdOk order) : (keysTo nr order 6).length ≤ 36 := by
  have h := dicS_len (nr := nr) O.pts 6
  rw [dicS_eq N O 6 (Nat.le_refl _), one, List.length_map] at h
  exact h
/-- all the law's plain facts, from a rising order -/
theorem Rise.law (B : Rise nr order) : LawP nr order := by
  have M := B.O.rev
  have k1 := keysTo_nd B.N B.O 6 (Nat.le_refl _)
  have k2 := keysTo_nd B.N M 6 (Nat.le_refl _)
  have d1 := dicS_eq B.N B.O 6 (Nat.le_refl _)
  have d2 := dicS_eq B.N M 6 (Nat.le_refl _)
  have kb : keysZ (addZ (dicS nr order 6) (dicS nr order.reverse 6)) = keysTo nr order 6 := by rw [d1, d2, addZ_within k1 k2 B.within, keys_map]
  have kd : keysZ (dicS nr order 6) = keysTo nr order 6 := by rw [d1, one, keys_map]
  have band := B.band
  have l1 := keys_len B.N B.O
  have l2 := keys_len B.N M
  exact
  { O := B.O, M := M, srt := B.srt
    low := fun i hi => by obtain ⟨g, hg, _⟩ := ends_spec B hi; rw [hg]; omega
    rng := fun i hi => by obtain ⟨g, hg, g1, g2, _⟩ := ends_spec B hi; rw [hg]; omega
    band := band
    ways := (ways_eq B.N B.O).symm.trans band
    cnt := B.cnt, sq := B.sq
    mways := ways_eq B.N M
    ins := fun p hp => by
      rw [d2] at hp
      obtain ⟨q, hq, rfl⟩ := List.mem_map.mp hp
      exact pair_in B.N B.O hq
    le := fun i hi => B.le hi
    both := by rw [kb, ← kd]; exact band
    nd := by rw [kb]; exact k1
    twice := by
      rw [d1, d2]
      refine (sortZ_congr (twos_within k1 k2 B.within)).trans ?_
      rw [one, keys_map]
    sum := by rw [d1, d2, sum_two k1 k2 B.within, cntS_eq, cntS_eq]
    l1 := by rw [d1, one, List.length_map]; omega
    l2 := by rw [d2, one, List.length_map]; omega
    l3 := by rw [d1, d2, addZ_within k1 k2 B.within, List.length_map]; omega }
end
end
section
section
variable {nr : List (List Int)} {a b : Int}
theorem app_lt {l m : List Int} {i : Nat} (h : i < l.length) : (l ++ m).getD i 0 = l.getD i 0 := by
  rw [List.getD_eq_getElem?_getD, List.getElem?_append_left h, ← List.getD_eq_getElem?_getD]
theorem app_ge {l m : List Int} {i : Nat} (h : l.length ≤ i) : (l ++ m).getD i 0 = m.getD (i - l.length) 0 := by
  rw [List.getD_eq_getElem?_getD, List.getElem?_append_right h, ← List.getD_eq_getElem?_getD]
/-- what holds between the steps of a walk -/
structure WI (nr : List (List Int)) (order : List Int) (place : Nat) (g : Nat → Nat) : Prop where
  P : Pts order
  pl : place ≤ order.length
  cl : ∀ t, t < place → ∀ y ∈ nb nr (order.getD t 0), y ∈ order
  par : ∀ q, 1 ≤ q → q < order.length → g q < q ∧ g q < place ∧ order.getD q 0 ∈ nb nr (order.getD (g q) 0) ∧ ∀ r, r < g q → order.getD q 0 ∉ nb nr (order.getD r 0)
  mono : ∀ q q', 1 ≤ q → q ≤ q' → q' < order.length → g q ≤ g q'
theorem WI.step (N : NearOk nr) (ha : a = 1 ∨ a = -1) (hb : b = 1 ∨ b = -1) {order : List Int} {place : Nat} {g : Nat → Nat} (W : WI nr order place g) (h : place < order.length) :
    WI nr (stepZ nr a b order place) (place + 1) (fun q => if q < order.length then g q else place) := by
  have pm := block_perm N ha hb order place
  have mb : ∀ y, y ∈ blockK (keyZ nr a b) (newsZ nr order place) ↔ y ∈ nb nr (order.getD place 0) ∧ y ∉ order := fun y => pm.mem_iff.trans newsZ_mem
  refine ⟨step_pts N ha hb W.P, ?_, ?_, ?_, ?_⟩
  · unfold stepZ; rw [List.length_append]; omega
  · intro t ht y hy
    unfold stepZ at hy ⊢
    rw [app_lt (by omega)] at hy
    rw [List.mem_append]
    by_cases hm : y ∈ order
    · exact .inl hm
    · rcases Nat.lt_or_ge t place with l | l
      · exact .inl (W.cl t l y hy)
      · obtain rfl : t = place := by omega
        exact .inr ((mb y).mpr ⟨hy, hm⟩)
  · intro q h1 hq
    unfold stepZ at hq ⊢
    rw [List.length_append] at hq
    by_cases hl : q < order.length
    · simp only [if_pos hl]
      obtain ⟨p1, p2, p3, p4⟩ := W.par q h1 hl
      refine ⟨p1, by omega, by rw [app_lt hl, app_lt (by omega)]; exact p3, fun r hr => ?_⟩
      rw [app_lt hl, app_lt (by omega)]; exact p4 r hr
    · simp only [if_neg hl]
      have m : (blockK (keyZ nr a b) (newsZ nr order place)).getD (q - order.length) 0 ∈ blockK (keyZ nr a b) (newsZ nr order place) := getD_mem (by omega)
      obtain ⟨m1, m2⟩ := (mb _).mp m
      refine ⟨by omega, by omega, by rw [app_ge (i := q) (by omega), app_lt (i := place) h]; exact m1, fun r hr hy => ?_⟩
      rw [app_ge (i := q) (by omega), app_lt (i := r) (by omega)] at hy
      exact m2 (W.cl r hr _ hy)
  · intro q q' h1 hqq hq'
    unfold stepZ at hq'
    rw [List.length_append] at hq'
    by_cases hl' : q' < order.length
    · simp only [if_pos hl', if_pos (show q < order.length by omega)]
      exact W.mono q q' h1 hqq hl'
    · simp only [if_neg hl']
      by_cases hl : q < order.length
      · simp only [if_pos hl]
        have := (W.par q h1 hl).2.1
        omega
      · simp only [if_neg hl]; exact Nat.le_refl _
theorem walk_wi (N : NearOk nr) (ha : a = 1 ∨ a = -1) (hb : b = 1 ∨ b = -1) : ∀ (f : Nat) (order : List Int) (place : Nat) (g : Nat → Nat), WI nr order place g → place + f = 7 → 0 < order.length →
    ∃ g', WI nr (walkR nr a b f order place) (walkR nr a b f order place).length g' ∧ 0 < (walkR nr a b f order place).length
  | 0, order, place, g, W, hf, h0 => by
    have := W.P.len
    have := W.pl
    omega
  | f + 1, order, place, g, W, hf, h0 => by
    unfold walkR
    split
    · rename_i h
      refine walk_wi N ha hb f _ _ _ (W.step N ha hb h) (by omega) ?_
      unfold stepZ; rw [List.length_append]; omega
    · rename_i h
      have := W.pl
      obtain rfl : place = order.length := by omega
      exact ⟨g, W, h0⟩
/-- a set closed under ties that holds a point holds all points -/
theorem all_of_closed (N : NearOk nr) {S : Int → Prop} {c : Int} (hc : 0 ≤ c ∧ c < 6) (h : S c) (cl : ∀ x y, 0 ≤ x → x < 6 → S x → y ∈ nb nr x → S y) : ∀ x, 0 ≤ x → x < 6 → S x := by
  have down : ∀ (n : Nat) (x : Int), x.toNat ≤ n → 0 ≤ x → x < 6 → S x → S 0 := by
    intro n
    induction n with
    | zero =>
      intro x hn h0 h6 s
      obtain rfl : x = 0 := by omega
      exact s
    | succ n ih =>
      intro x hn h0 h6 s
      by_cases e : x = 0
      · subst e; exact s
      · obtain ⟨y, y0, yx, hy⟩ := N.con x (by omega) h6
        exact ih y (by omega) y0 (by omega) (cl x y h0 h6 s hy)
  have s0 := down _ c (Nat.le_refl _) hc.1 hc.2 h
  have up : ∀ (n : Nat) (x : Int), x.toNat ≤ n → 0 ≤ x → x < 6 → S x := by
    intro n
    induction n with
    | zero =>
      intro x hn h0 h6
      obtain rfl : x = 0 := by omega
      exact s0
    | succ n ih =>
      intro x hn h0 h6
      by_cases e : x = 0
      · subst e; exact s0
      · obtain ⟨y, y0, yx, hy⟩ := N.con x (by omega) h6
        exact cl y x y0 (by omega) (ih y (by omega) y0 (by omega)) (N.sym x y h0 y0 hy)
  exact fun x h0 h6 => up _ x (Nat.le_refl _) h0 h6
theorem walk_rise (N : NearOk nr) (ha : a = 1 ∨ a = -1) (hb : b = 1 ∨ b = -1) {c : Int} (hc : 0 ≤ c ∧ c < 6) : Rise nr (walkZ nr a b c) := by
  have W0 : WI nr [c] 0 (fun _ => 0) := ⟨one_pts hc, Nat.zero_le _, fun t h => absurd h (Nat.not_lt_zero _), fun q h1 h2 => by simp at h2; omega, fun q q' h1 h2 h3 => by simp at h3; omega⟩
  obtain ⟨g, W, h0⟩ := walk_wi N ha hb 7 [c] 0 _ W0 rfl (by simp)
  have W : WI nr (walkZ nr a b c) (walkZ nr a b c).length g := W
  have h0 : 0 < (walkZ nr a b c).length := h0
  generalize walkZ nr a b c = order at W h0 ⊢
  have O : OrdOk order := ⟨W.P, all_of_closed (S := fun x => x ∈ order) (c := order.getD 0 0) N (W.P.rg _ (getD_mem h0)) (getD_mem h0) fun x y _ _ hx hy => by
    obtain ⟨t, ht, e⟩ := mem_get hx
    exact W.cl t ht y (by rw [e]; exact hy)⟩
  have h6 := O.six
  have hg : ∀ i : Nat, 1 ≤ i → i < 6 → (firstsZ nr order 6).getD i 0 = g i := fun i h1 hi => by
    obtain ⟨f, hf, f1, f2, f3⟩ := first_spec N O hi
    obtain ⟨p1, p2, p3, p4⟩ := W.par i h1 (by omega)
    have ad : Adj nr order i (g i) := Adj.sym N O _ _ ⟨⟨by omega, hi⟩, p3⟩
    have := f3 _ ad
    rcases f2 with f2 | f2
    · omega
    · rcases Nat.lt_or_ge f (g i) with l | l
      · exact absurd (Adj.sym N O _ _ f2).2 (p4 f l)
      · rw [hf]; omega
  refine ⟨N, O, fun i j l hj => ?_⟩
  obtain ⟨f, hf, f1, _⟩ := first_spec N O (show i < 6 by omega)
  by_cases h1 : 1 ≤ i
  · rw [hg i h1 (by omega), hg j (by omega) hj]
    have := W.mono i j h1 l (by omega)
    omega
  · obtain ⟨f', hf', _⟩ := first_spec N O hj
    rw [hf, hf']; omega
end
theorem law_plain (sc : List Int) : LawP (nrZ sc) (ordZ sc) :=
  (walk_rise (nrZ_ok sc) (one_or _) (one_or _) (by omega)).law
end
end Mine

theorem PySem.Challenge.cw_wf0023_01_holds : PySem.Challenge.rw_wf0023_01.Holds :=
  Mine.holds_of Mine.law_plain
