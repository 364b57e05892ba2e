import PyProof.Rows.All
import Wide.All
import OpenK.AllK
import Wide.FinOn
import PySem.Challenge.RW_bs0028_01
open PySem PySem.W PyProof.Rows
set_option Elab.async false
set_option linter.all false
set_option maxRecDepth 100000

section
namespace Mine
open Sem (wp)

/-- the codes that make a bytearray's own __init__ say 'exported' -/
def dec : Code → Bool
  | .builtin id _ => Builtin.Bytes.decodersThatHold.contains id
  | _ => false
def Clean (G : Ctx) : Prop := ∀ x ∈ G.below, dec x.1 = false
def wpC {α : Type} (M : Model) (A : Around) (t : Sem α) (Q : α → Shared → Prop) (E : Value → Shared → Prop) (s : Shared) : Prop :=
  ∀ G p, G.In A → dec G.code = false → Clean G → wp M G t (fun a _ s' => Q a s') (fun e _ s' => E e s') p s
def codeC (M : Model) (A : Around) (c : Code) (R : Result → Shared → Prop) (s : Shared) : Prop :=
  ∀ G p, G.code = c → G.Below A → Clean G → wpCode M G R p s

section
variable {α β : Type} {M : Model} {A : Around} {E : Value → Shared → Prop} {s : Shared}
theorem wpC_of {t : Sem α} {Q : α → Shared → Prop} (h : wpAny M A t Q E s) : wpC M A t Q E s := fun G p hi _ _ => h G p hi
theorem codeC_of {c : Code} {R : Result → Shared → Prop} (h : codeAny M A c R s) : codeC M A c R s := fun G p hc hb _ => h G p hc hb
theorem wpC_pure {a : α} {Q : α → Shared → Prop} (h : Q a s) : wpC M A (pure a) Q E s := fun _ _ _ _ _ => h
theorem wpC_mono {t : Sem α} {Q Q' : α → Shared → Prop} {E' : Value → Shared → Prop} (h : wpC M A t Q E s) (hQ : ∀ a s, Q a s → Q' a s) (hE : ∀ e s, E e s → E' e s) : wpC M A t Q' E' s :=
  fun G p hi hd hc => Sem.wp_mono M G t (fun a _ s => hQ a s) (fun e _ s => hE e s) p s (h G p hi hd hc)
theorem wpC_bind {m : Sem α} {f : α → Sem β} {Q : β → Shared → Prop} (h : wpC M A m (fun a s' => wpC M A (f a) Q E s') E s) : wpC M A (m >>= f) Q E s :=
  fun G p hi hd hc => by
    rw [Sem.wp_bind']
    exact Sem.wp_mono M G m (fun a p' s' h' => h' G p' hi hd hc) (fun _ _ _ h' => h') p s (h G p hi hd hc)
theorem wpC_seq {m : Sem α} {f : α → Sem β} {Q : β → Shared → Prop} (h : wpAny M A m (fun a s' => wpC M A (f a) Q E s') E s) : wpC M A (m >>= f) Q E s := wpC_bind (wpC_of h)
theorem wpC_tryCatch {m : Sem α} {k : Value → Sem α} {Q : α → Shared → Prop} (h : wpC M A m Q (fun e s' => wpC M A (k e) Q E s') s) : wpC M A (m.tryCatch k) Q E s :=
  fun G p hi hd hc => by
    rw [Sem.wp_tryCatch]
    exact Sem.wp_mono M G m (fun _ _ _ h' => h') (fun e p' s' h' => h' G p' hi hd hc) p s (h G p hi hd hc)
theorem wpC_onRaise {m : Sem α} {k : Value → Sem Unit} {Q : α → Shared → Prop} (h : wpC M A m Q (fun e s' => wpC M A (k e) (fun _ s'' => E e s'') E s') s) : wpC M A (m.onRaise k) Q E s :=
  fun G p hi hd hc => by
    rw [Sem.wp_onRaise]
    exact Sem.wp_mono M G m (fun _ _ _ h' => h') (fun e p' s' h' => h' G p' hi hd hc) p s (h G p hi hd hc)
theorem wpC_attempt {m : Sem α} {Q : Except Value α → Shared → Prop} (h : wpC M A m (fun a => Q (.ok a)) (fun e => Q (.error e)) s) : wpC M A m.attempt Q E s :=
  fun G p hi hd hc => by
    unfold Sem.attempt
    rw [Sem.wp_tryCatch, Sem.wp_bind]
    exact Sem.wp_mono M G m (fun _ _ _ h' => h') (fun _ _ _ h' => h') p s (h G p hi hd hc)
theorem wpC_holding {vs : List Value} {m : Sem α} {Q : α → Shared → Prop} (h : wpC M A m Q E s) : wpC M A (holding vs m) Q E s :=
  fun G p hi hd hc => by rw [Sem.wp_holding]; exact h G p hi hd hc
theorem wpC_standAt {pos : Pos} {Q : Unit → Shared → Prop} (h : Q () s) : wpC M A (standAt pos) Q E s := wpC_of (wpAny_standAt h)
theorem clean_enter {G : Ctx} (hd : dec G.code = false) (hc : Clean G) (c : Code) (h : Option Value) (p : Pos) : Clean (G.enter c h p) := by
  intro x hx
  rcases List.mem_cons.mp hx with e | hx
  · rw [e]; exact hd
  · exact hc x hx
theorem wpC_runValue {c : Code} {Q : Value → Shared → Prop} (h : codeC M A c (fun r s' => match r with | .ok (.ret v) => Q v s' | .ok _ => False | .error e => E e s') s) : wpC M A (runValue c) Q E s :=
  fun G p hi hd hc => by rw [Sem.wp_runValue]; exact h _ p rfl (hi.enter c none p (by intro x; cases x)) (clean_enter hd hc _ _ _)
theorem wpC_call {f : Value} {pos : List Value} {kw : List (Str × Value)} {Q : Value → Shared → Prop}
    (h : codeC M A (.call f ⟨pos, kw⟩) (fun r s' => match r with | .ok (.ret v) => Q v s' | .ok _ => False | .error e => E e s') s) : wpC M A (call f pos kw) Q E s := wpC_runValue h
theorem codeC_mono {c : Code} {R R' : Result → Shared → Prop} (h : codeC M A c R s) (hR : ∀ r s, R r s → R' r s) : codeC M A c R' s := fun G p hc hG hl => wpCode_mono hR (h G p hc hG hl)
theorem codeC_of_tree {c : Code} {R : Result → Shared → Prop} (hd : dec c = false)
    (h : wpC M (A.under c) (M.den c) (fun fin s' => match fin with | .done f => R (.ok f) s' | .again c' => c'.quiet = true ∧ codeC M A c' R s') (fun e s' => R (.error e) s') s) : codeC M A c R s := fun G p hc hG hl => by
  rw [wpCode_iff_wp, hc]
  refine Sem.wp_mono M G _ (fun fin p' s' h' => ?_) (fun _ _ _ h' => h') p s (h G p (hc ▸ hG.in) (hc ▸ hd) hl)
  cases fin with
  | done f => exact h'
  | again c' => exact ⟨h'.1, h'.2 (G.goto c') p' rfl (hG.goto c') hl⟩
theorem codeC_func {prog : Program} {w : World} {body : List Stmt} {env : Env} {R : Result → Shared → Prop}
    (h : wpC (model prog w) (A.deeper env) (execs body env) (fun f s' => R (.ok (.ret (match f with | .ret v => v | _ => .none))) s')
      (fun e s' => wpAny (model prog w) (A.deeper env) (leaving env e) (fun _ s'' => R (.error e) s'') (fun e' s'' => R (.error e') s'') s') s) :
    codeC (model prog w) A (.func body env) R s := by
  refine codeC_of_tree rfl ?_
  show wpC _ (A.deeper env) (do point; match ← (execs body env).onRaise (leaving env) with | .ret v => ret v | _ => ret .none) _ _ s
  refine wpC_seq (wpAny_point (wpC_bind (wpC_onRaise (wpC_mono h (fun f s' h' => ?_) fun _ _ h' => wpC_of h'))))
  cases f <;> exact wpC_pure h'
theorem wpC_execs_nil {env : Env} {Q : Flow → Shared → Prop} (h : Q .next s) : wpC M A (execs [] env) Q E s := fun _ _ _ _ _ => h
theorem wpC_execs_cons {env : Env} {st : Stmt} {rest : List Stmt} {Q : Flow → Shared → Prop}
    (h : wpC M A (exec st env) (fun f s' => match f with | .next => wpC M A (execs rest env) Q E s' | f => Q f s') E s) : wpC M A (execs (st :: rest) env) Q E s := by
  rw [execs_cons]
  refine wpC_bind (wpC_mono h (fun f s' h' => ?_) fun _ _ h' => h')
  cases f <;> first | exact h' | exact wpC_pure h'
end

theorem thread_endsC {prog : Program} {w : World} {t : Sem Fin} {s : Shared} {R : Result → Shared → Prop} (hreg : s.asleep)
    (h : wpC (model prog w) callerA t (fun fin s' => ∃ f, fin = .done f ∧ (R (.ok f) s' ∧ leftWithCleanup s'.gens = false)) (fun e s' => R (.error e) s' ∧ leftWithCleanup s'.gens = false) s) :
    ∃ n r s' s'', runN (denote table) prog w n s ⟨t, .builtin "claim.caller" {}, default, []⟩ = .halted (outcomeOf r) s' ∧
      schedN (denote table) prog w n (.single s ⟨t, .builtin "claim.caller" {}, default, []⟩) = .halted (outcomeOf r) s' ∧ s'.forget = s''.forget ∧ R r s'' := by
  have h1 := h ⟨.builtin "claim.caller" {}, none, none, [], none⟩ default caller_in (by decide +kernel) (fun _ hx => nomatch hx)
  have h2 : wp (model prog w) ⟨.builtin "claim.caller" {}, none, none, [], none⟩ t (Sem.finPost (model prog w) ⟨.builtin "claim.caller" {}, none, none, [], none⟩ fun r s' => R r s' ∧ leftWithCleanup s'.gens = false)
      (fun e _ s' => R (.error e) s' ∧ leftWithCleanup s'.gens = false) default s := by
    refine Sem.wp_mono _ _ t (fun fin p' s' h' => ?_) (fun _ _ _ h' => h') default s h1
    obtain ⟨f, rfl, hf⟩ := h'
    exact hf
  obtain ⟨n, r, s₁, s₂, hs, hn, hfo, hR⟩ := wp_halts_full (M := model prog w) (R := R) hreg h2
  exact ⟨n, r, s₂, s₁, hn, hs, hfo, hR⟩

/-- what is left of the law behind the head: as the library's, for clean contexts alone -/
abbrev WalkC (q : Program) (loose : List Str) (XP : (Str → Option Value) → Heap → Prop) (YP : World → Heap → Prop) (r : RowW) (d : DefRec) (kwd : List (Str × Expr)) : Prop :=
  ∀ (w : World) (s₀ s₁ : Shared) (mg mb : Str → Option Value), Ground q loose r.records XP w s₀ mg mb s₁.heap → YP w s₁.heap → ∀ (a : Addr) (o : Obj) (pm cd doc dV kV : Value), s₁.heap.get? a = some o →
    o.data = .func { Calls.docDef d.name d.params d.body d.scope pm cd doc with defaults := dV, kwdefaults := kV } → s₁.heap.CodeRec cd d.name → Dflts mg s₁.heap d.params kwd dV kV → mg d.name = some (.ref a) → s₁.gens = #[] →
    ∀ (args : List WData) (vals : List Value) (as : List Addr), r.claim.pre args = true → WData.layableAll args = true → ReadsAllW r.records (classAt s₀.heap) s₁.heap vals args as → WellAll w.params s₁.heap vals args → (∀ a ∈ as, (a == sysModules) = false) →
      wpC (model r.prog w) callerA (PySem.call (.ref a) vals) (fun v s' => GoodWG r.claim (classAt s₀.heap) (ExcName.means s₀.heap) args s₁ (.ok (.ret v)) s')
        (fun e s' => GoodWG r.claim (classAt s₀.heap) (ExcName.means s₀.heap) args s₁ (.error e) s') s₁

theorem callFromC {c : ClaimW} {name : Str} {w : World} {s : Shared} {free : Addr → Prop} {gens : Prop} {kept : Heap → Prop} (hz : s.asleep) (hgens : s.gens = #[])
    (hspec : ∀ args, c.pre args = true → WData.layableAll args = true →
      ∀ ord : List DictEntry → List DictEntry, (∀ l, (ord l).Perm l) →
      ∃ vs s₁ mg f, layAllW c.records (classAt s.heap) w.params ord args s = some (vs, s₁) ∧ s₁.heap.Ns mainGlobals mg ∧ mg name = some f ∧
        wpC (model c.prog w) callerA (PySem.call f vs) (fun v s' => c.Ends s args vs s₁ (.ok (.ret v)) s' ∧ s'.os = s.os ∧ AllBare s'.gens ∧ kept s'.heap)
          (fun e s' => c.Ends s args vs s₁ (.error e) s' ∧ s'.os = s.os ∧ AllBare s'.gens ∧ kept s'.heap) s₁) :
    c.CallFrom (fun vs => ⟨do match ← nsGet mainNs name with
      | some f => do ret (← PySem.call f vs)
      | none => unsupported "claim.caller:no-such-global", .builtin "claim.caller" {}, default, []⟩) w free gens kept s := by
  intro args hpre hlay ord hord
  obtain ⟨vs, s₁, mg, f, hlaid, hns, hf, hcall⟩ := hspec args hpre hlay ord hord
  have hal := layAllW_rest _ _ _ hlaid
  obtain ⟨k, r, s', s'', hrun, hsched, hfo, hcase, hos, hkp⟩ := thread_endsC (prog := c.prog) (w := w) (s := s₁)
    (t := do match ← nsGet mainNs name with
      | some f => do ret (← PySem.call f vs)
      | none => unsupported "claim.caller:no-such-global")
    (R := fun r s' => c.Ends s args vs s₁ r s' ∧ s'.os = s.os ∧ kept s'.heap)
    (Shared.asleep_of_life hal.2.2.2 hz) (by
      refine wpC_seq (wpAny_nsGet hns ?_)
      rw [hf]
      refine wpC_bind (wpC_mono hcall (fun v s' h => wpC_pure ⟨_, rfl, ⟨h.1, h.2.1, h.2.2.2⟩, leftWithCleanup_false_of_bare h.2.2.1⟩) fun e s' h => ⟨⟨h.1, h.2.1, h.2.2.2⟩, leftWithCleanup_false_of_bare h.2.2.1⟩))
  obtain ⟨eh, _, _, eo, _⟩ := Shared.forget_eq hfo
  have hcase' := hcase.congr eh
  have hkp' : kept s'.heap := by rw [eh]; exact hkp
  have hlife : s'.heap.life = s.heap.life := (runN_life _ _ _ hrun).trans hal.2.2.2
  refine ⟨vs, s₁, hlaid, k, _, s', hsched, ?_, (fun _ i x hx => by rw [hgens] at hx; simp at hx), hkp', by rw [hlife], Shared.rest_eq (eo.trans hos)⟩
  rcases hcase' with ⟨v, rfl, d1, d2, d3, d4, d5⟩ | ⟨e, ob, cls, rfl, d1, d2, d3, d4, d5⟩
  · exact .inl ⟨v, rfl, d1, d2, d3, fun b o y _ => d4 b o y, d5⟩
  · exact .inr ⟨e, ob, cls, rfl, d1, d2, d3, d4, fun b o y _ => d5 b o y⟩
end Mine

namespace Mine.PySem.W
open _root_.PySem _root_.PySem.W
/-- the head for clean contexts (in this namespace, so that the library's own line for the head takes it) -/
theorem holds_open {r : OpenRow} {q : Program} {loose : List Str} {Xt : Shared → Bool} {XP : (Str → Option Value) → Heap → Prop} {α : Type} {Yf : Shared → α} {Ya : World → α} {YP : World → Heap → Prop} {d : DefRec} {kwd : List (Str × Expr)} {N : Nat}
    (left : LeftO r.prog q loose Xt Yf Ya N) (hY : ∀ w s, Yf s = Ya w → YP w s.heap) (hYk : ∀ w h h', YP w h → (∀ b o, h.get? b = some o → h'.get? b = some o) → YP w h')
    (hX : ∀ s, Xt s = true → XP (s.heap.nsMap mainGlobals) s.heap) (hXk : ∀ mg h h', XP mg h → (∀ b o, h.get? b = some o → h'.get? b = some o) → XP mg h')
    (hdef : defOf q r.name = some (d, kwd)) (hp : r.prog.theDef r.name = some (d.params, d.body, d.scope)) (hk : kwWritten? d.params.kwonlyargs d.params.kw_defaults = some kwd) (hRf : ∀ s, Xt s = true → RecFacts r.records s.heap) (hwr : (!r.writes || r.records.isEmpty) = true)
    (k1 : r.wellSaid = true) (ok : (chainsOk q && opensWell r.prog && (frees r.toRowW && r.within.isEmpty)) = true) (hb : r.prog.bare) (hw : r.toRowW.promised)
    (call : WalkC q loose XP YP r.toRowW d kwd) : r.Holds := by
  refine ⟨k1, hw, ?_⟩
  obtain ⟨ok, k5⟩ := Bool.and_eq_true_iff.mp ok
  obtain ⟨hch, o1⟩ := Bool.and_eq_true_iff.mp ok
  obtain ⟨k5, k6⟩ := Bool.and_eq_true_iff.mp k5
  obtain ⟨hsame, hu, ha, hap, hm⟩ := frees_parts k5
  refine ⟨⟨hb, o1, by show r.makers.map _ = []; rw [hm]; rfl⟩, hw.witness, fun w => ⟨(left.behind hX hch w).1, fun s' hs' => ?_⟩⟩
  obtain ⟨s₀, hf, hg0, s, hT, hz, hgens, hg, G00, y⟩ := (left.behind (XP := fun mg h => XP mg h ∧ RecFacts r.records h) (fun s hs => ⟨hX s hs, hRf s hs⟩) hch w).2 s' hs'
  have G0 : Ground q loose [] XP w s (s.heap.nsMap mainGlobals) (s.heap.nsMap builtinsNs) s.heap := ⟨G00.T, G00.B, G00.D, G00.TE, G00.TD, G00.W, G00.X.1, G00.cls, G00.has, G00.apart, G00.once, G00.K⟩
  have RF := G00.X.2
  have hT' := hT
  have pin : ∀ n ∈ (if r.pinned then [r.name] else []), isTheDefsW r.prog s.heap n := fun n hn => by
    obtain rfl : n = r.name := by split at hn <;> simp_all
    exact pinned_of_view hg G0 hdef hp hk
  refine ⟨s₀, hf, hg0, s, hT, pin, RF.1, RF.2.1, ?_⟩
  have hgens : s.gens = #[] := Array.eq_empty_of_size_eq_zero (beq_iff_eq.mp hgens)
  have G : Ground q loose r.records XP w s _ _ s.heap := RF.ground G0
  refine callFromC (c := r.toRowW.claim) hz hgens fun args hpre hlay ord hord => ?_
  obtain ⟨⟨vs, s₁⟩, hlaid⟩ := Option.isSome_iff_exists.mp (layAllW_isSome (P := w.params) (ord := ord) G.has args r.args s (pre_splitW hpre).1)
  have keeps := layAllW_keeps _ _ _ hlaid
  have hal := layAllW_rest _ _ _ hlaid
  obtain ⟨as, hrd, hin, hold⟩ := reads_layAllW hord _ _ _ hlaid hlay s₁.heap (fun _ _ e => e)
  have L : Laid r.records w s s₁ args vs as := ⟨⟨ord, hord, hlaid⟩, hrd, hin, hold, keeps, hal.1.trans hgens, hal.2.2.1⟩
  have G₁ := G.keeps hXk keeps
  obtain ⟨a, o, pm, cd, doc, dV, kV, h1, h2, h3, h4, h5⟩ := G₁.fn hdef
  have h := call w s s₁ _ _ G₁ (hYk _ _ _ (hY w s y) keeps) a o pm cd doc dV kV h2 h3 h4 h5 (defOf_name hdef ▸ h1) L.gens args vs as hpre hlay L.reads L.well (L.low G.low)
  have hi := ident_freeW hu ha hap
  have hwi : r.toRowW.claim.within = [] := List.isEmpty_iff.mp k6
  refine ⟨vs, s₁, _, _, hlaid, G₁.T.g, h1, wpC_mono h (fun v s' g => ?_) fun e s' g => ?_⟩
  · have z := g.laid (c := r.toRowW.claim) hsame hwi hi L
    exact ⟨z.1, z.2.1, z.2.2, fun q => ⟨namesKept_of hT' hg _ keeps g.2.1.old, noTable hwr q⟩⟩
  · have z := g.laid (c := r.toRowW.claim) hsame hwi hi L
    exact ⟨z.1, z.2.1, z.2.2, fun q => ⟨namesKept_of hT' hg _ keeps g.2.1.old, noTable hwr q⟩⟩
end Mine.PySem.W
end

section
open PySem PySem.W PySem.Calls PyProof.Rows
namespace Mine
section
variable {prog : Program} {w : World} {A : Around} {s : Shared} {R : Result → Shared → Prop}
theorem codeC_call_function {a : Addr} {args : Args} {o : Obj} {fd : FuncData} {body : List Stmt} (hroom : A.depth < recursionLimit)
    (ho : s.heap.get? a = some o) (hd' : o.data = .func fd) (hco : fd.scope.isCoroutine = false) (hgen : fd.scope.isGenerator = false) (hbody : fd.body = .stmts body) (hcd : s.heap.CodeRec fd.code fd.qualname)
    (h : wpAny (model prog w) A.in1 (bindArgs fd args) (fun binds s₁ =>
      wpAny (model prog w) A.in1 (newFunctionEnv fd.scope fd.globals fd.closure binds (fd.qualname ++ ".<locals>.") (some a) fd.code none fd.builtins)
        (fun env s₂ => s₂.heap.NoLimit ∧ codeC (model prog w) A (.func body env) R s₂) (fun e s' => R (.error e) s') s₁) (fun e s' => R (.error e) s') s) :
    codeC (model prog w) A (.call (.ref a) args) R s := by
  refine codeC_of_tree rfl ?_
  show wpC _ A.in1 (callAny (.ref a) args) _ _ s
  simp only [callAny]
  refine wpC_seq (wpAny_load ho ?_)
  obtain ⟨c, oc, vs, tq, hc, hoc, hdc, hq⟩ := hcd
  simp only [hd', callFunction, hco, hgen, hbody, hc]
  rw [hc] at h
  refine wpC_seq (m := field (.ref c) 1) (wpAny_field hoc hdc hq (wpC_seq (wpAny_pure ?_)))
  exact wpC_seq (wpAny_mono h (fun binds s₁ h₁ => wpC_seq (wpAny_mono h₁ (fun env s₂ h₂ => wpC_seq (wpAny_enterFrame h₂.1 hroom
    (wpC_pure (And.intro rfl h₂.2)))) fun _ _ h' => h')) fun _ _ h' => h')

theorem codeC_call_def {a : Addr} {o : Obj} {fd : FuncData} {body : List Stmt} {args : Args} {binds : List (Str × Value)}
    (hroom : A.depth < recursionLimit) (ho : s.heap.get? a = some o) (hdata : o.data = .func fd) (hlim : s.heap.NoLimit) (hcd : s.heap.CodeRec fd.code fd.qualname)
    (hbody : fd.body = .stmts body) (hbind : BindsTo s fd args binds)
    (hcell : ∀ x ∈ fd.scope.names, x.2 ≠ .cell) (hloc : ∀ x ∈ binds, fd.scope.names.lookup x.1 = some .local)
    (h : ∀ h₀, h₀.Ns s.heap.objs.size (fun x => binds.reverse.lookup x) → (∀ b o, s.heap.get? b = some o → h₀.get? b = some o) →
      wpC (model prog w) (A.deeper (callEnv fd s.heap.objs.size a)) (execs body (callEnv fd s.heap.objs.size a)) (fun f s' => R (.ok (.ret (match f with | .ret v => v | _ => .none))) s')
        (fun e s' => wpAny (model prog w) (A.deeper (callEnv fd s.heap.objs.size a)) (leaving (callEnv fd s.heap.objs.size a) e) (fun _ s'' => R (.error e) s'') (fun e' s'' => R (.error e') s'') s')
        { s with heap := h₀, toks := s.toks + binds.length })
    (hco : fd.scope.isCoroutine = false := by rfl) (hgen : fd.scope.isGenerator = false := by rfl) (hk : fd.scope.kind = .function := by rfl) :
    codeC (model prog w) A (.call (.ref a) args) R s := by
  refine codeC_call_function hroom ho hdata hco hgen hbody hcd (hbind _ _ _ _ ?_)
  refine wpAny_newFunctionEnv hcell hloc (fun h₀ hns₀ hsb₀ => ⟨hlim.fresh _ hsb₀, codeC_func (h h₀ hns₀ fun b o e => ?_)⟩) hk
  exact hsb₀.extBut b o (Nat.ne_of_lt (Heap.lt_size e)) (Heap.get?_push_of_some _ e)
end
/-- the law's own call, from the caller -/
theorem call_topC {prog : Program} {w : World} {A : Around} {R : Result → Shared → Prop} {s : Shared} {name : Str} {params : Arguments} {body : List Stmt} {scope : Scope}
    {dV kV pm cd doc : Value} {a : Addr} {o : Obj} {args : Args} {binds : List (Str × Value)}
    (hroom : A.depth < recursionLimit) (ho : s.heap.get? a = some o) (hdata : o.data = .func { docDef name params body scope pm cd doc with defaults := dV, kwdefaults := kV }) (hlim : s.heap.NoLimit) (hcd : s.heap.CodeRec cd name)
    (hbind : BindsTo s { docDef name params body scope pm cd doc with defaults := dV, kwdefaults := kV } args binds)
    (hloc : ∀ x ∈ binds, scope.names.lookup x.1 = some .local)
    (h : ∀ h₁, Fr s.heap s.heap.objs.size h₁ (fun x => binds.reverse.lookup x) →
      wpC (model prog w) (A.deeper (envOf name scope s.heap.objs.size a cd)) (execs body (envOf name scope s.heap.objs.size a cd))
        (fun f s' => R (.ok (.ret (match f with | .ret v => v | _ => .none))) s')
        (fun e s' => wpAny (model prog w) (A.deeper (envOf name scope s.heap.objs.size a cd)) (leaving (envOf name scope s.heap.objs.size a cd) e)
          (fun _ s'' => R (.error e) s'') (fun e' s'' => R (.error e') s'') s')
        { s with heap := h₁, toks := s.toks + binds.length })
    (hco : scope.isCoroutine = false := by rfl) (hgen : scope.isGenerator = false := by rfl) (hk : scope.kind = .function := by rfl)
    (hcell : ∀ x ∈ scope.names, x.2 ≠ .cell := by decide) :
    codeC (model prog w) A (.call (.ref a) args) R s :=
  codeC_call_def hroom ho hdata hlim hcd rfl hbind hcell hloc (fun h₁ hns hkeep => h h₁ ⟨hns, hkeep, Nat.le_refl _⟩) hco hgen hk
/-- a def called from a def's frame -/
theorem call_defC {prog : Program} {w : World} {A₀ A : Around} {s : Shared} {base h₀ : Heap} {outer : List Env} {L : Addr} {m : Str → Option Value} {env : Env} {news : List (Addr × Obj)} {K : Frag}
    {R : Result → Shared → Prop} {name qual : Str} {params : Arguments} {body : List Stmt} {scope : Scope} {dV kV doc pm cdv ct oc : Value} {an od : Option Addr} {osl : Array (Option Value)} {f : Addr} {args : Args} {binds : List (Str × Value)}
    {p : Program} {loose : List Str} {mean : ExcName → Option Value} {mg mb : Str → Option Value}
    (B : Below A₀ base outer h₀) (F : Fr h₀ L s.heap m) (X₀ : K.In h₀) (N : News h₀ L s.heap news) (T : Top p loose mean mg mb h₀) (hA : A.frames = some (env :: outer)) (hf : env.frame = some L) (hke : env.scope.kind = .function)
    (ho : K.lookup f = some ⟨oc, od, .func (fnOf name qual params body scope dV kV doc pm an cdv ct), osl⟩) (hcd : codeIn K cdv qual = true) (hroom : A.depth < recursionLimit)
    (hbind : BindsTo s (fnOf name qual params body scope dV kV doc pm an cdv ct) args binds) (hloc : ∀ y ∈ binds, scope.names.lookup y.1 = some .local)
    (h : ∀ g L' h₁, Fr h₀ L g m → Fr g L' h₁ (fun y => binds.reverse.lookup y) → News g L' h₁ news → Below A base (env :: outer) g → K.In g → Top p loose mean mg mb g →
      (∀ b o, s.heap.get? b = some o → b ∉ news.map (·.1) → g.get? b = some o) →
      wpC (model prog w) (A.deeper (envOf qual scope L' f cdv)) (execs body (envOf qual scope L' f cdv))
        (fun fl s' => LeaveK h₀ L m g R (match fl with | .ret v => v | _ => .none) s')
        (fun e s' => wpAny (model prog w) (A.deeper (envOf qual scope L' f cdv)) (leaving (envOf qual scope L' f cdv) e) (fun _ s'' => R (.error e) s'') (fun e' s'' => R (.error e') s'') s')
        { s with heap := h₁, toks := s.toks + binds.length })
    (hco : scope.isCoroutine = false := by rfl) (hgen : scope.isGenerator = false := by rfl) (hk : scope.kind = .function := by rfl)
    (hcell : ∀ x ∈ scope.names, x.2 ≠ .cell := by decide) : codeC (model prog w) A (.call (.ref f) args) R s := by
  obtain ⟨FG, BG, st, lv⟩ := groundX (R := R) B F N hA hf hke
  refine codeC_call_def (fd := fnOf name qual params body scope dV kV doc pm an cdv ct) (body := body) (binds := binds) hroom ((X₀.keeps F.keep) _ _ ho) rfl (T.nolimit.keeps F.keep) (codeRec_of (X₀.keeps F.keep) hcd) rfl hbind hcell hloc (fun h₁ hns hk₁ => ?_) hco hgen hk
  exact wpC_mono (h _ s.heap.objs.size h₁ FG ⟨hns, fun b o e => hk₁ b o (of_hideAll _ e), Nat.le_of_eq (hideAll_size _ _)⟩
    (fun p hp => ⟨hk₁ _ _ (N p hp).1, Nat.ne_of_lt (Heap.lt_size (N p hp).1), hideAll_none _ (List.mem_map_of_mem hp)⟩) BG (X₀.keeps st) (T.keeps st) fun b o e hb => hideAll_get _ e hb) (fun fl s' hl => lv _ _ hl) fun _ _ y => y
/-- the same for the plain layer, with what is kept of the rest -/
theorem call_defK {prog : Program} {w : World} {A₀ A : Around} {s : Shared} {base h₀ : Heap} {outer : List Env} {L : Addr} {m : Str → Option Value} {env : Env} {news : List (Addr × Obj)} {K : Frag}
    {R : Result → Shared → Prop} {name qual : Str} {params : Arguments} {body : List Stmt} {scope : Scope} {dV kV doc pm cdv ct oc : Value} {an od : Option Addr} {osl : Array (Option Value)} {f : Addr} {args : Args} {binds : List (Str × Value)}
    {p : Program} {loose : List Str} {mean : ExcName → Option Value} {mg mb : Str → Option Value}
    (B : Below A₀ base outer h₀) (F : Fr h₀ L s.heap m) (X₀ : K.In h₀) (N : News h₀ L s.heap news) (T : Top p loose mean mg mb h₀) (hA : A.frames = some (env :: outer)) (hf : env.frame = some L) (hke : env.scope.kind = .function)
    (ho : K.lookup f = some ⟨oc, od, .func (fnOf name qual params body scope dV kV doc pm an cdv ct), osl⟩) (hcd : codeIn K cdv qual = true) (hroom : A.depth < recursionLimit)
    (hbind : BindsTo s (fnOf name qual params body scope dV kV doc pm an cdv ct) args binds) (hloc : ∀ y ∈ binds, scope.names.lookup y.1 = some .local)
    (h : ∀ g L' h₁, Fr h₀ L g m → Fr g L' h₁ (fun y => binds.reverse.lookup y) → News g L' h₁ news → Below A base (env :: outer) g → K.In g → Top p loose mean mg mb g →
      (∀ b o, s.heap.get? b = some o → b ∉ news.map (·.1) → g.get? b = some o) →
      wpAny (model prog w) (A.deeper (envOf qual scope L' f cdv)) (execs body (envOf qual scope L' f cdv))
        (fun fl s' => LeaveK h₀ L m g R (match fl with | .ret v => v | _ => .none) s')
        (fun e s' => wpAny (model prog w) (A.deeper (envOf qual scope L' f cdv)) (leaving (envOf qual scope L' f cdv) e) (fun _ s'' => R (.error e) s'') (fun e' s'' => R (.error e') s'') s')
        { s with heap := h₁, toks := s.toks + binds.length })
    (hco : scope.isCoroutine = false := by rfl) (hgen : scope.isGenerator = false := by rfl) (hk : scope.kind = .function := by rfl)
    (hcell : ∀ x ∈ scope.names, x.2 ≠ .cell := by decide) : codeAny (model prog w) A (.call (.ref f) args) R s := by
  obtain ⟨FG, BG, st, lv⟩ := groundX (R := R) B F N hA hf hke
  refine codeAny_call_def (fd := fnOf name qual params body scope dV kV doc pm an cdv ct) (body := body) (binds := binds) hroom ((X₀.keeps F.keep) _ _ ho) rfl (T.nolimit.keeps F.keep) (codeRec_of (X₀.keeps F.keep) hcd) rfl hbind hcell hloc (fun h₁ hns hk₁ => ?_) hco hgen hk
  exact wpAny_mono (h _ s.heap.objs.size h₁ FG ⟨hns, fun b o e => hk₁ b o (of_hideAll _ e), Nat.le_of_eq (hideAll_size _ _)⟩
    (fun p hp => ⟨hk₁ _ _ (N p hp).1, Nat.ne_of_lt (Heap.lt_size (N p hp).1), hideAll_none _ (List.mem_map_of_mem hp)⟩) BG (X₀.keeps st) (T.keeps st) fun b o e hb => hideAll_get _ e hb) (fun fl s' hl => lv _ _ hl) fun _ _ y => y
end Mine
end

section
open PySem PySem.W PySem.Calls PyProof.Rows
namespace Mine
section
variable {M : Model} {A : Around} {E : Value → Shared → Prop} {s : Shared} {env : Env}
theorem C_spliced_nil {Q : List Value → Shared → Prop} (h : Q [] s) : wpC M A (spliced []) Q E s := wpC_pure h
theorem C_spliced_cons {x : Sem Value} {rest : List (Bool × Sem Value)} {Q : List Value → Shared → Prop}
    (h : wpC M A x (fun v s₁ => wpC M A (spliced rest) (fun vs s₂ => Q (v :: vs) s₂) E s₁) E s) : wpC M A (spliced ((false, x) :: rest)) Q E s := by
  rw [spliced]
  refine wpC_bind (wpC_mono h (fun v s₁ h₁ => ?_) fun _ _ x => x)
  simp only [Bool.false_eq_true, if_false]
  exact wpC_bind (wpC_pure (wpC_bind (wpC_holding (wpC_mono h₁ (fun vs s₂ h₂ => wpC_pure h₂) fun _ _ x => x))))
theorem C_spliced_none {pos : Pos} {Q : List Value → Shared → Prop} (h : Q [] s) : wpC M A (spliced (backTo pos (starEach [] env))) Q E s := C_spliced_nil h
theorem C_spliced_more {e : Expr} {rest : List Expr} {pos : Pos} {Q : List Value → Shared → Prop}
    (h : wpC M A (eval e env) (fun v s₁ => wpC M A (spliced (backTo pos (starEach rest env))) (fun vs s₂ => Q (v :: vs) s₂) E s₁) E s)
    (he : starEach (e :: rest) env = (false, eval e env) :: starEach rest env := by rfl) : wpC M A (spliced (backTo pos (starEach (e :: rest) env))) Q E s := by
  rw [he]; exact C_spliced_cons h
theorem C_evalArgs {f : Value} {x : Sem Value} {rest : List (Bool × Sem Value)} {Q : Args → Shared → Prop}
    (h : wpC M A (spliced ((false, x) :: rest)) (fun vs s' => Q ⟨vs, []⟩ s') E s) : wpC M A (evalArgs f true ((false, x) :: rest) []) Q E s := by
  unfold evalArgs
  show wpC M A (spliced ((false, x) :: rest) >>= _) Q E s
  refine wpC_bind (wpC_mono h (fun vs s' h' => ?_) fun _ _ x => x)
  refine wpC_holding ?_
  exact wpC_bind (wpC_pure (wpC_bind (wpC_pure (wpC_pure h'))))
theorem wpC_keep {α : Type} {vs : List Value} {m : Sem α} {Q : α → Shared → Prop} (h : wpC M A m Q E s) : wpC M A (m.keep vs) Q E s :=
  fun G p hi hd hc => by rw [Sem.wp_keep]; exact h G p hi hd hc
theorem C_callWith_of {pos : Pos} {f : Value} {first : List Value} {Q : Value → Shared → Prop} {P : Heap → Prop} {args : List (Bool × Sem Value)} {keywords : List (Option Str × Sem Value)} (hplain : (args.any (·.1) || keywords.any (·.1.isNone)) = false)
    (hk : ∀ h, P h → ∃ k, (k = Keeper.frame ∨ k = Keeper.machine ∨ k = Keeper.boundFrame) ∧ Looks M h (keeperOf f) k)
    (h : wpC M A (evalArgs f true args keywords) (fun a s₁ => P s₁.heap ∧ wpC M A (call f (first ++ a.pos) a.kw) Q E s₁) E s) : wpC M A (callWith pos f first args keywords) Q E s := by
  unfold callWith
  refine wpC_bind (wpC_holding (wpC_mono h (fun a s₁ h₁ => wpC_bind (wpC_standAt ?_)) fun _ _ x => x))
  obtain ⟨k, hk', L⟩ := hk _ h₁.1
  simp only [hplain]
  refine wpC_seq (L.here ?_)
  have tail : ∀ {t : Sem Value}, wpC M A t Q E s₁ → wpC M A (t >>= fun r => holding [r] point >>= fun _ => pure r) Q E s₁ :=
    fun ht => wpC_bind (wpC_mono ht (fun r s₂ hr => wpC_seq (wpAny_holding (wpAny_point (wpC_pure hr)))) fun _ _ x => x)
  have marked (mk : Value) : wpC M A (callMarked mk f (first ++ a.pos) a.kw) Q E s₁ := by unfold callMarked; exact wpC_keep h₁.2
  rcases hk' with rfl | rfl | rfl <;> dsimp only <;> first | exact tail h₁.2 | (split <;> first | exact tail h₁.2 | exact tail (marked _))
theorem C_callWith_K {K : Frag} {pos : Pos} {f : Value} {first : List Value} {Q : Value → Shared → Prop} {e : Expr} {rest : List Expr} (hk : keepIn K f = true) (h : wpC M A (spliced (backTo pos (starEach (e :: rest) env))) (fun vs s₁ => K.In s₁.heap ∧ wpC M A (call f (first ++ vs)) Q E s₁) E s)
    (he : starEach (e :: rest) env = (false, eval e env) :: starEach rest env := by rfl) (hplain : (backTo pos (starEach rest env)).any (·.1) = false := by rfl) :
    wpC M A (callWith pos f first (backTo pos (starEach (e :: rest) env)) []) Q E s := by
  rw [he] at h ⊢
  exact C_callWith_of (by show ((false || (backTo pos (starEach rest env)).any (·.1)) || false) = false; rw [hplain]; rfl) (keeps_K hk) (C_evalArgs h)
theorem C_callWith_T {pos : Pos} {T : String} {first : List Value} {Q : Value → Shared → Prop} {e : Expr} {rest : List Expr} (hk : ∃ k, (k = Keeper.frame ∨ k = Keeper.machine ∨ k = Keeper.boundFrame) ∧ keeperOf (.type T) = pure k) (h : wpC M A (spliced (backTo pos (starEach (e :: rest) env))) (fun vs s₁ => wpC M A (call (.type T) (first ++ vs)) Q E s₁) E s)
    (he : starEach (e :: rest) env = (false, eval e env) :: starEach rest env := by rfl) (hplain : (backTo pos (starEach rest env)).any (·.1) = false := by rfl) :
    wpC M A (callWith pos (.type T) first (backTo pos (starEach (e :: rest) env)) []) Q E s := by
  rw [he] at h ⊢
  obtain ⟨k, h1, h2⟩ := hk
  exact C_callWith_of (P := fun _ => True) (by show ((false || (backTo pos (starEach rest env)).any (·.1)) || false) = false; rw [hplain]; rfl) (fun _ _ => ⟨k, h1, Looks.of_pure h2⟩) (C_evalArgs (wpC_mono h (fun _ _ y => ⟨trivial, y⟩) fun _ _ y => y))
theorem C_Call {f : Str} {fp : Pos} {args : List Expr} {kws : List Keyword} {pos : Pos} {Q : Value → Shared → Prop}
    (h : wpC M A (eval (.Name f fp) env) (fun v s₁ => wpC M A (callWith pos v [] (backTo pos (starEach args env)) (backToKw pos (keywordEach kws env))) Q E s₁) E s) :
    wpC M A (eval (.Call (.Name f fp) args kws pos) env) Q E s := by
  show wpC M A (eval (.Name f fp) env >>= _) Q E s
  exact wpC_bind h
theorem C_IfExp {test body orelse : Expr} {pos : Pos} {Q : Value → Shared → Prop}
    (h : wpC M A (isTrue test env (eval test env)) (fun c s₂ => if c then wpC M A (eval body env) Q E s₂ else wpC M A (eval orelse env) Q E s₂) E s) :
    wpC M A (eval (.IfExp test body orelse pos) env) Q E s := by
  rw [eval_IfExp]
  refine wpC_bind (wpC_mono h (fun c s₂ h₂ => ?_) fun _ _ x => x)
  cases c <;> exact h₂
theorem C_Return {e : Expr} {pos : Pos} {Q : Flow → Shared → Prop} (h : wpC M A (eval e env) (fun v => Q (.ret v)) E s) : wpC M A (exec (.Return (some e) pos) env) Q E s := by
  rw [exec_Return_some]
  exact wpC_bind (wpC_standAt (wpC_bind (wpC_mono h (fun _ _ y => wpC_pure y) fun _ _ y => y)))
theorem C_Assign_Name {x : Str} {pos' : Pos} {value : Expr} {pos : Pos} {Q : Flow → Shared → Prop}
    (h : wpC M A (eval value env) (fun v s₁ => wpC M A (storeName env x v) (fun _ => Q .next) E s₁) E s)
    (hs : swapsWith value (some (.Name x pos')) pos.line env = pure false := by rfl) : wpC M A (exec (.Assign [.Name x pos'] value pos) env) Q E s := fun G p hi hd hc => by
  simp only [exec_Assign_Name env x pos' value pos hs, Sem.wp_bind', Sem.wp_cmd_standAt, Sem.wp_bindName, Sem.wp_pure']
  exact Sem.wp_mono M G _ (fun v _ s₁ h₁ => h₁ G _ hi hd hc) (fun _ _ _ h' => h') _ _ (h G _ hi hd hc)
theorem C_Assign_Attribute {o : Expr} {attr : Str} {pos' : Pos} {value : Expr} {pos : Pos} {Q : Flow → Shared → Prop}
    (h : wpC M A (eval value env) (fun v s₁ => wpC M A (eval o env) (fun ov s₂ => wpC M A (setAttr ov attr v) (fun _ => Q .next) E s₂) E s₁) E s)
    (hs : swapsWith value (some (.Attribute o attr pos')) pos.line env = pure false := by rfl) :
    wpC M A (exec (.Assign [.Attribute o attr pos'] value pos) env) Q E s := fun G p hi hd hc => by
  simp only [plainObj_exec_Assign_Attribute o attr pos' value pos hs, assign_Attribute, Sem.wp_bind', Sem.wp_holding, Sem.wp_cmd_standAt, Sem.wp_release, Sem.wp_pure']
  exact Sem.wp_mono M G _ (fun v p₁ s₁ h₁ => Sem.wp_mono M G _ (fun ov _ s₂ h₂ => h₂ G _ hi hd hc) (fun _ _ _ h' => h') _ _ (h₁ G p₁ hi hd hc)) (fun _ _ _ h' => h') _ _ (h G _ hi hd hc)
theorem C_Try {body orelse : List Stmt} {h₀ : ExceptHandler} {hs : List ExceptHandler} {pos : Pos} {Q : Flow → Shared → Prop}
    (h : wpC M A (execs body env) (fun f s₁ => match f with | .next => wpC M A (execs orelse env) Q E s₁ | f => Q f s₁)
      (fun e s₁ => wpC M A (noteFrame e env) (fun _ s₂ => wpC M A (setFlight e none) (fun _ s₃ => wpC M A (handleBy e env (h₀ :: hs)) Q E s₃) E s₂) E s₁) s) :
    wpC M A (exec (.Try body (h₀ :: hs) orelse [] pos) env) Q E s := by
  show wpC M A (standAt pos >>= fun _ => tryStmt false (execs body env) (h₀ :: hs) (execs orelse env) [] env) Q E s
  refine wpC_bind (wpC_standAt ?_)
  unfold tryStmt
  simp only [List.isEmpty_nil, if_true, List.isEmpty_cons, Bool.false_and, Bool.false_eq_true, if_false]
  refine wpC_bind (wpC_attempt (wpC_mono h (fun f s₁ h₁ => ?_) fun e s₁ h₁ => ?_))
  · cases f <;> first | exact h₁ | exact wpC_pure h₁
  · exact wpC_bind (wpC_mono h₁ (fun _ _ h₂ => wpC_bind h₂) fun _ _ x => x)
end
end Mine
end

section
open PySem PySem.W PySem.Calls PyProof.Rows
namespace Mine
open PySem.Builtin
abbrev baObj (b : Array UInt8) : Obj := { cls := .type "bytearray", data := .bytearray b }

theorem owner_ba : Manifest.owners.lookup (String.ofList ['y', 'a', 'r', 'r', 'a', 'e', 't', 'y', 'b'].reverse) = some Manifest.sig_bytearray := by kernel_rfl
theorem slot_ba_len : Slot "bytearray" "__len__" "bytearray.__len__" :=
  .of (owner := "bytearray") (n := "__len__") (by rw [typeLookup_type, builtinLookup_eq_fast]; kernel_rfl) (by decide +kernel) (by decide +kernel) (by decide +kernel)
    (by first | exact .inl (by decide +kernel) | exact .inr (by decide +kernel)) (by rw [isSubtype_type]; kernel_rfl)
theorem entry_ba_len : entryFor table "bytearray.__len__" = some Builtin.«bytearray.__len__» := entryFor_of_tree (by kernel_rfl)
theorem args_ba_len (a : Value) : argsOk "bytearray.__len__" ⟨[a], []⟩ := by
  unfold argsOk; rw [signature?_of (id := "bytearray.__len__") (n := ['_', '_', 'n', 'e', 'l', '_', '_']) (o := ['y', 'a', 'r', 'r', 'a', 'e', 't', 'y', 'b']) (by kernel_rfl) owner_ba]; kernel_rfl
theorem slot_ba_getitem : Slot "bytearray" "__getitem__" "bytearray.__getitem__" :=
  .of (owner := "bytearray") (n := "__getitem__") (by rw [typeLookup_type, builtinLookup_eq_fast]; kernel_rfl) (by decide +kernel) (by decide +kernel) (by decide +kernel)
    (by first | exact .inl (by decide +kernel) | exact .inr (by decide +kernel)) (by rw [isSubtype_type]; kernel_rfl)
theorem entry_ba_getitem : entryFor table "bytearray.__getitem__" = some Builtin.«bytearray.__getitem__» := entryFor_of_tree (by kernel_rfl)
theorem args_ba_getitem (a b : Value) : argsOk "bytearray.__getitem__" ⟨[a, b], []⟩ := by
  unfold argsOk; rw [signature?_of (id := "bytearray.__getitem__") (n := ['_', '_', 'm', 'e', 't', 'i', 't', 'e', 'g', '_', '_']) (o := ['y', 'a', 'r', 'r', 'a', 'e', 't', 'y', 'b']) (by kernel_rfl) owner_ba]; kernel_rfl

section
variable {prog : Program} {w : World} {A : Around} {E : Value → Shared → Prop} {s : Shared} {a d : Addr} {b : Array UInt8}
theorem ba_type (h : s.heap.get? a = some (baObj b)) : s.TypeIs (.ref a) "bytearray" := ⟨_, h, rfl⟩
theorem ba_payload {M : Model} {Q : Array UInt8 → Shared → Prop} (h : s.heap.get? a = some (baObj b)) (hq : Q b s) : wpAny M A (Bytes.payload (.ref a)) Q E s := by
  unfold Bytes.payload Bytes.payload?
  exact wpAny_bind (wpAny_bind (wpAny_load h (wpAny_pure (wpAny_pure hq))))

theorem len_ba {Q : Value → Shared → Prop} (ho : s.heap.get? a = some (baObj b)) (hfit : b.size ≤ 1099511627776) (h : Q (.int b.size (s.toks + 1)) { s with toks := s.toks + 1 + 1 }) :
    wpAny (model prog w) A (call (.builtin "len") [.ref a]) Q E s := by
  refine call_len_slot (ba_type ho) slot_ba_len (fun Q' hq => ?_) (by omega) (by omega) h
  refine wpAny_call_entry slot_ba_len (ba_type ho) entry_ba_len ?_ (args_ba_len _)
  show wpAny _ _ (Bytes.payload (.ref a) >>= fun r => retInt r.size) _ _ s
  exact wpAny_bind (ba_payload ho (wpAny_bind (wpAny_mkInt (wpAny_pure ⟨_, rfl, hq⟩))))

theorem meets_ba_slice (b : Array UInt8) (d a : Addr) {l u : Value} {lo hi : Option Int} (hl : IsPart l lo) (hu : IsPart u hi) :
    Meets («bytearray.__getitem__» ⟨[.ref d, .ref a], []⟩) (fun _ R s => s.heap.get? d = some (baObj b) ∧ s.heap.IsSliceOf a l u .none ∧ b.size ≤ sizeLine ∧ R (.ok (.ret (.ref s.heap.objs.size))) { s with heap := s.heap.push (baObj (KBy.picked b lo hi)) }) := by
  refine .of_wp fun prog w A R s hS => ?_
  obtain ⟨hb, ⟨o, ho, hc, hd⟩, hsz, h⟩ := hS
  have hT : s.TypeIs (.ref a) "slice" := ⟨o, ho, hc⟩
  show wpAny _ _ (Bytes.subscript? (.ref a) >>= fun r => _) _ _ s
  refine wpAny_bind ?_
  unfold Bytes.subscript?
  refine wpAny_bind (wpAny_specialOf hT slice_no_index (wpAny_pure ?_))
  refine wpAny_bind (wpAny_typeOf hT ?_)
  show wpAny _ _ (Bytes.sliceParts (.ref a) >>= fun r => _) _ _ s
  refine wpAny_bind ?_
  unfold Bytes.sliceParts
  refine wpAny_bind (wpAny_field (x := .none) ho hd rfl ?_)
  kby_none
  refine wpAny_ite (KBy.ite_no (show ¬ ((Value.none == rawInt 0) = true) from Bool.false_ne_true) ?_)
  refine wpAny_bind (wpAny_field (x := l) ho hd rfl ?_)
  have go : wpAny (model prog w) A.in1 (sliceIndices (rawPart lo) (rawPart hi) (rawPart none) b.size) (fun r s' => r = sliceBounds lo hi none b.size ∧ s' = s) (fun _ _ => False) s :=
    wpAny_of_eq (sliceIndices_raw lo hi none b.size (fun e => nomatch e)) ⟨rfl, rfl⟩
  have hpz : sizeOk (.bytearray (KBy.picked b lo hi)) := Nat.le_trans (KBc.size_picked_le b lo hi) hsz
  cases hl <;> cases hu <;> (first
    | (kby_none; (refine wpAny_bind (wpAny_field (x := .none) ho hd rfl ?_)); kby_none)
    | (kby_none; (refine wpAny_bind (wpAny_field (x := .int _ _) ho hd rfl ?_)); kby_int)
    | (kby_int; (refine wpAny_bind (wpAny_field (x := .none) ho hd rfl ?_)); kby_none)
    | (kby_int; (refine wpAny_bind (wpAny_field (x := .int _ _) ho hd rfl ?_)); kby_int)) <;> refine wpAny_pure ?_
  all_goals
    show wpAny _ _ (Bytes.payload (.ref d) >>= fun r => _) _ _ s
    refine wpAny_bind (ba_payload hb ?_)
    refine wpAny_bind (wpAny_mono go (fun r s' hr => ?_) fun _ _ e => e.elim)
    obtain ⟨hr1, hr2⟩ := hr
    subst hr1 hr2
    refine wpAny_bind ?_
    unfold Bytes.newBytearray
    exact wpAny_newObj_type (wpAny_pure ⟨_, rfl, h⟩) hpz

theorem slice_ba {value slice : PySem.Expr} {h₀ : Heap} {L : Addr} {m : PySem.Str → Option Value} {news : List (Addr × Obj)} {l u : Value} {lo hi : Option Int} {Q : Value → Shared → Prop}
    (hF : Fr h₀ L s.heap m) (hN : News h₀ L s.heap news) (ho : s.heap.get? d = some (baObj b)) (hl : IsPart l lo) (hu : IsPart u hi) (hz : b.size ≤ sizeLine)
    (h : ∀ D h', Fr h₀ L h' m → News h₀ L h' ((D, baObj (KBy.picked b lo hi)) :: news) → (∀ p ∈ news, p.1 < D) → Q (.ref D) { s with heap := h' })
    (hs : subscripted slice false (.ref d) (.ref s.heap.objs.size) = operate [.ref s.heap.objs.size, .ref d] (getItem (.ref d) (.ref s.heap.objs.size)) := by with_unfolding_all rfl)
    (ht : ∀ r, letTemporaryGo value (.ref d) r = pure () := by intro _; with_unfolding_all rfl) :
    wpAny (model prog w) A (subscriptTail value slice (.ref d) (.ref s.heap.objs.size)) Q E { s with heap := s.heap.push { cls := .type "slice", data := .fields #[l, u, .none] } } := by
  have ho' : (s.heap.push { cls := .type "slice", data := .fields #[l, u, .none] }).get? d = some (baObj b) := Heap.get?_push_of_some _ ho
  have hT : ({ s with heap := s.heap.push { cls := .type "slice", data := .fields #[l, u, .none] } } : Shared).TypeIs (.ref d) "bytearray" := ba_type (s := { s with heap := s.heap.push { cls := .type "slice", data := .fields #[l, u, .none] } }) ho'
  refine tail_of_ItemOn ⟨"bytearray", _, slot_ba_getitem.lookup, hT, getItem_meets hT (by decide) slot_ba_getitem entry_ba_getitem (args_ba_getitem _ _) (meets_ba_slice b d _ hl hu) ⟨ho', Heap.IsSliceOf.new _ _ _ _, hz, ?_⟩⟩ hs ht
  have N1 := News.push (hF.push { cls := .type "slice", data := .fields #[l, u, .none] }) (hN.grown fun _ _ e => Heap.get?_push_of_some _ e) (baObj (KBy.picked b lo hi))
  exact h _ _ ((hF.push _).push _) N1 fun p hp => by rw [Heap.size_push]; exact Nat.lt_succ_of_lt (Heap.lt_size (hN p hp).1)
end
end Mine
end

section
open PySem PySem.W PySem.Calls PyProof.Rows
namespace Mine
open PySem.Builtin
theorem ba_no_bytes : typeLookup (.type "bytearray") "__bytes__" = pure none := by rw [typeLookup_type, builtinLookup_eq_fast]; kernel_rfl
theorem ba_no_index : typeLookup (.type "bytearray") "__index__" = pure none := by rw [typeLookup_type, builtinLookup_eq_fast]; kernel_rfl
theorem ba_buffer : typeLookup (.type "bytearray") "__buffer__" = pure (some (.builtin "bytearray.__buffer__")) := by rw [typeLookup_type, builtinLookup_eq_fast]; kernel_rfl
theorem ba_release : typeLookup (.type "bytearray") "__release_buffer__" = pure (some (.builtin "bytearray.__release_buffer__")) := by rw [typeLookup_type, builtinLookup_eq_fast]; kernel_rfl
section
variable {prog : Program} {w : World} {A : Around} {E : Value → Shared → Prop} {s : Shared} {a d : Addr} {b : Array UInt8}
theorem ba_slotIsOwn {M : Model} {name id : String} {Q : Bool → Shared → Prop} (hT : s.TypeIs (.ref a) "bytearray") (hl : typeLookup (.type "bytearray") (name : Str) = pure (some (.builtin id)))
    (he : id.endsWith ("." ++ name) = true) (hn : id.dropRight (name.length + 1) = "bytearray") (hq : Q true s) : wpAny M A (Bytes.slotIsOwn (.ref a) name) Q E s := by
  unfold Bytes.slotIsOwn
  refine wpAny_bind (wpAny_specialOf hT hl ?_)
  show wpAny _ _ (if (!id.endsWith ("." ++ name)) = true then _ else _) _ _ _
  rw [he]
  show wpAny _ _ (isInstance (.ref a) (.type (id.dropRight (name.length + 1)))) _ _ _
  rw [hn]
  exact wpAny_isInstance hT F.sub_bytearray_bytearray hq
theorem ba_buf {M : Model} {id : String} {full : Bool} {Q : Option (Array UInt8) → Shared → Prop} (h : s.heap.get? a = some (baObj b)) (hq : Q (some b) s) : wpAny M A (Bytes.buffer? id (.ref a) full) Q E s := by
  have hT := ba_type h
  unfold Bytes.buffer?
  refine wpAny_bind (wpAny_specialOf hT ba_buffer ?_)
  refine wpAny_bind (ba_slotIsOwn hT ba_buffer (by decide +kernel) (by decide +kernel) ?_)
  refine wpAny_bind (wpAny_specialOf hT ba_buffer ?_)
  show wpAny _ _ (Bytes.ownRelease (.ref a) >>= fun r => _) _ _ _
  refine wpAny_bind ?_
  unfold Bytes.ownRelease
  refine wpAny_bind (ba_slotIsOwn hT ba_release (by decide +kernel) (by decide +kernel) (wpAny_pure ?_))
  exact wpAny_bind (ba_payload h (wpAny_pure hq))

theorem new_bytes_ba {Q : Value → Shared → Prop} (ho : s.heap.get? a = some (baObj b)) (hz : b.size ≤ sizeLine) (hQ : Q (.bytes b s.toks) { s with toks := s.toks + 1 }) :
    codeAny (model prog w) A (.call (.builtin "bytes.__new__") ⟨[.type "bytes", .ref a], []⟩) (wants Q E) s := by
  have hT := ba_type ho
  refine codeAny_of_tree ?_
  show wpAny _ A.in1 (do checkBuiltinCall "bytes.__new__" ⟨[.type "bytes", .ref a], []⟩; again (.builtin "bytes.__new__" ⟨[.type "bytes", .ref a], []⟩)) _ _ s
  refine wpAny_bind (wpAny_of_eq (F.bm_newCall _) (wpAny_pure ⟨plainId_quiet F.bm_plain _, codeAny_builtin F.bm_entry ?_⟩))
  rw [Around.under_plainId F.bm_plain _]
  unfold Builtin.«bytes.__new__»
  refine wpAny_bind (wpAny_of_eq (a := true) rfl ?_)
  refine bm_if_false rfl ?_
  refine wpAny_bind (wpAny_of_eq F.bm_sub ?_)
  refine bm_if_false rfl ?_
  refine wpAny_bind (wpAny_of_eq (F.bm_bind _) ?_)
  refine wpAny_bind (wpAny_of_eq (a := ()) rfl ?_)
  refine wpAny_bind (wpAny_of_eq (a := ()) rfl ?_)
  refine bm_if_false rfl ?_
  refine wpAny_bind (wpAny_specialOf hT ba_no_bytes ?_)
  refine wpAny_bind (wpAny_bind ?_)
  show wpAny _ _ (load a >>= _) _ _ _
  refine wpAny_bind (wpAny_load ho ?_)
  refine wpAny_pure (wpAny_pure ?_)
  refine bm_if_false rfl ?_
  refine wpAny_bind (wpAny_specialOf hT ba_no_index ?_)
  refine bm_if_true rfl ?_
  first
    | show wpAny _ _ (Builtin.Bytes.buffer? "bytes.__new__" (.ref a) true >>= _) _ _ _
    | (refine wpAny_bind ?_; show wpAny _ _ (Builtin.Bytes.buffer? "bytes.__new__" (.ref a) true >>= _) _ _ _)
  refine wpAny_bind (ba_buf ho ?_)
  refine wpAny_bind (wpAny_rule ?_)
  refine wpAny_bind (wpAny_mkBytes ?_ hz)
  show wpAny _ _ ((if (Value.type "bytes" == Value.type "bytes") = true then _ else _)) _ _ _
  first
    | exact bm_if_true (by decide) (wpAny_pure hQ)
    | exact bm_if_true (by decide) (wpAny_bind (wpAny_pure (wpAny_pure hQ)))
    | exact bm_if_true (by decide) (wpAny_pure (wpAny_pure hQ))

theorem bytes_ba {Q : Value → Shared → Prop} (ho : s.heap.get? a = some (baObj b)) (hz : b.size ≤ sizeLine) (hQ : ∀ t k, Q (.bytes b t) { s with toks := k }) :
    wpAny (model prog w) A (call (.type "bytes") [.ref a]) Q E s := by
  refine callType_codes (Q₁ := fun obj s₁ => s₁.TypeIs obj "bytes" ∧ Q obj s₁) F.bm_called (F.bm_typeCall _) F.entry_object_init
    (new_bytes_ba ho hz ⟨PySem.W.typeIs_bytes _ _ _, hQ _ _⟩) fun obj s₁ h₁ => ?_
  exact ⟨h₁.1, F.args_object_init_2 obj _, object_init_meets F.bm_called.init.lookup F.bm_called.made (by decide) prog w A.in1 _ s₁ ⟨h₁.1, rfl, h₁.2⟩⟩
end
end Mine
end

section
open PySem PySem.W PySem.Calls PyProof.Rows
namespace Mine
open PySem.Builtin
section
variable {α : Type} {M : Model} {A : Around} {E : Value → Shared → Prop} {s : Shared}
theorem C_false {c : Bool} {x y : Sem α} {Q : α → Shared → Prop} (hc : c = false) (h : wpC M A y Q E s) : wpC M A (if c = true then x else y) Q E s := by
  subst hc
  exact h
theorem C_true {c : Bool} {x y : Sem α} {Q : α → Shared → Prop} (hc : c = true) (h : wpC M A x Q E s) : wpC M A (if c = true then x else y) Q E s := by
  subst hc
  exact h
theorem codeC_builtin {prog : Program} {w : World} {R : Result → Shared → Prop} {id : String} {args : Args} {b : Builtin} (hb : entryFor table id = some b) (hd : dec (.builtin id args) = false)
    (h : wpC (model prog w) (A.under (.builtin id args)) (b args)
      (fun fin s' => match fin with | .done f => R (.ok f) s' | .again c' => c'.quiet = true ∧ codeC (model prog w) A c' R s') (fun e s' => R (.error e) s') s) :
    codeC (model prog w) A (.builtin id args) R s := by
  refine codeC_of_tree hd ?_
  show wpC _ _ (match entryFor table id with | some b => b args | none => unsupported ((withoutEnding? id "#data").getD id)) _ _ s
  rw [hb]; exact h
theorem C_exported {S : Addr} {Q : Bool → Shared → Prop} (hg : A.guards = some []) (hq : Q false s) : wpC M A (Bytes.exported (.ref S)) Q E s := fun G p hi hd hc => by
  have h0 : guardsOf ((G.code, p) :: G.below) = [] := by rw [guardsOf_cons]; exact hi.2.2.2.1 _ hg
  have h1 : ∀ x ∈ (G.code, p) :: G.below, x.1.isGuard = false := by
    intro x hx
    cases hb : x.1.isGuard with
    | false => rfl
    | true =>
      have : x.1 ∈ guardsOf ((G.code, p) :: G.below) := List.mem_filter.mpr ⟨List.mem_map_of_mem hx, hb⟩
      rw [h0] at this
      cases this
  have h2 : ∀ x ∈ (G.code, p) :: G.below, dec x.1 = false := by
    intro x hx
    rcases List.mem_cons.mp hx with e | hx
    · rw [e]; exact hd
    · exact hc x hx
  unfold Bytes.exported
  show Q (List.any ((G.code, p) :: G.below) _) s
  rw [List.any_eq_false.mpr]
  · exact hq
  · intro x hx
    have g1 := h1 x hx
    have g2 := h2 x hx
    obtain ⟨c, q⟩ := x
    split <;> simp_all [Code.isGuard, guardIds, dec]
end
theorem ba_init_lookup : Slot "bytearray" "__init__" "bytearray.__init__" :=
  .of (owner := "bytearray") (n := "__init__") (by rw [typeLookup_type, builtinLookup_eq_fast]; kernel_rfl) (by decide +kernel) (by decide +kernel) (by decide +kernel)
    (by first | exact .inl (by decide +kernel) | exact .inr (by decide +kernel)) (by rw [isSubtype_type]; kernel_rfl)
theorem ba_mro : mroOf (.type "bytearray") = pure [.type "bytearray", .type "object"] := by rw [mroOf_type]; kernel_rfl
theorem ba_lookup_new : typeLookup (.type "bytearray") "__new__" = pure (some (.builtin "bytearray.__new__")) := by rw [typeLookup_type, builtinLookup_eq_fast]; kernel_rfl
theorem ba_called : TypeCalled "bytearray" "bytearray.__new__" "bytearray.__init__" :=
  ⟨by decide +kernel, by decide +kernel, ⟨_, _, ba_mro⟩, madeBy_type ba_mro ba_lookup_new (by decide +kernel), by decide +kernel, by rw [isSubtype_type]; kernel_rfl, ba_init_lookup⟩
theorem ba_typeCall (a : Value) : checkTypeCall "bytearray" ⟨[a], []⟩ = pure () := by kernel_rfl
theorem ba_newCall (a : Value) : checkBuiltinCall "bytearray.__new__" ⟨[.type "bytearray", a], []⟩ = pure () := by kernel_rfl
theorem ba_entry_new : entryFor table "bytearray.__new__" = some Builtin.«list.__new__» := entryFor_alias (id' := "list.__new__") (by kernel_rfl) (by decide +kernel) (by decide +kernel) (by rw [fastTable_eq_tree]; kernel_rfl)
theorem ba_plain_new : plainId "bytearray.__new__" = true := by decide +kernel
theorem ba_entry_init : entryFor table "bytearray.__init__" = some Builtin.«bytearray.__init__» := entryFor_of_tree (by kernel_rfl)
theorem ba_plain_init : plainId "bytearray.__init__" = true := by decide +kernel
theorem ba_bind (v : Value) : Bytes.bindOptional "bytearray.__init__" "bytearray" ["source", "encoding", "errors"] [v] [] = pure [some v, none, none] := by kernel_rfl
theorem ba_args_init (a v : Value) : argsOk "bytearray.__init__" ⟨[a, v], []⟩ := by
  unfold argsOk; rw [signature?_of (id := "bytearray.__init__") (n := ['_', '_', 't', 'i', 'n', 'i', '_', '_']) (o := ['y', 'a', 'r', 'r', 'a', 'e', 't', 'y', 'b']) (by kernel_rfl) owner_ba]; kernel_rfl
theorem by_no_index : typeLookup (.type "bytes") "__index__" = pure none := by rw [typeLookup_type, builtinLookup_eq_fast]; kernel_rfl
set_option maxRecDepth 1000000 in
set_option maxHeartbeats 4000000 in
theorem ba_owner_new : ("bytearray.__new__".splitOn ".__new__").headD "" = "bytearray" := by rw [PySem.W.split_bytearray]; rfl
theorem ba_sub : isSubtype (.type "bytearray") (.type "bytearray") = pure true := by rw [isSubtype_type]; kernel_rfl
section
variable {prog : Program} {w : World} {A : Around} {E : Value → Shared → Prop} {s : Shared}
theorem ba_code_new (a : Value) {Q₁ : Value → Shared → Prop}
    (h : Q₁ (.ref s.heap.objs.size) { s with heap := s.heap.push (baObj #[]) }) :
    codeAny (model prog w) A (.call (.builtin "bytearray.__new__") ⟨[.type "bytearray", a], []⟩) (wants Q₁ E) s := by
  refine codeAny_of_tree ?_
  show wpAny _ A.in1 (do checkBuiltinCall "bytearray.__new__" ⟨[.type "bytearray", a], []⟩; again (.builtin "bytearray.__new__" ⟨[.type "bytearray", a], []⟩)) _ _ s
  refine wpAny_bind (wpAny_of_eq (ba_newCall a) (wpAny_pure ⟨plainId_quiet ba_plain_new _, codeAny_builtin_stack ba_entry_new rfl fun p st => ?_⟩))
  rw [Around.under_plainId ba_plain_new _]
  have hsub := ba_sub
  have hown := ba_owner_new
  obtain ⟨hp, g, d, tk, os⟩ := s
  simp only [hown]
  wp_walk
  exact h
end
end Mine
end

section
open PySem PySem.W PySem.Calls PyProof.Rows
namespace Mine
open PySem.Builtin
section
variable {prog : Program} {w : World} {A : Around} {E : Value → Shared → Prop} {s : Shared} {S : Addr} {b c : Array UInt8}
theorem ba_write {M : Model} {f : Array UInt8 → Array UInt8} {Q : Unit → Shared → Prop} (hS : s.heap.get? S = some (baObj c)) (hz : (f c).size ≤ sizeLine)
    (hq : ∀ h', Heap.SameBut S s.heap h' → h'.get? S = some (baObj (f c)) → Q () { s with heap := h' }) : wpAny M A (Bytes.write (.ref S) f) Q E s := by
  show wpAny _ _ (updateBytearray S f) _ _ _
  unfold updateBytearray
  refine wpAny_bind (wpAny_load hS ?_)
  show wpAny _ _ (update S (Obj.mapBytearray f) >>= fun _ => lookBehind S) _ _ _
  refine wpAny_bind (wpAny_update hS ?_)
  have hS₂ : (s.heap.update S (Obj.mapBytearray f)).get? S = some (baObj (f c)) := Heap.get?_update_self (Obj.mapBytearray f) hS rfl
  refine wpAny_lookBehind hS₂ ?_ ?_
  · show (if (f c).size > sizeLine then some "bytearray:memory" else none) = none
    rw [if_neg (Nat.not_lt.mpr hz)]
  · exact hq _ (Heap.SameBut.update ..) hS₂

theorem ba_init {t : Tok} {Q : Fin → Shared → Prop} (hg : A.guards = some []) (hS : s.heap.get? S = some (baObj #[])) (hz : b.size ≤ sizeLine)
    (hq : ∀ h', Heap.SameBut S s.heap h' → h'.get? S = some (baObj b) → Q (.done (.ret .none)) { s with heap := h' }) :
    wpC (model prog w) A (Builtin.«bytearray.__init__» ⟨[.ref S, .bytes b t], []⟩) Q E s := by
  have hT := ba_type hS
  unfold Builtin.«bytearray.__init__»
  refine wpC_seq ?_
  unfold Bytes.ownRelease
  refine wpAny_bind (ba_slotIsOwn hT ba_release (by decide +kernel) (by decide +kernel) (wpAny_pure ?_))
  refine C_false rfl ?_
  refine wpC_seq (wpAny_of_eq (ba_bind _) ?_)
  refine wpC_seq (wpAny_of_eq (a := ()) rfl ?_)
  refine wpC_seq (wpAny_of_eq (a := ()) rfl ?_)
  refine wpC_bind ?_
  unfold orM
  refine wpC_bind (C_exported hg ?_)
  show wpC _ _ (Bytes.exportsOf (.ref S) >>= fun r => _) _ _ _
  refine wpC_seq ?_
  unfold Bytes.exportsOf
  refine wpAny_bind (wpAny_load hS (wpAny_pure ?_))
  refine wpC_pure ?_
  refine C_false (by decide) ?_
  refine wpC_seq (ba_write hS (Nat.zero_le _) fun h₁ hs₁ hS₁ => ?_)
  refine wpC_seq (wpAny_of_eq (a := none) rfl ?_)
  refine C_false rfl ?_
  refine wpC_seq (wpAny_of_eq (a := ()) rfl ?_)
  refine wpC_seq (wpAny_specialOf (T := "bytes") (typeIs_bytes _ _ _) by_no_index ?_)
  refine C_false rfl ?_
  refine wpC_seq (wpAny_of_eq KBy.buffer_eq ?_)
  refine wpC_seq (wpAny_rule ?_)
  refine wpC_seq (ba_write hS₁ hz fun h₂ hs₂ hS₂ => ?_)
  exact wpC_pure (hq _ (hs₁.trans hs₂) hS₂)
set_option maxHeartbeats 2000000 in
theorem ba_call {t : Tok} {Q : Value → Shared → Prop} (hg : A.guards = some []) (hz : b.size ≤ sizeLine)
    (hq : ∀ S h', (∀ x o, s.heap.get? x = some o → h'.get? x = some o) → s.heap.objs.size ≤ S → h'.get? S = some (baObj b) → Q (.ref S) { s with heap := h' }) :
    wpC (model prog w) A (call (.type "bytearray") [.bytes b t]) Q E s := by
  have ft := ba_called
  have hmade := ft.made
  refine wpC_call (codeC_of_tree rfl ?_)
  show wpC _ _ (callAny (.type "bytearray") _) _ _ _
  refine wpC_pure ⟨Code.quiet_builtin _ (by decide +kernel), codeC_builtin F.entry_type_call (show Bytes.decodersThatHold.contains "type.__call__" = false by decide +kernel) ?_⟩
  rw [Around.under_plain (weight_type_call_type "bytearray" [.bytes b t] []) rfl]
  unfold Builtin.«type.__call__»
  refine C_false rfl ?_
  refine C_false (by decide +kernel) ?_
  refine wpC_seq (wpAny_of_eq (ba_typeCall _) ?_)
  refine wpC_seq (wpAny_of_eq ba_mro ?_)
  refine C_false rfl ?_
  refine wpC_seq (wpAny_of_eq hmade ?_)
  refine wpC_seq (wpAny_pure ?_)
  refine wpC_seq (wpAny_holding (wpAny_call (ba_code_new _ ?_)))
  have hS : (s.heap.push (baObj #[])).get? s.heap.objs.size = some (baObj #[]) := Heap.get?_push_size _ rfl
  have hT : ({ s with heap := s.heap.push (baObj #[]) } : Shared).TypeIs (.ref s.heap.objs.size) "bytearray" := ba_type (s := { s with heap := s.heap.push (baObj #[]) }) hS
  refine wpC_seq (wpAny_isInstance hT ba_sub ?_)
  refine C_false rfl ?_
  refine wpC_bind (wpC_holding ?_)
  simp only [callSpecial?]
  refine wpC_seq (wpAny_specialOf hT ba_init_lookup.lookup ?_)
  simp only [ba_init_lookup.bind]
  refine wpC_holding (wpC_seq (wpAny_pure (wpC_bind (wpC_call (codeC_of_tree rfl ?_)))))
  show wpC _ _ (checkBuiltinCall "bytearray.__init__" ⟨[.ref s.heap.objs.size, .bytes b t], []⟩ >>= fun _ => again (.builtin "bytearray.__init__" ⟨[.ref s.heap.objs.size, .bytes b t], []⟩)) _ _ _
  refine wpC_seq (ba_init_lookup.check _ _ _ _ _ _ _ _ hT (ba_args_init _ _) ?_)
  refine wpC_pure ⟨Code.quiet_builtin _ (by decide +kernel), codeC_builtin ba_entry_init (show Bytes.decodersThatHold.contains "bytearray.__init__" = false by decide +kernel) ?_⟩
  rw [Around.under_plainId ba_plain_init _]
  refine ba_init hg hS hz fun h' hs hS' => ?_
  refine wpC_pure ?_
  refine C_false rfl ?_
  exact wpC_pure (hq _ h' (fun x o e => (hs.2 x (Nat.ne_of_lt (Heap.lt_size e))).trans (Heap.get?_push_of_some _ e)) (Nat.le_refl _) hS')
end
end Mine
end

section
namespace Mine
/-- the part of the heap that the walk reads: written out by the head's own tactic, which is stopped before the run -/
theorem frag_close {P : Prop} (_ : Hook) (h : P) : P := h
section
local macro_rules | `(tactic| o_head $H) => `(tactic| exact frag_close $H (by assumption))
set_option maxHeartbeats 8000000 in
theorem frag (h : _root_.PySem.Challenge.rw_bs0028_01.row.Holds) : _root_.PySem.Challenge.rw_bs0028_01.row.Holds := by
  k_head
end
def keptStmt : Stmt → Bool
  | .FunctionDef n .. => !(n == Str.ofString "struct_parse")
  | .ClassDef .. => true
  | _ => false
/-- the text without the statements that bind no plain def or class -/
def viewQ : Program := { _root_.PySem.Challenge.rw_bs0028_01.prog with main := { _root_.PySem.Challenge.rw_bs0028_01.prog.main with body := _root_.PySem.Challenge.rw_bs0028_01.prog.main.body.filter keptStmt } }
def looseQ : List Str := [Str.ofString "ConstructError", Str.ofString "FieldError", Str.ofString "SizeofError",
  Str.ofString "UnsupportedOperation", Str.ofString "IOBase", Str.ofString "BufferedIOBase", Str.ofString "TextIOBase",
  Str.ofString "BytesIO", Str.ofString "StringIO", Str.ofString "Construct", Str.ofString "struct_parse"]
def asQ : List Addr := [2, 3, 15, 17, 18, 20, 21, 22, 29, 30, 31, 32, 35, 42, 43, 44, 54, 56, 57, 59, 60, 61, 63, 64, 66, 67, 68, 70, 71, 73, 74, 75, 77, 78, 80, 81, 82, 84, 85, 87, 88, 89, 91, 92, 94, 95, 96, 98, 99, 101, 102, 103, 105, 106, 108, 109, 110, 111, 113, 114, 116, 117, 118, 120, 121, 123, 124, 125, 127, 128, 130, 131, 132, 134, 135, 137, 138, 139, 141, 142, 144, 145, 146, 148, 149, 151, 152, 153, 154, 155, 156, 157, 160, 167, 168, 170, 171, 174, 181, 182, 184, 185, 188, 195, 196, 198, 199, 202, 204, 205, 207, 208, 209, 211, 212, 214, 215, 216, 223, 224, 225, 226, 236, 238, 239, 241, 242, 243, 244, 245, 246, 247, 248, 251, 258, 259, 260, 263, 270, 271, 272, 275, 282, 283, 285, 286, 288, 289, 290, 292, 293, 295, 296, 297, 299, 300, 302, 303, 304, 306, 307, 309, 310, 311, 312, 314, 315, 317, 318, 319, 321, 322, 324, 325, 326, 328, 329, 331, 332, 333, 335, 336, 338, 339, 340, 342, 343, 345, 346, 347, 349, 350, 352, 353, 354, 356, 357, 359, 360, 361, 363, 364, 366, 367, 368, 370, 371, 373, 374, 375, 377, 378, 380, 381, 382, 384, 385, 387, 388, 389, 391, 392, 394, 395, 396, 398, 399, 401, 402, 403, 404, 406, 407, 409, 410, 411, 412, 414, 415, 417, 418, 419, 420, 422, 423, 425, 426, 427, 428, 430, 431, 433, 434, 435, 437, 438, 440, 441, 442, 444, 445, 447, 448, 449, 450, 452, 453, 455, 456, 457, 458, 460, 461, 463, 464, 465, 467, 468, 470, 471, 472, 474, 475, 477, 478, 479, 481, 482, 484, 485, 486, 488, 489, 491, 492, 493, 495, 496, 498, 499, 500, 501, 502, 505, 512, 513, 515, 516, 518, 519, 520, 522, 523, 525, 526, 527, 529, 530, 532, 533, 534, 536, 537, 539, 540, 541, 543, 544, 546, 547, 548, 550, 551, 553, 554, 555, 556, 558, 559, 561, 562, 563, 564, 566, 567, 569, 570, 571, 572, 574, 575, 577, 578, 579, 580, 582, 583, 585, 586, 587, 588, 590, 591, 593, 594, 595, 597, 598, 600, 601, 602, 604, 605, 607, 608, 609, 611, 612, 614, 615, 616, 618, 619, 621, 622, 623, 625, 626, 628, 629, 630, 632, 633, 635, 636, 637, 639, 640, 642, 643, 644, 646, 647, 649, 650, 651, 653, 654, 656, 657, 658, 660, 661, 663, 664, 665, 667, 668, 670, 671, 672, 673, 675, 676, 678, 679, 680, 681, 683, 684, 686, 687, 688, 689, 691, 692, 694, 695, 696, 697, 699, 700, 702, 703, 704, 705, 707, 708, 710, 711, 712, 714, 715, 717, 718, 719, 721, 722, 724, 725, 726, 728, 729, 731, 732, 733, 735, 736, 738, 739, 740, 742, 743, 745, 746, 747, 748, 749, 759, 760, 761, 763, 764, 766, 767, 768, 770, 771, 773, 774, 775, 777, 778, 780, 781, 782, 784, 785, 787, 788, 789, 791, 792, 794, 795, 796, 798, 799, 801, 802, 803, 805, 806, 808, 809, 810, 812, 813, 815, 816, 817, 819, 820, 822, 823, 824, 825, 827, 828, 830, 831, 832, 834, 835, 837, 838, 839, 841, 842, 843, 844, 847, 849, 850, 852, 853, 854, 855, 857, 858, 860, 861, 862, 869, 870, 871, 872, 873, 876, 883, 885, 886, 888, 889, 890, 891, 892, 895, 902, 904, 905, 907, 908, 909, 910, 911, 914, 917, 918, 919, 921, 922, 924, 925]
theorem asQ_is : ∀ P, asQ = (frag.heap_1 P).map (·.1) := fun _ => by kernel_rfl
def lawD : { x : DefRec × List (Str × Expr) // defOf viewQ (Str.ofString "law") = some x } := ⟨_, rfl⟩
/-- what is left of the law behind the head -/
abbrev LawWalk : Prop := WalkC viewQ looseQ (XL viewQ []) (Hook.says (kHook frag.heap_1 asQ asQ_is)) _root_.PySem.Challenge.rw_bs0028_01.row.toRowW lawD.1.1 []
end Mine
end

section
open PySem PySem.W PySem.Calls PyProof.Rows
namespace Mine
theorem heap_classed (w : World) : kb_classed (frag.heap_1 w.params) = true := by kernel_rfl
end Mine
end

section
open PySem PySem.W PySem.Calls PyProof.Rows
namespace Mine
/-- groups of seven bits, the lowest first -/
def uv : List Int → Int
  | [] => 0
  | g :: r => g + 128 * uv r
def lst (gs : List Int) : Int := gs.getLastD 0
def sv (gs : List Int) : Int := if lst gs < 64 then uv gs else uv gs - 128 ^ gs.length
theorem uv_append (xs ys : List Int) : uv (xs ++ ys) = uv xs + 128 ^ xs.length * uv ys := by
  induction xs with
  | nil => simp [uv]
  | cons x r ih =>
    simp only [List.cons_append, uv, ih, List.length_cons, Int.pow_succ]
    rw [Int.mul_add, Int.add_assoc]
    congr 2
    rw [← Int.mul_assoc, Int.mul_comm 128 (128 ^ r.length)]
theorem lst_append (xs : List Int) (x : Int) : lst (xs ++ [x]) = x := by simp [lst]
theorem lst_of_mem {xs : List Int} (h : 1 ≤ xs.length) : lst xs ∈ xs := by
  cases xs with
  | nil => simp at h
  | cons x r =>
    have e : (x :: r).getLast? = some ((x :: r).getLast (by simp)) := List.getLast?_eq_some_getLast _
    rw [lst, List.getLastD_eq_getLast?, e]
    exact List.getLast_mem _
theorem lst_get {xs : List Int} (h : 1 ≤ xs.length) : xs.getD (xs.length - 1) 0 = lst xs := by
  cases xs with
  | nil => simp at h
  | cons x r =>
    rw [lst, List.getLastD_eq_getLast?, List.getLast?_eq_getElem?]
    simp
structure Inv (v : Int) (sg : Bool) (gs : List Int) (x : Int) : Prop where
  pos : 1 ≤ gs.length
  rng : ∀ g ∈ gs, 0 ≤ g ∧ g < 128
  val : v = uv gs + 128 ^ gs.length * x
  nn : sg = false → 0 ≤ x
  bnd : (gs.length ≤ 29 ∧ -(2 ^ (203 - 7 * gs.length)) ≤ x ∧ x < 2 ^ (203 - 7 * gs.length)) ∨ (gs.length = 30 ∧ ((x = 0 ∧ lst gs < 64) ∨ (x = -1 ∧ 64 ≤ lst gs)))
/-- the while's test -/
def More (sg : Bool) (gs : List Int) (x : Int) : Prop := (x ≠ 0 ∧ x ≠ -1) ∨ (sg = true ∧ ¬ (x = 0 ↔ lst gs < 64)) ∨ (sg = false ∧ x ≠ 0)
theorem Inv.len {v : Int} {sg : Bool} {gs : List Int} {x : Int} (h : Inv v sg gs x) : gs.length ≤ 30 := by
  rcases h.bnd with h | h <;> omega
theorem fd (x : Int) : x.fdiv 128 = x / 128 := Int.fdiv_eq_ediv_of_nonneg x (by decide)
theorem fm (x : Int) : x.fmod 128 = x % 128 := Int.fmod_eq_emod_of_nonneg x (by decide)
theorem Inv.start {v : Int} {sg : Bool} (hv : -(2 ^ 200) < v ∧ v < 2 ^ 200) (hu : sg = false → 0 ≤ v) : Inv v sg [v.fmod 128] (v.fdiv 128) := by
  rw [fd, fm]
  refine ⟨by simp, ?_, ?_, ?_, .inl ⟨by simp, ?_, ?_⟩⟩
  · intro g hg
    rw [List.mem_singleton.mp hg]
    omega
  · simp only [uv, List.length_singleton]
    omega
  · intro h
    have := hu h
    omega
  · simp only [List.length_singleton]
    have e : (2 : Int) ^ (203 - 7 * 1) = 2 ^ 196 := by decide
    have e2 : (2 : Int) ^ 200 = 16 * 2 ^ 196 := by decide
    rw [e]
    have h1 := hv.1
    rw [e2] at h1
    generalize (2 : Int) ^ 196 = z at *
    omega
  · simp only [List.length_singleton]
    have e : (2 : Int) ^ (203 - 7 * 1) = 2 ^ 196 := by decide
    have e2 : (2 : Int) ^ 200 = 16 * 2 ^ 196 := by decide
    rw [e]
    have h1 := hv.2
    rw [e2] at h1
    generalize (2 : Int) ^ 196 = z at *
    have hz : 0 < z := by omega
    omega
theorem Inv.step {v : Int} {sg : Bool} {gs : List Int} {x : Int} (h : Inv v sg gs x) (hm : More sg gs x) : Inv v sg (gs ++ [x.fmod 128]) (x.fdiv 128) ∧ gs.length ≤ 29 := by
  rw [fd, fm]
  have hl : gs.length ≤ 29 := by
    rcases h.bnd with hb | ⟨hl, hb⟩
    · exact hb.1
    · exfalso
      rcases hb with ⟨rfl, hb⟩ | ⟨rfl, hb⟩
      · rcases hm with hm | hm | hm
        · exact hm.1 rfl
        · exact hm.2 ⟨fun _ => hb, fun _ => rfl⟩
        · exact hm.2 rfl
      · rcases hm with hm | hm | hm
        · exact hm.2 rfl
        · exact hm.2 ⟨fun e => absurd e (by decide), fun e => by omega⟩
        · have := h.nn hm.1
          omega
  refine ⟨⟨by simp, ?_, ?_, ?_, ?_⟩, hl⟩
  · intro g hg
    rcases List.mem_append.mp hg with hg | hg
    · exact h.rng g hg
    · rw [List.mem_singleton.mp hg]
      omega
  · rw [uv_append, h.val]
    simp only [uv, List.length_append, List.length_singleton, Int.pow_succ]
    have e : x = x % 128 + 128 * (x / 128) := by omega
    conv => lhs; rw [e]
    rw [Int.mul_add, Int.mul_assoc, Int.add_assoc]
    simp
  · intro e
    have := h.nn e
    omega
  · simp only [List.length_append, List.length_singleton]
    rcases h.bnd with ⟨_, hb1, hb2⟩ | ⟨hb, _⟩
    · by_cases h29 : gs.length = 29
      · right
        rw [h29] at hb1 hb2 ⊢
        have h01 : x = 0 ∨ x = -1 := by
          have e : (2 : Int) ^ (203 - 7 * 29) = 1 := by decide
          rw [e] at hb1 hb2
          omega
        refine ⟨rfl, ?_⟩
        rcases h01 with rfl | rfl
        · left
          exact ⟨by decide, by rw [lst_append]; decide⟩
        · right
          exact ⟨by decide, by rw [lst_append]; decide⟩
      · left
        refine ⟨by omega, ?_, ?_⟩
        · have e : 203 - 7 * gs.length = (203 - 7 * (gs.length + 1)) + 7 := by omega
          rw [e, Int.pow_add] at hb1
          have e7 : (2 : Int) ^ 7 = 128 := by decide
          rw [e7] at hb1
          generalize (2 : Int) ^ (203 - 7 * (gs.length + 1)) = z at *
          omega
        · have e : 203 - 7 * gs.length = (203 - 7 * (gs.length + 1)) + 7 := by omega
          rw [e, Int.pow_add] at hb2
          have e7 : (2 : Int) ^ 7 = 128 := by decide
          rw [e7] at hb2
          generalize (2 : Int) ^ (203 - 7 * (gs.length + 1)) = z at *
          omega
    · omega
/-- what a row says: its groups -/
structure Sev (v : Int) (sg : Bool) (gs : List Int) : Prop where
  pos : 1 ≤ gs.length
  len : gs.length ≤ 32
  rng : ∀ g ∈ gs, 0 ≤ g ∧ g < 128
  uns : sg = false → v = uv gs
  sig : sg = true → v = sv gs
theorem uv_rep0 (k : Nat) : uv (List.replicate k 0) = 0 := by
  induction k with
  | zero => rfl
  | succ k ih => simp [List.replicate_succ, uv, ih]
theorem uv_rep127 (k : Nat) : uv (List.replicate k 127) = 128 ^ k - 1 := by
  induction k with
  | zero => rfl
  | succ k ih =>
    rw [List.replicate_succ, uv, ih, Int.pow_succ]
    omega
theorem lst_rep (gs : List Int) (k : Nat) (x : Int) : lst (gs ++ List.replicate k x) = if k = 0 then lst gs else x := by
  cases k with
  | zero => simp
  | succ k =>
    rw [List.replicate_succ', ← List.append_assoc, lst_append]
    simp
theorem Inv.pad {v : Int} {sg : Bool} {gs : List Int} {x : Int} (h : Inv v sg gs x) (hm : ¬ More sg gs x) {k : Nat} (hk : k ≤ 2) : Sev v sg (gs ++ List.replicate k (if x = 0 then 0 else 127)) := by
  have hl := h.len
  have h1 : x = 0 ∨ x = -1 := by
    by_cases a : x = 0
    · exact .inl a
    · by_cases b : x = -1
      · exact .inr b
      · exact absurd (.inl ⟨a, b⟩) hm
  have h2 : sg = true → (x = 0 ↔ lst gs < 64) := fun e => Classical.byContradiction fun q => hm (.inr (.inl ⟨e, q⟩))
  have h3 : sg = false → x = 0 := fun e => Classical.byContradiction fun q => hm (.inr (.inr ⟨e, q⟩))
  refine ⟨by rw [List.length_append]; have := h.pos; omega, by rw [List.length_append, List.length_replicate]; omega, ?_, ?_, ?_⟩
  · intro g hg
    rcases List.mem_append.mp hg with hg | hg
    · exact h.rng g hg
    · rw [List.eq_of_mem_replicate hg]
      split <;> omega
  · intro e
    have hx := h3 e
    subst hx
    have := h.val
    rw [uv_append]
    simp [uv_rep0]
    omega
  · intro e
    have hx := h2 e
    have hv := h.val
    unfold sv
    rw [lst_rep, uv_append, List.length_append, List.length_replicate]
    rcases h1 with rfl | rfl
    · have hlt := hx.mp rfl
      simp only [if_true, uv_rep0]
      rw [if_pos (by split <;> omega)]
      omega
    · have hge : ¬ lst gs < 64 := fun q => absurd (hx.mpr q) (by decide)
      have e9 : (if (-1 : Int) = 0 then (0 : Int) else 127) = 127 := by decide
      rw [e9, uv_rep127]
      rw [if_neg (by split <;> omega)]
      rw [Int.pow_add, Int.mul_sub]
      omega
end Mine
namespace Mine
def encL (gs : List Int) : List Int := (gs.take (gs.length - 1)).map (fun k => k + 128) ++ gs.drop (gs.length - 1)
theorem rep_flat (k : Nat) (a : Int) : (List.replicate k [a]).flatten = List.replicate k a := by
  induction k with
  | zero => rfl
  | succ k ih => simp [List.replicate_succ, ih]
theorem lst_get' {gs : List Int} (h : 1 ≤ gs.length) : gs.getD (-1 + (gs.length : Int)).toNat 0 = lst gs := by
  rw [← lst_get h]
  congr 1
  omega
theorem any01 (x : Int) : ([0, -1] : List Int).any (fun y => y == x) = true ↔ x = 0 ∨ x = -1 := by
  simp only [List.any_cons, List.any_nil, Bool.or_false, Bool.or_eq_true, beq_iff_eq]
  constructor
  · rintro (h | h)
    · exact .inl h.symm
    · exact .inr h.symm
  · rintro (h | h)
    · exact .inl h.symm
    · exact .inr h.symm
theorem more1 {sg : Bool} {gs : List Int} {x : Int} (h : ([0, -1] : List Int).any (fun y => y == x) = false) : More sg gs x := by
  left
  constructor <;> intro e <;> rw [(any01 x).mpr (by simp [e])] at h <;> cases h
theorem more2 {sg : Bool} {gs : List Int} {x : Int} (hp : 1 ≤ gs.length) (h1 : sg = true) (h2 : ((x == 0) != decide (gs.getD (-1 + (gs.length : Int)).toNat 0 < 64)) = true) : More sg gs x := by
  rw [lst_get' hp] at h2
  refine .inr (.inl ⟨h1, fun q => ?_⟩)
  by_cases hx : x = 0
  · simp [hx, q.mp hx] at h2
  · have hl : ¬ lst gs < 64 := fun y => hx (q.mpr y)
    simp [hx, hl] at h2
theorem more3 {sg : Bool} {gs : List Int} {x : Int} (h1 : sg = false) (h2 : x ≠ 0) : More sg gs x := .inr (.inr ⟨h1, h2⟩)
theorem done2 {sg : Bool} {gs : List Int} {x : Int} (hp : 1 ≤ gs.length) (h0 : ([0, -1] : List Int).any (fun y => y == x) = true) (h1 : sg = true) (h2 : ((x == 0) != decide (gs.getD (-1 + (gs.length : Int)).toNat 0 < 64)) = false) : ¬ More sg gs x := by
  rw [lst_get' hp] at h2
  have h01 := (any01 x).mp h0
  rintro (q | q | q)
  · rcases h01 with h | h
    · exact q.1 h
    · exact q.2 h
  · apply q.2
    by_cases hx : x = 0 <;> by_cases hl : lst gs < 64 <;> simp [hx, hl] at h2 ⊢
  · rw [h1] at q
    exact absurd q.1 (by decide)
theorem done3 {sg : Bool} {gs : List Int} {x : Int} (h1 : sg = false) (h2 : x = 0) : ¬ More sg gs x := by
  rintro (q | q | q)
  · exact q.1 h2
  · rw [h1] at q
    exact absurd q.1 (by decide)
  · exact q.2 h2
theorem sev_end {v : Int} {sg : Bool} {gs : List Int} {x mo pad : Int} (hP : Inv v sg gs x) (hm : ¬ More sg gs x) (hmo : 0 ≤ mo ∧ mo ≤ 2) (hpad : pad = if x = 0 then 0 else 127) : Sev v sg (gs ++ (List.replicate mo.toNat [pad]).flatten) := by
  rw [rep_flat, hpad]
  exact hP.pad hm (by omega)
theorem encL_length {gs : List Int} : (encL gs).length = gs.length := by
  unfold encL
  rw [List.length_append, List.length_map, List.length_take, List.length_drop]
  omega
theorem encL_in {v : Int} {sg : Bool} {gs : List Int} (h : Sev v sg gs) : ∀ n ∈ encL gs, 0 ≤ n ∧ n < 256 := by
  intro n hn
  rcases List.mem_append.mp hn with hn | hn
  · obtain ⟨k, hk, rfl⟩ := List.mem_map.mp hn
    have := h.rng k (List.mem_of_mem_take hk)
    omega
  · have := h.rng n (List.mem_of_mem_drop hn)
    omega
end Mine
end

section
open PySem PySem.W PySem.Calls PyProof.Rows
namespace Mine
open PySem.Builtin
theorem enc_get {gs : List Int} {i : Nat} (h : i < gs.length) : (encL gs).getD i 0 = if i + 1 = gs.length then gs.getD i 0 else gs.getD i 0 + 128 := by
  unfold encL
  have hm : ((gs.take (gs.length - 1)).map (fun k => k + 128)).length = gs.length - 1 := by rw [List.length_map, List.length_take]; omega
  rw [List.getD_eq_getElem?_getD, List.getElem?_append, hm]
  by_cases e : i + 1 = gs.length
  · rw [if_pos e, if_neg (by omega), List.getElem?_drop, List.getD_eq_getElem?_getD]
    congr 2
    omega
  · rw [if_neg e, if_pos (by omega), List.getElem?_map, List.getElem?_take_of_lt (by omega), List.getD_eq_getElem?_getD, List.getElem?_eq_getElem h]
    rfl
theorem get_rng {gs : List Int} (hg : ∀ g ∈ gs, 0 ≤ g ∧ g < 128) (i : Nat) : 0 ≤ gs.getD i 0 ∧ gs.getD i 0 < 128 := by
  by_cases h : i < gs.length
  · rw [List.getD_eq_getElem?_getD, List.getElem?_eq_getElem h]
    exact hg _ (List.getElem_mem h)
  · rw [List.getD_eq_getElem?_getD, List.getElem?_eq_none (by omega)]
    decide
theorem bitAnd_128 (x : Int) (h0 : 0 ≤ x) (h1 : x < 256) : bitAnd x 128 = if 128 ≤ x then 128 else 0 := by
  have : ∀ n : Nat, n < 256 → bitAnd (n : Int) 128 = if 128 ≤ (n : Int) then 128 else 0 := by decide +kernel
  obtain ⟨n, rfl⟩ := Int.eq_ofNat_of_zero_le h0
  exact this n (by omega)
theorem bitAnd_64 (x : Int) (h0 : 0 ≤ x) (h1 : x < 128) : bitAnd x 64 = if 64 ≤ x then 64 else 0 := by
  have : ∀ n : Nat, n < 128 → bitAnd (n : Int) 64 = if 64 ≤ (n : Int) then 64 else 0 := by decide +kernel
  obtain ⟨n, rfl⟩ := Int.eq_ofNat_of_zero_le h0
  exact this n (by omega)
theorem and127_small (x : Int) : (bitAnd x 127).natAbs < 2 ^ 64 := by
  rw [bitAnd_m7]
  have : 0 ≤ x % 128 ∧ x % 128 < 128 := by omega
  omega
theorem nat_and_shift {x g k : Nat} (h : x < 2 ^ k) : x &&& (g * 2 ^ k) = 0 := by
  apply Nat.eq_of_testBit_eq
  intro j
  rw [Nat.testBit_and, Nat.zero_testBit, Nat.testBit_mul_two_pow]
  by_cases hj : k ≤ j
  · rw [Nat.testBit_lt_two_pow (Nat.lt_of_lt_of_le h (Nat.pow_le_pow_right (by decide) hj))]
    rfl
  · have : decide (j ≥ k) = false := decide_eq_false (by omega)
    simp [this]
theorem or_shift {x g : Int} {k : Nat} (h0 : 0 ≤ x) (h1 : x < 2 ^ k) (hg : 0 ≤ g) : bitOr x (g * 2 ^ k) = x + g * 2 ^ k := by
  rw [bitOr_and]
  have e : bitAnd x (g * 2 ^ k) = 0 := by
    obtain ⟨n, rfl⟩ := Int.eq_ofNat_of_zero_le h0
    obtain ⟨q, rfl⟩ := Int.eq_ofNat_of_zero_le hg
    have hz : (q : Int) * 2 ^ k = ((q * 2 ^ k : Nat) : Int) := by simp
    rw [hz, bitAnd_pp (by omega) (by omega)]
    have : ((n : Int).toNat &&& ((q * 2 ^ k : Nat) : Int).toNat) = n &&& (q * 2 ^ k) := rfl
    rw [this, nat_and_shift (by have : ((n : Nat) : Int) < ((2 ^ k : Nat) : Int) := by simpa using h1
                                omega)]
    rfl
  omega
theorem or_minus {x : Int} {k : Nat} (h0 : 0 ≤ x) (h1 : x < 2 ^ k) : bitOr x (-1 * 2 ^ k) = x - 2 ^ k := by
  rw [bitOr_and]
  have hp : (0 : Int) < 2 ^ k := by
    have : (0 : Nat) < 2 ^ k := Nat.two_pow_pos k
    have e : ((2 ^ k : Nat) : Int) = 2 ^ k := by simp
    omega
  have e : bitAnd x (-1 * 2 ^ k) = 0 := by
    obtain ⟨n, rfl⟩ := Int.eq_ofNat_of_zero_le h0
    rw [bitAnd_pn (by omega) (by omega)]
    have e1 : (Builtin.bitNot (-1 * 2 ^ k)).toNat = 2 ^ k - 1 := by
      unfold Builtin.bitNot
      have e : ((2 ^ k : Nat) : Int) = 2 ^ k := by simp
      omega
    rw [e1]
    have hn : n < 2 ^ k := by
      have : ((n : Nat) : Int) < ((2 ^ k : Nat) : Int) := by simpa using h1
      omega
    have e2 : (n : Int).toNat &&& (2 ^ k - 1) = n := by
      show n &&& (2 ^ k - 1) = n
      rw [Nat.and_two_pow_sub_one_eq_mod, Nat.mod_eq_of_lt hn]
    rw [e2]
    omega
  omega
theorem pow_128 (i : Nat) : (2 : Int) ^ (7 * i) = 128 ^ i := by
  rw [Int.pow_mul]
  rfl
theorem uv_bound {gs : List Int} (hg : ∀ g ∈ gs, 0 ≤ g ∧ g < 128) : 0 ≤ uv gs ∧ uv gs < 128 ^ gs.length := by
  induction gs with
  | nil => simp [uv]
  | cons g r ih =>
    have h1 := hg g (List.mem_cons_self ..)
    have h2 := ih fun k hk => hg k (List.mem_cons_of_mem _ hk)
    simp only [uv, List.length_cons, Int.pow_succ]
    generalize (128 : Int) ^ r.length = z at *
    omega
theorem uv_take {gs : List Int} {i : Nat} (h : i < gs.length) : uv (gs.take (i + 1)) = uv (gs.take i) + 128 ^ i * gs.getD i 0 := by
  have e : gs.take (i + 1) = gs.take i ++ [gs.getD i 0] := by
    rw [List.take_add_one, List.getElem?_eq_getElem h, List.getD_eq_getElem?_getD, List.getElem?_eq_getElem h]
    rfl
  rw [e, uv_append]
  simp only [uv, List.length_take, Nat.min_eq_left (Nat.le_of_lt h), Int.mul_zero, Int.add_zero]
section
variable {gs : List Int} {i : Nat} {e : Int}
theorem par_val (hg : ∀ g ∈ gs, 0 ≤ g ∧ g < 128) (h : i < gs.length) (he : e = (encL gs).getD i 0) : bitOr (uv (gs.take i)) (bitAnd e 127 * 2 ^ (7 * (i : Int)).toNat) = uv (gs.take (i + 1)) := by
  have hr := get_rng hg i
  have h127 : bitAnd e 127 = gs.getD i 0 := by
    rw [bitAnd_m7, he, enc_get h]
    split <;> omega
  have ht : (7 * (i : Int)).toNat = 7 * i := by omega
  rw [h127, ht]
  have hb := uv_bound (gs := gs.take i) fun g hm => hg g (List.mem_of_mem_take hm)
  rw [List.length_take, Nat.min_eq_left (Nat.le_of_lt h)] at hb
  rw [or_shift hb.1 (by rw [pow_128]; exact hb.2) hr.1, uv_take h, pow_128, Int.mul_comm]
theorem par_last (hg : ∀ g ∈ gs, 0 ≤ g ∧ g < 128) (h : i < gs.length) (he : e = (encL gs).getD i 0) : bitAnd e 128 = 0 ↔ i + 1 = gs.length := by
  have hr := get_rng hg i
  rw [enc_get h] at he
  by_cases q : i + 1 = gs.length
  · rw [if_pos q] at he
    rw [bitAnd_128 e (by omega) (by omega), if_neg (by omega)]
    exact ⟨fun _ => q, fun _ => rfl⟩
  · rw [if_neg q] at he
    rw [bitAnd_128 e (by omega) (by omega), if_pos (by omega)]
    exact ⟨fun z => absurd z (by decide), fun z => absurd z q⟩
theorem par_sign (hg : ∀ g ∈ gs, 0 ≤ g ∧ g < 128) (h : i < gs.length) (he : e = (encL gs).getD i 0) (hl : i + 1 = gs.length) : bitAnd e 64 = 0 ↔ lst gs < 64 := by
  have hr := get_rng hg i
  rw [enc_get h, if_pos hl] at he
  have e2 : gs.getD i 0 = lst gs := by
    rw [← lst_get (by omega)]
    congr 1
    omega
  rw [← e2, bitAnd_64 e (by omega) (by omega), ← he]
  split
  · exact ⟨fun z => absurd z (by decide), fun z => by omega⟩
  · exact ⟨fun _ => by omega, fun _ => rfl⟩
theorem par_full (hl : i + 1 = gs.length) : gs.take (i + 1) = gs := List.take_of_length_le (by omega)
theorem par_neg (hg : ∀ g ∈ gs, 0 ≤ g ∧ g < 128) : bitOr (uv gs) (-1 * 2 ^ (7 * gs.length)) = uv gs - 128 ^ gs.length := by
  have hb := uv_bound hg
  rw [or_minus hb.1 (by rw [pow_128]; exact hb.2), pow_128]
end
end Mine
end

section
open PySem PySem.W PySem.Calls PyProof.Rows
namespace Mine
local macro_rules | `(tactic| walk_at "spare 0") => `(tactic| skip)
abbrev SevS := List Value × List Int × Nat × Int × Tok
abbrev sevLed (lg : Addr) (c : SevS) : List (Addr × Obj) := [(lg, W.listOf c.1.toArray c.2.2.1)]
abbrev sevPs (c : SevS) : List (Str × Value) := [(Str.ofString "value", Value.int c.2.2.2.1 c.2.2.2.2)]
theorem sev_turn {g' : Heap} {L' lg D : Addr} {o : Obj} {s0 : Shared} {v : Int} {sg : Bool} {m₀ u : Str → Option Value} {vs : List Value} {gs : List Int} {nn : Nat} {x : Int} {tx t1 t2 : Tok} {h' : Heap} {tk : Nat}
    (hI : IntsAre vs gs) (hS : Inv v sg (gs ++ [x.fmod 128]) (x.fdiv 128) ∧ gs.length ≤ 29)
    (FZ : Fr g' L' h' (fun y => if y = Str.ofString "value" then some (Value.int (x.fdiv 128) t2) else kstB (fun z => if List.contains [] z then u z else m₀ z) (sevPs (vs, gs, nn, x, tx)) y))
    (NZ : News g' L' h' [(D, o), (lg, W.listOf (vs ++ [Value.int (x.fmod 128) t1]).toArray (nn + 1))]) :
    KswEnd g' L' s0 (sevLed lg) sevPs (fun c => IntsAre c.1 c.2.1) [] m₀ (fun c => Inv v sg c.2.1 c.2.2.2.1) (fun c => 30 - c.2.1.length) (vs, gs, nn, x, tx) { s0 with heap := h', toks := tk } := by
  refine ksw_end (vs ++ [Value.int (x.fmod 128) t1], gs ++ [x.fmod 128], nn + 1, x.fdiv 128, t2) FZ NZ ?_ (IntsAre.append hI (.cons _ _ .nil)) ?_ ?_ hS.1 ?_
  · intro p hp
    rw [List.mem_singleton.mp hp]
    exact List.Mem.tail _ (.head _)
  · intro p hp
    rw [List.mem_singleton.mp hp]
    rfl
  · intro z h2 h3
    have hz : z ≠ Str.ofString "value" := h2 _ (List.mem_singleton.mpr rfl)
    show (if z = Str.ofString "value" then _ else if z = Str.ofString "value" then _ else _) = _
    rw [if_neg hz, if_neg hz]
    rfl
  · show 30 - (gs ++ [x.fmod 128]).length < 30 - gs.length
    rw [List.length_append, List.length_singleton]
    have := hS.2
    omega
theorem sev_fits {v : Int} {sg : Bool} {gs : List Int} (h : Sev v sg gs) : (encL gs).length ≤ 16777216 := by
  rw [encL_length]
  have := h.len
  omega
theorem fillnow (w : World) : _root_.PySem.Challenge.rw_bs0028_01 = _root_.PySem.Challenge.rw_bs0028_01 ∧ frag.heap_1 w.params = frag.heap_1 w.params := by
  k_fill
  w_top off
  exact ⟨rfl, rfl⟩
set_option maxHeartbeats 8000000 in
theorem sevens_spec {prog : Program} {w : World} {p : Program} {loose : List Str} {mean : ExcName → Option Value} {mg mb : Str → Option Value}
    {dp un : Nat} {gd : Option (List Code)} {cn : Str} {cs : Scope} {a : Addr} {ccd : Value} {cl : List (Str × Addr)} {outer : List Env} {A₀ : Around} {base h₀ : Heap} {L : Addr} {m : Str → Option Value} {s : Shared} {Q E : Value → Shared → Prop}
    {v : Int} {tv : Tok} {sg : Bool} {mo : Int} {tm : Tok}
    (B : Below A₀ base outer h₀) (F : Fr h₀ L s.heap m) (X : (frag.heap_1 w.params).In h₀) (T : Top p loose mean mg mb h₀) (hk : cs.kind = .function) (hdp : dp + 1 < recursionLimit) (hun : un + 8 < cLine)
    (hv : -(2 ^ 200) < v ∧ v < 2 ^ 200) (hu : sg = false → 0 ≤ v) (hm : 0 ≤ mo ∧ mo ≤ 2)
    (ret : ∀ (gs : List Int) t h' tk, Sev v sg gs → (∀ b o, s.heap.get? b = some o → h'.get? b = some o) → Q (.bytes (byteArr (encL gs)) t) { s with heap := h', toks := tk }) :
    wpAny (model prog w) (ktrTop dp un gd cn cs L a ccd cl outer) (call (.ref 918) [.int v tv, .bool sg, .int mo tm]) Q E s := by
  have N : News h₀ L s.heap [] := News.nil
  refine wpAny_call ?_
  k_dflt (refine' call_defK ?k1 ?k2 ?k3 ?k4 ?k5 ?kA ?kF ?kK ?k6 ?k7 ?k8 ?k9 ?kB ?_ ?c2 ?c3 ?c4 ?c5)
  case k1 => k_asm
  case k2 => k_asm
  case k3 => k_asm
  case k4 => k_asm
  case k5 => k_asm
  case kA => exact rfl
  case kF => exact rfl
  case kK => assumption
  case k6 => k_is
  case k7 => k_is
  case k8 => ktr_room
  case k9 => exact BindsTo.of_eq rfl
  case kB => exact locs rfl
  case c2 => exact rfl
  case c3 => exact rfl
  case c4 => exact rfl
  case c5 => decide
  intro g' L' h' FG' F' N' B' X' T' hkeep
  (try dsimp only)
  (try k_fold)
  repeat' ((fail_if_success (with_reducible show wpAny _ _ (exec (Stmt.While _ _ _ _) _) _ _ _)); first | (k_unfold; (try dsimp only)) | (k_end; wrow_close) | walk1 | (dsimp only; walk1) | (leave1; walk_say "STEP leave1"; try dsimp only) | fail "no step")
  rename_i lg hh1 ll1 hh2 hh3 FW NW
  have hInv := Inv.start hv hu
  refine ksw_while (sevLed lg) sevPs (fun c => IntsAre c.1 c.2.1) []
    (fun c => Inv v sg c.2.1 c.2.2.2.1) (fun c => 30 - c.2.1.length) ([.int (v.fmod 128) _], [v.fmod 128], 0, v.fdiv 128, _) FW NW (.cons _ _ .nil) (by intro p hp; rw [List.mem_singleton.mp hp]; rfl) hInv ?_
  clear hInv FW NW
  rintro ⟨vs, gs, nn, x, tx⟩ u hh tk hI hP F1 N1
  dsimp only at hI hP F1 N1 ⊢
  have hlen := hP.len
  have hpos := hP.pos
  show wpAny _ _ _ _ _ _
  k_fold
  k_steps
  all_goals try (exfalso; exact absurd (show x = 0 by assumption) (by assumption))
  all_goals first | (with_reducible show KswEnd _ _ _ _ _ _ _ _ _ _ _ _) | (
    (with_reducible show wpAny _ _ (call (Value.type "bytes") _) _ _ _)
    (with_reducible rename Fr _ _ _ _ => FZ); (with_reducible rename News _ _ _ _ => NZ); (with_reducible rename IntsAre _ _ => IZ)
    have hM : ¬ More sg gs x := by first | exact done2 hpos (by assumption) (by assumption) (by assumption) | exact done3 (by assumption) (by assumption)
    have hS := sev_end hP hM hm (by first | exact (if_pos (by assumption)).symm | exact (if_neg (by assumption)).symm)
    refine KBa.make_K FZ NZ rfl (News.isList NZ (.head _)) IZ (encL_in hS) ?_ ?_
    · exact sev_fits hS
    · intro h9 t9 k9 F9 N9 _
      exact ⟨_, _, _, F9, N9, fun _ _ => ret _ _ _ _ hS fun b o e => F9.keep b o (hkeep b o e (fun q => nomatch q))⟩)
  all_goals (
    (with_reducible rename Fr _ _ _ _ => FZ); (with_reducible rename News _ _ _ _ => NZ)
    have hM : More sg gs x := by first | exact more1 (by assumption) | exact more2 hpos (by assumption) (by assumption) | exact more3 (by assumption) (by assumption)
    have hS := hP.step hM
    simp only [List.push_toArray] at NZ
    exact sev_turn hI hS FZ NZ)
end Mine
end

section
open PySem PySem.W PySem.Calls PyProof.Rows
namespace Mine
local macro_rules | `(tactic| walk_at "spare 0") => `(tactic| skip)
local macro_rules | `(tactic| walk_at "spare 1") => `(tactic| skip)
abbrev strD (P : Params) (ba : Addr) (p : Int) (t1 t2 tp : Tok) : Obj :=
  dictOf [⟨PyData.keyHash P (Str.ofString "_BytesIO__buf"), .str (Str.ofString "_BytesIO__buf") t1, .ref ba⟩, ⟨PyData.keyHash P (Str.ofString "_BytesIO__pos"), .str (Str.ofString "_BytesIO__pos") t2, .int p tp⟩] 2
abbrev strm (P : Params) (x dx ba : Addr) (b : Array UInt8) (p : Int) (t1 t2 tp : Tok) : List (Addr × Obj) := [(x, instObj 502 dx), (dx, strD P ba p t1 t2 tp), (ba, baObj b)]
theorem picked_size (b : Array UInt8) (lo hi : Option Int) (h : b.size ≤ 16777216) : (KBy.picked b lo hi).size ≤ sizeLine := by
  rw [sizeLine_eq]
  exact Nat.le_trans (KBc.size_picked_le b lo hi) h
theorem picked_one {b : Array UInt8} {p : Int} (hp : 0 ≤ p) (hlt : p < b.size) : KBy.picked b (some p) (some (p + 1)) = #[b.getD p.toNat 0] := by
  obtain ⟨k, rfl⟩ := Int.eq_ofNat_of_zero_le hp
  have hk : k < b.size := by omega
  rw [KBc.picked_eq]
  simp only [Option.elim]
  have e : ((k : Int) + 1) = ((k + 1 : Nat) : Int) := by omega
  rw [e, clipAt_nat, clipAt_nat, Nat.min_eq_left (by omega), Nat.min_eq_left (by omega)]
  have e2 : k + 1 - k = 1 := by omega
  rw [e2]
  have h3 : b.toList.drop k = b.toList[k]'(by simpa using hk) :: b.toList.drop (k + 1) := List.drop_eq_getElem_cons (by simpa using hk)
  rw [h3]
  simp [hk]
local macro_rules | `(tactic| walk_at "call builtin:len") => `(tactic| (k_here; (with_reducible show wpAny _ _ (call (Value.builtin "len") [Value.ref _]) _ _ _); (with_reducible rename News _ _ _ _ => N'); (refine' len_ba (News.get N' ?k1) ?k2 ?_; (case k1 => k_mem); (case k2 => omega); k_whole)))
local macro_rules | `(tactic| walk_at "subscriptTail") => `(tactic| (k_here; (with_reducible show wpAny _ _ (subscriptTail _ (Expr.Slice _ _ none _) (Value.ref _) (Value.ref _)) _ _ _); (with_reducible rename Fr _ _ _ _ => F'); (with_reducible rename News _ _ _ _ => N'); (refine' slice_ba (s := ⟨_, _, _, _, _⟩) F' N' (News.get N' ?k1) ?k2 ?k3 ?k4 ?_; (case k1 => k_mem); (case k2 => constructor); (case k3 => constructor); (case k4 => (rw [sizeLine_eq]; omega)); k_whole); intro D' h' F' N' l1; (try k_lt l1); (try k_sweep)))
local macro_rules | `(tactic| walk_at "call type:bytes") => `(tactic| (k_here; (with_reducible show wpAny _ _ (call (Value.type "bytes") [Value.ref _]) _ _ _); (with_reducible rename News _ _ _ _ => N'); (refine' bytes_ba (News.get N' ?k1) ?k2 ?_; (case k1 => k_mem); (case k2 => exact picked_size _ _ _ (by assumption)); k_whole); intro _ _))
local macro_rules | `(tactic| k_room) => `(tactic| ktr_room)
set_option maxHeartbeats 8000000 in
theorem read_spec {prog : Program} {w : World} {p : Program} {loose : List Str} {mean : ExcName → Option Value} {mg mb : Str → Option Value}
    {dp un : Nat} {gd : Option (List Code)} {cn : Str} {cs : Scope} {a : Addr} {ccd : Value} {cl : List (Str × Addr)} {outer : List Env} {A₀ : Around} {base h₀ : Heap} {L : Addr} {m : Str → Option Value} {s : Shared} {Q E : Value → Shared → Prop}
    {x dx ba : Addr} {bf : Array UInt8} {pp : Int} {t0 t1 t2 tp : Tok}
    (B : Below A₀ base outer h₀) (F : Fr h₀ L s.heap m) (X : (frag.heap_1 w.params).In h₀) (T : Top p loose mean mg mb h₀) (hk : cs.kind = .function) (hdp : dp + 2 < recursionLimit) (hun : un + 16 < cLine)
    (N : News h₀ L s.heap (strm w.params x dx ba bf pp t1 t2 tp)) (hx : @LT.lt Nat _ dx x) (hb : @LT.lt Nat _ x ba) (hz : bf.size ≤ 16777216) (hp : 0 ≤ pp) (hlt : pp < bf.size)
    (ret : ∀ t tp' h' tk, Fr h₀ L h' m → News h₀ L h' (strm w.params x dx ba bf (pp + 1) t1 t2 tp') → (∀ b o, s.heap.get? b = some o → b ∉ [x, dx, ba] → h'.get? b = some o) → Q (.bytes #[bf.getD pp.toNat 0] t) { s with heap := h', toks := tk }) :
    wpAny (model prog w) (ktrTop dp un gd cn cs L a ccd cl outer) (call (.ref 426) [.ref x, .int 1 t0]) Q E s := by
  refine wpAny_call ?_
  k_dflt (refine' call_defK ?k1 ?k2 ?k3 ?k4 ?k5 ?kA ?kF ?kK ?k6 ?k7 ?k8 ?k9 ?kB ?_ ?c2 ?c3 ?c4 ?c5)
  case k1 => k_asm
  case k2 => k_asm
  case k3 => k_asm
  case k4 => k_asm
  case k5 => k_asm
  case kA => exact rfl
  case kF => exact rfl
  case kK => assumption
  case k6 => k_is
  case k7 => k_is
  case k8 => ktr_room
  case k9 => first | exact BindsTo.of_eq rfl | exact binds_K (by k_in) rfl (by k_is) rfl rfl rfl
  case kB => exact locs rfl
  case c2 => exact rfl
  case c3 => exact rfl
  case c4 => exact rfl
  case c5 => decide
  intro g' L' h' FG' F' N' B' X' T' hkeep
  (try dsimp only)
  (try k_fold)
  k_steps
  all_goals (
    (with_reducible rename Fr g' L' _ _ => FZ); (with_reducible rename News h₀ L _ _ => NZ); (with_reducible rename Fr h₀ L _ _ => FY)
    have e9 : KBy.picked bf (some pp) (some (pp + 1)) = #[bf.getD pp.toNat 0] := picked_one hp hlt)
  · rw [e9]
    exact ret _ _ _ _ FY (cb_drop NZ fun p hp => .tail _ hp) fun b o e hb => FZ.keep b o (hkeep b o e hb)
  · have e : (bf.size : Int) = pp + 1 := by omega
    rw [e] at NZ ⊢
    rw [e9]
    exact ret _ _ _ _ FY (cb_drop NZ fun p hp => .tail _ hp) fun b o e hb => FZ.keep b o (hkeep b o e hb)
set_option maxHeartbeats 8000000 in
theorem read_eof {prog : Program} {w : World} {p : Program} {loose : List Str} {mean : ExcName → Option Value} {mg mb : Str → Option Value}
    {dp un : Nat} {gd : Option (List Code)} {cn : Str} {cs : Scope} {a : Addr} {ccd : Value} {cl : List (Str × Addr)} {outer : List Env} {A₀ : Around} {base h₀ : Heap} {L : Addr} {m : Str → Option Value} {s : Shared} {Q E : Value → Shared → Prop}
    {x dx ba : Addr} {bf : Array UInt8} {pp : Int} {t0 t1 t2 tp : Tok}
    (B : Below A₀ base outer h₀) (F : Fr h₀ L s.heap m) (X : (frag.heap_1 w.params).In h₀) (T : Top p loose mean mg mb h₀) (hk : cs.kind = .function) (hdp : dp + 2 < recursionLimit) (hun : un + 16 < cLine)
    (N : News h₀ L s.heap (strm w.params x dx ba bf pp t1 t2 tp)) (hx : @LT.lt Nat _ dx x) (hb : @LT.lt Nat _ x ba) (hz : bf.size ≤ 16777216) (hp : 0 ≤ pp) (hlt : ¬ pp < bf.size)
    (ret : ∀ t h' tk, Fr h₀ L h' m → News h₀ L h' (strm w.params x dx ba bf pp t1 t2 tp) → (∀ b o, s.heap.get? b = some o → b ∉ [x, dx, ba] → h'.get? b = some o) → Q (.bytes #[] t) { s with heap := h', toks := tk }) :
    wpAny (model prog w) (ktrTop dp un gd cn cs L a ccd cl outer) (call (.ref 426) [.ref x, .int 1 t0]) Q E s := by
  refine wpAny_call ?_
  k_dflt (refine' call_defK ?k1 ?k2 ?k3 ?k4 ?k5 ?kA ?kF ?kK ?k6 ?k7 ?k8 ?k9 ?kB ?_ ?c2 ?c3 ?c4 ?c5)
  case k1 => k_asm
  case k2 => k_asm
  case k3 => k_asm
  case k4 => k_asm
  case k5 => k_asm
  case kA => exact rfl
  case kF => exact rfl
  case kK => assumption
  case k6 => k_is
  case k7 => k_is
  case k8 => ktr_room
  case k9 => first | exact BindsTo.of_eq rfl | exact binds_K (by k_in) rfl (by k_is) rfl rfl rfl
  case kB => exact locs rfl
  case c2 => exact rfl
  case c3 => exact rfl
  case c4 => exact rfl
  case c5 => decide
  intro g' L' h' FG' F' N' B' X' T' hkeep
  (try dsimp only)
  (try k_fold)
  k_steps
  all_goals (
    (with_reducible rename Fr g' L' _ _ => FZ); (with_reducible rename News h₀ L _ _ => NZ); (with_reducible rename Fr h₀ L _ _ => FY))
  exact ret _ _ _ FY NZ fun b o e hb => FZ.keep b o (hkeep b o e hb)
end Mine
end

section
open PySem PySem.W PySem.Calls PyProof.Rows
namespace Mine
local macro_rules | `(tactic| k_room) => `(tactic| ktr_room)
local macro_rules | `(tactic| walk_at "call ref") => `(tactic| (k_here; (with_reducible show wpAny _ _ (call (Value.ref 426) _) _ _ _); k_dflt (refine' read_spec ?k1 ?k2 ?k3 ?k4 ?kK ?kd ?ku ?k5 ?k6 ?k7 ?k8 ?k9 ?k10 ?_; (case k1 => k_asm); (case k2 => k_asm); (case k3 => k_asm); (case k4 => k_asm); (case kK => exact rfl); (case k5 => k_asm); (case kd => ktr_room); (case ku => ktr_units); (case k6 => assumption); (case k7 => assumption); (case k8 => assumption); (case k9 => omega); (case k10 => omega); k_whole); intro t9 tp9 h' tk' F' N' hk9; (try k_sweep)))
abbrev ParS := Nat × Tok × Tok × Tok
abbrev parLed (P : Params) (x dx ba : Addr) (b : Array UInt8) (p : Int) (t1 t2 : Tok) (c : ParS) : List (Addr × Obj) := strm P x dx ba b (p + (c.1 : Int)) t1 t2 c.2.1
abbrev parPs (gs : List Int) (c : ParS) : List (Str × Value) := [(Str.ofString "value", Value.int (uv (gs.take c.1)) c.2.2.1), (Str.ofString "shift", Value.int (7 * (c.1 : Int)) c.2.2.2)]
theorem parPs_of {m : Str → Option Value} {gs : List Int} {c : ParS} (h1 : m (Str.ofString "value") = some (Value.int (uv (gs.take c.1)) c.2.2.1)) (h2 : m (Str.ofString "shift") = some (Value.int (7 * (c.1 : Int)) c.2.2.2)) : ∀ p ∈ parPs gs c, m p.1 = some p.2 := by
  intro q hq
  rcases List.mem_cons.mp hq with rfl | hq
  · exact h1
  · rw [List.mem_singleton.mp hq]; exact h2
theorem parPs_zero {m : Str → Option Value} {gs : List Int} {tp tv ts : Tok} (h1 : m (Str.ofString "value") = some (Value.int 0 tv)) (h2 : m (Str.ofString "shift") = some (Value.int 0 ts)) : ∀ p ∈ parPs gs (0, tp, tv, ts), m p.1 = some p.2 :=
  parPs_of (by simpa [uv] using h1) (by simpa using h2)
/-- the octets from p on say the groups -/
def Says (b : Array UInt8) (p : Int) (gs : List Int) : Prop := ∀ i, i < gs.length → ((b.getD (p + (i : Int)).toNat 0).toNat : Int) = (encL gs).getD i 0
theorem par_turn {g' : Heap} {L' x dx ba : Addr} {s0 : Shared} {P : Params} {bf : Array UInt8} {pp : Int} {t1 t2 tpi tpj tv ts tv' ts' : Tok} {m₀ m' : Str → Option Value} {gs : List Int} {i : Nat} {e : Int} {h' : Heap} {tk : Nat}
    (FZ : Fr g' L' h' m') (NZ : News g' L' h' (strm P x dx ba bf (pp + (i : Int) + 1) t1 t2 tpj)) (hg : ∀ g ∈ gs, 0 ≤ g ∧ g < 128) (hi : i < gs.length) (he : e = (encL gs).getD i 0) (hn : ¬ Builtin.bitAnd e 128 = 0)
    (h1 : m' (Str.ofString "value") = some (Value.int (Builtin.bitOr (uv (gs.take i)) (Builtin.bitAnd e 127 * 2 ^ (7 * (i : Int)).toNat)) tv')) (h2 : m' (Str.ofString "shift") = some (Value.int (7 * (i : Int) + 7) ts'))
    (h3 : ∀ z, z ≠ Str.ofString "value" → z ≠ Str.ofString "shift" → z ≠ Str.ofString "data" → z ≠ Str.ofString "b" → m' z = m₀ z) :
    KswEnd g' L' s0 (parLed P x dx ba bf pp t1 t2) (parPs gs) (fun _ => True) [Str.ofString "data", Str.ofString "b"] m₀ (fun c => c.1 < gs.length) (fun c => gs.length - c.1) (i, tpi, tv, ts) { s0 with heap := h', toks := tk } := by
  have hl : i + 1 ≠ gs.length := fun q => hn ((par_last hg hi he).mpr q)
  have e1 : pp + (i : Int) + 1 = pp + ((i + 1 : Nat) : Int) := by omega
  rw [e1] at NZ
  refine ksw_end (i + 1, tpj, tv', ts') FZ NZ (fun p hp => hp) trivial ?_ ?_ ?_ ?_
  · refine parPs_of ?_ ?_
    · rw [h1, par_val hg hi he]
    · rw [h2]
      show _ = some (Value.int (7 * ((i + 1 : Nat) : Int)) ts')
      rw [show 7 * ((i + 1 : Nat) : Int) = 7 * (i : Int) + 7 by omega]
  · intro z ha hb
    simp only [List.contains_cons, List.contains_nil, Bool.or_false, Bool.or_eq_false_iff, beq_eq_false_iff_ne, ne_eq] at hb
    exact h3 z (ha _ (List.mem_cons_self ..)) (ha _ (List.mem_cons_of_mem _ (List.mem_cons_self ..))) hb.1 hb.2
  · show i + 1 < gs.length
    omega
  · show gs.length - (i + 1) < gs.length - i
    omega
local macro_rules | `(tactic| walk_at "binaryOp LShift int int") => `(tactic| (refine lshift_int_small ?h1 ?h2 ?h3 ?_; (case h1 => omega); (case h2 => omega); (case h3 => first | exact and127_small _ | decide)))
set_option maxHeartbeats 8000000 in
theorem uleb_spec {prog : Program} {w : World} {p : Program} {loose : List Str} {mean : ExcName → Option Value} {mg mb : Str → Option Value}
    {dp un : Nat} {gd : Option (List Code)} {cn : Str} {cs : Scope} {a : Addr} {ccd : Value} {cl : List (Str × Addr)} {outer : List Env} {A₀ : Around} {base h₀ : Heap} {L : Addr} {m : Str → Option Value} {s : Shared} {Q E : Value → Shared → Prop}
    {x dx ba : Addr} {bf : Array UInt8} {pp : Int} {t1 t2 tp : Tok} {slf ctx : Value} {gs : List Int}
    (B : Below A₀ base outer h₀) (F : Fr h₀ L s.heap m) (X : (frag.heap_1 w.params).In h₀) (T : Top p loose mean mg mb h₀) (hk : cs.kind = .function) (hdp : dp + 3 < recursionLimit) (hun : un + 24 < cLine)
    (N : News h₀ L s.heap (strm w.params x dx ba bf pp t1 t2 tp)) (hx : @LT.lt Nat _ dx x) (hb : @LT.lt Nat _ x ba) (hz : bf.size ≤ 16777216) (hp : 0 ≤ pp) (hlt : pp + gs.length ≤ bf.size)
    (hS : Says bf pp gs) (hg : ∀ g ∈ gs, 0 ≤ g ∧ g < 128) (hl1 : 1 ≤ gs.length) (hl2 : gs.length ≤ 32)
    (ret : ∀ t tp' h' tk, Fr h₀ L h' m → News h₀ L h' (strm w.params x dx ba bf (pp + gs.length) t1 t2 tp') → (∀ b o, s.heap.get? b = some o → b ∉ [x, dx, ba] → h'.get? b = some o) → Q (.int (uv gs) t) { s with heap := h', toks := tk }) :
    wpAny (model prog w) (ktrTop dp un gd cn cs L a ccd cl outer) (call (.ref 889) [slf, .ref x, ctx]) Q E s := by
  refine wpAny_call ?_
  k_dflt (refine' call_defK ?k1 ?k2 ?k3 ?k4 ?k5 ?kA ?kF ?kK ?k6 ?k7 ?k8 ?k9 ?kB ?_ ?c2 ?c3 ?c4 ?c5)
  case k1 => k_asm
  case k2 => k_asm
  case k3 => k_asm
  case k4 => k_asm
  case k5 => k_asm
  case kA => exact rfl
  case kF => exact rfl
  case kK => assumption
  case k6 => k_is
  case k7 => k_is
  case k8 => ktr_room
  case k9 => first | exact BindsTo.of_eq rfl | exact binds_K (by k_in) rfl (by k_is) rfl rfl rfl
  case kB => exact locs rfl
  case c2 => exact rfl
  case c3 => exact rfl
  case c4 => exact rfl
  case c5 => decide
  intro g' L' h' FG' F' N' B' X' T' hkeep
  (try dsimp only)
  (try k_fold)
  repeat' ((fail_if_success (with_reducible show wpAny _ _ (exec (Stmt.While _ _ _ _) _) _ _ _)); first | (k_unfold; (try dsimp only)) | (k_end; wrow_close) | walk1 | (dsimp only; walk1) | (leave1; walk_say "STEP leave1"; try dsimp only) | fail "no step")
  (with_reducible rename Fr g' L' _ _ => FW); (with_reducible rename News g' L' _ _ => NW)
  refine' ksw_while (parLed w.params x dx ba bf pp t1 t2) (parPs gs) (fun _ => True) [Str.ofString "data", Str.ofString "b"] (fun c => c.1 < gs.length) (fun c => gs.length - c.1) (0, tp, _, _) FW ?h1 trivial ?h2 hl1 ?h3
  case h2 =>
    intro q hq
    rcases List.mem_cons.mp hq with rfl | hq
    · rfl
    · rw [List.mem_singleton.mp hq]
      show _ = some (Value.int (7 * ((0 : Nat) : Int)) _)
      rw [show (7 : Int) * ((0 : Nat) : Int) = 0 from rfl]
      rfl
  case h1 =>
    show News g' L' _ (strm w.params x dx ba bf (pp + ((0 : Nat) : Int)) t1 t2 tp)
    rw [show pp + ((0 : Nat) : Int) = pp by omega]
    exact NW
  clear FW NW
  rintro ⟨i, tpi, tv, ts⟩ u hh tk - hi F1 N1
  dsimp only at hi F1 N1 ⊢
  show wpAny _ _ _ _ _ _
  k_fold
  k_steps
  · exact absurd rfl (show (((#[bf.getD (pp + (i : Int)).toNat 0] : Array UInt8).size : Nat) : Int) ≠ 1 by assumption)
  · have hl : i + 1 = gs.length := (par_last hg hi (hS i hi)).mp (by assumption)
    (with_reducible rename Fr g' L' _ _ => FZ); (with_reducible rename News h₀ L _ _ => NZ); (with_reducible rename Fr h₀ L _ _ => FY)
    have e1 : Builtin.bitOr (uv (List.take i gs)) (Builtin.bitAnd ((([bf.getD (pp + (i : Int)).toNat 0].getD (Int.toNat 0) 0).toNat : Nat) : Int) 127 * 2 ^ (7 * (i : Int)).toNat) = uv gs :=
      (par_val hg hi (hS i hi)).trans (by rw [par_full hl])
    rw [e1]
    have e2 : pp + (i : Int) + 1 = pp + (gs.length : Int) := by omega
    dsimp only at NZ
    rw [e2] at NZ
    exact ret _ _ _ _ FY NZ fun b o e hb => FZ.keep b o (hkeep b o e hb)
  · (with_reducible rename Fr g' L' _ _ => FZ); (with_reducible rename News g' L' _ _ => NZ)
    refine par_turn FZ NZ hg hi (hS i hi) (by assumption) rfl rfl ?_
    intro z a1 a2 a3 a4
    simp only [a1, a2, a3, a4, if_false, kstB]
    exact if_neg (by simp [a3, a4])
end Mine
end

section
open PySem PySem.W PySem.Calls PyProof.Rows
namespace Mine
local macro_rules | `(tactic| walk_at "spare 0") => `(tactic| skip)
local macro_rules | `(tactic| walk_at "spare 1") => `(tactic| skip)
local macro_rules | `(tactic| walk_at "spare 2") => `(tactic| skip)
local macro_rules | `(tactic| k_room) => `(tactic| ktr_room)
local macro_rules | `(tactic| walk_at "call ref") => `(tactic| (k_here; (with_reducible show wpAny _ _ (call (Value.ref 426) _) _ _ _); k_dflt (refine' read_spec ?k1 ?k2 ?k3 ?k4 ?kK ?kd ?ku ?k5 ?k6 ?k7 ?k8 ?k9 ?k10 ?_; (case k1 => k_asm); (case k2 => k_asm); (case k3 => k_asm); (case k4 => k_asm); (case kK => exact rfl); (case k5 => k_asm); (case kd => ktr_room); (case ku => ktr_units); (case k6 => assumption); (case k7 => assumption); (case k8 => assumption); (case k9 => omega); (case k10 => omega); k_whole); intro t9 tp9 h' tk' F' N' hk9; (try k_sweep)))
local macro_rules | `(tactic| walk_at "binaryOp LShift int int") => `(tactic| (refine lshift_int_small ?h1 ?h2 ?h3 ?_; (case h1 => omega); (case h2 => omega); (case h3 => first | exact and127_small _ | decide)))
set_option maxHeartbeats 8000000 in
theorem sleb_spec {prog : Program} {w : World} {p : Program} {loose : List Str} {mean : ExcName → Option Value} {mg mb : Str → Option Value}
    {dp un : Nat} {gd : Option (List Code)} {cn : Str} {cs : Scope} {a : Addr} {ccd : Value} {cl : List (Str × Addr)} {outer : List Env} {A₀ : Around} {base h₀ : Heap} {L : Addr} {m : Str → Option Value} {s : Shared} {Q E : Value → Shared → Prop}
    {x dx ba : Addr} {bf : Array UInt8} {pp : Int} {t1 t2 tp : Tok} {slf ctx : Value} {gs : List Int}
    (B : Below A₀ base outer h₀) (F : Fr h₀ L s.heap m) (X : (frag.heap_1 w.params).In h₀) (T : Top p loose mean mg mb h₀) (hk : cs.kind = .function) (hdp : dp + 3 < recursionLimit) (hun : un + 24 < cLine)
    (N : News h₀ L s.heap (strm w.params x dx ba bf pp t1 t2 tp)) (hx : @LT.lt Nat _ dx x) (hb : @LT.lt Nat _ x ba) (hz : bf.size ≤ 16777216) (hp : 0 ≤ pp) (hlt : pp + gs.length ≤ bf.size)
    (hS : Says bf pp gs) (hg : ∀ g ∈ gs, 0 ≤ g ∧ g < 128) (hl1 : 1 ≤ gs.length) (hl2 : gs.length ≤ 32)
    (ret : ∀ t tp' h' tk, Fr h₀ L h' m → News h₀ L h' (strm w.params x dx ba bf (pp + gs.length) t1 t2 tp') → (∀ b o, s.heap.get? b = some o → b ∉ [x, dx, ba] → h'.get? b = some o) → Q (.int (sv gs) t) { s with heap := h', toks := tk }) :
    wpAny (model prog w) (ktrTop dp un gd cn cs L a ccd cl outer) (call (.ref 908) [slf, .ref x, ctx]) Q E s := by
  refine wpAny_call ?_
  k_dflt (refine' call_defK ?k1 ?k2 ?k3 ?k4 ?k5 ?kA ?kF ?kK ?k6 ?k7 ?k8 ?k9 ?kB ?_ ?c2 ?c3 ?c4 ?c5)
  case k1 => k_asm
  case k2 => k_asm
  case k3 => k_asm
  case k4 => k_asm
  case k5 => k_asm
  case kA => exact rfl
  case kF => exact rfl
  case kK => assumption
  case k6 => k_is
  case k7 => k_is
  case k8 => ktr_room
  case k9 => first | exact BindsTo.of_eq rfl | exact binds_K (by k_in) rfl (by k_is) rfl rfl rfl
  case kB => exact locs rfl
  case c2 => exact rfl
  case c3 => exact rfl
  case c4 => exact rfl
  case c5 => decide
  intro g' L' h' FG' F' N' B' X' T' hkeep
  (try dsimp only)
  (try k_fold)
  repeat' ((fail_if_success (with_reducible show wpAny _ _ (exec (Stmt.While _ _ _ _) _) _ _ _)); first | (k_unfold; (try dsimp only)) | (k_end; wrow_close) | walk1 | (dsimp only; walk1) | (leave1; walk_say "STEP leave1"; try dsimp only) | fail "no step")
  (with_reducible rename Fr g' L' _ _ => FW); (with_reducible rename News g' L' _ _ => NW)
  refine' ksw_while (parLed w.params x dx ba bf pp t1 t2) (parPs gs) (fun _ => True) [Str.ofString "data", Str.ofString "b"] (fun c => c.1 < gs.length) (fun c => gs.length - c.1) (0, tp, _, _) FW ?h1 trivial ?h2 hl1 ?h3
  case h2 =>
    intro q hq
    rcases List.mem_cons.mp hq with rfl | hq
    · rfl
    · rw [List.mem_singleton.mp hq]
      show _ = some (Value.int (7 * ((0 : Nat) : Int)) _)
      rw [show (7 : Int) * ((0 : Nat) : Int) = 0 from rfl]
      rfl
  case h1 =>
    show News g' L' _ (strm w.params x dx ba bf (pp + ((0 : Nat) : Int)) t1 t2 tp)
    rw [show pp + ((0 : Nat) : Int) = pp by omega]
    exact NW
  clear FW NW
  rintro ⟨i, tpi, tv, ts⟩ u hh tk - hi F1 N1
  dsimp only at hi F1 N1 ⊢
  show wpAny _ _ _ _ _ _
  k_fold
  k_steps
  · exact absurd rfl (show (((#[bf.getD (pp + (i : Int)).toNat 0] : Array UInt8).size : Nat) : Int) ≠ 1 by assumption)
  · have hl : i + 1 = gs.length := (par_last hg hi (hS i hi)).mp (by assumption)
    (with_reducible rename Fr g' L' _ _ => FZ); (with_reducible rename News h₀ L _ _ => NZ); (with_reducible rename Fr h₀ L _ _ => FY)
    have e1 : Builtin.bitOr (uv (List.take i gs)) (Builtin.bitAnd ((([bf.getD (pp + (i : Int)).toNat 0].getD (Int.toNat 0) 0).toNat : Nat) : Int) 127 * 2 ^ (7 * (i : Int)).toNat) = uv gs :=
      (par_val hg hi (hS i hi)).trans (by rw [par_full hl])
    have e3 : lst gs ≥ 64 := Int.not_lt.mp fun q => (show ¬ (Builtin.bitAnd ((([bf.getD (pp + (i : Int)).toNat 0].getD (Int.toNat 0) 0).toNat : Nat) : Int) 64 = 0) by assumption) ((par_sign hg hi (hS i hi) hl).mpr q)
    rw [e1]
    have e4 : (7 * (i : Int) + 7).toNat = 7 * gs.length := by omega
    have e5 : Builtin.bitOr (uv gs) (Builtin.bitNot 0 * 2 ^ (7 * (i : Int) + 7).toNat) = sv gs := by
      rw [e4, sv, if_neg (by omega)]
      exact par_neg hg
    rw [e5]
    have e2 : pp + (i : Int) + 1 = pp + (gs.length : Int) := by omega
    dsimp only at NZ
    rw [e2] at NZ
    exact ret _ _ _ _ FY NZ fun b o e hb => FZ.keep b o (hkeep b o e hb)
  · have hl : i + 1 = gs.length := (par_last hg hi (hS i hi)).mp (by assumption)
    (with_reducible rename Fr g' L' _ _ => FZ); (with_reducible rename News h₀ L _ _ => NZ); (with_reducible rename Fr h₀ L _ _ => FY)
    have e1 : Builtin.bitOr (uv (List.take i gs)) (Builtin.bitAnd ((([bf.getD (pp + (i : Int)).toNat 0].getD (Int.toNat 0) 0).toNat : Nat) : Int) 127 * 2 ^ (7 * (i : Int)).toNat) = uv gs :=
      (par_val hg hi (hS i hi)).trans (by rw [par_full hl])
    have e3 : lst gs < 64 := (par_sign hg hi (hS i hi) hl).mp (by assumption)
    have e5 : sv gs = uv gs := by rw [sv, if_pos e3]
    rw [e1, ← e5]
    have e2 : pp + (i : Int) + 1 = pp + (gs.length : Int) := by omega
    dsimp only at NZ
    rw [e2] at NZ
    exact ret _ _ _ _ FY NZ fun b o e hb => FZ.keep b o (hkeep b o e hb)
  · (with_reducible rename Fr g' L' _ _ => FZ); (with_reducible rename News g' L' _ _ => NZ)
    refine par_turn FZ NZ hg hi (hS i hi) (by assumption) rfl rfl ?_
    intro z a1 a2 a3 a4
    simp only [a1, a2, a3, a4, if_false, kstB]
    exact if_neg (by simp [a3, a4])
end Mine
end

section
open PySem PySem.W PySem.Calls PyProof.Rows
namespace Mine
/-- in flight, its frame's mark fl, and with no exception behind it -/
def F2 (base : Heap) (l : List Env) (e : Addr) (cls a0 fl : Value) (h : Heap) : Prop :=
  base.StaysIn h ∧ base.get? e = none ∧ h.FunFrames base l ∧ ∃ oe vs T oT ts, h.get? e = some oe ∧ (oe.cls = cls ∧ vs[0]? = some a0) ∧ oe.data = .fields vs ∧ vs[1]? = some (.ref T) ∧ base.get? T = none ∧ T ≠ e ∧ h.get? T = some oT ∧ oT.data = .fields ts ∧ ts[3]? = some fl ∧ vs[2]? = some .none
theorem F2.fly {base h : Heap} {l : List Env} {e : Addr} {cls a0 : Value} (x : F2 base l e cls a0 .none h) : Heap.FlyingW base l e cls a0 h := by
  obtain ⟨x1, x2, x3, oe, vs, T, oT, ts, y1, y2, y3, y4, y5, y6, y7, y8, y9, _⟩ := x
  exact ⟨x1, x2, x3, oe, vs, T, oT, ts, y1, y2, y3, y4, y5, y6, y7, y8, y9⟩
theorem F2.tail {base h : Heap} {env : Env} {l : List Env} {e : Addr} {cls a0 fl : Value} (x : F2 base (env :: l) e cls a0 fl h) : F2 base l e cls a0 fl h :=
  ⟨x.1, x.2.1, x.2.2.1.2.2, x.2.2.2⟩
theorem F2.ctx {base h : Heap} {l : List Env} {e : Addr} {cls a0 fl : Value} (x : F2 base l e cls a0 fl h) : ∃ oe ws, h.get? e = some oe ∧ oe.cls = cls ∧ oe.data = .fields ws ∧ ws[2]? = some .none := by
  obtain ⟨_, _, _, oe, vs, _, _, _, y1, y2, y3, _, _, _, _, _, _, y10⟩ := x
  exact ⟨oe, vs, y1, y2.1, y3, y10⟩
theorem put_tb {base h : Heap} {l : List Env} {e : Addr} {oe tb : Obj} {vs ts : Array Value} {a0 fl : Value}
    (kb : base.StaysIn h) (en : base.get? e = none) (ff : h.FunFrames base l) (he : h.get? e = some oe) (hd : oe.data = .fields vs) (hsz : 1 < vs.size) (h0 : vs[0]? = some a0) (h2 : vs[2]? = some .none)
    (hf : tb.isFreed = false) (ht : tb.data = .fields ts) (h3 : ts[3]? = some fl) :
    F2 base l e oe.cls a0 fl ((h.push tb).update e (Obj.mapFields (·.setIfInBounds 1 (.ref h.objs.size)))) ∧
      ∀ b o, h.get? b = some o → b ≠ e → ((h.push tb).update e (Obj.mapFields (·.setIfInBounds 1 (.ref h.objs.size)))).get? b = some o := by
  have kp : ∀ b o, h.get? b = some o → b ≠ e → ((h.push tb).update e (Obj.mapFields (·.setIfInBounds 1 (.ref h.objs.size)))).get? b = some o := fun b o q n => by
    rw [Heap.get?_update_other _ _ (Ne.symm n)]
    exact Heap.get?_push_of_some _ q
  have hTe : h.objs.size ≠ e := Nat.ne_of_gt (Heap.lt_size he)
  have hd3 := Obj.data_mapFields hd (·.setIfInBounds 1 (Value.ref h.objs.size))
  have he3 := Heap.get?_update_self (Obj.mapFields (·.setIfInBounds 1 (Value.ref h.objs.size))) (Heap.get?_push_of_some (h := h) tb he) (Obj.isFreed_of_fields hd3)
  refine ⟨⟨fun b o q => kp b o (kb b o q) (fun z => by rw [z, en] at q; cases q), en, ff.of_keeps (fun b o hb nf => ⟨o, kp b o hb (fun z => by rw [z, he] at hb; cases hb; exact nf vs hd), rfl⟩), _, _, h.objs.size, tb, ts, he3,
    ⟨Obj.cls_mapFields _ _, ?_⟩, hd3, by simp [hsz], kb.fresh, hTe, (Heap.get?_update_other _ _ (Ne.symm hTe)).trans (Heap.get?_push_size h hf), ht, h3, ?_⟩, kp⟩
  · rw [Array.getElem?_setIfInBounds_ne (by decide)]; exact h0
  · rw [Array.getElem?_setIfInBounds_ne (by decide)]; exact h2
section
variable {M : Model} {A : Around} {E : Value → Shared → Prop} {s : Shared}
theorem entry2 {base : Heap} {env : Env} {outer : List Env} {L e : Addr} {oe : Obj} {vs : Array Value} {head a0 : Value} {hadNext : Bool} {Q : Unit → Shared → Prop}
    (hfr : A.frames = some (env :: outer)) (hf : env.frame = some L) (hl : s.heap.FunFrames base (env :: outer)) (hkb : base.StaysIn s.heap) (hen : base.get? e = none)
    (he : s.heap.get? e = some oe) (hd : oe.data = .fields vs) (hsz : 1 < vs.size) (h0 : vs[0]? = some a0) (h2 : vs[2]? = some .none)
    (h : ∀ h', F2 base (env :: outer) e oe.cls a0 (rawInt L) h' → s.heap.UpToSlots h' → Q () { s with heap := h' }) :
    wpAny M A (do let a ← frameOf env; let pl ← entryPlaceOf L hadNext; let b ← EntryCells.newEntry head a .none (rawInt L) .none pl; setField (.ref e) 1 b) Q E s := by
  have hene : e ∉ (env :: outer).filterMap (·.frame) := fun hm => by
    obtain ⟨_, o, ho, hnf⟩ := hl.mem hm
    rw [he] at ho; injection ho with ho; subst ho; exact hnf vs hd
  refine wpAny_bind (wpAny_frameOf_fun hfr hl hf fun h₁ hs₁ => ?_)
  refine wpAny_bind (wpAny_entryPlaceOf fun pl hpl => ?_)
  unfold EntryCells.newEntry newFields
  refine wpAny_bind (wpAny_newObj_type ?_ (hpl.sizeOk5 _ _ _ _ _))
  have he₁ : h₁.get? e = some oe := (hs₁.2.1 e hene).trans he
  have kb₁ : base.StaysIn h₁ := fun b o hbo => (hs₁.2.1 b fun hm => by rw [(hl.mem hm).1] at hbo; cases hbo).trans (hkb b o hbo)
  refine wpAny_setField (Heap.get?_push_of_some _ he₁) hd hsz ?_
  obtain ⟨P1, P2⟩ := put_tb (fl := rawInt L) (tb := { cls := .type "traceback", dict := none, data := .fields ([head, .ref L, .none, rawInt L, .none] ++ (if pl.isEmpty then List.replicate 6 Value.none else pl)).toArray }) kb₁ hen (hl.of_slotsOnly hs₁) he₁ hd hsz h0 h2 rfl rfl (by simp)
  refine h _ P1 fun b o hb nf => ?_
  obtain ⟨sl, hs⟩ := hs₁.2.2 b o hb
  exact ⟨sl, P2 b _ hs (fun z => by rw [z, he] at hb; cases hb; exact nf vs hd)⟩
/-- the frame's mark is turned -/
theorem turn_fl {base h : Heap} {l : List Env} {e : Addr} {cls a0 fl x : Value} (f : F2 base l e cls a0 fl h) :
    ∃ oe vs T oT ts, h.get? e = some oe ∧ oe.cls = cls ∧ oe.data = .fields vs ∧ vs[0]? = some a0 ∧ vs[1]? = some (.ref T) ∧ vs[2]? = some .none ∧ h.get? T = some oT ∧ oT.data = .fields ts ∧ 3 < ts.size ∧ ts[3]? = some fl ∧
      (h.update T (Obj.mapFields (·.setIfInBounds 3 x))).get? e = some oe ∧ F2 base l e cls a0 x (h.update T (Obj.mapFields (·.setIfInBounds 3 x))) ∧ h.UpToSlots (h.update T (Obj.mapFields (·.setIfInBounds 3 x))) := by
  obtain ⟨x1, x2, x3, oe, vs, T, oT, ts, he, ⟨hc, h0⟩, hd, h1, hnT, hTe, hT, hdT, h3, h2⟩ := f
  have sz : 3 < ts.size := (Array.getElem?_eq_some_iff.mp h3).1
  have other : ∀ b, b ≠ T → (h.update T (Obj.mapFields (·.setIfInBounds 3 x))).get? b = h.get? b := fun b hb => Heap.get?_update_other _ _ (Ne.symm hb)
  have nr : ∀ b o, h.get? b = some o → (∀ vs, o.data ≠ .fields vs) → b ≠ T := fun b o hb nf q => by
    rw [q, hT] at hb; cases hb; exact nf ts hdT
  have he' := (other e (Ne.symm hTe)).trans he
  exact ⟨oe, vs, T, oT, ts, he, hc, hd, h0, h1, h2, hT, hdT, sz, h3, he',
    ⟨fun b o hb => (other b (fun q => by rw [q, hnT] at hb; cases hb)).trans (x1 b o hb), x2, x3.of_keeps (fun b o hb nf => ⟨o, (other b (nr b o hb nf)).trans hb, rfl⟩), oe, vs, T, _, _, he', ⟨hc, h0⟩, hd, h1, hnT, hTe,
      Heap.get?_update_self _ hT (Obj.isFreed_of_fields (Obj.data_mapFields hdT _)), Obj.data_mapFields hdT _, by simp [sz], h2⟩,
    fun b o hb nf => ⟨o.slots, (other b (nr b o hb nf)).trans hb⟩⟩
theorem off2 {base : Heap} {l : List Env} {e : Addr} {cls a0 fl : Value} {Q : Unit → Shared → Prop} (f : F2 base l e cls a0 fl s.heap)
    (h : ∀ h', F2 base l e cls a0 .none h' → s.heap.UpToSlots h' → Q () { s with heap := h' }) : wpAny M A (setFlight (.ref e) none) Q E s := by
  obtain ⟨oe, vs, T, oT, ts, he, hc, hd, h0, h1, h2, hT, hdT, sz, h3, he', f', u⟩ := turn_fl (x := .none) f
  unfold setFlight
  refine wpAny_bind (wpAny_field he hd h1 ?_)
  rw [if_pos (show (Value.ref T != Value.none) = true from by simp)]
  exact wpAny_setField hT hdT sz (h _ f' u)
theorem note2 {base : Heap} {env : Env} {outer : List Env} {L e : Addr} {cls a0 : Value} {Q : Unit → Shared → Prop}
    (hfr : A.frames = some (env :: outer)) (hf : env.frame = some L) (f : F2 base (env :: outer) e cls a0 .none s.heap)
    (h : ∀ h', F2 base (env :: outer) e cls a0 (rawInt L) h' → s.heap.UpToSlots h' → Q () { s with heap := h' }) : wpAny M A (noteFrame (.ref e) env) Q E s := by
  obtain ⟨oe, vs, T, oT, ts, he, hc, hd, h0, h1, h2, hT, hdT, sz, h3, he', f', u⟩ := turn_fl (x := .none) f
  subst hc
  unfold noteFrame
  simp only [hf]
  refine wpAny_bind (wpAny_field he hd h1 ?_)
  rw [if_pos (show (Value.ref T != Value.none) = true from by simp)]
  refine wpAny_bind (wpAny_field hT hdT h3 ?_)
  rw [if_neg (show ¬ ((Value.none == rawInt L) = true) from by simp [rawInt])]
  refine wpAny_bind (wpAny_setField hT hdT sz ?_)
  exact entry2 hfr hf f'.2.2.1 f'.1 f'.2.1 he' hd (Array.getElem?_eq_some_iff.mp h1).1 h0 h2 fun h' g v => h h' g (u.trans v)
theorem note1 {base : Heap} {env : Env} {outer : List Env} {L e : Addr} {oe : Obj} {vs : Array Value} {a0 : Value} {Q : Unit → Shared → Prop}
    (hfr : A.frames = some (env :: outer)) (hf : env.frame = some L) (hl : s.heap.FunFrames base (env :: outer)) (hkb : base.StaysIn s.heap) (hen : base.get? e = none)
    (he : s.heap.get? e = some oe) (hd : oe.data = .fields vs) (h0 : vs[0]? = some a0) (h1 : vs[1]? = some .none) (h2 : vs[2]? = some .none)
    (h : ∀ h', F2 base (env :: outer) e oe.cls a0 (rawInt L) h' → s.heap.UpToSlots h' → Q () { s with heap := h' }) : wpAny M A (noteFrame (.ref e) env) Q E s := by
  unfold noteFrame
  simp only [hf]
  refine wpAny_bind (wpAny_field he hd h1 ?_)
  rw [if_neg (by decide)]
  exact entry2 hfr hf hl hkb hen he hd (Array.getElem?_eq_some_iff.mp h1).1 h0 h2 h
end
end Mine
end

section
open PySem PySem.W PySem.Calls PyProof.Rows
namespace Mine
/-- raised, no exception behind it, on its way out of l's frames -/
def Rz (base G : Heap) (l : List Env) (e : Addr) (cls : Value) (h : Heap) : Prop :=
  ∃ B a0, base.StaysIn B ∧ (∀ b o, G.get? b = some o → b ∉ l.filterMap (·.frame) → B.get? b = some o) ∧ F2 B l e cls a0 .none h
theorem F2.keeps {base h h' : Heap} {l : List Env} {e : Addr} {cls a0 fl : Value} (x : F2 base l e cls a0 fl h) (k : ∀ b o, h.get? b = some o → h'.get? b = some o) : F2 base l e cls a0 fl h' := by
  obtain ⟨x1, x2, x3, oe, vs, T, oT, ts, y1, y2, y3, y4, y5, y6, y7, y8⟩ := x
  exact ⟨fun b o q => k b o (x1 b o q), x2, x3.of_keeps fun b o q _ => ⟨o, k b o q, rfl⟩, oe, vs, T, oT, ts, k _ _ y1, y2, y3, y4, y5, y6, k _ _ y7, y8⟩
theorem Rz.keeps {base G h h' : Heap} {l : List Env} {e : Addr} {cls : Value} (x : Rz base G l e cls h) (k : ∀ b o, h.get? b = some o → h'.get? b = some o) : Rz base G l e cls h' := by
  obtain ⟨B, a0, x1, x2, x3⟩ := x
  exact ⟨B, a0, x1, x2, x3.keeps k⟩
theorem Rz.ty {M : Model} {base G h : Heap} {l : List Env} {e : Addr} {cls : Value} (x : Rz base G l e cls h) : Looks M h (typeOf (.ref e)) cls := by
  obtain ⟨B, a0, _, _, f⟩ := x
  obtain ⟨oe, _, he, hc, _⟩ := f.ctx
  subst hc
  exact (Looks.ld he).andThen .now
section
variable {M : Model} {A : Around} {E : Value → Shared → Prop} {s' : Shared} {base g g₂ h : Heap} {outer : List Env} {L a e : Addr} {m : Str → Option Value} {name : Str} {scope : Scope} {cd : Value} {Q : Unit → Shared → Prop}
/-- what stands below a frame stands in the heap without the frames -/
theorem ground_hides (F : Fr g L h m) {b : Addr} {o : Obj} (q : g.get? b = some o) (nm : b ∉ outer.filterMap (·.frame)) : (hideAll h ((envOf name scope L a cd :: outer).filterMap (·.frame))).get? b = some o :=
  hideAll_get _ (F.keep b o q) fun hm => by
    rcases kts_mem hm with z | z
    · rw [z, kts_self F] at q
      cases q
    · exact nm z
theorem out_first {h' : Heap} (K : Below A base outer g) (F : Fr g L h m) (kp : ∀ b o, h.get? b = some o → h'.get? b = some o) (hk : scope.kind = .function) :
    base.StaysIn (hideAll h ((envOf name scope L a cd :: outer).filterMap (·.frame))) ∧ (hideAll h ((envOf name scope L a cd :: outer).filterMap (·.frame))).StaysIn h' ∧
      h'.FunFrames (hideAll h ((envOf name scope L a cd :: outer).filterMap (·.frame))) (envOf name scope L a cd :: outer) := by
  have K' := K.push (name := name) (a := a) (cd := cd) F hk
  have hin : ∀ env ∈ (envOf name scope L a cd :: outer), ∀ b, env.frame = some b → b ∈ (envOf name scope L a cd :: outer).filterMap (·.frame) := fun env he b hb => List.mem_filterMap.mpr ⟨env, he, hb⟩
  refine ⟨fun b o q => hideAll_get _ (K'.stays b o q) fun hm => ?_, fun b o q => kp b o (of_hideAll _ q), (funFrames_hide K'.frames hin).of_keeps fun b o hb _ => ⟨o, kp b o hb, rfl⟩⟩
  rw [(K'.frames.mem hm).1] at q
  cases q
theorem hide_none {l : List Addr} {e : Addr} (n : h.get? e = none) : (hideAll h l).get? e = none := by
  cases q : (hideAll h l).get? e with
  | none => rfl
  | some o => have := of_hideAll _ q; rw [n] at this; cases this
theorem leave_raise2 {cls : Value} {vs : List Value} (K : Below A base outer g) (hx : Heap.MadeExcOf h s'.heap e cls vs) (F : Fr g L h m)
    (hQ : ∀ h', Rz base g outer e cls h' → g.UpToSlots h' → Q () { s' with heap := h' }) (hk : scope.kind = .function := by rfl) :
    wpAny M (A.deeper (envOf name scope L a cd)) (leaving (envOf name scope L a cd) (.ref e)) Q E s' := by
  obtain ⟨st, sh, ff⟩ := out_first (name := name) (scope := scope) (a := a) (cd := cd) K F hx.keeps hk
  obtain ⟨t, ht, _, _⟩ := hx.there
  unfold leaving
  refine wpAny_bind (note1 (Around.frames_deeper K.stack) rfl ff sh (hide_none hx.new) ht rfl rfl rfl rfl fun h1 f1 u1 => ?_)
  refine off2 f1 fun h2 f2 u2 => hQ h2 ⟨_, _, st, fun b o q nm => ground_hides F q nm, f2.tail⟩ ?_
  exact ((Heap.UpToSlots.of_keeps F.keep).trans (Heap.UpToSlots.of_keeps hx.keeps)).trans (u1.trans u2)
theorem leave_on2 {cls : Value} (K : Below A base outer g) (F : Fr g L g₂ m) (R : Rz base g₂ (envOf name scope L a cd :: outer) e cls s'.heap) (hsm : g₂.UpToSlots s'.heap)
    (hQ : ∀ h', Rz base g outer e cls h' → g.UpToSlots h' → Q () { s' with heap := h' }) :
    wpAny M (A.deeper (envOf name scope L a cd)) (leaving (envOf name scope L a cd) (.ref e)) Q E s' := by
  obtain ⟨B, a0, hB, hBG, f⟩ := R
  unfold leaving
  refine wpAny_bind (note2 (Around.frames_deeper K.stack) rfl f fun h1 f1 u1 => off2 f1 fun h2 f2 u2 => hQ h2 ⟨B, a0, hB, fun b o q nm => hBG b o (F.keep b o q) (fun hm => ?_), f2.tail⟩ ?_)
  · rcases kts_mem hm with z | z
    · rw [z, kts_self F] at q
      cases q
    · exact nm z
  · exact (Heap.UpToSlots.of_keeps F.keep).trans (hsm.trans (u1.trans u2))
end
section
variable {prog : Program} {w : World} {A₀ : Around} {E : Value → Shared → Prop} {s' : Shared} {base g G : Heap} {outer : List Env} {L a e : Addr} {m : Str → Option Value} {name : Str} {scope : Scope} {cd cls : Value}
  {b₀ : Stmt} {suite : List Stmt} {pos : Pos} {rest hs : List ExceptHandler} {Q : Flow → Shared → Prop} {KF : Frag} {tt : Expr}
  {p : Program} {loose : List Str} {mean : ExcName → Option Value} {mg mb : Str → Option Value}
theorem look2 (R : Rz base G (envOf name scope L a cd :: outer) e cls s'.heap) (K : Below A₀ base outer g) (hsm : G.UpToSlots s'.heap)
    (k : ∀ h', Rz base G (envOf name scope L a cd :: outer) e cls h' → G.UpToSlots h' → wpAny (model prog w) (A₀.deeper (envOf name scope L a cd)) (handleBy (.ref e) (envOf name scope L a cd) hs) Q E { s' with heap := h' }) :
    wpAny (model prog w) (A₀.deeper (envOf name scope L a cd)) (noteFrame (.ref e) (envOf name scope L a cd))
      (fun _ s₂ => wpAny (model prog w) (A₀.deeper (envOf name scope L a cd)) (setFlight (.ref e) none) (fun _ s₃ =>
        wpAny (model prog w) (A₀.deeper (envOf name scope L a cd)) (handleBy (.ref e) (envOf name scope L a cd) hs) Q E s₃) E s₂) E s' := by
  obtain ⟨B, a0, hB, hBG, f⟩ := R
  exact note2 (Around.frames_deeper K.stack) rfl f fun h1 f1 u1 => off2 f1 fun h2 f2 u2 => k h2 ⟨B, a0, hB, hBG, f2⟩ (hsm.trans (u1.trans u2))
theorem hit2 (R : Rz base G (envOf name scope L a cd :: outer) e cls s'.heap) (F : Fr g L G m) (K : Below A₀ base outer g) (hsm : G.UpToSlots s'.heap) (XB : KF.In base) (TB : Top p loose mean mg mb base)
    (D : KtsDicts (outer.filterMap (·.frame)) g) (T : KtsTest prog w KF p loose mg mb name scope L a cd cls tt true)
    (k : ∀ h' g' oe ws, KtsTurn (outer.filterMap (·.frame)) g g' → Fr g' L h' m → News g' L h' [(e, oe)] → oe.data = .fields ws → ws[2]? = some .none → Below A₀ base outer g' → KF.In g' → Top p loose mean mg mb g' → KtsDicts (outer.filterMap (·.frame)) g' →
      wpAny (model prog w) ((A₀.deeper (envOf name scope L a cd)).mark (some (.ref e))) (execs (b₀ :: suite) (envOf name scope L a cd)) Q E { s' with heap := h' })
    (hE : PassesOwnAt (model prog w) ((A₀.deeper (envOf name scope L a cd)).mark (some (.ref e))) (A₀.deeper (envOf name scope L a cd)) (envOf name scope L a cd) E := by passes_own) :
    wpAny (model prog w) (A₀.deeper (envOf name scope L a cd)) (handleBy (.ref e) (envOf name scope L a cd) (.ExceptHandler (some tt) none (b₀ :: suite) pos :: rest)) Q E s' := by
  have R' := R
  obtain ⟨B₁, _, _, hBG₁, f₁⟩ := R'
  obtain ⟨g₅, T₅, F₅, K₅⟩ := kts_ground K F hBG₁ f₁.1 hsm
  refine wpAny_handleBy_cons (codeAny_handlers_test (T _ _ _ _ g₅ e m F₅ (XB.keeps K₅.stays) (topRead_of (TB.keeps K₅.stays)) R.ty fun h₅ kp => ?_)) (by intro q; cases q)
  obtain ⟨B, a0, hB, hBG, f⟩ := R.keeps kp
  refine codeAny_handlers_suite ?_
  refine off2 f fun h₆ f₆ u₆ => ?_
  have u : G.UpToSlots h₆ := (hsm.trans (Heap.UpToSlots.of_keeps kp)).trans u₆
  obtain ⟨g₆, T₆, F₆, K₆⟩ := kts_ground K F hBG f₆.1 u
  obtain ⟨oe, ws, hoe, hoec, hoed, hoe2⟩ := f₆.ctx
  have ne : g₆.get? e = none := T₆.none_ _ (kts_fresh F hBG f₆.2.1 fun o ho m => by
    obtain ⟨_, o', ho', hd⟩ := K.frames.mem m
    rw [ho] at ho'
    cases ho'
    obtain ⟨sl, hs⟩ := u _ _ (F.keep _ _ ho) hd
    rw [hoe] at hs
    cases hs
    exact hd _ hoed)
  exact wpAny_passesOwnAt hE (k h₆ g₆ oe ws T₆ F₆ (News.more F₆ News.nil hoe (fun es n q => by rw [hoed] at q; cases q) ne) hoed hoe2 K₆ (XB.keeps K₆.stays) (TB.keeps K₆.stays) (D.turn T₆))
end
/-- a frame over a ground that was turned -/
theorem fr_turn {h₀ g g' : Heap} {L : Addr} {m : Str → Option Value} (F : Fr h₀ L g m) (T : KtsTurn [L] g g') : Fr h₀ L g' m := by
  refine ⟨?_, fun b o q => T.other b o (F.keep b o q) fun hm => ?_, F.above⟩
  · obtain ⟨o, es, ep, ho, hd, r⟩ := F.ns
    obtain ⟨sl, hs⟩ := T.up ho
    exact ⟨_, es, ep, hs, hd, r⟩
  · rw [List.mem_singleton.mp hm, kts_self F] at q
    cases q
theorem fr_dict {h₀ g : Heap} {L : Addr} {m : Str → Option Value} (F : Fr h₀ L g m) : KtsDicts [L] g := fun b hb => by
  obtain ⟨o, es, ep, ho, hd, _⟩ := F.ns
  rw [List.mem_singleton.mp hb]
  exact ⟨o, es, ep, ho, hd⟩
end Mine
end

section
open PySem PySem.W PySem.Calls PyProof.Rows
namespace Mine
theorem entry_unchain : entryFor table "proto.unchain" = some Builtin.«proto.unchain» := entryFor_of_tree (by kernel_rfl)
section
variable {prog : Program} {w : World} {A : Around} {E : Value → Shared → Prop} {s : Shared} {env : Env}
theorem unchain2 {n e : Value} {b : Bool} {ea : Addr} {oe : Obj} {ws : Array Value} {Q : Value → Shared → Prop} (he : s.heap.get? ea = some oe) (hd : oe.data = .fields ws) (h2 : ws[2]? = some .none) (h : Q .none s) :
    wpAny (model prog w) A (runValue (.builtin "proto.unchain" ⟨[n, .ref ea, e, .bool b], []⟩)) Q E s := by
  refine wpAny_runValue (codeAny_builtin entry_unchain ?_)
  unfold Builtin.«proto.unchain»
  refine wpAny_bind (wpAny_field he hd h2 ?_)
  rw [if_pos (show (Value.none == Value.none) = true by decide)]
  exact wpAny_pure h
theorem raiseNew_in {α : Type} {n e : Addr} {oe on : Obj} {ws vs : Array Value} {Q : α → Shared → Prop} (hh : A.handled = some (.ref e)) (hne : e ≠ n) (he : s.heap.get? e = some oe) (hd : oe.data = .fields ws) (h2 : ws[2]? = some .none)
    (hn : s.heap.get? n = some on) (hdn : on.data = .fields vs) (hsz : 2 < vs.size) (h : E (.ref n) { s with heap := s.heap.update n (Obj.mapFields (·.setIfInBounds 2 (.ref e))) }) :
    wpAny (model prog w) A (raiseNew (.ref n) : Sem α) Q E s := by
  unfold raiseNew
  refine wpAny_bind (wpAny_handled ?_)
  rw [hh]
  dsimp only
  rw [if_pos (show (Value.ref e != Value.ref n) = true by simpa using hne)]
  refine wpAny_bind (wpAny_holding (unchain2 he hd h2 ?_))
  have hu : ∀ {Q' : Unit → Shared → Prop}, Q' () { s with heap := s.heap.update n (Obj.mapFields (·.setIfInBounds 2 (.ref e))) } → wpAny (model prog w) A (updateField n 2 (.ref e)) Q' E s := fun q => wpAny_setField hn hdn hsz q
  exact wpAny_bind (hu (wpAny_throw h))
/-- an own exception made and raised where another one is handled -/
structure MadeIn (h h' : Heap) (n : Addr) (cls : Value) : Prop where
  keeps : ∀ b o, h.get? b = some o → h'.get? b = some o
  new : h.get? n = none
  there : ∃ on vs a0, h'.get? n = some on ∧ on.cls = cls ∧ on.data = .fields vs ∧ vs[0]? = some a0 ∧ vs[1]? = some .none
variable {nm q : Str} {C N : Addr} {bs bm bmB : List Value} {hdct : Bool} {sn : List Str} {sub : List Value} {ab : Bool} {col : Option Bool} {dd : Option Addr} {k0 k1 k2 k3 k5 : Option Value} {B newId initId : String}
theorem raiseStmt_in {e : Addr} {x : Sem Value} {Q : Flow → Shared → Prop} (hbase : bm.contains (.type "BaseException") = true) (hh : A.handled = some (.ref e))
    (h : wpAny (model prog w) A x (fun v s₁ => ∃ n t oe ws, v = .ref n ∧ s₁.heap.get? C = some (excClassObj nm q C N bs bm hdct sn sub ab col dd k0 k1 k2 k3 k5 newId) ∧ s₁.heap.get? e = some oe ∧ oe.data = .fields ws ∧ ws[2]? = some .none ∧ e ≠ n ∧
      s₁.heap.get? n = some { cls := .ref C, data := .fields #[.ref t, .none, .none, .none, .bool false, .none] } ∧ E (.ref n) { s₁ with heap := s₁.heap.update n (Obj.mapFields (·.setIfInBounds 2 (.ref e))) }) E s) :
    wpAny (model prog w) A (raiseStmt env (some x) none) Q E s := by
  have hcB : (Value.ref C :: bm).contains (.type "BaseException") = true := by rw [List.contains_cons, hbase, Bool.or_true]
  unfold raiseStmt
  refine wpAny_bind (wpAny_mono h (fun v s₁ h₁ => ?_) fun _ _ x => x)
  obtain ⟨n, t, oe, ws, rfl, hC, he, hd, h2, hne, hn, hE⟩ := h₁
  obtain ⟨hp, g, d, tk, os⟩ := s₁
  repeat (first | with_reducible refine wpAny_loadPart_at hn ?_ | with_reducible refine wpAny_loadPart_at hC ?_ | (with_reducible refine wpAny_isSubtype_exc hC ?_; rw [hcB]) | wp_step)
  exact raiseNew_in hh hne he hd h2 hn rfl (by simp) hE
end
section
variable {prog : Program} {w : World} {A : Around} {E : Value → Shared → Prop} {s : Shared} {name : Str} {scope : Scope} {L a : Addr} {cd : Value} {h₀ : Heap} {m mg : Str → Option Value}
  {x : Str} {C e : Addr} {B newId initId : String} {bm : List Value} {np cpos pos : Pos} {Q : Flow → Shared → Prop} {oe : Obj} {ws : Array Value}
theorem Raise_in {e₀ : Expr} (F : Fr h₀ L s.heap m) (hg : h₀.Ns mainGlobals mg) (O : OwnCls x C bm newId mg h₀) (FB : ExcBaseFacts B newId initId bm) (hh : A.handled = some (.ref e))
    (h : wpAny (model prog w) A (eval e₀ (envOf name scope L a cd)) (fun v s₂ => (∀ b o, h₀.get? b = some o → s₂.heap.get? b = some o) ∧ (s₂.heap.get? e = some oe ∧ oe.data = .fields ws ∧ ws[2]? = some .none) ∧
      ∀ h' n, MadeIn s₂.heap h' n (.ref C) → E (.ref n) { s₂ with heap := h' }) E s)
    (he : starEach [e₀] (envOf name scope L a cd) = [(false, eval e₀ (envOf name scope L a cd))] := by rfl)
    (hk : scope.kind = .function := by rfl) (hx : (envOf name scope L a cd).kindOf x = some .globalImplicit := by rfl) (hd : (x == ("__debug__" : Str)) = false := by decide) :
    wpAny (model prog w) A (exec (.Raise (some (.Call (.Name x np) [e₀] [] cpos)) none pos) (envOf name scope L a cd)) Q E s := by
  obtain ⟨tl, N, nm, q, bs, hdct, sn, sub, ab, col, dd, k0, k1, k2, k3, k5, mN, hC, hN, hni, T⟩ := O.obj
  rw [arm_exec_Raise]
  refine wpAny_bind (wpAny_standAt (raiseStmt_in (C := C) (e := e) (nm := nm) (q := q) (N := N) (bs := bs) (bm := tl) (hdct := hdct) (sn := sn) (sub := sub) (ab := ab) (col := col) (dd := dd) (k0 := k0) (k1 := k1) (k2 := k2) (k3 := k3) (k5 := k5) (newId := newId) (T.hasType FB.hasBase) hh ?_))
  refine wpAny_bind (wpAny_mono (wpAny_Call_ofName (ld_own F hg O ?_ hk hx hd)) (fun v s₃ h₃ => wpAny_bind (wpAny_standAt (wpAny_pure h₃))) fun _ _ x => x)
  unfold callWith
  rw [he]
  refine wpAny_bind (wpAny_holding ?_)
  refine Calls.evalArgs_plain (Calls.spliced_cons (wpAny_mono h (fun v s₂ h₂ => Calls.spliced_nil (wpAny_bind (wpAny_standAt ?_))) fun _ _ x => x))
  obtain ⟨hk2, ⟨hy, hyd, hy2⟩, h₂⟩ := h₂
  obtain ⟨hp, g, d, tk, os⟩ := s₂
  refine wpAny_bind (wpAny_keeperOf_exc (hk2 _ _ hC) ?_)
  refine wpAny_bind (wpAny_call_exc_subT (hrest := by size_fits) FB (T.keeps hk2) (hk2 _ _ hC) (hN.keeps hk2) hni fun h' n hm => wpAny_bind (wpAny_holding (wpAny_point (wpAny_pure ?_))))
  obtain ⟨t, ht, _, _⟩ := hm.there
  have hne : e ≠ n := fun z => by rw [z, hm.new] at hy; cases hy
  refine ⟨n, t, oe, ws, rfl, hm.keeps _ _ (hk2 _ _ hC), hm.keeps _ _ hy, hyd, hy2, hne, ht, h₂ _ n ⟨fun b o qb => ?_, hm.new, _, _, .ref t, Heap.get?_update_self _ ht rfl, rfl, rfl, rfl, rfl⟩⟩
  rw [Heap.get?_update_other _ _ (fun z : n = b => by rw [← z, hm.new] at qb; cases qb)]
  exact hm.keeps _ _ qb
end
section
variable {M : Model} {A : Around} {E : Value → Shared → Prop} {s' : Shared} {base g g₂ h : Heap} {outer : List Env} {L a e : Addr} {m : Str → Option Value} {name : Str} {scope : Scope} {cd : Value} {Q : Unit → Shared → Prop}
theorem leave_in {cls : Value} (K : Below A base outer g) (hx : MadeIn h s'.heap e cls) (F : Fr g L h m)
    (hQ : ∀ h', RaisedSN base g outer e cls [] h' → g.UpToSlots h' → Q () { s' with heap := h' }) (hk : scope.kind = .function := by rfl) :
    wpAny M (A.deeper (envOf name scope L a cd)) (leaving (envOf name scope L a cd) (.ref e)) Q E s' := by
  obtain ⟨st, sh, ff⟩ := out_first (name := name) (scope := scope) (a := a) (cd := cd) K F hx.keeps hk
  obtain ⟨on, vs, a0, ht, hc, hd, h0, h1⟩ := hx.there
  subst hc
  refine wpAny_leaving_firstW (a0 := a0) (Around.frames_deeper K.stack) ff rfl ht sh (hide_none hx.new) hd h1 h0 fun h' hL => ?_
  obtain ⟨k1, ⟨_, _, k2⟩, k3, k4⟩ := hL
  refine hQ h' ⟨_, a0, st, fun b o q nm => ground_hides F q nm, fun q hq => (nomatch hq), ⟨k1, hide_none hx.new, k2, k3⟩⟩ ?_
  exact ((Heap.UpToSlots.of_keeps F.keep).trans (Heap.UpToSlots.of_keeps hx.keeps)).trans k4
end
end Mine
end

section
open PySem PySem.W PySem.Calls PyProof.Rows
namespace Mine
local macro_rules | `(tactic| k_room) => `(tactic| ktr_room)
local macro_rules | `(tactic| walk_at "call ref") => `(tactic| (k_here; (with_reducible show wpAny _ _ (call (Value.ref 426) _) _ _ _); k_dflt (refine' read_spec ?k1 ?k2 ?k3 ?k4 ?kK ?kd ?ku ?k5 ?k6 ?k7 ?k8 ?k9 ?k10 ?_; (case k1 => k_asm); (case k2 => k_asm); (case k3 => k_asm); (case k4 => k_asm); (case kK => exact rfl); (case k5 => k_asm); (case kd => ktr_room); (case ku => ktr_units); (case k6 => assumption); (case k7 => assumption); (case k8 => assumption); (case k9 => omega); (case k10 => omega); k_whole); intro t9 tp9 h' tk' F' N' hk9; (try k_sweep)))
local macro_rules | `(tactic| walk_at "call ref") => `(tactic| (k_here; (with_reducible show wpAny _ _ (call (Value.ref 426) _) _ _ _); k_dflt (refine' read_eof ?k1 ?k2 ?k3 ?k4 ?kK ?kd ?ku ?k5 ?k6 ?k7 ?k8 ?k9 ?k10 ?_; (case k1 => k_asm); (case k2 => k_asm); (case k3 => k_asm); (case k4 => k_asm); (case kK => exact rfl); (case k5 => k_asm); (case kd => ktr_room); (case ku => ktr_units); (case k6 => assumption); (case k7 => assumption); (case k8 => assumption); (case k9 => omega); (case k10 => omega); k_whole); intro t9 h' tk' F' N' hk9; (try k_sweep)))
local macro_rules | `(tactic| walk_at "binaryOp LShift int int") => `(tactic| (refine lshift_int_small ?h1 ?h2 ?h3 ?_; (case h1 => omega); (case h2 => omega); (case h3 => first | exact and127_small _ | decide)))
theorem fail_turn {g' : Heap} {L' x dx ba : Addr} {s0 : Shared} {P : Params} {bf : Array UInt8} {pp : Int} {t1 t2 tpi tpj tv ts tv' ts' : Tok} {m₀ m' : Str → Option Value} {gs : List Int} {i k : Nat} {e : Int} {h' : Heap} {tk : Nat}
    (FZ : Fr g' L' h' m') (NZ : News g' L' h' (strm P x dx ba bf (pp + (i : Int) + 1) t1 t2 tpj)) (hg : ∀ g ∈ gs, 0 ≤ g ∧ g < 128) (hi : i < k) (hk : k < gs.length) (he : e = (encL gs).getD i 0)
    (h1 : m' (Str.ofString "value") = some (Value.int (Builtin.bitOr (uv (gs.take i)) (Builtin.bitAnd e 127 * 2 ^ (7 * (i : Int)).toNat)) tv')) (h2 : m' (Str.ofString "shift") = some (Value.int (7 * (i : Int) + 7) ts'))
    (h3 : ∀ z, z ≠ Str.ofString "value" → z ≠ Str.ofString "shift" → z ≠ Str.ofString "data" → z ≠ Str.ofString "b" → m' z = m₀ z) :
    KswEnd g' L' s0 (parLed P x dx ba bf pp t1 t2) (parPs gs) (fun _ => True) [Str.ofString "data", Str.ofString "b"] m₀ (fun c => c.1 ≤ k) (fun c => k - c.1) (i, tpi, tv, ts) { s0 with heap := h', toks := tk } := by
  have e1 : pp + (i : Int) + 1 = pp + ((i + 1 : Nat) : Int) := by omega
  rw [e1] at NZ
  refine ksw_end (i + 1, tpj, tv', ts') FZ NZ (fun p hp => hp) trivial ?_ ?_ ?_ ?_
  · refine parPs_of ?_ ?_
    · rw [h1, par_val hg (by omega) he]
    · rw [h2]
      show _ = some (Value.int (7 * ((i + 1 : Nat) : Int)) ts')
      rw [show 7 * ((i + 1 : Nat) : Int) = 7 * (i : Int) + 7 by omega]
  · intro z ha hb
    simp only [List.contains_cons, List.contains_nil, Bool.or_false, Bool.or_eq_false_iff, beq_eq_false_iff_ne, ne_eq] at hb
    exact h3 z (ha _ (List.mem_cons_self ..)) (ha _ (List.mem_cons_of_mem _ (List.mem_cons_self ..))) hb.1 hb.2
  · show i + 1 ≤ k
    omega
  · show k - (i + 1) < k - i
    omega
local macro_rules | `(tactic| walk_at "leaving ref") => `(tactic| (k_here; (refine' leave_raise2 ?k1 ?k0 ?k2 ?_; (case k0 => assumption); (case k2 => assumption); (case k1 => assumption); k_whole; intro h' R' U'; (try dsimp only at R' U' ⊢))))
set_option maxHeartbeats 8000000 in
theorem uleb_fail {prog : Program} {w : World} {p : Program} {loose : List Str} {mean : ExcName → Option Value} {mg mb : Str → Option Value}
    {dp un : Nat} {gd : Option (List Code)} {cn : Str} {cs : Scope} {a : Addr} {ccd : Value} {cl : List (Str × Addr)} {outer : List Env} {A₀ : Around} {base h₀ : Heap} {L : Addr} {m : Str → Option Value} {s : Shared} {Q E : Value → Shared → Prop}
    {x dx ba : Addr} {bf : Array UInt8} {pp : Int} {t1 t2 tp : Tok} {slf ctx : Value} {gs : List Int} {k : Nat}
    (B : Below A₀ base outer h₀) (F : Fr h₀ L s.heap m) (X : (frag.heap_1 w.params).In h₀) (T : Top p loose mean mg mb h₀) (hk : cs.kind = .function) (hdp : dp + 3 < recursionLimit) (hun : un + 24 < cLine)
    (N : News h₀ L s.heap (strm w.params x dx ba bf pp t1 t2 tp)) (hx : @LT.lt Nat _ dx x) (hb : @LT.lt Nat _ x ba) (hz : bf.size ≤ 16777216) (hp : 0 ≤ pp) (hlt : (bf.size : Int) = pp + k) (hk2 : k < gs.length)
    (hS : ∀ i, i < k → ((bf.getD (pp + (i : Int)).toNat 0).toNat : Int) = (encL gs).getD i 0) (hg : ∀ g ∈ gs, 0 ≤ g ∧ g < 128) (hl1 : 1 ≤ gs.length) (hl2 : gs.length ≤ 32)
    (fail : ∀ e g₂ h' tk, Fr h₀ L g₂ m → Rz base g₂ (envX cn cs L a ccd cl :: outer) e (.ref 185) h' → g₂.UpToSlots h' → E (.ref e) { s with heap := h', toks := tk }) :
    wpAny (model prog w) (ktrTop dp un gd cn cs L a ccd cl outer) (call (.ref 889) [slf, .ref x, ctx]) Q E s := by
  refine wpAny_call ?_
  k_dflt (refine' call_defK ?k1 ?k2 ?k3 ?k4 ?k5 ?kA ?kF ?kK ?k6 ?k7 ?k8 ?k9 ?kB ?_ ?c2 ?c3 ?c4 ?c5)
  case k1 => k_asm
  case k2 => k_asm
  case k3 => k_asm
  case k4 => k_asm
  case k5 => k_asm
  case kA => exact rfl
  case kF => exact rfl
  case kK => assumption
  case k6 => k_is
  case k7 => k_is
  case k8 => ktr_room
  case k9 => first | exact BindsTo.of_eq rfl | exact binds_K (by k_in) rfl (by k_is) rfl rfl rfl
  case kB => exact locs rfl
  case c2 => exact rfl
  case c3 => exact rfl
  case c4 => exact rfl
  case c5 => decide
  intro g' L' h' FG' F' N' B' X' T' hkeep
  (try dsimp only)
  (try k_fold)
  repeat' ((fail_if_success (with_reducible show wpAny _ _ (exec (Stmt.While _ _ _ _) _) _ _ _)); first | (k_unfold; (try dsimp only)) | (k_end; wrow_close) | walk1 | (dsimp only; walk1) | (leave1; walk_say "STEP leave1"; try dsimp only) | fail "no step")
  (with_reducible rename Fr g' L' _ _ => FW); (with_reducible rename News g' L' _ _ => NW)
  refine' ksw_while (parLed w.params x dx ba bf pp t1 t2) (parPs gs) (fun _ => True) [Str.ofString "data", Str.ofString "b"] (fun c => c.1 ≤ k) (fun c => k - c.1) (0, tp, _, _) FW ?h1 trivial ?h2 (Nat.zero_le _) ?h3
  case h2 =>
    intro q hq
    rcases List.mem_cons.mp hq with rfl | hq
    · rfl
    · rw [List.mem_singleton.mp hq]
      show _ = some (Value.int (7 * ((0 : Nat) : Int)) _)
      rw [show (7 : Int) * ((0 : Nat) : Int) = 0 from rfl]
      rfl
  case h1 =>
    show News g' L' _ (strm w.params x dx ba bf (pp + ((0 : Nat) : Int)) t1 t2 tp)
    rw [show pp + ((0 : Nat) : Int) = pp by omega]
    exact NW
  clear FW NW
  rintro ⟨i, tpi, tv, ts⟩ u hh tk - hi F1 N1
  dsimp only at hi F1 N1 ⊢
  show wpAny _ _ _ _ _ _
  rcases Nat.lt_or_ge i k with hik | hik
  · k_fold
    k_steps
    · exact absurd rfl (show (((#[bf.getD (pp + (i : Int)).toNat 0] : Array UInt8).size : Nat) : Int) ≠ 1 by assumption)
    · have hl : i + 1 = gs.length := (par_last hg (by omega) (hS i hik)).mp (by assumption)
      omega
    · (with_reducible rename Fr g' L' _ _ => FZ); (with_reducible rename News g' L' _ _ => NZ)
      refine fail_turn FZ NZ hg hik hk2 (hS i hik) rfl rfl ?_
      intro z a1 a2 a3 a4
      simp only [a1, a2, a3, a4, if_false, kstB]
      exact if_neg (by simp [a3, a4])
  · k_fold
    k_steps
    (rename Rz _ _ _ _ _ _ => RZ)
    (rename Heap.UpToSlots g' _ => UZ)
    exact fail _ _ _ _ FG' RZ UZ
set_option maxHeartbeats 8000000 in
theorem sleb_fail {prog : Program} {w : World} {p : Program} {loose : List Str} {mean : ExcName → Option Value} {mg mb : Str → Option Value}
    {dp un : Nat} {gd : Option (List Code)} {cn : Str} {cs : Scope} {a : Addr} {ccd : Value} {cl : List (Str × Addr)} {outer : List Env} {A₀ : Around} {base h₀ : Heap} {L : Addr} {m : Str → Option Value} {s : Shared} {Q E : Value → Shared → Prop}
    {x dx ba : Addr} {bf : Array UInt8} {pp : Int} {t1 t2 tp : Tok} {slf ctx : Value} {gs : List Int} {k : Nat}
    (B : Below A₀ base outer h₀) (F : Fr h₀ L s.heap m) (X : (frag.heap_1 w.params).In h₀) (T : Top p loose mean mg mb h₀) (hk : cs.kind = .function) (hdp : dp + 3 < recursionLimit) (hun : un + 24 < cLine)
    (N : News h₀ L s.heap (strm w.params x dx ba bf pp t1 t2 tp)) (hx : @LT.lt Nat _ dx x) (hb : @LT.lt Nat _ x ba) (hz : bf.size ≤ 16777216) (hp : 0 ≤ pp) (hlt : (bf.size : Int) = pp + k) (hk2 : k < gs.length)
    (hS : ∀ i, i < k → ((bf.getD (pp + (i : Int)).toNat 0).toNat : Int) = (encL gs).getD i 0) (hg : ∀ g ∈ gs, 0 ≤ g ∧ g < 128) (hl1 : 1 ≤ gs.length) (hl2 : gs.length ≤ 32)
    (fail : ∀ e g₂ h' tk, Fr h₀ L g₂ m → Rz base g₂ (envX cn cs L a ccd cl :: outer) e (.ref 185) h' → g₂.UpToSlots h' → E (.ref e) { s with heap := h', toks := tk }) :
    wpAny (model prog w) (ktrTop dp un gd cn cs L a ccd cl outer) (call (.ref 908) [slf, .ref x, ctx]) Q E s := by
  refine wpAny_call ?_
  k_dflt (refine' call_defK ?k1 ?k2 ?k3 ?k4 ?k5 ?kA ?kF ?kK ?k6 ?k7 ?k8 ?k9 ?kB ?_ ?c2 ?c3 ?c4 ?c5)
  case k1 => k_asm
  case k2 => k_asm
  case k3 => k_asm
  case k4 => k_asm
  case k5 => k_asm
  case kA => exact rfl
  case kF => exact rfl
  case kK => assumption
  case k6 => k_is
  case k7 => k_is
  case k8 => ktr_room
  case k9 => first | exact BindsTo.of_eq rfl | exact binds_K (by k_in) rfl (by k_is) rfl rfl rfl
  case kB => exact locs rfl
  case c2 => exact rfl
  case c3 => exact rfl
  case c4 => exact rfl
  case c5 => decide
  intro g' L' h' FG' F' N' B' X' T' hkeep
  (try dsimp only)
  (try k_fold)
  repeat' ((fail_if_success (with_reducible show wpAny _ _ (exec (Stmt.While _ _ _ _) _) _ _ _)); first | (k_unfold; (try dsimp only)) | (k_end; wrow_close) | walk1 | (dsimp only; walk1) | (leave1; walk_say "STEP leave1"; try dsimp only) | fail "no step")
  (with_reducible rename Fr g' L' _ _ => FW); (with_reducible rename News g' L' _ _ => NW)
  refine' ksw_while (parLed w.params x dx ba bf pp t1 t2) (parPs gs) (fun _ => True) [Str.ofString "data", Str.ofString "b"] (fun c => c.1 ≤ k) (fun c => k - c.1) (0, tp, _, _) FW ?h1 trivial ?h2 (Nat.zero_le _) ?h3
  case h2 =>
    intro q hq
    rcases List.mem_cons.mp hq with rfl | hq
    · rfl
    · rw [List.mem_singleton.mp hq]
      show _ = some (Value.int (7 * ((0 : Nat) : Int)) _)
      rw [show (7 : Int) * ((0 : Nat) : Int) = 0 from rfl]
      rfl
  case h1 =>
    show News g' L' _ (strm w.params x dx ba bf (pp + ((0 : Nat) : Int)) t1 t2 tp)
    rw [show pp + ((0 : Nat) : Int) = pp by omega]
    exact NW
  clear FW NW
  rintro ⟨i, tpi, tv, ts⟩ u hh tk - hi F1 N1
  dsimp only at hi F1 N1 ⊢
  show wpAny _ _ _ _ _ _
  rcases Nat.lt_or_ge i k with hik | hik
  · k_fold
    k_steps
    · exact absurd rfl (show (((#[bf.getD (pp + (i : Int)).toNat 0] : Array UInt8).size : Nat) : Int) ≠ 1 by assumption)
    · have hl : i + 1 = gs.length := (par_last hg (by omega) (hS i hik)).mp (by assumption)
      omega
    · have hl : i + 1 = gs.length := (par_last hg (by omega) (hS i hik)).mp (by assumption)
      omega
    · (with_reducible rename Fr g' L' _ _ => FZ); (with_reducible rename News g' L' _ _ => NZ)
      refine fail_turn FZ NZ hg hik hk2 (hS i hik) rfl rfl ?_
      intro z a1 a2 a3 a4
      simp only [a1, a2, a3, a4, if_false, kstB]
      exact if_neg (by simp [a3, a4])
  · k_fold
    k_steps
    (rename Rz _ _ _ _ _ _ => RZ)
    (rename Heap.UpToSlots g' _ => UZ)
    exact fail _ _ _ _ FG' RZ UZ
end Mine
end

section
open PySem PySem.W PySem.Calls PyProof.Rows
namespace Mine
theorem ledger_back {h₀ h h' : Heap} {L dx : Addr} {o o' : Obj} {news sub' : List (Addr × Obj)} {g : Obj → List (Addr × Obj)} {ads : List Addr}
    (N : News h₀ L h news) (U : UpdF dx o news g) (N' : News h₀ L h' sub') (ho' : (dx, o') ∈ sub') (kp : ∀ b y, h.get? b = some y → b ∉ ads → h'.get? b = some y)
    (hm : ∀ b ∈ ads, b = dx ∨ ∃ ob, (b, ob) ∈ news ∧ (b, ob) ∈ sub') : News h₀ L h' (g o') := by
  obtain ⟨pre, post, e, hg, h1, h2⟩ := U.split
  rw [hg]
  have key : ∀ p ∈ news, p.1 ≠ dx → h'.get? p.1 = some p.2 ∧ p.1 ≠ L ∧ h₀.get? p.1 = none := by
    intro p hp hne
    refine ⟨?_, (N p hp).2⟩
    by_cases hb : p.1 ∈ ads
    · rcases hm _ hb with q | ⟨ob, m1, m2⟩
      · exact absurd q hne
      · have e1 := (N _ m1).1
        have e2 := (N p hp).1
        have e3 : ob = p.2 := Option.some.inj (e1.symm.trans e2)
        rw [← e3]
        exact (N' _ m2).1
    · exact kp _ _ (N p hp).1 hb
  intro p hp
  rcases List.mem_append.mp hp with hp | hp
  · exact key p (e ▸ List.mem_append.mpr (.inl hp)) (h1 p hp)
  · rcases List.mem_cons.mp hp with rfl | hp
    · exact N' _ ho'
    · exact key p (e ▸ List.mem_append.mpr (.inr (.tail _ hp))) (h2 p hp)
theorem uleb_any {prog : Program} {w : World} {p : Program} {loose : List Str} {mean : ExcName → Option Value} {mg mb : Str → Option Value}
    {dp un : Nat} {gd : Option (List Code)} {cn : Str} {cs : Scope} {a : Addr} {ccd : Value} {cl : List (Str × Addr)} {outer : List Env} {A₀ : Around} {base h₀ : Heap} {L : Addr} {m : Str → Option Value} {s : Shared} {Q E : Value → Shared → Prop}
    {x dx ba : Addr} {bf : Array UInt8} {pp : Int} {t1 t2 tp : Tok} {slf ctx : Value} {gs : List Int} {news : List (Addr × Obj)} {g : Obj → List (Addr × Obj)}
    (B : Below A₀ base outer h₀) (F : Fr h₀ L s.heap m) (X : (frag.heap_1 w.params).In h₀) (T : Top p loose mean mg mb h₀) (hk : cs.kind = .function) (hdp : dp + 3 < recursionLimit) (hun : un + 24 < cLine)
    (N : News h₀ L s.heap news) (mx : (x, instObj 502 dx) ∈ news) (U : UpdF dx (strD w.params ba pp t1 t2 tp) news g) (mb : (ba, baObj bf) ∈ news) (hx : @LT.lt Nat _ dx x) (hb : @LT.lt Nat _ x ba) (hz : bf.size ≤ 16777216) (hp : 0 ≤ pp) (hlt : pp + gs.length ≤ bf.size)
    (hS : Says bf pp gs) (hg : ∀ g ∈ gs, 0 ≤ g ∧ g < 128) (hl1 : 1 ≤ gs.length) (hl2 : gs.length ≤ 32)
    (ret : ∀ t tp' h' tk, Fr h₀ L h' m → News h₀ L h' (g (strD w.params ba (pp + gs.length) t1 t2 tp')) → Q (.int (uv gs) t) { s with heap := h', toks := tk }) :
    wpAny (model prog w) (ktrTop dp un gd cn cs L a ccd cl outer) (call (.ref 889) [slf, .ref x, ctx]) Q E s := by
  have md : (dx, strD w.params ba pp t1 t2 tp) ∈ news := by
    obtain ⟨pre, post, e, _⟩ := U.split
    rw [e]
    exact List.mem_append.mpr (.inr (.head _))
  have N1 : News h₀ L s.heap (strm w.params x dx ba bf pp t1 t2 tp) := by
    intro p hp
    rcases List.mem_cons.mp hp with rfl | hp
    · exact N _ mx
    · rcases List.mem_cons.mp hp with rfl | hp
      · exact N _ md
      · rw [List.mem_singleton.mp hp]
        exact N _ mb
  refine uleb_spec B F X T hk hdp hun N1 hx hb hz hp hlt hS hg hl1 hl2 fun t tp' h' tk F' N' kp => ret t tp' h' tk F' (ledger_back N U N' (.tail _ (.head _)) kp ?_)
  intro b hb'
  rcases List.mem_cons.mp hb' with rfl | hb'
  · exact .inr ⟨_, mx, .head _⟩
  · rcases List.mem_cons.mp hb' with rfl | hb'
    · exact .inl rfl
    · rw [List.mem_singleton.mp hb']
      exact .inr ⟨_, mb, .tail _ (.tail _ (.head _))⟩
theorem sleb_any {prog : Program} {w : World} {p : Program} {loose : List Str} {mean : ExcName → Option Value} {mg mb : Str → Option Value}
    {dp un : Nat} {gd : Option (List Code)} {cn : Str} {cs : Scope} {a : Addr} {ccd : Value} {cl : List (Str × Addr)} {outer : List Env} {A₀ : Around} {base h₀ : Heap} {L : Addr} {m : Str → Option Value} {s : Shared} {Q E : Value → Shared → Prop}
    {x dx ba : Addr} {bf : Array UInt8} {pp : Int} {t1 t2 tp : Tok} {slf ctx : Value} {gs : List Int} {news : List (Addr × Obj)} {g : Obj → List (Addr × Obj)}
    (B : Below A₀ base outer h₀) (F : Fr h₀ L s.heap m) (X : (frag.heap_1 w.params).In h₀) (T : Top p loose mean mg mb h₀) (hk : cs.kind = .function) (hdp : dp + 3 < recursionLimit) (hun : un + 24 < cLine)
    (N : News h₀ L s.heap news) (mx : (x, instObj 502 dx) ∈ news) (U : UpdF dx (strD w.params ba pp t1 t2 tp) news g) (mb : (ba, baObj bf) ∈ news) (hx : @LT.lt Nat _ dx x) (hb : @LT.lt Nat _ x ba) (hz : bf.size ≤ 16777216) (hp : 0 ≤ pp) (hlt : pp + gs.length ≤ bf.size)
    (hS : Says bf pp gs) (hg : ∀ g ∈ gs, 0 ≤ g ∧ g < 128) (hl1 : 1 ≤ gs.length) (hl2 : gs.length ≤ 32)
    (ret : ∀ t tp' h' tk, Fr h₀ L h' m → News h₀ L h' (g (strD w.params ba (pp + gs.length) t1 t2 tp')) → Q (.int (sv gs) t) { s with heap := h', toks := tk }) :
    wpAny (model prog w) (ktrTop dp un gd cn cs L a ccd cl outer) (call (.ref 908) [slf, .ref x, ctx]) Q E s := by
  have md : (dx, strD w.params ba pp t1 t2 tp) ∈ news := by
    obtain ⟨pre, post, e, _⟩ := U.split
    rw [e]
    exact List.mem_append.mpr (.inr (.head _))
  have N1 : News h₀ L s.heap (strm w.params x dx ba bf pp t1 t2 tp) := by
    intro p hp
    rcases List.mem_cons.mp hp with rfl | hp
    · exact N _ mx
    · rcases List.mem_cons.mp hp with rfl | hp
      · exact N _ md
      · rw [List.mem_singleton.mp hp]
        exact N _ mb
  refine sleb_spec B F X T hk hdp hun N1 hx hb hz hp hlt hS hg hl1 hl2 fun t tp' h' tk F' N' kp => ret t tp' h' tk F' (ledger_back N U N' (.tail _ (.head _)) kp ?_)
  intro b hb'
  rcases List.mem_cons.mp hb' with rfl | hb'
  · exact .inr ⟨_, mx, .head _⟩
  · rcases List.mem_cons.mp hb' with rfl | hb'
    · exact .inl rfl
    · rw [List.mem_singleton.mp hb']
      exact .inr ⟨_, mb, .tail _ (.tail _ (.head _))⟩
theorem uleb_failany {prog : Program} {w : World} {p : Program} {loose : List Str} {mean : ExcName → Option Value} {mg mb : Str → Option Value}
    {dp un : Nat} {gd : Option (List Code)} {cn : Str} {cs : Scope} {a : Addr} {ccd : Value} {cl : List (Str × Addr)} {outer : List Env} {A₀ : Around} {base h₀ : Heap} {L : Addr} {m : Str → Option Value} {s : Shared} {Q E : Value → Shared → Prop}
    {x dx ba : Addr} {bf : Array UInt8} {pp : Int} {t1 t2 tp : Tok} {slf ctx : Value} {gs : List Int} {k : Nat} {news : List (Addr × Obj)}
    (B : Below A₀ base outer h₀) (F : Fr h₀ L s.heap m) (X : (frag.heap_1 w.params).In h₀) (T : Top p loose mean mg mb h₀) (hk : cs.kind = .function) (hdp : dp + 3 < recursionLimit) (hun : un + 24 < cLine)
    (N : News h₀ L s.heap news) (mx : (x, instObj 502 dx) ∈ news) (md : (dx, strD w.params ba pp t1 t2 tp) ∈ news) (mb : (ba, baObj bf) ∈ news) (hx : @LT.lt Nat _ dx x) (hb : @LT.lt Nat _ x ba) (hz : bf.size ≤ 16777216) (hp : 0 ≤ pp) (hlt : (bf.size : Int) = pp + k) (hk2 : k < gs.length)
    (hS : ∀ i, i < k → ((bf.getD (pp + (i : Int)).toNat 0).toNat : Int) = (encL gs).getD i 0) (hg : ∀ g ∈ gs, 0 ≤ g ∧ g < 128) (hl1 : 1 ≤ gs.length) (hl2 : gs.length ≤ 32)
    (fail : ∀ e g₂ h' tk, Fr h₀ L g₂ m → Rz base g₂ (envX cn cs L a ccd cl :: outer) e (.ref 185) h' → g₂.UpToSlots h' → E (.ref e) { s with heap := h', toks := tk }) :
    wpAny (model prog w) (ktrTop dp un gd cn cs L a ccd cl outer) (call (.ref 889) [slf, .ref x, ctx]) Q E s := by
  have N1 : News h₀ L s.heap (strm w.params x dx ba bf pp t1 t2 tp) := by
    intro p hp
    rcases List.mem_cons.mp hp with rfl | hp
    · exact N _ mx
    · rcases List.mem_cons.mp hp with rfl | hp
      · exact N _ md
      · rw [List.mem_singleton.mp hp]
        exact N _ mb
  exact uleb_fail B F X T hk hdp hun N1 hx hb hz hp hlt hk2 hS hg hl1 hl2 fail
theorem sleb_failany {prog : Program} {w : World} {p : Program} {loose : List Str} {mean : ExcName → Option Value} {mg mb : Str → Option Value}
    {dp un : Nat} {gd : Option (List Code)} {cn : Str} {cs : Scope} {a : Addr} {ccd : Value} {cl : List (Str × Addr)} {outer : List Env} {A₀ : Around} {base h₀ : Heap} {L : Addr} {m : Str → Option Value} {s : Shared} {Q E : Value → Shared → Prop}
    {x dx ba : Addr} {bf : Array UInt8} {pp : Int} {t1 t2 tp : Tok} {slf ctx : Value} {gs : List Int} {k : Nat} {news : List (Addr × Obj)}
    (B : Below A₀ base outer h₀) (F : Fr h₀ L s.heap m) (X : (frag.heap_1 w.params).In h₀) (T : Top p loose mean mg mb h₀) (hk : cs.kind = .function) (hdp : dp + 3 < recursionLimit) (hun : un + 24 < cLine)
    (N : News h₀ L s.heap news) (mx : (x, instObj 502 dx) ∈ news) (md : (dx, strD w.params ba pp t1 t2 tp) ∈ news) (mb : (ba, baObj bf) ∈ news) (hx : @LT.lt Nat _ dx x) (hb : @LT.lt Nat _ x ba) (hz : bf.size ≤ 16777216) (hp : 0 ≤ pp) (hlt : (bf.size : Int) = pp + k) (hk2 : k < gs.length)
    (hS : ∀ i, i < k → ((bf.getD (pp + (i : Int)).toNat 0).toNat : Int) = (encL gs).getD i 0) (hg : ∀ g ∈ gs, 0 ≤ g ∧ g < 128) (hl1 : 1 ≤ gs.length) (hl2 : gs.length ≤ 32)
    (fail : ∀ e g₂ h' tk, Fr h₀ L g₂ m → Rz base g₂ (envX cn cs L a ccd cl :: outer) e (.ref 185) h' → g₂.UpToSlots h' → E (.ref e) { s with heap := h', toks := tk }) :
    wpAny (model prog w) (ktrTop dp un gd cn cs L a ccd cl outer) (call (.ref 908) [slf, .ref x, ctx]) Q E s := by
  have N1 : News h₀ L s.heap (strm w.params x dx ba bf pp t1 t2 tp) := by
    intro p hp
    rcases List.mem_cons.mp hp with rfl | hp
    · exact N _ mx
    · rcases List.mem_cons.mp hp with rfl | hp
      · exact N _ md
      · rw [List.mem_singleton.mp hp]
        exact N _ mb
  exact sleb_fail B F X T hk hdp hun N1 hx hb hz hp hlt hk2 hS hg hl1 hl2 fail
end Mine
end

section
open PySem PySem.W PySem.Calls PyProof.Rows
namespace Mine
abbrev conO (C d : Addr) (nm : Str) (t : Tok) : Obj := { cls := .ref C, dict := some d, slots := #[some (.int 0 1100), some (.str nm t)] }
abbrev conL (C y dy : Addr) (nm : Str) (t : Tok) : List (Addr × Obj) := [(y, conO C dy nm t), (dy, dictOf [] 0)]
local macro_rules | `(tactic| k_room) => `(tactic| ktr_room)
local macro_rules | `(tactic| walk_at "call ref") => `(tactic| (k_here; (with_reducible show wpAny _ _ (call (Value.ref 889) _) _ _ _); k_dflt (refine' uleb_any (gs := _) ?k1 ?k2 ?k3 ?k4 ?kK ?kd ?ku ?k5 ?k6 ?k7 ?k8 ?k9 ?k10 ?k11 ?k12 ?k13 ?k14 ?k15 ?k16 ?k17 ?_; (case k1 => k_asm); (case k2 => k_asm); (case k3 => k_asm); (case k4 => k_asm); (case kK => exact rfl); (case k5 => k_asm); (case k6 => k_mem); (case k7 => k_updF); (case k8 => k_mem); (case kd => ktr_room); (case ku => ktr_units); (case k9 => assumption); (case k10 => assumption); (case k11 => assumption); (case k12 => assumption); (case k13 => assumption); (case k14 => assumption); (case k15 => assumption); (case k16 => assumption); (case k17 => assumption); k_whole); intro t9 tp9 h' tk' F' N'; (try dsimp only at N'); (try k_sweep)))
local macro_rules | `(tactic| walk_at "call ref") => `(tactic| (k_here; (with_reducible show wpAny _ _ (call (Value.ref 908) _) _ _ _); k_dflt (refine' sleb_any (gs := _) ?k1 ?k2 ?k3 ?k4 ?kK ?kd ?ku ?k5 ?k6 ?k7 ?k8 ?k9 ?k10 ?k11 ?k12 ?k13 ?k14 ?k15 ?k16 ?k17 ?_; (case k1 => k_asm); (case k2 => k_asm); (case k3 => k_asm); (case k4 => k_asm); (case kK => exact rfl); (case k5 => k_asm); (case k6 => k_mem); (case k7 => k_updF); (case k8 => k_mem); (case kd => ktr_room); (case ku => ktr_units); (case k9 => assumption); (case k10 => assumption); (case k11 => assumption); (case k12 => assumption); (case k13 => assumption); (case k14 => assumption); (case k15 => assumption); (case k16 => assumption); (case k17 => assumption); k_whole); intro t9 tp9 h' tk' F' N'; (try dsimp only at N'); (try k_sweep)))
set_option maxHeartbeats 8000000 in
theorem sp_u0 {prog : Program} {w : World} {p : Program} {loose : List Str} {mean : ExcName → Option Value} {mg mb : Str → Option Value}
    {dp un : Nat} {gd : Option (List Code)} {cn : Str} {cs : Scope} {a : Addr} {ccd : Value} {cl : List (Str × Addr)} {outer : List Env} {A₀ : Around} {base h₀ : Heap} {L : Addr} {m : Str → Option Value} {s : Shared} {Q E : Value → Shared → Prop}
    {x dx ba : Addr} {bf : Array UInt8} {pp : Int} {t1 t2 tp : Tok} {y dy : Addr} {nm : Str} {ty : Tok} {gs : List Int}
    (B : Below A₀ base outer h₀) (F : Fr h₀ L s.heap m) (X : (frag.heap_1 w.params).In h₀) (T : Top p loose mean mg mb h₀) (hk : cs.kind = .function) (hdp : dp + 6 < recursionLimit) (hun : un + 60 < cLine)
    (N : News h₀ L s.heap ((y, conO 892 dy nm ty) :: (dy, dictOf [] 0) :: strm w.params x dx ba bf pp t1 t2 tp)) (hy : @Ne Nat y dx) (hdy : @Ne Nat dy dx) (hx : @LT.lt Nat _ dx x) (hb : @LT.lt Nat _ x ba) (hz : bf.size ≤ 16777216) (hp : 0 ≤ pp) (hlt : pp + gs.length ≤ bf.size)
    (hS : Says bf pp gs) (hg : ∀ g ∈ gs, 0 ≤ g ∧ g < 128) (hl1 : 1 ≤ gs.length) (hl2 : gs.length ≤ 32)
    (ret : ∀ t tp' h' tk, Fr h₀ L h' m → News h₀ L h' ((y, conO 892 dy nm ty) :: (dy, dictOf [] 0) :: strm w.params x dx ba bf (pp + gs.length) t1 t2 tp') → (∀ b o, s.heap.get? b = some o → b ∉ [y, dy, x, dx, ba] → h'.get? b = some o) → Q (.int (uv gs) t) { s with heap := h', toks := tk }) :
    wpAny (model prog w) (ktrTop dp un gd cn cs L a ccd cl outer) (call (.ref 861) [.ref y, .ref x]) Q E s := by
  refine wpAny_call ?_
  k_dflt (refine' call_defK ?k1 ?k2 ?k3 ?k4 ?k5 ?kA ?kF ?kK ?k6 ?k7 ?k8 ?k9 ?kB ?_ ?c2 ?c3 ?c4 ?c5)
  case k1 => k_asm
  case k2 => k_asm
  case k3 => k_asm
  case k4 => k_asm
  case k5 => k_asm
  case kA => exact rfl
  case kF => exact rfl
  case kK => assumption
  case k6 => k_is
  case k7 => k_is
  case k8 => ktr_room
  case k9 => first | exact BindsTo.of_eq rfl | exact binds_K (by k_in) rfl (by k_is) rfl rfl rfl
  case kB => exact locs rfl
  case c2 => exact rfl
  case c3 => exact rfl
  case c4 => exact rfl
  case c5 => decide
  intro g' L' h' FG' F' N' B' X' T' hkeep
  (try dsimp only)
  (try k_fold)
  k_steps
  (with_reducible rename Fr g' L' _ _ => FZ); (with_reducible rename News h₀ L _ _ => NZ); (with_reducible rename Fr h₀ L _ _ => FY)
  exact ret _ _ _ _ FY (cb_drop NZ fun p hp => .tail _ (.tail _ (.tail _ hp))) fun b o e hb => FZ.keep b o (hkeep b o e hb)
set_option maxHeartbeats 8000000 in
theorem sp_u1 {prog : Program} {w : World} {p : Program} {loose : List Str} {mean : ExcName → Option Value} {mg mb : Str → Option Value}
    {dp un : Nat} {gd : Option (List Code)} {cn : Str} {cs : Scope} {a : Addr} {ccd : Value} {cl : List (Str × Addr)} {outer : List Env} {A₀ : Around} {base h₀ : Heap} {L : Addr} {m : Str → Option Value} {s : Shared} {Q E : Value → Shared → Prop}
    {x dx ba : Addr} {bf : Array UInt8} {pp : Int} {t1 t2 tp : Tok} {y dy : Addr} {q : Int} {tq : Tok} {nm : Str} {ty : Tok} {gs : List Int}
    (B : Below A₀ base outer h₀) (F : Fr h₀ L s.heap m) (X : (frag.heap_1 w.params).In h₀) (T : Top p loose mean mg mb h₀) (hk : cs.kind = .function) (hdp : dp + 6 < recursionLimit) (hun : un + 60 < cLine)
    (N : News h₀ L s.heap ((y, conO 892 dy nm ty) :: (dy, dictOf [] 0) :: strm w.params x dx ba bf pp t1 t2 tp)) (hy : @Ne Nat y dx) (hdy : @Ne Nat dy dx) (hx : @LT.lt Nat _ dx x) (hb : @LT.lt Nat _ x ba) (hz : bf.size ≤ 16777216) (hp : 0 ≤ pp) (hq : 0 ≤ q) (hlt : q + gs.length ≤ bf.size)
    (hS : Says bf q gs) (hg : ∀ g ∈ gs, 0 ≤ g ∧ g < 128) (hl1 : 1 ≤ gs.length) (hl2 : gs.length ≤ 32)
    (ret : ∀ t tp' h' tk, Fr h₀ L h' m → News h₀ L h' ((y, conO 892 dy nm ty) :: (dy, dictOf [] 0) :: strm w.params x dx ba bf (q + gs.length) t1 t2 tp') → (∀ b o, s.heap.get? b = some o → b ∉ [y, dy, x, dx, ba] → h'.get? b = some o) → Q (.int (uv gs) t) { s with heap := h', toks := tk }) :
    wpAny (model prog w) (ktrTop dp un gd cn cs L a ccd cl outer) (call (.ref 861) [.ref y, .ref x, .int q tq]) Q E s := by
  refine wpAny_call ?_
  k_dflt (refine' call_defK ?k1 ?k2 ?k3 ?k4 ?k5 ?kA ?kF ?kK ?k6 ?k7 ?k8 ?k9 ?kB ?_ ?c2 ?c3 ?c4 ?c5)
  case k1 => k_asm
  case k2 => k_asm
  case k3 => k_asm
  case k4 => k_asm
  case k5 => k_asm
  case kA => exact rfl
  case kF => exact rfl
  case kK => assumption
  case k6 => k_is
  case k7 => k_is
  case k8 => ktr_room
  case k9 => first | exact BindsTo.of_eq rfl | exact binds_K (by k_in) rfl (by k_is) rfl rfl rfl
  case kB => exact locs rfl
  case c2 => exact rfl
  case c3 => exact rfl
  case c4 => exact rfl
  case c5 => decide
  intro g' L' h' FG' F' N' B' X' T' hkeep
  (try dsimp only)
  (try k_fold)
  k_steps
  (with_reducible rename Fr g' L' _ _ => FZ); (with_reducible rename News h₀ L _ _ => NZ); (with_reducible rename Fr h₀ L _ _ => FY)
  exact ret _ _ _ _ FY (cb_drop NZ fun p hp => .tail _ (.tail _ (.tail _ hp))) fun b o e hb => FZ.keep b o (hkeep b o e hb)
set_option maxHeartbeats 8000000 in
theorem sp_s0 {prog : Program} {w : World} {p : Program} {loose : List Str} {mean : ExcName → Option Value} {mg mb : Str → Option Value}
    {dp un : Nat} {gd : Option (List Code)} {cn : Str} {cs : Scope} {a : Addr} {ccd : Value} {cl : List (Str × Addr)} {outer : List Env} {A₀ : Around} {base h₀ : Heap} {L : Addr} {m : Str → Option Value} {s : Shared} {Q E : Value → Shared → Prop}
    {x dx ba : Addr} {bf : Array UInt8} {pp : Int} {t1 t2 tp : Tok} {y dy : Addr} {nm : Str} {ty : Tok} {gs : List Int}
    (B : Below A₀ base outer h₀) (F : Fr h₀ L s.heap m) (X : (frag.heap_1 w.params).In h₀) (T : Top p loose mean mg mb h₀) (hk : cs.kind = .function) (hdp : dp + 6 < recursionLimit) (hun : un + 60 < cLine)
    (N : News h₀ L s.heap ((y, conO 911 dy nm ty) :: (dy, dictOf [] 0) :: strm w.params x dx ba bf pp t1 t2 tp)) (hy : @Ne Nat y dx) (hdy : @Ne Nat dy dx) (hx : @LT.lt Nat _ dx x) (hb : @LT.lt Nat _ x ba) (hz : bf.size ≤ 16777216) (hp : 0 ≤ pp) (hlt : pp + gs.length ≤ bf.size)
    (hS : Says bf pp gs) (hg : ∀ g ∈ gs, 0 ≤ g ∧ g < 128) (hl1 : 1 ≤ gs.length) (hl2 : gs.length ≤ 32)
    (ret : ∀ t tp' h' tk, Fr h₀ L h' m → News h₀ L h' ((y, conO 911 dy nm ty) :: (dy, dictOf [] 0) :: strm w.params x dx ba bf (pp + gs.length) t1 t2 tp') → (∀ b o, s.heap.get? b = some o → b ∉ [y, dy, x, dx, ba] → h'.get? b = some o) → Q (.int (sv gs) t) { s with heap := h', toks := tk }) :
    wpAny (model prog w) (ktrTop dp un gd cn cs L a ccd cl outer) (call (.ref 861) [.ref y, .ref x]) Q E s := by
  refine wpAny_call ?_
  k_dflt (refine' call_defK ?k1 ?k2 ?k3 ?k4 ?k5 ?kA ?kF ?kK ?k6 ?k7 ?k8 ?k9 ?kB ?_ ?c2 ?c3 ?c4 ?c5)
  case k1 => k_asm
  case k2 => k_asm
  case k3 => k_asm
  case k4 => k_asm
  case k5 => k_asm
  case kA => exact rfl
  case kF => exact rfl
  case kK => assumption
  case k6 => k_is
  case k7 => k_is
  case k8 => ktr_room
  case k9 => first | exact BindsTo.of_eq rfl | exact binds_K (by k_in) rfl (by k_is) rfl rfl rfl
  case kB => exact locs rfl
  case c2 => exact rfl
  case c3 => exact rfl
  case c4 => exact rfl
  case c5 => decide
  intro g' L' h' FG' F' N' B' X' T' hkeep
  (try dsimp only)
  (try k_fold)
  k_steps
  (with_reducible rename Fr g' L' _ _ => FZ); (with_reducible rename News h₀ L _ _ => NZ); (with_reducible rename Fr h₀ L _ _ => FY)
  exact ret _ _ _ _ FY (cb_drop NZ fun p hp => .tail _ (.tail _ (.tail _ hp))) fun b o e hb => FZ.keep b o (hkeep b o e hb)
set_option maxHeartbeats 8000000 in
theorem sp_s1 {prog : Program} {w : World} {p : Program} {loose : List Str} {mean : ExcName → Option Value} {mg mb : Str → Option Value}
    {dp un : Nat} {gd : Option (List Code)} {cn : Str} {cs : Scope} {a : Addr} {ccd : Value} {cl : List (Str × Addr)} {outer : List Env} {A₀ : Around} {base h₀ : Heap} {L : Addr} {m : Str → Option Value} {s : Shared} {Q E : Value → Shared → Prop}
    {x dx ba : Addr} {bf : Array UInt8} {pp : Int} {t1 t2 tp : Tok} {y dy : Addr} {q : Int} {tq : Tok} {nm : Str} {ty : Tok} {gs : List Int}
    (B : Below A₀ base outer h₀) (F : Fr h₀ L s.heap m) (X : (frag.heap_1 w.params).In h₀) (T : Top p loose mean mg mb h₀) (hk : cs.kind = .function) (hdp : dp + 6 < recursionLimit) (hun : un + 60 < cLine)
    (N : News h₀ L s.heap ((y, conO 911 dy nm ty) :: (dy, dictOf [] 0) :: strm w.params x dx ba bf pp t1 t2 tp)) (hy : @Ne Nat y dx) (hdy : @Ne Nat dy dx) (hx : @LT.lt Nat _ dx x) (hb : @LT.lt Nat _ x ba) (hz : bf.size ≤ 16777216) (hp : 0 ≤ pp) (hq : 0 ≤ q) (hlt : q + gs.length ≤ bf.size)
    (hS : Says bf q gs) (hg : ∀ g ∈ gs, 0 ≤ g ∧ g < 128) (hl1 : 1 ≤ gs.length) (hl2 : gs.length ≤ 32)
    (ret : ∀ t tp' h' tk, Fr h₀ L h' m → News h₀ L h' ((y, conO 911 dy nm ty) :: (dy, dictOf [] 0) :: strm w.params x dx ba bf (q + gs.length) t1 t2 tp') → (∀ b o, s.heap.get? b = some o → b ∉ [y, dy, x, dx, ba] → h'.get? b = some o) → Q (.int (sv gs) t) { s with heap := h', toks := tk }) :
    wpAny (model prog w) (ktrTop dp un gd cn cs L a ccd cl outer) (call (.ref 861) [.ref y, .ref x, .int q tq]) Q E s := by
  refine wpAny_call ?_
  k_dflt (refine' call_defK ?k1 ?k2 ?k3 ?k4 ?k5 ?kA ?kF ?kK ?k6 ?k7 ?k8 ?k9 ?kB ?_ ?c2 ?c3 ?c4 ?c5)
  case k1 => k_asm
  case k2 => k_asm
  case k3 => k_asm
  case k4 => k_asm
  case k5 => k_asm
  case kA => exact rfl
  case kF => exact rfl
  case kK => assumption
  case k6 => k_is
  case k7 => k_is
  case k8 => ktr_room
  case k9 => first | exact BindsTo.of_eq rfl | exact binds_K (by k_in) rfl (by k_is) rfl rfl rfl
  case kB => exact locs rfl
  case c2 => exact rfl
  case c3 => exact rfl
  case c4 => exact rfl
  case c5 => decide
  intro g' L' h' FG' F' N' B' X' T' hkeep
  (try dsimp only)
  (try k_fold)
  k_steps
  (with_reducible rename Fr g' L' _ _ => FZ); (with_reducible rename News h₀ L _ _ => NZ); (with_reducible rename Fr h₀ L _ _ => FY)
  exact ret _ _ _ _ FY (cb_drop NZ fun p hp => .tail _ (.tail _ (.tail _ hp))) fun b o e hb => FZ.keep b o (hkeep b o e hb)
end Mine
end

section
open PySem PySem.W PySem.Calls PyProof.Rows
namespace Mine
theorem con_ne {C dy : Addr} {nm : Str} {t : Tok} {P : Params} {ba : Addr} {p : Int} {t1 t2 tp : Tok} : conO C dy nm t ≠ strD P ba p t1 t2 tp := fun e => by
  have := congrArg Obj.cls e
  cases this
theorem emp_ne {P : Params} {ba : Addr} {p : Int} {t1 t2 tp : Tok} : dictOf [] 0 ≠ strD P ba p t1 t2 tp := fun e => by
  have h : Data.dict #[] 0 = _ := congrArg Obj.data e
  cases h
theorem sp_u0_any {prog : Program} {w : World} {p : Program} {loose : List Str} {mean : ExcName → Option Value} {mg mb : Str → Option Value}
    {dp un : Nat} {gd : Option (List Code)} {cn : Str} {cs : Scope} {a : Addr} {ccd : Value} {cl : List (Str × Addr)} {outer : List Env} {A₀ : Around} {base h₀ : Heap} {L : Addr} {m : Str → Option Value} {s : Shared} {Q E : Value → Shared → Prop}
    {x dx ba : Addr} {bf : Array UInt8} {pp : Int} {t1 t2 tp : Tok} {y dy : Addr} {nm : Str} {ty : Tok} {gs : List Int} {news : List (Addr × Obj)} {g : Obj → List (Addr × Obj)}
    (B : Below A₀ base outer h₀) (F : Fr h₀ L s.heap m) (X : (frag.heap_1 w.params).In h₀) (T : Top p loose mean mg mb h₀) (hk : cs.kind = .function) (hdp : dp + 6 < recursionLimit) (hun : un + 60 < cLine)
    (N : News h₀ L s.heap news) (my : (y, conO 892 dy nm ty) ∈ news) (mdy : (dy, dictOf [] 0) ∈ news) (mx : (x, instObj 502 dx) ∈ news) (U : UpdF dx (strD w.params ba pp t1 t2 tp) news g) (mb : (ba, baObj bf) ∈ news) (hx : @LT.lt Nat _ dx x) (hb : @LT.lt Nat _ x ba) (hz : bf.size ≤ 16777216) (hp : 0 ≤ pp) (hlt : pp + gs.length ≤ bf.size)
    (hS : Says bf pp gs) (hg : ∀ g ∈ gs, 0 ≤ g ∧ g < 128) (hl1 : 1 ≤ gs.length) (hl2 : gs.length ≤ 32)
    (ret : ∀ t tp' h' tk, Fr h₀ L h' m → News h₀ L h' (g (strD w.params ba (pp + gs.length) t1 t2 tp')) → Q (.int (uv gs) t) { s with heap := h', toks := tk }) :
    wpAny (model prog w) (ktrTop dp un gd cn cs L a ccd cl outer) (call (.ref 861) [.ref y, .ref x]) Q E s := by
  have md : (dx, strD w.params ba pp t1 t2 tp) ∈ news := by
    obtain ⟨pre, post, e, _⟩ := U.split
    rw [e]
    exact List.mem_append.mpr (.inr (.head _))
  have N1 : News h₀ L s.heap ((y, conO 892 dy nm ty) :: (dy, dictOf [] 0) :: strm w.params x dx ba bf pp t1 t2 tp) := by
    intro p hp
    rcases List.mem_cons.mp hp with rfl | hp
    · exact N _ my
    rcases List.mem_cons.mp hp with rfl | hp
    · exact N _ mdy
    rcases List.mem_cons.mp hp with rfl | hp
    · exact N _ mx
    rcases List.mem_cons.mp hp with rfl | hp
    · exact N _ md
    · rw [List.mem_singleton.mp hp]
      exact N _ mb
  refine sp_u0 B F X T hk hdp hun N1 (N.twoPlaces my md con_ne) (N.twoPlaces mdy md emp_ne) hx hb hz hp hlt hS hg hl1 hl2 fun t tp' h' tk F' N' kp => ret t tp' h' tk F' (ledger_back N U N' (.tail _ (.tail _ (.tail _ (.head _)))) kp ?_)
  intro b hb'
  rcases List.mem_cons.mp hb' with rfl | hb'
  · exact .inr ⟨_, my, .head _⟩
  rcases List.mem_cons.mp hb' with rfl | hb'
  · exact .inr ⟨_, mdy, .tail _ (.head _)⟩
  rcases List.mem_cons.mp hb' with rfl | hb'
  · exact .inr ⟨_, mx, .tail _ (.tail _ (.head _))⟩
  rcases List.mem_cons.mp hb' with rfl | hb'
  · exact .inl rfl
  · rw [List.mem_singleton.mp hb']
    exact .inr ⟨_, mb, .tail _ (.tail _ (.tail _ (.tail _ (.head _))))⟩
theorem sp_u1_any {prog : Program} {w : World} {p : Program} {loose : List Str} {mean : ExcName → Option Value} {mg mb : Str → Option Value}
    {dp un : Nat} {gd : Option (List Code)} {cn : Str} {cs : Scope} {a : Addr} {ccd : Value} {cl : List (Str × Addr)} {outer : List Env} {A₀ : Around} {base h₀ : Heap} {L : Addr} {m : Str → Option Value} {s : Shared} {Q E : Value → Shared → Prop}
    {x dx ba : Addr} {bf : Array UInt8} {pp : Int} {t1 t2 tp : Tok} {y dy : Addr} {q : Int} {tq : Tok} {nm : Str} {ty : Tok} {gs : List Int} {news : List (Addr × Obj)} {g : Obj → List (Addr × Obj)}
    (B : Below A₀ base outer h₀) (F : Fr h₀ L s.heap m) (X : (frag.heap_1 w.params).In h₀) (T : Top p loose mean mg mb h₀) (hk : cs.kind = .function) (hdp : dp + 6 < recursionLimit) (hun : un + 60 < cLine)
    (N : News h₀ L s.heap news) (my : (y, conO 892 dy nm ty) ∈ news) (mdy : (dy, dictOf [] 0) ∈ news) (mx : (x, instObj 502 dx) ∈ news) (U : UpdF dx (strD w.params ba pp t1 t2 tp) news g) (mb : (ba, baObj bf) ∈ news) (hx : @LT.lt Nat _ dx x) (hb : @LT.lt Nat _ x ba) (hz : bf.size ≤ 16777216) (hp : 0 ≤ pp) (hq : 0 ≤ q) (hlt : q + gs.length ≤ bf.size)
    (hS : Says bf q gs) (hg : ∀ g ∈ gs, 0 ≤ g ∧ g < 128) (hl1 : 1 ≤ gs.length) (hl2 : gs.length ≤ 32)
    (ret : ∀ t tp' h' tk, Fr h₀ L h' m → News h₀ L h' (g (strD w.params ba (q + gs.length) t1 t2 tp')) → Q (.int (uv gs) t) { s with heap := h', toks := tk }) :
    wpAny (model prog w) (ktrTop dp un gd cn cs L a ccd cl outer) (call (.ref 861) [.ref y, .ref x, .int q tq]) Q E s := by
  have md : (dx, strD w.params ba pp t1 t2 tp) ∈ news := by
    obtain ⟨pre, post, e, _⟩ := U.split
    rw [e]
    exact List.mem_append.mpr (.inr (.head _))
  have N1 : News h₀ L s.heap ((y, conO 892 dy nm ty) :: (dy, dictOf [] 0) :: strm w.params x dx ba bf pp t1 t2 tp) := by
    intro p hp
    rcases List.mem_cons.mp hp with rfl | hp
    · exact N _ my
    rcases List.mem_cons.mp hp with rfl | hp
    · exact N _ mdy
    rcases List.mem_cons.mp hp with rfl | hp
    · exact N _ mx
    rcases List.mem_cons.mp hp with rfl | hp
    · exact N _ md
    · rw [List.mem_singleton.mp hp]
      exact N _ mb
  refine sp_u1 B F X T hk hdp hun N1 (N.twoPlaces my md con_ne) (N.twoPlaces mdy md emp_ne) hx hb hz hp hq hlt hS hg hl1 hl2 fun t tp' h' tk F' N' kp => ret t tp' h' tk F' (ledger_back N U N' (.tail _ (.tail _ (.tail _ (.head _)))) kp ?_)
  intro b hb'
  rcases List.mem_cons.mp hb' with rfl | hb'
  · exact .inr ⟨_, my, .head _⟩
  rcases List.mem_cons.mp hb' with rfl | hb'
  · exact .inr ⟨_, mdy, .tail _ (.head _)⟩
  rcases List.mem_cons.mp hb' with rfl | hb'
  · exact .inr ⟨_, mx, .tail _ (.tail _ (.head _))⟩
  rcases List.mem_cons.mp hb' with rfl | hb'
  · exact .inl rfl
  · rw [List.mem_singleton.mp hb']
    exact .inr ⟨_, mb, .tail _ (.tail _ (.tail _ (.tail _ (.head _))))⟩
theorem sp_s0_any {prog : Program} {w : World} {p : Program} {loose : List Str} {mean : ExcName → Option Value} {mg mb : Str → Option Value}
    {dp un : Nat} {gd : Option (List Code)} {cn : Str} {cs : Scope} {a : Addr} {ccd : Value} {cl : List (Str × Addr)} {outer : List Env} {A₀ : Around} {base h₀ : Heap} {L : Addr} {m : Str → Option Value} {s : Shared} {Q E : Value → Shared → Prop}
    {x dx ba : Addr} {bf : Array UInt8} {pp : Int} {t1 t2 tp : Tok} {y dy : Addr} {nm : Str} {ty : Tok} {gs : List Int} {news : List (Addr × Obj)} {g : Obj → List (Addr × Obj)}
    (B : Below A₀ base outer h₀) (F : Fr h₀ L s.heap m) (X : (frag.heap_1 w.params).In h₀) (T : Top p loose mean mg mb h₀) (hk : cs.kind = .function) (hdp : dp + 6 < recursionLimit) (hun : un + 60 < cLine)
    (N : News h₀ L s.heap news) (my : (y, conO 911 dy nm ty) ∈ news) (mdy : (dy, dictOf [] 0) ∈ news) (mx : (x, instObj 502 dx) ∈ news) (U : UpdF dx (strD w.params ba pp t1 t2 tp) news g) (mb : (ba, baObj bf) ∈ news) (hx : @LT.lt Nat _ dx x) (hb : @LT.lt Nat _ x ba) (hz : bf.size ≤ 16777216) (hp : 0 ≤ pp) (hlt : pp + gs.length ≤ bf.size)
    (hS : Says bf pp gs) (hg : ∀ g ∈ gs, 0 ≤ g ∧ g < 128) (hl1 : 1 ≤ gs.length) (hl2 : gs.length ≤ 32)
    (ret : ∀ t tp' h' tk, Fr h₀ L h' m → News h₀ L h' (g (strD w.params ba (pp + gs.length) t1 t2 tp')) → Q (.int (sv gs) t) { s with heap := h', toks := tk }) :
    wpAny (model prog w) (ktrTop dp un gd cn cs L a ccd cl outer) (call (.ref 861) [.ref y, .ref x]) Q E s := by
  have md : (dx, strD w.params ba pp t1 t2 tp) ∈ news := by
    obtain ⟨pre, post, e, _⟩ := U.split
    rw [e]
    exact List.mem_append.mpr (.inr (.head _))
  have N1 : News h₀ L s.heap ((y, conO 911 dy nm ty) :: (dy, dictOf [] 0) :: strm w.params x dx ba bf pp t1 t2 tp) := by
    intro p hp
    rcases List.mem_cons.mp hp with rfl | hp
    · exact N _ my
    rcases List.mem_cons.mp hp with rfl | hp
    · exact N _ mdy
    rcases List.mem_cons.mp hp with rfl | hp
    · exact N _ mx
    rcases List.mem_cons.mp hp with rfl | hp
    · exact N _ md
    · rw [List.mem_singleton.mp hp]
      exact N _ mb
  refine sp_s0 B F X T hk hdp hun N1 (N.twoPlaces my md con_ne) (N.twoPlaces mdy md emp_ne) hx hb hz hp hlt hS hg hl1 hl2 fun t tp' h' tk F' N' kp => ret t tp' h' tk F' (ledger_back N U N' (.tail _ (.tail _ (.tail _ (.head _)))) kp ?_)
  intro b hb'
  rcases List.mem_cons.mp hb' with rfl | hb'
  · exact .inr ⟨_, my, .head _⟩
  rcases List.mem_cons.mp hb' with rfl | hb'
  · exact .inr ⟨_, mdy, .tail _ (.head _)⟩
  rcases List.mem_cons.mp hb' with rfl | hb'
  · exact .inr ⟨_, mx, .tail _ (.tail _ (.head _))⟩
  rcases List.mem_cons.mp hb' with rfl | hb'
  · exact .inl rfl
  · rw [List.mem_singleton.mp hb']
    exact .inr ⟨_, mb, .tail _ (.tail _ (.tail _ (.tail _ (.head _))))⟩
theorem sp_s1_any {prog : Program} {w : World} {p : Program} {loose : List Str} {mean : ExcName → Option Value} {mg mb : Str → Option Value}
    {dp un : Nat} {gd : Option (List Code)} {cn : Str} {cs : Scope} {a : Addr} {ccd : Value} {cl : List (Str × Addr)} {outer : List Env} {A₀ : Around} {base h₀ : Heap} {L : Addr} {m : Str → Option Value} {s : Shared} {Q E : Value → Shared → Prop}
    {x dx ba : Addr} {bf : Array UInt8} {pp : Int} {t1 t2 tp : Tok} {y dy : Addr} {q : Int} {tq : Tok} {nm : Str} {ty : Tok} {gs : List Int} {news : List (Addr × Obj)} {g : Obj → List (Addr × Obj)}
    (B : Below A₀ base outer h₀) (F : Fr h₀ L s.heap m) (X : (frag.heap_1 w.params).In h₀) (T : Top p loose mean mg mb h₀) (hk : cs.kind = .function) (hdp : dp + 6 < recursionLimit) (hun : un + 60 < cLine)
    (N : News h₀ L s.heap news) (my : (y, conO 911 dy nm ty) ∈ news) (mdy : (dy, dictOf [] 0) ∈ news) (mx : (x, instObj 502 dx) ∈ news) (U : UpdF dx (strD w.params ba pp t1 t2 tp) news g) (mb : (ba, baObj bf) ∈ news) (hx : @LT.lt Nat _ dx x) (hb : @LT.lt Nat _ x ba) (hz : bf.size ≤ 16777216) (hp : 0 ≤ pp) (hq : 0 ≤ q) (hlt : q + gs.length ≤ bf.size)
    (hS : Says bf q gs) (hg : ∀ g ∈ gs, 0 ≤ g ∧ g < 128) (hl1 : 1 ≤ gs.length) (hl2 : gs.length ≤ 32)
    (ret : ∀ t tp' h' tk, Fr h₀ L h' m → News h₀ L h' (g (strD w.params ba (q + gs.length) t1 t2 tp')) → Q (.int (sv gs) t) { s with heap := h', toks := tk }) :
    wpAny (model prog w) (ktrTop dp un gd cn cs L a ccd cl outer) (call (.ref 861) [.ref y, .ref x, .int q tq]) Q E s := by
  have md : (dx, strD w.params ba pp t1 t2 tp) ∈ news := by
    obtain ⟨pre, post, e, _⟩ := U.split
    rw [e]
    exact List.mem_append.mpr (.inr (.head _))
  have N1 : News h₀ L s.heap ((y, conO 911 dy nm ty) :: (dy, dictOf [] 0) :: strm w.params x dx ba bf pp t1 t2 tp) := by
    intro p hp
    rcases List.mem_cons.mp hp with rfl | hp
    · exact N _ my
    rcases List.mem_cons.mp hp with rfl | hp
    · exact N _ mdy
    rcases List.mem_cons.mp hp with rfl | hp
    · exact N _ mx
    rcases List.mem_cons.mp hp with rfl | hp
    · exact N _ md
    · rw [List.mem_singleton.mp hp]
      exact N _ mb
  refine sp_s1 B F X T hk hdp hun N1 (N.twoPlaces my md con_ne) (N.twoPlaces mdy md emp_ne) hx hb hz hp hq hlt hS hg hl1 hl2 fun t tp' h' tk F' N' kp => ret t tp' h' tk F' (ledger_back N U N' (.tail _ (.tail _ (.tail _ (.head _)))) kp ?_)
  intro b hb'
  rcases List.mem_cons.mp hb' with rfl | hb'
  · exact .inr ⟨_, my, .head _⟩
  rcases List.mem_cons.mp hb' with rfl | hb'
  · exact .inr ⟨_, mdy, .tail _ (.head _)⟩
  rcases List.mem_cons.mp hb' with rfl | hb'
  · exact .inr ⟨_, mx, .tail _ (.tail _ (.head _))⟩
  rcases List.mem_cons.mp hb' with rfl | hb'
  · exact .inl rfl
  · rw [List.mem_singleton.mp hb']
    exact .inr ⟨_, mb, .tail _ (.tail _ (.tail _ (.tail _ (.head _))))⟩
end Mine
end

section
open PySem PySem.W PySem.Calls PyProof.Rows
namespace Mine
theorem pk1 {prog : Program} {w : World} {h : Heap} (X : (frag.heap_1 w.params).In h) : Looks (model prog w) h (Bind.madeBy (.ref 502)) none := Looks.of_peek X (by kernel_rfl)
theorem pk2 {prog : Program} {w : World} {h : Heap} (X : (frag.heap_1 w.params).In h) : Looks (model prog w) h (Bind.madeHere "object.__new__" (.ref 502)) () := Looks.of_peek X (by kernel_rfl)
theorem pk3 {prog : Program} {w : World} {h : Heap} (X : (frag.heap_1 w.params).In h) : Looks (model prog w) h (checkBuiltinCall "object.__new__" ⟨[.ref 502], []⟩) () := Looks.of_peek X (by kernel_rfl)
theorem pk4 {prog : Program} {w : World} {h : Heap} (X : (frag.heap_1 w.params).In h) (t : Tok) (b : Array UInt8) : Looks (model prog w) h (checkBuiltinCall "type.__call__" ⟨[.ref 502, .bytes b t], []⟩) () := Looks.of_peek X (by kernel_rfl)
theorem pk5 {prog : Program} {w : World} {h : Heap} (X : (frag.heap_1 w.params).In h) : Looks (model prog w) h (mroOf (.ref 502)) [.ref 502, .ref 260, .ref 245, .type "object"] := Looks.of_peek X (by kernel_rfl)
theorem pk6 {prog : Program} {w : World} {h : Heap} (X : (frag.heap_1 w.params).In h) : Looks (model prog w) h (specialOf (.ref 502) "__call__") (some (.builtin "type.__call__")) := Looks.of_peek X (by kernel_rfl)
theorem pk7 {prog : Program} {w : World} {h : Heap} (X : (frag.heap_1 w.params).In h) : Looks (model prog w) h (typeLookup (.ref 502) "__init__") (some (.ref 289)) := Looks.of_peek X (by kernel_rfl)
theorem pk8 {prog : Program} {w : World} {h : Heap} (X : (frag.heap_1 w.params).In h) : Looks (model prog w) h (isSubtype (.ref 502) (.ref 502)) true := Looks.of_peek X (by kernel_rfl)
theorem pk9 {prog : Program} {w : World} {h : Heap} (X : (frag.heap_1 w.params).In h) : Looks (model prog w) h (isType (.ref 502)) true := Looks.of_peek X (by kernel_rfl)
theorem pk10 {prog : Program} {w : World} {h : Heap} (X : (frag.heap_1 w.params).In h) : Looks (model prog w) h (classHasDel 502) false := Looks.of_peek X (by kernel_rfl)
theorem pk11 {prog : Program} {w : World} {h : Heap} (X : (frag.heap_1 w.params).In h) (self : Value) : Looks (model prog w) h (bindSpecial (Value.ref 289) self) (Value.ref 289, [self]) := Looks.of_peek X (by kernel_rfl)
theorem pk12 {prog : Program} {w : World} {h : Heap} (X : (frag.heap_1 w.params).In h) (t : Tok) (b : Array UInt8) : Looks (model prog w) h (callAny (.ref 502) ⟨[.bytes b t], []⟩) (.again (.call (.builtin "type.__call__") ⟨[.ref 502, .bytes b t], []⟩)) := Looks.of_peek X (by kernel_rfl)
section
variable {prog : Program} {w : World} {A : Around} {R : Result → Shared → Prop} {s : Shared} {b : Array UInt8} {t : Tok}
def MadeU (prog : Program) (w : World) (A : Around) (b : Array UInt8) (t : Tok) (R : Result → Shared → Prop) (obj : Value) (s₂ : Shared) : Prop :=
  ∃ x dx, obj = .ref x ∧ s₂.heap.get? x = some (instObj 502 dx) ∧ (frag.heap_1 w.params).In s₂.heap ∧
    codeC (model prog w) (A.under (.builtin "type.__call__" ⟨[.ref 502, .bytes b t], []⟩)) (.call (.ref 289) ⟨[.ref x, .bytes b t], []⟩) (InitBack x R) s₂
theorem makeU (X : (frag.heap_1 w.params).In s.heap)
    (h : wpAny (model prog w) (A.under (.builtin "type.__call__" ⟨[.ref 502, .bytes b t], []⟩)) (getAttr (.ref 502) "__new__") (fun new s₁ =>
      wpAny (model prog w) (A.under (.builtin "type.__call__" ⟨[.ref 502, .bytes b t], []⟩)) (call new [.ref 502, .bytes b t]) (fun obj s₂ => MadeU prog w A b t R obj s₂) (fun e s' => R (.error e) s') s₁) (fun e s' => R (.error e) s') s) :
    codeC (model prog w) A (.call (.ref 502) ⟨[.bytes b t], []⟩) R s := by
  refine codeC_of_tree rfl ?_
  show wpC _ _ (callAny (.ref 502) _) _ _ _
  refine wpC_of ((pk12 X t b).here ?_)
  refine ⟨rfl, codeC_of_tree rfl ?_⟩
  show wpC _ _ (checkBuiltinCall "type.__call__" ⟨[.ref 502, .bytes b t], []⟩ >>= fun _ => again (.builtin "type.__call__" ⟨[.ref 502, .bytes b t], []⟩)) _ _ _
  refine wpC_seq ((pk4 X t b).here ?_)
  refine wpC_pure ⟨Code.quiet_builtin _ (by decide +kernel), codeC_builtin F.entry_type_call (show Builtin.Bytes.decodersThatHold.contains "type.__call__" = false by decide +kernel) ?_⟩
  unfold Builtin.«type.__call__»
  refine C_false rfl ?_
  refine wpC_seq ((pk5 X).here ?_)
  refine C_false rfl ?_
  refine wpC_seq ((pk1 X).here ?_)
  refine wpC_seq (wpAny_mono h (fun new s₁ h₁ => ?_) fun _ _ y => y)
  refine wpC_seq (wpAny_holding (wpAny_mono h₁ (fun obj s₂ h₂ => ?_) fun _ _ y => y))
  obtain ⟨x, dx, rfl, hx, X₂, hc⟩ := h₂
  have ty : Looks (model prog w) s₂.heap (typeOf (.ref x)) (.ref 502) := (Looks.ld (part := none) hx).andThen .now
  have inst : Looks (model prog w) s₂.heap (isInstance (.ref x) (.ref 502)) true := ty.andThen (pk8 X₂)
  refine wpC_seq (inst.here ?_)
  refine C_false rfl ?_
  refine wpC_bind (wpC_holding ?_)
  simp only [callSpecial?, specialOf]
  refine wpC_seq ((ty.andThen (pk7 X₂)).here ?_)
  refine wpC_holding (wpC_seq ((pk11 X₂ _).here (wpC_bind (wpC_call (codeC_mono hc fun r s' z => ?_)))))
  rcases r with e | (v | _ | _ | _) <;> first | exact z | exact z.elim | skip
  obtain ⟨rfl, z⟩ := z
  refine wpC_pure ?_
  refine C_false rfl ?_
  exact wpC_pure z
end
end Mine
end

section
open PySem PySem.W PySem.Calls PyProof.Rows
namespace Mine
theorem pk13 {w : World} : (clsIn (frag.heap_1 w.params) 502).map (fun c => c.abstract) = some false := by kernel_rfl
section
variable {prog : Program} {w : World} {A : Around} {E : Value → Shared → Prop} {s : Shared} {h₀ : Heap} {L : Addr} {m : Str → Option Value} {news : List (Addr × Obj)} {Q : Value → Shared → Prop}
theorem new_U (F : Fr h₀ L s.heap m) (X₀ : (frag.heap_1 w.params).In h₀) (N : News h₀ L s.heap news)
    (h : ∀ x dx h', Fr h₀ L h' m → News h₀ L h' ((x, instObj 502 dx) :: (dx, dictOf [] 0) :: news) → (∀ p ∈ news, p.1 < dx) → dx < x → Q (.ref x) { s with heap := h' }) :
    wpAny (model prog w) A (call (.builtin "object.__new__") [.ref 502]) Q E s := by
  have X := X₀.keeps F.keep
  have F0 := PySem.F.objNew
  obtain ⟨cd, hc, hab⟩ := Option.map_eq_some_iff.mp (pk13 (w := w))
  refine wpAny_call (codeAny_call_builtin_code (Code.quiet_builtin _ F0.quiet) ((pk3 X).here (codeAny_builtin F0.entry ?_)))
  unfold Builtin.«object.__new__»
  refine wpAny_bind ((pk9 X).here ?_)
  refine bm_if_false rfl ?_
  refine wpAny_bind ((pk2 X).here ?_)
  refine bm_if_false rfl ?_
  refine wpAny_bind ((looks_clsIn X hc).here ?_)
  refine bm_if_false (by rw [hab]) ?_
  show wpAny _ _ ((alloc emptyDict >>= fun x => pure (some x)) >>= _) _ _ _
  refine wpAny_bind (wpAny_bind (wpAny_alloc (wpAny_pure (wpAny_bind ?_))))
  have N1 := N.push F emptyDict
  have F1 := F.push emptyDict
  have N2 := N1.push F1 (instObj 502 s.heap.objs.size)
  have F2 := F1.push (instObj 502 s.heap.objs.size)
  rw [Heap.size_push] at N2
  show wpAny _ _ (newObjAsIs _ _ _) _ _ _
  unfold newObjAsIs
  refine wpAny_bind (wpAny_alloc ?_)
  refine wpAny_bind ((pk10 (X₀.keeps F2.keep)).here ?_)
  refine wpAny_pure (wpAny_pure ?_)
  have z := h _ _ _ F2 N2 (fun p hp => Heap.lt_size (N p hp).1) (Nat.lt_succ_self _)
  rw [← Heap.size_push s.heap emptyDict] at z
  exact z
end
end Mine
end

section
open PySem PySem.W PySem.Calls PyProof.Rows
namespace Mine
local macro_rules | `(tactic| walk_at "spare 0") => `(tactic| skip)
local macro_rules | `(tactic| walk_at "spare 1") => `(tactic| skip)
local macro_rules | `(tactic| walk_at "spare 2") => `(tactic| skip)
local macro_rules | `(tactic| k_room) => `(tactic| ktr_room)
local macro_rules | `(tactic| walk_at "call builtin:object.__new__") => `(tactic| (k_here; k_dflt (refine' new_U ?k1 ?k2 ?k3 ?_; (case k1 => k_asm); (case k2 => k_asm); (case k3 => k_asm); k_whole); intro x' d' h' F' N' l1 l2; (try k_lt l1); (try k_lt2 l2); (try k_sweep)))
local macro_rules | `(tactic| walk_at "call type:type") => `(tactic| ((with_reducible show wpAny _ _ (call _ [Value.bytes _ _]) _ _ _); refine call_type_of (Tx := "bytes") (typeIs_bytes _ _ _) (by decide +kernel) ?_))
theorem strm_of {h₀ h : Heap} {L : Addr} {P : Params} {x dx ba : Addr} {b : Array UInt8} {p : Int} {t1 t2 tp : Tok} {rest : List (Addr × Obj)} (N : News h₀ L h ((ba, baObj b) :: (x, instObj 502 dx) :: (dx, strD P ba p t1 t2 tp) :: rest)) : News h₀ L h (strm P x dx ba b p t1 t2 tp) := by
  intro p hp
  rcases List.mem_cons.mp hp with rfl | hp
  · exact N _ (.tail _ (.head _))
  · rcases List.mem_cons.mp hp with rfl | hp
    · exact N _ (.tail _ (.tail _ (.head _)))
    · rw [List.mem_singleton.mp hp]
      exact N _ (.head _)
set_option maxHeartbeats 8000000 in
theorem stream_spec {prog : Program} {w : World} {p : Program} {loose : List Str} {mean : ExcName → Option Value} {mg mb : Str → Option Value}
    {dp un : Nat} {cn : Str} {cs : Scope} {a : Addr} {ccd : Value} {cl : List (Str × Addr)} {outer : List Env} {A₀ : Around} {base h₀ : Heap} {L : Addr} {m : Str → Option Value} {s : Shared} {Q E : Value → Shared → Prop}
    {bf : Array UInt8} {t : Tok}
    (B : Below A₀ base outer h₀) (F : Fr h₀ L s.heap m) (X : (frag.heap_1 w.params).In h₀) (T : Top p loose mean mg mb h₀) (hk : cs.kind = .function) (hdp : dp + 6 < recursionLimit) (hun : un + 60 < cLine)
    (N : News h₀ L s.heap []) (hz : bf.size ≤ 16777216)
    (ret : ∀ x dx ba t1 t2 tp h' tk, Fr h₀ L h' m → News h₀ L h' (strm w.params x dx ba bf 0 t1 t2 tp) → (∀ b o, s.heap.get? b = some o → h'.get? b = some o) → @LT.lt Nat _ dx x → @LT.lt Nat _ x ba → (∀ b ∈ [x, dx, ba], s.heap.get? b = none) → Q (.ref x) { s with heap := h', toks := tk }) :
    wpC (model prog w) (ktrTop dp un (some []) cn cs L a ccd cl outer) (call (.ref 853) [.bytes bf t]) Q E s := by
  refine wpC_call ?_
  k_dflt (refine' call_defC ?k1 ?k2 ?k3 ?k4 ?k5 ?kA ?kF ?kK ?k6 ?k7 ?k8 ?k9 ?kB ?_ ?c2 ?c3 ?c4 ?c5)
  case k1 => k_asm
  case k2 => k_asm
  case k3 => k_asm
  case k4 => k_asm
  case k5 => k_asm
  case kA => exact rfl
  case kF => exact rfl
  case kK => assumption
  case k6 => k_is
  case k7 => k_is
  case k8 => ktr_room
  case k9 => first | exact BindsTo.of_eq rfl | exact binds_K (by k_in) rfl (by k_is) rfl rfl rfl
  case kB => exact locs rfl
  case c2 => exact rfl
  case c3 => exact rfl
  case c4 => exact rfl
  case c5 => decide
  intro g' L' h' FG' F' N' B' X' T' hkeep
  (try dsimp only)
  (try k_fold)
  refine wpC_execs_cons (C_Return (C_Call (wpC_of ?_)))
  walk1
  refine C_callWith_K (K := frag.heap_1 w.params) (by k_is) (C_spliced_more (wpC_of ?_))
  walk1
  refine C_spliced_none ⟨?_, ?_⟩
  · k_in
  refine wpC_call ?_
  refine makeU (by k_in) ?_
  k_steps
  (with_reducible rename Fr g' L' _ _ => FY); (with_reducible rename News g' L' _ _ => NY)
  refine ⟨_, _, rfl, News.get NY (.head _), X'.keeps FY.keep, ?_⟩
  k_dflt (refine' call_defC B' FY X' NY T' ?kA ?kF ?kK ?k6 ?k7 ?k8 ?k9 ?kB ?_ ?c2 ?c3 ?c4 ?c5)
  case kA => exact rfl
  case kF => exact rfl
  case kK => exact rfl
  case k6 => k_is
  case k7 => k_is
  case k8 => ktr_room
  case k9 => first | exact BindsTo.of_eq rfl | exact binds_K (by k_in) rfl (by k_is) rfl rfl rfl
  case kB => exact locs rfl
  case c2 => exact rfl
  case c3 => exact rfl
  case c4 => exact rfl
  case c5 => decide
  intro g2 L2 h2 FG2 F2 N2 B2 X2 T2 hkeep2
  (try dsimp only)
  (try k_fold)
  refine wpC_execs_cons (wpC_of ?_)
  k_steps
  refine wpC_execs_cons (C_Assign_Attribute (C_IfExp (wpC_of ?_)))
  k_steps
  refine C_Call (wpC_of ?_)
  walk1
  refine C_callWith_T ⟨_, .inr (.inl rfl), rfl⟩ (C_spliced_more (wpC_of ?_))
  walk1
  refine C_spliced_none ?_
  refine ba_call rfl (by rw [sizeLine_eq]; omega) fun S h3 kp hsz hS => ?_
  (with_reducible rename Fr g2 L2 _ _ => F2); (with_reducible rename News g2 L2 _ _ => N2)
  have lS := (fun p hp => Nat.lt_of_lt_of_le (Heap.lt_size (N2 p hp).1) hsz : ∀ p ∈ _, p.1 < S)
  have F3 := F2.keptAll kp
  have N3 := News.more F3 (N2.grown kp) hS (fun es n q => nomatch q) (by
    cases q : g2.get? S with
    | none => rfl
    | some o => exact absurd (Heap.lt_size (F2.keep _ _ q)) (Nat.not_lt.mpr hsz))
  clear F2 N2 kp hsz hS
  refine wpC_of ?_
  k_lt lS
  k_steps
  refine wpC_of ?_
  k_steps
  refine wpC_execs_cons (wpC_of ?_)
  k_steps
  show wpC _ _ _ _ _ _
  refine wpC_execs_nil ?_
  dsimp only
  k_steps
  (with_reducible rename Fr g' L' _ _ => FZ); (with_reducible rename News g' L' _ _ => NZ'); (with_reducible rename News h₀ L _ _ => NZ); (with_reducible rename Fr h₀ L _ _ => FY')
  refine ret _ _ _ _ _ _ _ _ FY' (strm_of NZ) (fun b o e => FZ.keep b o (hkeep b o e List.not_mem_nil)) (by omega) lS.1 ?_
  · have key : ∀ b o, g'.get? b = none → s.heap.get? b = some o → False := fun b o e1 e2 => by rw [hkeep b o e2 List.not_mem_nil] at e1; exact nomatch e1
    have k2 : ∀ b, g'.get? b = none → s.heap.get? b = none := fun b e1 => by
      cases q : s.heap.get? b with
      | none => rfl
      | some o => exact (key b o e1 q).elim
    intro b hb
    rcases List.mem_cons.mp hb with rfl | hb
    · exact k2 _ (NZ'.fresh (.tail _ (.head _)))
    · rcases List.mem_cons.mp hb with rfl | hb
      · exact k2 _ (NZ'.fresh (.tail _ (.tail _ (.head _))))
      · rw [List.mem_singleton.mp hb]
        exact k2 _ (NZ'.fresh (.head _))
end Mine
end

section
open PySem PySem.W PySem.Calls PyProof.Rows
namespace Mine
local macro_rules | `(tactic| k_room) => `(tactic| ktr_room)
set_option maxHeartbeats 8000000 in
theorem mk_ux {prog : Program} {w : World} {p : Program} {loose : List Str} {mean : ExcName → Option Value} {mg mb : Str → Option Value}
    {dp un : Nat} {gd : Option (List Code)} {cn : Str} {cs : Scope} {a : Addr} {ccd : Value} {cl : List (Str × Addr)} {outer : List Env} {A₀ : Around} {base h₀ : Heap} {L : Addr} {m : Str → Option Value} {s : Shared} {Q E : Value → Shared → Prop}
    {t0 : Tok} {news : List (Addr × Obj)}
    (B : Below A₀ base outer h₀) (F : Fr h₀ L s.heap m) (X : (frag.heap_1 w.params).In h₀) (T : Top p loose mean mg mb h₀) (hk : cs.kind = .function) (hdp : dp + 3 < recursionLimit) (hun : un + 24 < cLine)
    (N : News h₀ L s.heap news)
    (ret : ∀ y dy h' tk, Fr h₀ L h' m → News h₀ L h' ((y, conO 892 dy (Str.ofString "x") t0) :: (dy, dictOf [] 0) :: news) → (∀ p ∈ news, p.1 < dy) → @LT.lt Nat _ dy y → Q (.ref y) { s with heap := h', toks := tk }) :
    wpAny (model prog w) (ktrTop dp un gd cn cs L a ccd cl outer) (call (.ref 892) [.str (Str.ofString "x") t0]) Q E s := by
  k_dflt (refine' call_cls F X N ?k4 ?k5 ?k6 ?_)
  case k4 => k_is
  case k5 => k_is
  case k6 => k_is
  intro x1 d1 h1 F1 N1 l1 l2
  have N2 : News h₀ L h1 [(x1, instObj 892 d1), (d1, dictOf [] 0)] := fun p hp => N1 p (by
    rcases List.mem_cons.mp hp with rfl | hp
    · exact .head _
    · rw [List.mem_singleton.mp hp]
      exact .tail _ (.head _))
  k_dflt (refine' call_defK B F1 X N2 T ?kA ?kF ?kK ?k6 ?k7 ?k8 ?k9 ?kB ?_ ?c2 ?c3 ?c4 ?c5)
  case kA => exact rfl
  case kF => exact rfl
  case kK => assumption
  case k6 => k_is
  case k7 => k_is
  case k8 => ktr_room
  case k9 => first | exact BindsTo.of_eq rfl | exact binds_K (by k_in) rfl (by k_is) rfl rfl rfl
  case kB => exact locs rfl
  case c2 => exact rfl
  case c3 => exact rfl
  case c4 => exact rfl
  case c5 => decide
  intro g' L' h' FG' F' N' B' X' T' hkeep
  (try dsimp only)
  have l3 : @LT.lt Nat _ d1 x1 := l2
  clear F1 N2 F
  (try k_fold)
  k_steps
  (with_reducible rename Fr g' L' _ _ => FZ); (with_reducible rename News h₀ L _ _ => NZ); (with_reducible rename Fr h₀ L _ _ => FY)
  refine ret _ _ _ _ FY ?_ l1 l2
  intro p hp
  rcases List.mem_cons.mp hp with rfl | hp
  · exact NZ _ (.head _)
  rcases List.mem_cons.mp hp with rfl | hp
  · exact NZ _ (.tail _ (.head _))
  have q := l1 p hp
  refine ⟨FZ.keep _ _ (hkeep _ _ (N1 p (.tail _ (.tail _ hp))).1 ?_), (N p hp).2⟩
  intro hm
  have q2 : p.1 = x1 ∨ p.1 = d1 := by simpa using hm
  rcases q2 with e | e
  · exact absurd (e ▸ q : x1 < d1) (Nat.lt_asymm l2)
  · exact absurd (e ▸ q : d1 < d1) (Nat.lt_irrefl _)
set_option maxHeartbeats 8000000 in
theorem mk_u0 {prog : Program} {w : World} {p : Program} {loose : List Str} {mean : ExcName → Option Value} {mg mb : Str → Option Value}
    {dp un : Nat} {gd : Option (List Code)} {cn : Str} {cs : Scope} {a : Addr} {ccd : Value} {cl : List (Str × Addr)} {outer : List Env} {A₀ : Around} {base h₀ : Heap} {L : Addr} {m : Str → Option Value} {s : Shared} {Q E : Value → Shared → Prop}
    {t0 : Tok} {news : List (Addr × Obj)}
    (B : Below A₀ base outer h₀) (F : Fr h₀ L s.heap m) (X : (frag.heap_1 w.params).In h₀) (T : Top p loose mean mg mb h₀) (hk : cs.kind = .function) (hdp : dp + 3 < recursionLimit) (hun : un + 24 < cLine)
    (N : News h₀ L s.heap news)
    (ret : ∀ y dy h' tk, Fr h₀ L h' m → News h₀ L h' ((y, conO 892 dy (Str.ofString "") t0) :: (dy, dictOf [] 0) :: news) → (∀ p ∈ news, p.1 < dy) → @LT.lt Nat _ dy y → Q (.ref y) { s with heap := h', toks := tk }) :
    wpAny (model prog w) (ktrTop dp un gd cn cs L a ccd cl outer) (call (.ref 892) [.str (Str.ofString "") t0]) Q E s := by
  k_dflt (refine' call_cls F X N ?k4 ?k5 ?k6 ?_)
  case k4 => k_is
  case k5 => k_is
  case k6 => k_is
  intro x1 d1 h1 F1 N1 l1 l2
  have N2 : News h₀ L h1 [(x1, instObj 892 d1), (d1, dictOf [] 0)] := fun p hp => N1 p (by
    rcases List.mem_cons.mp hp with rfl | hp
    · exact .head _
    · rw [List.mem_singleton.mp hp]
      exact .tail _ (.head _))
  k_dflt (refine' call_defK B F1 X N2 T ?kA ?kF ?kK ?k6 ?k7 ?k8 ?k9 ?kB ?_ ?c2 ?c3 ?c4 ?c5)
  case kA => exact rfl
  case kF => exact rfl
  case kK => assumption
  case k6 => k_is
  case k7 => k_is
  case k8 => ktr_room
  case k9 => first | exact BindsTo.of_eq rfl | exact binds_K (by k_in) rfl (by k_is) rfl rfl rfl
  case kB => exact locs rfl
  case c2 => exact rfl
  case c3 => exact rfl
  case c4 => exact rfl
  case c5 => decide
  intro g' L' h' FG' F' N' B' X' T' hkeep
  (try dsimp only)
  have l3 : @LT.lt Nat _ d1 x1 := l2
  clear F1 N2 F
  (try k_fold)
  k_steps
  (with_reducible rename Fr g' L' _ _ => FZ); (with_reducible rename News h₀ L _ _ => NZ); (with_reducible rename Fr h₀ L _ _ => FY)
  refine ret _ _ _ _ FY ?_ l1 l2
  intro p hp
  rcases List.mem_cons.mp hp with rfl | hp
  · exact NZ _ (.head _)
  rcases List.mem_cons.mp hp with rfl | hp
  · exact NZ _ (.tail _ (.head _))
  have q := l1 p hp
  refine ⟨FZ.keep _ _ (hkeep _ _ (N1 p (.tail _ (.tail _ hp))).1 ?_), (N p hp).2⟩
  intro hm
  have q2 : p.1 = x1 ∨ p.1 = d1 := by simpa using hm
  rcases q2 with e | e
  · exact absurd (e ▸ q : x1 < d1) (Nat.lt_asymm l2)
  · exact absurd (e ▸ q : d1 < d1) (Nat.lt_irrefl _)
set_option maxHeartbeats 8000000 in
theorem mk_sx {prog : Program} {w : World} {p : Program} {loose : List Str} {mean : ExcName → Option Value} {mg mb : Str → Option Value}
    {dp un : Nat} {gd : Option (List Code)} {cn : Str} {cs : Scope} {a : Addr} {ccd : Value} {cl : List (Str × Addr)} {outer : List Env} {A₀ : Around} {base h₀ : Heap} {L : Addr} {m : Str → Option Value} {s : Shared} {Q E : Value → Shared → Prop}
    {t0 : Tok} {news : List (Addr × Obj)}
    (B : Below A₀ base outer h₀) (F : Fr h₀ L s.heap m) (X : (frag.heap_1 w.params).In h₀) (T : Top p loose mean mg mb h₀) (hk : cs.kind = .function) (hdp : dp + 3 < recursionLimit) (hun : un + 24 < cLine)
    (N : News h₀ L s.heap news)
    (ret : ∀ y dy h' tk, Fr h₀ L h' m → News h₀ L h' ((y, conO 911 dy (Str.ofString "x") t0) :: (dy, dictOf [] 0) :: news) → (∀ p ∈ news, p.1 < dy) → @LT.lt Nat _ dy y → Q (.ref y) { s with heap := h', toks := tk }) :
    wpAny (model prog w) (ktrTop dp un gd cn cs L a ccd cl outer) (call (.ref 911) [.str (Str.ofString "x") t0]) Q E s := by
  k_dflt (refine' call_cls F X N ?k4 ?k5 ?k6 ?_)
  case k4 => k_is
  case k5 => k_is
  case k6 => k_is
  intro x1 d1 h1 F1 N1 l1 l2
  have N2 : News h₀ L h1 [(x1, instObj 911 d1), (d1, dictOf [] 0)] := fun p hp => N1 p (by
    rcases List.mem_cons.mp hp with rfl | hp
    · exact .head _
    · rw [List.mem_singleton.mp hp]
      exact .tail _ (.head _))
  k_dflt (refine' call_defK B F1 X N2 T ?kA ?kF ?kK ?k6 ?k7 ?k8 ?k9 ?kB ?_ ?c2 ?c3 ?c4 ?c5)
  case kA => exact rfl
  case kF => exact rfl
  case kK => assumption
  case k6 => k_is
  case k7 => k_is
  case k8 => ktr_room
  case k9 => first | exact BindsTo.of_eq rfl | exact binds_K (by k_in) rfl (by k_is) rfl rfl rfl
  case kB => exact locs rfl
  case c2 => exact rfl
  case c3 => exact rfl
  case c4 => exact rfl
  case c5 => decide
  intro g' L' h' FG' F' N' B' X' T' hkeep
  (try dsimp only)
  have l3 : @LT.lt Nat _ d1 x1 := l2
  clear F1 N2 F
  (try k_fold)
  k_steps
  (with_reducible rename Fr g' L' _ _ => FZ); (with_reducible rename News h₀ L _ _ => NZ); (with_reducible rename Fr h₀ L _ _ => FY)
  refine ret _ _ _ _ FY ?_ l1 l2
  intro p hp
  rcases List.mem_cons.mp hp with rfl | hp
  · exact NZ _ (.head _)
  rcases List.mem_cons.mp hp with rfl | hp
  · exact NZ _ (.tail _ (.head _))
  have q := l1 p hp
  refine ⟨FZ.keep _ _ (hkeep _ _ (N1 p (.tail _ (.tail _ hp))).1 ?_), (N p hp).2⟩
  intro hm
  have q2 : p.1 = x1 ∨ p.1 = d1 := by simpa using hm
  rcases q2 with e | e
  · exact absurd (e ▸ q : x1 < d1) (Nat.lt_asymm l2)
  · exact absurd (e ▸ q : d1 < d1) (Nat.lt_irrefl _)
set_option maxHeartbeats 8000000 in
theorem mk_s0 {prog : Program} {w : World} {p : Program} {loose : List Str} {mean : ExcName → Option Value} {mg mb : Str → Option Value}
    {dp un : Nat} {gd : Option (List Code)} {cn : Str} {cs : Scope} {a : Addr} {ccd : Value} {cl : List (Str × Addr)} {outer : List Env} {A₀ : Around} {base h₀ : Heap} {L : Addr} {m : Str → Option Value} {s : Shared} {Q E : Value → Shared → Prop}
    {t0 : Tok} {news : List (Addr × Obj)}
    (B : Below A₀ base outer h₀) (F : Fr h₀ L s.heap m) (X : (frag.heap_1 w.params).In h₀) (T : Top p loose mean mg mb h₀) (hk : cs.kind = .function) (hdp : dp + 3 < recursionLimit) (hun : un + 24 < cLine)
    (N : News h₀ L s.heap news)
    (ret : ∀ y dy h' tk, Fr h₀ L h' m → News h₀ L h' ((y, conO 911 dy (Str.ofString "") t0) :: (dy, dictOf [] 0) :: news) → (∀ p ∈ news, p.1 < dy) → @LT.lt Nat _ dy y → Q (.ref y) { s with heap := h', toks := tk }) :
    wpAny (model prog w) (ktrTop dp un gd cn cs L a ccd cl outer) (call (.ref 911) [.str (Str.ofString "") t0]) Q E s := by
  k_dflt (refine' call_cls F X N ?k4 ?k5 ?k6 ?_)
  case k4 => k_is
  case k5 => k_is
  case k6 => k_is
  intro x1 d1 h1 F1 N1 l1 l2
  have N2 : News h₀ L h1 [(x1, instObj 911 d1), (d1, dictOf [] 0)] := fun p hp => N1 p (by
    rcases List.mem_cons.mp hp with rfl | hp
    · exact .head _
    · rw [List.mem_singleton.mp hp]
      exact .tail _ (.head _))
  k_dflt (refine' call_defK B F1 X N2 T ?kA ?kF ?kK ?k6 ?k7 ?k8 ?k9 ?kB ?_ ?c2 ?c3 ?c4 ?c5)
  case kA => exact rfl
  case kF => exact rfl
  case kK => assumption
  case k6 => k_is
  case k7 => k_is
  case k8 => ktr_room
  case k9 => first | exact BindsTo.of_eq rfl | exact binds_K (by k_in) rfl (by k_is) rfl rfl rfl
  case kB => exact locs rfl
  case c2 => exact rfl
  case c3 => exact rfl
  case c4 => exact rfl
  case c5 => decide
  intro g' L' h' FG' F' N' B' X' T' hkeep
  (try dsimp only)
  have l3 : @LT.lt Nat _ d1 x1 := l2
  clear F1 N2 F
  (try k_fold)
  k_steps
  (with_reducible rename Fr g' L' _ _ => FZ); (with_reducible rename News h₀ L _ _ => NZ); (with_reducible rename Fr h₀ L _ _ => FY)
  refine ret _ _ _ _ FY ?_ l1 l2
  intro p hp
  rcases List.mem_cons.mp hp with rfl | hp
  · exact NZ _ (.head _)
  rcases List.mem_cons.mp hp with rfl | hp
  · exact NZ _ (.tail _ (.head _))
  have q := l1 p hp
  refine ⟨FZ.keep _ _ (hkeep _ _ (N1 p (.tail _ (.tail _ hp))).1 ?_), (N p hp).2⟩
  intro hm
  have q2 : p.1 = x1 ∨ p.1 = d1 := by simpa using hm
  rcases q2 with e | e
  · exact absurd (e ▸ q : x1 < d1) (Nat.lt_asymm l2)
  · exact absurd (e ▸ q : d1 < d1) (Nat.lt_irrefl _)
end Mine
end

section
open PySem PySem.W PySem.Calls PyProof.Rows
namespace Mine
local macro_rules | `(tactic| walk_at "spare 0") => `(tactic| skip)
local macro_rules | `(tactic| k_room) => `(tactic| ktr_room)
local macro_rules | `(tactic| walk_at "call ref") => `(tactic| (k_here; (with_reducible show wpAny _ _ (call (Value.ref 889) _) _ _ _); k_dflt (refine' uleb_failany (gs := _) (k := _) ?k1 ?k2 ?k3 ?k4 ?kK ?kd ?ku ?k5 ?m1 ?m2 ?m3 ?a0 ?a1 ?a2 ?a3 ?a4 ?a5 ?a6 ?a7 ?a8 ?a9 ?_; (case k1 => k_asm); (case k2 => k_asm); (case k3 => k_asm); (case k4 => k_asm); (case kK => exact rfl); (case kd => ktr_room); (case ku => ktr_units); (case k5 => k_asm); (case m1 => k_mem); (case m2 => k_mem); (case m3 => k_mem); (case a0 => assumption); (case a1 => assumption); (case a2 => assumption); (case a3 => assumption); (case a4 => assumption); (case a5 => assumption); (case a6 => assumption); (case a7 => assumption); (case a8 => assumption); (case a9 => assumption); k_whole); intro e9 g9 h' tk' F9 R9 U9; (try dsimp only)))
local macro_rules | `(tactic| walk_at "call ref") => `(tactic| (k_here; (with_reducible show wpAny _ _ (call (Value.ref 908) _) _ _ _); k_dflt (refine' sleb_failany (gs := _) (k := _) ?k1 ?k2 ?k3 ?k4 ?kK ?kd ?ku ?k5 ?m1 ?m2 ?m3 ?a0 ?a1 ?a2 ?a3 ?a4 ?a5 ?a6 ?a7 ?a8 ?a9 ?_; (case k1 => k_asm); (case k2 => k_asm); (case k3 => k_asm); (case k4 => k_asm); (case kK => exact rfl); (case kd => ktr_room); (case ku => ktr_units); (case k5 => k_asm); (case m1 => k_mem); (case m2 => k_mem); (case m3 => k_mem); (case a0 => assumption); (case a1 => assumption); (case a2 => assumption); (case a3 => assumption); (case a4 => assumption); (case a5 => assumption); (case a6 => assumption); (case a7 => assumption); (case a8 => assumption); (case a9 => assumption); k_whole); intro e9 g9 h' tk' F9 R9 U9; (try dsimp only)))
local macro_rules | `(tactic| walk_at "leaving ref") => `(tactic| (k_here; (refine' leave_on2 ?k1 ?k2 ?k3 ?k4 ?_; (case k3 => assumption); (case k2 => assumption); (case k1 => assumption); (case k4 => assumption); k_whole; intro h' R' U'; (try dsimp only at R' U' ⊢))))
set_option maxHeartbeats 8000000 in
theorem sp_u1_fail {prog : Program} {w : World} {p : Program} {loose : List Str} {mean : ExcName → Option Value} {mg mb : Str → Option Value}
    {dp un : Nat} {gd : Option (List Code)} {cn : Str} {cs : Scope} {a : Addr} {ccd : Value} {cl : List (Str × Addr)} {A₀ : Around} {h₀ : Heap} {L : Addr} {m : Str → Option Value} {s : Shared} {Q E : Value → Shared → Prop}
    {x dx ba : Addr} {bf : Array UInt8} {pp : Int} {t1 t2 tp : Tok} {y dy : Addr} {q : Int} {tq : Tok} {nm : Str} {ty : Tok} {gs : List Int} {k : Nat}
    (B : Below A₀ h₀ [] h₀) (F : Fr h₀ L s.heap m) (X : (frag.heap_1 w.params).In h₀) (T : Top p loose mean mg mb h₀) (hk : cs.kind = .function) (hdp : dp + 6 < recursionLimit) (hun : un + 60 < cLine)
    (N : News h₀ L s.heap ((y, conO 892 dy nm ty) :: (dy, dictOf [] 0) :: strm w.params x dx ba bf pp t1 t2 tp)) (hy : @Ne Nat y dx) (hdy : @Ne Nat dy dx) (hx : @LT.lt Nat _ dx x) (hb : @LT.lt Nat _ x ba) (hz : bf.size ≤ 16777216) (hp : 0 ≤ pp) (hq : 0 ≤ q) (hlt : (bf.size : Int) = q + k) (hk2 : k < gs.length)
    (hS : ∀ i, i < k → ((bf.getD (q + (i : Int)).toNat 0).toNat : Int) = (encL gs).getD i 0) (hg : ∀ g ∈ gs, 0 ≤ g ∧ g < 128) (hl1 : 1 ≤ gs.length) (hl2 : gs.length ≤ 32)
    (fail : ∀ e g₂ h' tk, Fr h₀ L g₂ m → RaisedSN h₀ g₂ [envX cn cs L a ccd cl] e (.ref 44) [] h' → g₂.UpToSlots h' → E (.ref e) { s with heap := h', toks := tk }) :
    wpAny (model prog w) (ktrTop dp un gd cn cs L a ccd cl []) (call (.ref 861) [.ref y, .ref x, .int q tq]) Q E s := by
  refine wpAny_call ?_
  k_dflt (refine' call_defK ?k1 ?k2 ?k3 ?k4 ?k5 ?kA ?kF ?kK ?k6 ?k7 ?k8 ?k9 ?kB ?_ ?c2 ?c3 ?c4 ?c5)
  case k1 => k_asm
  case k2 => k_asm
  case k3 => k_asm
  case k4 => k_asm
  case k5 => k_asm
  case kA => exact rfl
  case kF => exact rfl
  case kK => assumption
  case k6 => k_is
  case k7 => k_is
  case k8 => ktr_room
  case k9 => first | exact BindsTo.of_eq rfl | exact binds_K (by k_in) rfl (by k_is) rfl rfl rfl
  case kB => exact locs rfl
  case c2 => exact rfl
  case c3 => exact rfl
  case c4 => exact rfl
  case c5 => decide
  intro g' L' h' FG' F' N' B' X' T' hkeep
  (try dsimp only)
  (try k_fold)
  repeat' ((fail_if_success (with_reducible show wpAny _ _ (noteFrame _ _) _ _ _)); first | (k_unfold; (try dsimp only)) | (k_end; wrow_close) | walk1 | (dsimp only; walk1) | (leave1; walk_say "STEP leave1"; try dsimp only) | fail "no step")
  have D' : KtsDicts ([envX cn cs L a ccd cl].filterMap (·.frame)) g' := fr_dict FG'
  refine look2 (by assumption) (by assumption) (by assumption) fun h8 R8 U8 => ?_
  refine hit2 R8 (by assumption) (by assumption) U8 X T D' ?kT ?_ ?hE
  case kT => kts_test
  case hE => exact PassesOwnAt.leaving
  intro h9 g9 oe ws T9 F9 N9 hd9 h29 B9 X9 P9 D9
  refine wpAny_execs_cons ?_
  refine Raise_in (oe := oe) (ws := ws) F9 P9.g (own_of_in X9 (topRead_of P9) (by k_is) (by k_exc)) PySem.F.excBase_Exception rfl ?_
  walk1
  refine ⟨fun b o q => F9.keep b o q, ⟨(N9 _ (.head _)).1, hd9, h29⟩, fun h10 n M => ?_⟩
  show wpAny _ _ (leaving _ _) _ _ _
  refine leave_in B9 M F9 fun h11 R11 U11 => ?_
  exact fail _ _ _ _ (fr_turn FG' T9) R11 U11
set_option maxHeartbeats 8000000 in
theorem sp_s1_fail {prog : Program} {w : World} {p : Program} {loose : List Str} {mean : ExcName → Option Value} {mg mb : Str → Option Value}
    {dp un : Nat} {gd : Option (List Code)} {cn : Str} {cs : Scope} {a : Addr} {ccd : Value} {cl : List (Str × Addr)} {A₀ : Around} {h₀ : Heap} {L : Addr} {m : Str → Option Value} {s : Shared} {Q E : Value → Shared → Prop}
    {x dx ba : Addr} {bf : Array UInt8} {pp : Int} {t1 t2 tp : Tok} {y dy : Addr} {q : Int} {tq : Tok} {nm : Str} {ty : Tok} {gs : List Int} {k : Nat}
    (B : Below A₀ h₀ [] h₀) (F : Fr h₀ L s.heap m) (X : (frag.heap_1 w.params).In h₀) (T : Top p loose mean mg mb h₀) (hk : cs.kind = .function) (hdp : dp + 6 < recursionLimit) (hun : un + 60 < cLine)
    (N : News h₀ L s.heap ((y, conO 911 dy nm ty) :: (dy, dictOf [] 0) :: strm w.params x dx ba bf pp t1 t2 tp)) (hy : @Ne Nat y dx) (hdy : @Ne Nat dy dx) (hx : @LT.lt Nat _ dx x) (hb : @LT.lt Nat _ x ba) (hz : bf.size ≤ 16777216) (hp : 0 ≤ pp) (hq : 0 ≤ q) (hlt : (bf.size : Int) = q + k) (hk2 : k < gs.length)
    (hS : ∀ i, i < k → ((bf.getD (q + (i : Int)).toNat 0).toNat : Int) = (encL gs).getD i 0) (hg : ∀ g ∈ gs, 0 ≤ g ∧ g < 128) (hl1 : 1 ≤ gs.length) (hl2 : gs.length ≤ 32)
    (fail : ∀ e g₂ h' tk, Fr h₀ L g₂ m → RaisedSN h₀ g₂ [envX cn cs L a ccd cl] e (.ref 44) [] h' → g₂.UpToSlots h' → E (.ref e) { s with heap := h', toks := tk }) :
    wpAny (model prog w) (ktrTop dp un gd cn cs L a ccd cl []) (call (.ref 861) [.ref y, .ref x, .int q tq]) Q E s := by
  refine wpAny_call ?_
  k_dflt (refine' call_defK ?k1 ?k2 ?k3 ?k4 ?k5 ?kA ?kF ?kK ?k6 ?k7 ?k8 ?k9 ?kB ?_ ?c2 ?c3 ?c4 ?c5)
  case k1 => k_asm
  case k2 => k_asm
  case k3 => k_asm
  case k4 => k_asm
  case k5 => k_asm
  case kA => exact rfl
  case kF => exact rfl
  case kK => assumption
  case k6 => k_is
  case k7 => k_is
  case k8 => ktr_room
  case k9 => first | exact BindsTo.of_eq rfl | exact binds_K (by k_in) rfl (by k_is) rfl rfl rfl
  case kB => exact locs rfl
  case c2 => exact rfl
  case c3 => exact rfl
  case c4 => exact rfl
  case c5 => decide
  intro g' L' h' FG' F' N' B' X' T' hkeep
  (try dsimp only)
  (try k_fold)
  repeat' ((fail_if_success (with_reducible show wpAny _ _ (noteFrame _ _) _ _ _)); first | (k_unfold; (try dsimp only)) | (k_end; wrow_close) | walk1 | (dsimp only; walk1) | (leave1; walk_say "STEP leave1"; try dsimp only) | fail "no step")
  have D' : KtsDicts ([envX cn cs L a ccd cl].filterMap (·.frame)) g' := fr_dict FG'
  refine look2 (by assumption) (by assumption) (by assumption) fun h8 R8 U8 => ?_
  refine hit2 R8 (by assumption) (by assumption) U8 X T D' ?kT ?_ ?hE
  case kT => kts_test
  case hE => exact PassesOwnAt.leaving
  intro h9 g9 oe ws T9 F9 N9 hd9 h29 B9 X9 P9 D9
  refine wpAny_execs_cons ?_
  refine Raise_in (oe := oe) (ws := ws) F9 P9.g (own_of_in X9 (topRead_of P9) (by k_is) (by k_exc)) PySem.F.excBase_Exception rfl ?_
  walk1
  refine ⟨fun b o q => F9.keep b o q, ⟨(N9 _ (.head _)).1, hd9, h29⟩, fun h10 n M => ?_⟩
  show wpAny _ _ (leaving _ _) _ _ _
  refine leave_in B9 M F9 fun h11 R11 U11 => ?_
  exact fail _ _ _ _ (fr_turn FG' T9) R11 U11
theorem sp_u1_failany {prog : Program} {w : World} {p : Program} {loose : List Str} {mean : ExcName → Option Value} {mg mb : Str → Option Value}
    {dp un : Nat} {gd : Option (List Code)} {cn : Str} {cs : Scope} {a : Addr} {ccd : Value} {cl : List (Str × Addr)} {A₀ : Around} {h₀ : Heap} {L : Addr} {m : Str → Option Value} {s : Shared} {Q E : Value → Shared → Prop}
    {x dx ba : Addr} {bf : Array UInt8} {pp : Int} {t1 t2 tp : Tok} {y dy : Addr} {q : Int} {tq : Tok} {nm : Str} {ty : Tok} {gs : List Int} {k : Nat} {news : List (Addr × Obj)}
    (B : Below A₀ h₀ [] h₀) (F : Fr h₀ L s.heap m) (X : (frag.heap_1 w.params).In h₀) (T : Top p loose mean mg mb h₀) (hk : cs.kind = .function) (hdp : dp + 6 < recursionLimit) (hun : un + 60 < cLine)
    (N : News h₀ L s.heap news) (my : (y, conO 892 dy nm ty) ∈ news) (mdy : (dy, dictOf [] 0) ∈ news) (mx : (x, instObj 502 dx) ∈ news) (md : (dx, strD w.params ba pp t1 t2 tp) ∈ news) (mb : (ba, baObj bf) ∈ news) (hx : @LT.lt Nat _ dx x) (hb : @LT.lt Nat _ x ba) (hz : bf.size ≤ 16777216) (hp : 0 ≤ pp) (hq : 0 ≤ q) (hlt : (bf.size : Int) = q + k) (hk2 : k < gs.length)
    (hS : ∀ i, i < k → ((bf.getD (q + (i : Int)).toNat 0).toNat : Int) = (encL gs).getD i 0) (hg : ∀ g ∈ gs, 0 ≤ g ∧ g < 128) (hl1 : 1 ≤ gs.length) (hl2 : gs.length ≤ 32)
    (fail : ∀ e g₂ h' tk, Fr h₀ L g₂ m → RaisedSN h₀ g₂ [envX cn cs L a ccd cl] e (.ref 44) [] h' → g₂.UpToSlots h' → E (.ref e) { s with heap := h', toks := tk }) :
    wpAny (model prog w) (ktrTop dp un gd cn cs L a ccd cl []) (call (.ref 861) [.ref y, .ref x, .int q tq]) Q E s := by
  have N1 : News h₀ L s.heap ((y, conO 892 dy nm ty) :: (dy, dictOf [] 0) :: strm w.params x dx ba bf pp t1 t2 tp) := by
    intro p hp
    rcases List.mem_cons.mp hp with rfl | hp
    · exact N _ my
    rcases List.mem_cons.mp hp with rfl | hp
    · exact N _ mdy
    rcases List.mem_cons.mp hp with rfl | hp
    · exact N _ mx
    rcases List.mem_cons.mp hp with rfl | hp
    · exact N _ md
    · rw [List.mem_singleton.mp hp]
      exact N _ mb
  exact sp_u1_fail B F X T hk hdp hun N1 (N.twoPlaces my md con_ne) (N.twoPlaces mdy md emp_ne) hx hb hz hp hq hlt hk2 hS hg hl1 hl2 fail
theorem sp_s1_failany {prog : Program} {w : World} {p : Program} {loose : List Str} {mean : ExcName → Option Value} {mg mb : Str → Option Value}
    {dp un : Nat} {gd : Option (List Code)} {cn : Str} {cs : Scope} {a : Addr} {ccd : Value} {cl : List (Str × Addr)} {A₀ : Around} {h₀ : Heap} {L : Addr} {m : Str → Option Value} {s : Shared} {Q E : Value → Shared → Prop}
    {x dx ba : Addr} {bf : Array UInt8} {pp : Int} {t1 t2 tp : Tok} {y dy : Addr} {q : Int} {tq : Tok} {nm : Str} {ty : Tok} {gs : List Int} {k : Nat} {news : List (Addr × Obj)}
    (B : Below A₀ h₀ [] h₀) (F : Fr h₀ L s.heap m) (X : (frag.heap_1 w.params).In h₀) (T : Top p loose mean mg mb h₀) (hk : cs.kind = .function) (hdp : dp + 6 < recursionLimit) (hun : un + 60 < cLine)
    (N : News h₀ L s.heap news) (my : (y, conO 911 dy nm ty) ∈ news) (mdy : (dy, dictOf [] 0) ∈ news) (mx : (x, instObj 502 dx) ∈ news) (md : (dx, strD w.params ba pp t1 t2 tp) ∈ news) (mb : (ba, baObj bf) ∈ news) (hx : @LT.lt Nat _ dx x) (hb : @LT.lt Nat _ x ba) (hz : bf.size ≤ 16777216) (hp : 0 ≤ pp) (hq : 0 ≤ q) (hlt : (bf.size : Int) = q + k) (hk2 : k < gs.length)
    (hS : ∀ i, i < k → ((bf.getD (q + (i : Int)).toNat 0).toNat : Int) = (encL gs).getD i 0) (hg : ∀ g ∈ gs, 0 ≤ g ∧ g < 128) (hl1 : 1 ≤ gs.length) (hl2 : gs.length ≤ 32)
    (fail : ∀ e g₂ h' tk, Fr h₀ L g₂ m → RaisedSN h₀ g₂ [envX cn cs L a ccd cl] e (.ref 44) [] h' → g₂.UpToSlots h' → E (.ref e) { s with heap := h', toks := tk }) :
    wpAny (model prog w) (ktrTop dp un gd cn cs L a ccd cl []) (call (.ref 861) [.ref y, .ref x, .int q tq]) Q E s := by
  have N1 : News h₀ L s.heap ((y, conO 911 dy nm ty) :: (dy, dictOf [] 0) :: strm w.params x dx ba bf pp t1 t2 tp) := by
    intro p hp
    rcases List.mem_cons.mp hp with rfl | hp
    · exact N _ my
    rcases List.mem_cons.mp hp with rfl | hp
    · exact N _ mdy
    rcases List.mem_cons.mp hp with rfl | hp
    · exact N _ mx
    rcases List.mem_cons.mp hp with rfl | hp
    · exact N _ md
    · rw [List.mem_singleton.mp hp]
      exact N _ mb
  exact sp_s1_fail B F X T hk hdp hun N1 (N.twoPlaces my md con_ne) (N.twoPlaces mdy md emp_ne) hx hb hz hp hq hlt hk2 hS hg hl1 hl2 fail
end Mine
end

section
open PySem PySem.W PySem.Calls PyProof.Rows
namespace Mine
def lawRec : DefRec := lawD.1.1
def lawScope : Scope := lawRec.scope
def law1 : Stmt := match lawRec.body with | [_, a, _, _, _, _, _, _, _] => a | _ => .Pass default
def law2 : Stmt := match lawRec.body with | [_, _, a, _, _, _, _, _, _] => a | _ => .Pass default
def law3 : Stmt := match lawRec.body with | [_, _, _, a, _, _, _, _, _] => a | _ => .Pass default
def law4 : Stmt := match lawRec.body with | [_, _, _, _, a, _, _, _, _] => a | _ => .Pass default
def law5 : Stmt := match lawRec.body with | [_, _, _, _, _, a, _, _, _] => a | _ => .Pass default
def law6 : Stmt := match lawRec.body with | [_, _, _, _, _, _, a, _, _] => a | _ => .Pass default
def law7 : Stmt := match lawRec.body with | [_, _, _, _, _, _, _, a, _] => a | _ => .Pass default
def law8 : Stmt := match lawRec.body with | [_, _, _, _, _, _, _, _, a] => a | _ => .Pass default
end Mine
end

section
open PySem PySem.W PySem.Calls PyProof.Rows
namespace Mine
abbrev Row := Int × Bool × List Int
def octL (rs : List Row) : List Int := rs.flatMap fun r => encL r.2.2
def at_ (rs : List Row) (i : Nat) : Nat := (octL (rs.take i)).length
def numD (rs : List Row) : List Dat := rs.map fun r => .tuple [.int r.1, .bool r.2.1]
def plD (rs : List Row) : List Dat := (List.range rs.length).map fun i => .tuple [.int (at_ rs i : Int), .int (at_ rs (i + 1) : Int)]
abbrev LawS := List Row × List Value × List Value × Nat × Nat × Tok
abbrev lawLed (ln lp : Addr) (c : LawS) : List (Addr × Obj) := [(lp, W.listOf c.2.2.1.toArray c.2.2.2.2.1), (ln, W.listOf c.2.1.toArray c.2.2.2.1)]
abbrev lawPs (c : LawS) : List (Str × Value) := [(Str.ofString "octets", .bytes (byteArr (octL c.1)) c.2.2.2.2.2)]
def LawFacts (news : List (Addr × Obj)) (c : LawS) : Prop := DatAll news c.2.1 (numD c.1) ∧ DatAll news c.2.2.1 (plD c.1)
def LawP (pre : List Int) (c : LawS) : Prop := c.1.length = pre.length ∧ ∀ r ∈ c.1, Sev r.1 r.2.1 r.2.2
theorem octL_snoc (rs : List Row) (r : Row) : octL (rs ++ [r]) = octL rs ++ encL r.2.2 := by simp [octL]
theorem byteArr_append (a b : List Int) : byteArr a ++ byteArr b = byteArr (a ++ b) := by simp [byteArr]
theorem at_snoc {rs : List Row} {r : Row} {i : Nat} (h : i ≤ rs.length) : at_ (rs ++ [r]) i = at_ rs i := by
  unfold at_
  rw [List.take_append_of_le_length h]
theorem at_all (rs : List Row) : at_ rs rs.length = (octL rs).length := by
  unfold at_
  rw [List.take_length]
theorem plD_snoc (rs : List Row) (r : Row) : plD (rs ++ [r]) = plD rs ++ [.tuple [.int ((octL rs).length : Int), .int (((octL rs).length : Int) + (r.2.2.length : Int))]] := by
  unfold plD
  rw [List.length_append, List.length_singleton, List.range_succ, List.map_append]
  congr 1
  · refine List.map_congr_left fun i hi => ?_
    have hi' := List.mem_range.mp hi
    rw [at_snoc (by omega), at_snoc (by omega)]
  · have e1 : at_ (rs ++ [r]) rs.length = (octL rs).length := by rw [at_snoc (Nat.le_refl _), at_all]
    have e2 : at_ (rs ++ [r]) (rs.length + 1) = (octL rs).length + r.2.2.length := by
      have := at_all (rs ++ [r])
      rw [List.length_append, List.length_singleton] at this
      rw [this, octL_snoc, List.length_append, encL_length]
    simp only [List.map_cons, List.map_nil, e1, e2, Int.natCast_add]
theorem numD_snoc (rs : List Row) (r : Row) : numD (rs ++ [r]) = numD rs ++ [.tuple [.int r.1, .bool r.2.1]] := by simp [numD]
theorem oct_len {rs : List Row} (h : ∀ r ∈ rs, Sev r.1 r.2.1 r.2.2) : (octL rs).length ≤ 32 * rs.length := by
  induction rs with
  | nil => exact Nat.le_refl _
  | cons r rs ih =>
    have h1 := ih fun q hq => h q (.tail _ hq)
    have h2 := (h r (.head _)).len
    simp only [octL, List.flatMap_cons, List.length_append, encL_length, List.length_cons] at h1 ⊢
    omega
theorem turn1_end {h₀ h' : Heap} {L ln lp D1 Dn Dp : Addr} {s₁ : Shared} {tk : Nat} {rs : List Row} {nv pv ws1 : List Value} {nn pn : Nat} {to t' : Tok} {v a b : Int} {sg : Bool} {gs pre : List Int} {n : Int} {tv ta tb : Tok} {m₀ m' : Str → Option Value} {tl own : List (Addr × Obj)}
    (hS : Sev v sg gs) (hf : LawFacts ([(D1, W.listOf ws1.toArray 0)] ++ tl) (rs, nv, pv, nn, pn, to)) (hP : LawP pre (rs, nv, pv, nn, pn, to)) (hsep : KdSep own tl [lp, ln, D1])
    (hl1 : lp < Dn ∧ ln < Dn ∧ D1 < Dn ∧ AllLt Dn (tl ++ own)) (hl2 : Dn < Dp ∧ lp < Dp ∧ ln < Dp ∧ D1 < Dp ∧ AllLt Dp (tl ++ own))
    (FZ : Fr h₀ L h' m') (NZ : News h₀ L h' ((Dp, ({ cls := .type "tuple", data := .seq #[Value.int a ta, Value.int b tb] } : Obj)) :: (Dn, ({ cls := .type "tuple", data := .seq #[Value.int v tv, Value.bool sg] } : Obj)) ::
      (lp, W.listOf (pv ++ [Value.ref Dp]).toArray (pn + 1)) :: (ln, W.listOf (nv ++ [Value.ref Dn]).toArray (nn + 1)) :: (D1, W.listOf ws1.toArray 0) :: (tl ++ own)))
    (ha : a = ((octL rs).length : Int)) (hb : b = ((octL rs).length : Int) + (gs.length : Int))
    (h1 : m' (Str.ofString "octets") = some (.bytes (byteArr (octL rs) ++ byteArr (encL gs)) t'))
    (h2 : ∀ z, z ≠ Str.ofString "x" → z ≠ Str.ofString "octets" → List.contains [Str.ofString "signed", Str.ofString "value", Str.ofString "row"] z = false → m' z = m₀ z) :
    InvEndG h₀ L (KdS (lawLed ln lp) [(D1, W.listOf ws1.toArray 0)] lawPs LawFacts (Str.ofString "x") [Str.ofString "signed", Str.ofString "value", Str.ofString "row"] m₀ LawP [lp, ln, D1] (pre ++ [n])) own s₁ { s₁ with heap := h', toks := tk } := by
  have al1 : ∀ p ∈ tl ++ own, p.1 < Dn := fun p hp => tb_ltOf hl1.2.2.2 p hp
  have al2 : ∀ p ∈ tl ++ own, p.1 < Dp := fun p hp => tb_ltOf hl2.2.2.2.2 p hp
  have hmono : ∀ p ∈ [(D1, W.listOf ws1.toArray 0)] ++ tl, p ∈ [(D1, W.listOf ws1.toArray 0)] ++ ([(Dp, ({ cls := .type "tuple", data := .seq #[Value.int a ta, Value.int b tb] } : Obj)), (Dn, ({ cls := .type "tuple", data := .seq #[Value.int v tv, Value.bool sg] } : Obj))] ++ tl) := kd_sub
  refine kd_end (rs ++ [(v, sg, gs)], nv ++ [Value.ref Dn], pv ++ [Value.ref Dp], nn + 1, pn + 1, t') [(Dp, ({ cls := .type "tuple", data := .seq #[Value.int a ta, Value.int b tb] } : Obj)), (Dn, ({ cls := .type "tuple", data := .seq #[Value.int v tv, Value.bool sg] } : Obj))] hsep FZ NZ ?_ ?_ rfl ?_ ?_ ?_ ?_ ?_ ?_
  · intro p hp
    simp only [lawLed, List.cons_append, List.nil_append, List.mem_cons, List.mem_append] at hp ⊢
    rcases hp with rfl | rfl | rfl | rfl | rfl | hp <;> simp [*]
  · intro p hp
    exact .tail _ (.tail _ (.tail _ (.tail _ (.tail _ (List.mem_append.mpr (.inr hp))))))
  · intro q hq b hb
    simp only [List.mem_cons, List.not_mem_nil, or_false] at hq hb
    rcases hq with rfl | rfl <;> rcases hb with rfl | rfl | rfl <;> (show @Ne Nat _ _; first | exact Nat.ne_of_lt hl2.2.1 | exact Nat.ne_of_lt hl2.2.2.1 | exact Nat.ne_of_lt hl2.2.2.2.1 | exact Nat.ne_of_lt hl1.1 | exact Nat.ne_of_lt hl1.2.1 | exact Nat.ne_of_lt hl1.2.2.1)
  · intro q hq p hp
    simp only [List.mem_cons, List.not_mem_nil, or_false] at hq
    rcases hq with rfl | rfl
    · exact Nat.ne_of_lt (al2 p (List.mem_append.mpr (.inr hp)))
    · exact Nat.ne_of_lt (al1 p (List.mem_append.mpr (.inr hp)))
  · intro p hp
    rw [List.mem_singleton.mp hp]
    show m' _ = some (.bytes (byteArr (octL (rs ++ [(v, sg, gs)]))) t')
    rw [h1, octL_snoc, byteArr_append]
  · intro z a1 a2 a3
    exact h2 z a1 (a2 _ (List.mem_singleton.mpr rfl)) a3
  · constructor
    · show DatAll _ (nv ++ [Value.ref Dn]) (numD (rs ++ [(v, sg, gs)]))
      rw [numD_snoc]
      exact (DatAll.mono hmono hf.1).append (DatAll.one (.tuple (vs := [.int v tv, .bool sg]) (n := 0) (.tail _ (.tail _ (.head _))) (.cons (.int _ _) (.cons (.bool _) .nil))))
    · show DatAll _ (pv ++ [Value.ref Dp]) (plD (rs ++ [(v, sg, gs)]))
      rw [plD_snoc]
      show DatAll _ _ (plD rs ++ [Dat.tuple [Dat.int ((octL rs).length : Int), Dat.int (((octL rs).length : Int) + (gs.length : Int))]])
      rw [← hb, ← ha]
      refine (DatAll.mono hmono hf.2).append (DatAll.one ?_)
      exact .tuple (vs := [.int a ta, .int b tb]) (n := 0) (.tail _ (.head _)) (.cons (.int _ _) (.cons (.int _ _) .nil))
  · constructor
    · show (rs ++ [(v, sg, gs)]).length = (pre ++ [n]).length
      rw [List.length_append, List.length_append, hP.1]
      rfl
    · intro r hr
      rcases List.mem_append.mp hr with hr | hr
      · exact hP.2 r hr
      · rw [List.mem_singleton.mp hr]
        exact hS
end Mine
end

section
open PySem PySem.W PySem.Calls PyProof.Rows
namespace Mine
theorem u8_back {n : Int} (h : 0 ≤ n ∧ n < 256) : ((n.toNat.toUInt8).toNat : Int) = n := by
  have e : (n.toNat.toUInt8).toNat = n.toNat % 256 := by simp [Nat.toUInt8]
  rw [e]
  omega
theorem says_core {b : Array UInt8} {A T : List UInt8} {gs : List Int} {k : Nat} (hb : b.toList = A ++ T) (hr : ∀ n ∈ encL gs, 0 ≤ n ∧ n < 256) (hk : k ≤ gs.length)
    (hT : T.take k = ((encL gs).take k).map (fun n => n.toNat.toUInt8)) : ∀ i, i < k → ((b.getD ((A.length : Int) + (i : Int)).toNat 0).toNat : Int) = (encL gs).getD i 0 := by
  intro i hi
  have hl : (encL gs).length = gs.length := encL_length
  have hi2 : i < (encL gs).length := by omega
  have e0 : ((A.length : Int) + (i : Int)).toNat = A.length + i := by omega
  have e1 : b.getD (A.length + i) 0 = ((encL gs)[i]'hi2).toNat.toUInt8 := by
    have q : b.toList[A.length + i]? = some (((encL gs)[i]'hi2).toNat.toUInt8) := by
      rw [hb, List.getElem?_append_right (by omega), show A.length + i - A.length = i by omega]
      have q2 : T[i]? = (T.take k)[i]? := (List.getElem?_take_of_lt hi).symm
      rw [q2, hT, List.getElem?_map, List.getElem?_take_of_lt hi, List.getElem?_eq_getElem hi2]
      rfl
    have q3 : b[A.length + i]? = some (((encL gs)[i]'hi2).toNat.toUInt8) := by rw [← q]; simp
    simp only [Array.getD_eq_getD_getElem?, q3, Option.getD_some]
  rw [e0, e1, u8_back (hr _ (List.getElem_mem hi2)), List.getD_eq_getElem?_getD, List.getElem?_eq_getElem hi2]
  rfl
theorem octL_split {rs : List Row} {i : Nat} (h : i < rs.length) : octL rs = octL (rs.take i) ++ (encL (rs[i]).2.2 ++ octL (rs.drop (i + 1))) := by
  have e : rs = rs.take i ++ rs[i] :: rs.drop (i + 1) := by
    have := (List.take_append_drop i rs).symm
    rw [List.drop_eq_getElem_cons h] at this
    exact this
  refine (congrArg octL e).trans ?_
  unfold octL
  rw [List.flatMap_append, List.flatMap_cons]
theorem byteArr_list (ns : List Int) : (byteArr ns).toList = ns.map (fun n => n.toNat.toUInt8) := by simp [byteArr]
theorem at_succ {rs : List Row} {i : Nat} (h : i < rs.length) : at_ rs (i + 1) = at_ rs i + (rs[i]).2.2.length := by
  unfold at_
  rw [List.take_add_one, List.getElem?_eq_getElem h]
  show (octL (rs.take i ++ [rs[i]])).length = _
  rw [octL_snoc, List.length_append, encL_length]
theorem at_le {rs : List Row} {i : Nat} (h : i < rs.length) : at_ rs (i + 1) ≤ (octL rs).length := by
  rw [at_succ h, octL_split h]
  simp only [List.length_append, encL_length, at_]
  omega
theorem says_row {rs : List Row} {i : Nat} {z : Array UInt8} (h : i < rs.length) (hS : ∀ r ∈ rs, Sev r.1 r.2.1 r.2.2) : Says (byteArr (octL rs) ++ z) (at_ rs i : Int) (rs[i]).2.2 := by
  have hb : (byteArr (octL rs) ++ z).toList = (octL (rs.take i)).map (fun n => n.toNat.toUInt8) ++ ((encL (rs[i]).2.2).map (fun n => n.toNat.toUInt8) ++ ((octL (rs.drop (i + 1))).map (fun n => n.toNat.toUInt8) ++ z.toList)) := by
    rw [Array.toList_append, byteArr_list, octL_split h]
    simp only [List.map_append, List.append_assoc]
  have c := says_core (k := (rs[i]).2.2.length) hb (encL_in (hS _ (List.getElem_mem h))) (Nat.le_refl _) (by
    rw [List.take_append_of_le_length (by rw [List.length_map, encL_length]; exact Nat.le_refl _)]
    rw [List.map_take])
  intro j hj
  have := c j hj
  rw [List.length_map] at this
  exact this
theorem fits_row {rs : List Row} {i : Nat} {z : Array UInt8} (h : i < rs.length) : (at_ rs i : Int) + ((rs[i]).2.2.length : Int) ≤ ((byteArr (octL rs) ++ z).size : Int) := by
  have h1 := at_le h
  rw [at_succ h] at h1
  rw [Array.size_append, byteArr_size]
  omega
/-- the cut of the last row -/
theorem says_cut {rs : List Row} {i k : Nat} {b : Array UInt8} (h : i < rs.length) (hS : ∀ r ∈ rs, Sev r.1 r.2.1 r.2.2) (hk : k ≤ (rs[i]).2.2.length) (hb : b.toList = ((octL rs).take (at_ rs i + k)).map (fun n => n.toNat.toUInt8)) :
    ∀ j, j < k → ((b.getD ((at_ rs i : Int) + (j : Int)).toNat 0).toNat : Int) = (encL (rs[i]).2.2).getD j 0 := by
  have e : b.toList = (octL (rs.take i)).map (fun n => n.toNat.toUInt8) ++ ((encL (rs[i]).2.2).take k).map (fun n => n.toNat.toUInt8) := by
    rw [hb, octL_split h, ← List.map_append]
    congr 1
    show List.take ((octL (rs.take i)).length + k) _ = _
    rw [List.take_length_add_append, List.take_append_of_le_length (by rw [encL_length]; exact hk)]
  have c := says_core (k := k) e (encL_in (hS _ (List.getElem_mem h))) hk (by
    rw [List.take_of_length_le]
    rw [List.length_map, List.length_take]
    exact Nat.min_le_left _ _)
  intro j hj
  have := c j hj
  rw [List.length_map] at this
  exact this
end Mine
end

section
open PySem PySem.W PySem.Calls PyProof.Rows
namespace Mine
abbrev tupO (vs : List Value) (n : Nat) : Obj := { cls := .type "tuple", data := .seq vs.toArray n }
theorem num_dat {L9 : List (Addr × Obj)} {v : Value} {i : Int} {b : Bool} (h : DatIn L9 v (.tuple [.int i, .bool b])) : ∃ a t n0, v = .ref a ∧ (a, tupO [.int i t, .bool b] n0) ∈ L9 := by
  cases h with
  | tuple hm hr =>
    cases hr with
    | cons h1 hr =>
      cases hr with
      | cons h2 hr =>
        cases hr
        cases h1
        cases h2
        exact ⟨_, _, _, rfl, hm⟩
theorem pl_dat {L9 : List (Addr × Obj)} {v : Value} {i j : Int} (h : DatIn L9 v (.tuple [.int i, .int j])) : ∃ a t u n0, v = .ref a ∧ (a, tupO [.int i t, .int j u] n0) ∈ L9 := by
  cases h with
  | tuple hm hr =>
    cases hr with
    | cons h1 hr =>
      cases hr with
      | cons h2 hr =>
        cases hr
        cases h1
        cases h2
        exact ⟨_, _, _, _, rfl, hm⟩
section
variable {prog : Program} {w : World} {A : Around} {E : Value → Shared → Prop} {s : Shared} {h₀ : Heap} {L l : Addr} {news L9 : List (Addr × Obj)} {us : List Value} {rs : List Row} {n : Nat} {i : Nat} {u : Tok} {Q : Value → Shared → Prop} {value slice : PySem.Expr}
theorem num_item (N : News h₀ L s.heap news) (hm : (l, W.listOf us.toArray n) ∈ news) (hd : DatAll L9 us (numD rs)) (hi : i < rs.length) (hz : rs.length ≤ 9)
    (h : ∀ a t n0, (a, tupO [.int (rs[i]).1 t, .bool (rs[i]).2.1] n0) ∈ L9 → Q (.ref a) s)
    (hs : subscripted slice false (.ref l) (.int (i : Int) u) = operate [.ref l, .int (i : Int) u] (getItem (.ref l) (.int (i : Int) u)) := by with_unfolding_all rfl) :
    wpAny (model prog w) A (subscriptTail value slice (.ref l) (.int (i : Int) u)) Q E s := by
  have hl : (numD rs).length = rs.length := by simp [numD]
  refine kd_item N hm hd (by omega) (by omega) (by omega) (fun v d hg _ hD => ?_) hs
  have e : (i : Int).toNat = i := by omega
  rw [e, numD, List.getElem?_map, List.getElem?_eq_getElem hi] at hg
  have e2 := Option.some.inj hg
  rw [← e2] at hD
  obtain ⟨a, t, n0, rfl, hm⟩ := num_dat hD
  exact h a t n0 hm
theorem pl_item (N : News h₀ L s.heap news) (hm : (l, W.listOf us.toArray n) ∈ news) (hd : DatAll L9 us (plD rs)) (hi : i < rs.length) (hz : rs.length ≤ 9)
    (h : ∀ a t t' n0, (a, tupO [.int (at_ rs i : Int) t, .int (at_ rs (i + 1) : Int) t'] n0) ∈ L9 → Q (.ref a) s)
    (hs : subscripted slice false (.ref l) (.int (i : Int) u) = operate [.ref l, .int (i : Int) u] (getItem (.ref l) (.int (i : Int) u)) := by with_unfolding_all rfl) :
    wpAny (model prog w) A (subscriptTail value slice (.ref l) (.int (i : Int) u)) Q E s := by
  have hl : (plD rs).length = rs.length := by simp [plD]
  refine kd_item N hm hd (by omega) (by omega) (by omega) (fun v d hg _ hD => ?_) hs
  have e : (i : Int).toNat = i := by omega
  rw [e, plD, List.getElem?_map, List.getElem?_range hi] at hg
  have e2 := Option.some.inj hg
  rw [← e2] at hD
  obtain ⟨a, t, t', n0, rfl, hm⟩ := pl_dat hD
  exact h a t t' n0 hm
theorem num_len (N : News h₀ L s.heap news) (hm : (l, W.listOf us.toArray n) ∈ news) (hd : DatAll L9 us (numD rs)) (hz : rs.length ≤ 9)
    (h : Q (.int (rs.length : Int) (s.toks + 1)) { s with toks := s.toks + 1 + 1 }) : wpAny (model prog w) A (call (.builtin "len") [.ref l]) Q E s := by
  have hl : (numD rs).length = rs.length := by simp [numD]
  refine kd_len N hm hd (by omega) ?_
  rw [hl]
  exact h
end
abbrev l2Led (P : Params) (dx ba : Addr) (t1 t2 : Tok) (c : Int × Tok) : List (Addr × Obj) := [(dx, strD P ba c.1 t1 t2 c.2)]
def L2P (rs : List Row) (pre : List Int) (c : Int × Tok) : Prop := c.1 = (at_ rs pre.length : Int)
theorem turn2_end {h₀ h' : Heap} {P : Params} {L x dx ba lp ln : Addr} {s₁ : Shared} {tk : Nat} {rs : List Row} {nv pv : List Value} {nn pn : Nat} {bf : Array UInt8} {t1 t2 tp' : Tok} {pos : Int} {pre : List Int} {k : Int} {m₀ m' : Str → Option Value} {tl tl2 own news' : List (Addr × Obj)} {stored : List Str}
    (hsep : KdSep own tl2 (dx :: x :: ba :: lp :: ln :: tl.map (·.1))) (FZ : Fr h₀ L h' m') (NZ : News h₀ L h' news')
    (hn : ∀ p ∈ (dx, strD P ba pos t1 t2 tp') :: (x, instObj 502 dx) :: (ba, baObj bf) :: (lp, W.listOf pv.toArray pn) :: (ln, W.listOf nv.toArray nn) :: (tl ++ (tl2 ++ own)), p ∈ news') (hpos : pos = (at_ rs (pre.length + 1) : Int))
    (h2 : ∀ z, z ≠ Str.ofString "n" → stored.contains z = false → m' z = m₀ z) :
    InvEndG h₀ L (KdS (l2Led P dx ba t1 t2) ((x, instObj 502 dx) :: (ba, baObj bf) :: (lp, W.listOf pv.toArray pn) :: (ln, W.listOf nv.toArray nn) :: tl) (fun _ => []) (fun _ _ => True) (Str.ofString "n") stored m₀ (L2P rs) (dx :: x :: ba :: lp :: ln :: tl.map (·.1)) (pre ++ [k])) own s₁ { s₁ with heap := h', toks := tk } := by
  refine kd_end (pos, tp') [] hsep FZ NZ ?_ ?_ rfl ?_ ?_ ?_ ?_ trivial ?_
  · intro p hp
    refine hn p ?_
    simp only [l2Led, List.cons_append, List.nil_append, List.mem_cons, List.mem_append] at hp ⊢
    rcases hp with h | h | h | h | h | h | h
    all_goals simp [h]
  · intro p hp
    exact hn p (.tail _ (.tail _ (.tail _ (.tail _ (.tail _ (List.mem_append.mpr (.inr (List.mem_append.mpr (.inr hp)))))))))
  · exact fun _ h => nomatch h
  · exact fun _ h => nomatch h
  · exact fun _ h => nomatch h
  · exact fun z a1 _ a3 => h2 z a1 a3
  · show pos = (at_ rs (pre ++ [k]).length : Int)
    rw [List.length_append]
    exact hpos
end Mine
end

section
open PySem PySem.W PySem.Calls PyProof.Rows
namespace Mine
theorem last_get {rs : List Row} {i : Nat} (hi : i < rs.length) (hS : ∀ r ∈ rs, Sev r.1 r.2.1 r.2.2) : (octL rs)[at_ rs i + ((rs[i]).2.2.length - 1)]? = some (lst (rs[i]).2.2) := by
  have hrow := hS _ (List.getElem_mem hi)
  have hp := hrow.pos
  rw [octL_split hi, List.getElem?_append_right (by unfold at_; omega)]
  have e : at_ rs i + ((rs[i]).2.2.length - 1) - (octL (rs.take i)).length = (rs[i]).2.2.length - 1 := by unfold at_; omega
  have hl : (encL (rs[i]).2.2).length = (rs[i]).2.2.length := encL_length
  rw [e, List.getElem?_append_left (by omega)]
  have g := enc_get (gs := (rs[i]).2.2) (i := (rs[i]).2.2.length - 1) (by omega)
  rw [if_pos (by omega)] at g
  rw [List.getD_eq_getElem?_getD, List.getElem?_eq_getElem (by omega)] at g
  rw [List.getElem?_eq_getElem (by omega)]
  have g2 : (encL (rs[i]).2.2)[(rs[i]).2.2.length - 1]'(by omega) = (rs[i]).2.2.getD ((rs[i]).2.2.length - 1) 0 := g
  rw [g2, lst_get hp]
set_option maxHeartbeats 4000000 in
theorem last_item {prog : Program} {w : World} {A : Around} {E : Value → Shared → Prop} {s : Shared} {rs : List Row} {i : Nat} {t u : Tok} {Q : Value → Shared → Prop} {value slice : PySem.Expr}
    (hi : i < rs.length) (hS : ∀ r ∈ rs, Sev r.1 r.2.1 r.2.2) (hz : rs.length ≤ 9) (q : Q (.int (lst (rs[i]).2.2) s.toks) { s with toks := s.toks + 1 })
    (hs : subscripted slice false (.bytes (byteArr (octL rs)) t) (.int ((at_ rs (i + 1) : Int) - 1) u) = operate [.bytes (byteArr (octL rs)) t, .int ((at_ rs (i + 1) : Int) - 1) u] (getItem (.bytes (byteArr (octL rs)) t) (.int ((at_ rs (i + 1) : Int) - 1) u)) := by with_unfolding_all rfl)
    (ht : ∀ r, letTemporaryGo value (.bytes (byteArr (octL rs)) t) r = pure () := by intro _; with_unfolding_all rfl) :
    wpAny (model prog w) A (subscriptTail value slice (.bytes (byteArr (octL rs)) t) (.int ((at_ rs (i + 1) : Int) - 1) u)) Q E s := by
  have h1 := at_le hi
  have h2 := at_succ hi
  have hrow := hS _ (List.getElem_mem hi)
  have hp := hrow.pos
  have hol := oct_len hS
  have eb : byteArr (octL rs) = ((octL rs).map fun n => n.toNat.toUInt8).toArray := rfl
  rw [eb] at hs ht ⊢
  have hm : ((octL rs).map fun n => n.toNat.toUInt8).length = (octL rs).length := List.length_map _
  refine subscriptTail_builtin (typeIs_bytes _ _ _) FB.slot_bytes_getitem.lookup ?_ hs ht
  refine getItem_bytes (by rw [hm]; omega) (by omega) (by rw [hm]; omega) ?_
  have e : ((at_ rs (i + 1) : Int) - 1).toNat = at_ rs i + ((rs[i]).2.2.length - 1) := by omega
  have e2 : ((((octL rs).map fun n => n.toNat.toUInt8).getD ((at_ rs (i + 1) : Int) - 1).toNat 0).toNat : Int) = lst (rs[i]).2.2 := by
    rw [e, List.getD_eq_getElem?_getD, List.getElem?_map, last_get hi hS]
    refine u8_back ?_
    have := hrow.rng (lst (rs[i]).2.2) (by
      rw [← lst_get hp, List.getD_eq_getElem?_getD, List.getElem?_eq_getElem (by omega)]
      exact List.getElem_mem _)
    omega
  rw [e2]
  exact q
abbrev l3Led (P : Params) (dx x ba lp ln : Addr) (t1 t2 : Tok) (bf : Array UInt8) (pv nv : List Value) (pn nn : Nat) (tl : List (Addr × Obj)) (c : Int × Tok) : List (Addr × Obj) := (dx, strD P ba c.1 t1 t2 c.2) :: (x, instObj 502 dx) :: (ba, baObj bf) :: (lp, W.listOf pv.toArray pn) :: (ln, W.listOf nv.toArray nn) :: tl
theorem turn3_end {h₀ h' : Heap} {P : Params} {L x dx ba lp ln : Addr} {s₁ : Shared} {tk : Nat} {nv pv : List Value} {nn pn : Nat} {bf : Array UInt8} {t1 t2 tp' : Tok} {pos : Int} {c₀ : Int × Tok} {pre : List Int} {m₀ m' : Str → Option Value} {tl own news' : List (Addr × Obj)} {stored : List Str}
    (FZ : Fr h₀ L h' m') (NZ : News h₀ L h' news')
    (hn : ∀ p ∈ (dx, strD P ba pos t1 t2 tp') :: (x, instObj 502 dx) :: (ba, baObj bf) :: (lp, W.listOf pv.toArray pn) :: (ln, W.listOf nv.toArray nn) :: (tl ++ own), p ∈ news') (hpos : 0 ≤ pos)
    (h2 : ∀ z, z ≠ Str.ofString "n" → stored.contains z = false → m' z = m₀ z) :
    InvEndN h₀ L (KstS (l3Led P dx x ba lp ln t1 t2 bf pv nv pn nn tl) (fun _ => []) (fun _ => True) (Str.ofString "n") stored m₀ (fun _ c => 0 ≤ c.1) pre) own ((l3Led P dx x ba lp ln t1 t2 bf pv nv pn nn tl c₀).map (·.1)) s₁ { s₁ with heap := h', toks := tk } := by
  refine kst_end (pos, tp') FZ NZ ?_ ?_ rfl trivial ?_ ?_ hpos
  · intro p hp
    refine hn p ?_
    simp only [List.mem_cons, List.mem_append] at hp ⊢
    rcases hp with h | h | h | h | h | h
    all_goals simp [h]
  · intro p hp
    exact hn p (.tail _ (.tail _ (.tail _ (.tail _ (.tail _ (List.mem_append.mpr (.inr hp)))))))
  · exact fun _ h => nomatch h
  · exact fun z a1 _ a3 => h2 z a1 a3
end Mine
end

section
open PySem PySem.W PySem.Calls PyProof.Rows
namespace Mine
def emptied (p : Program) : Program := { p with main := { p.main with body := [] } }
def allLoose (p : Program) (loose : List Str) : List Str := loose ++ ((recsOf p).map (·.name) ++ ((litsOf p).map (·.1) ++ (clssOf p loose).map (·.name)))
section
variable {h₁ h₀ : Heap} {c P : Addr} {ps ps' : Array Value} {p : Program} {loose : List Str} {mean : ExcName → Option Value} {mg mb : Str → Option Value}
theorem get_regrown (B : Based h₁ h₀ c P ps) {b : Addr} {o : Obj} (e : h₀.get? b = some o) (hc : o.cls ≠ .none) : (regrown h₀ P ps').get? b = some o :=
  regrown_other h₀ P ps' b o (fun q => by
    rw [q, B.tab.2] at e
    cases e
    exact hc rfl) e
theorem seer_regrown (B : Based h₁ h₀ c P ps) (S : h₀.NoSeer) : (regrown h₀ P ps').NoSeer where
  statics := let ⟨mc, a, b⟩ := S.statics; ⟨mc, LGe.ns_regrown B a, b⟩
  mods := let ⟨mc, a, b⟩ := S.mods; ⟨mc, LGe.ns_regrown B a, b⟩
  imp := let ⟨mc, a, b⟩ := S.imp; ⟨mc, LGe.ns_regrown B a, b⟩
  main := let ⟨mg, bm, ob, a, b, c, d, e⟩ := S.main; ⟨mg, bm, ob, LGe.ns_regrown B a, b, get_regrown B c (by rw [d]; exact fun q => nomatch q), d, e⟩
theorem top_weak (T : Top p loose mean mg mb h₀) (B : Based h₁ h₀ c P ps) (hi : importsNone p = true) : Top (emptied p) (allLoose p loose) mean mg mb (regrown h₀ P ps') where
  g := LGe.ns_regrown B T.g
  b := LGe.ns_regrown B T.b
  nolimit := by
    obtain ⟨mc, h1, h2⟩ := T.nolimit
    exact ⟨mc, LGe.ns_regrown B h1, h2⟩
  nodigits := by
    obtain ⟨mc, h1, h2⟩ := T.nodigits
    exact ⟨mc, LGe.ns_regrown B h1, h2⟩
  fn := fun d hd => nomatch hd
  own := fun d hd => nomatch hd
  const := fun x d hx => nomatch hx
  free := fun x h1 h2 _ _ _ => by
    simp only [allLoose, List.mem_append, not_or] at h2
    exact T.free x h1 h2.1 h2.2.1 h2.2.2.1 h2.2.2.2
  builtins := T.builtins
  tab := fun d hd => nomatch hd
  bmain := by
    obtain ⟨bm, ob, h1, h2, h3, h4, h5⟩ := T.bmain
    exact ⟨bm, ob, h1, h2, get_regrown B h3 (by rw [h4]; exact fun q => nomatch q), h4, h5⟩
  seer := fun _ => seer_regrown B (T.seer hi)
end
end Mine
end

section
open PySem PySem.W PySem.Calls PyProof.Rows
namespace Mine
section
variable {prog : Program} {w : World} {A : Around} {E : Value → Shared → Prop} {s : Shared} {h₀ : Heap} {L l : Addr} {news L9 : List (Addr × Obj)} {us : List Value} {rs : List Row} {n : Nat} {u : Tok} {Q : Value → Shared → Prop} {value slice : PySem.Expr} {ds : List Dat}
theorem last_dat (N : News h₀ L s.heap news) (hm : (l, W.listOf us.toArray n) ∈ news) (hd : DatAll L9 us ds) (h1 : 1 ≤ ds.length)
    (h : ∀ v d, ds[ds.length - 1]? = some d → DatIn L9 v d → Q v s)
    (hs : subscripted slice false (.ref l) (.int (-1) u) = operate [.ref l, .int (-1) u] (getItem (.ref l) (.int (-1) u)) := by with_unfolding_all rfl) :
    wpAny (model prog w) A (subscriptTail value slice (.ref l) (.int (-1) u)) Q E s := by
  have hl : s.heap.IsList l us.toArray := ⟨_, (N _ hm).1, rfl, n, rfl⟩
  have e : us.length = ds.length := hd.length
  obtain ⟨v, hv, hD⟩ := hd.get (k := ds.length - 1) (by omega)
  refine tail_any hl.typeIs slot_list_getitem.lookup (wpAny_getItem_list_neg hl (by decide) (by rw [List.size_toArray]; omega) (by decide) ?_ (h v _ (List.getElem?_eq_getElem (by omega)) hD)) hs
  have e2 : ((-1 : Int) + (us.toArray.size : Int)).toNat = ds.length - 1 := by rw [List.size_toArray]; omega
  rw [e2]
  simpa using hv
theorem num_last (N : News h₀ L s.heap news) (hm : (l, W.listOf us.toArray n) ∈ news) (hd : DatAll L9 us (numD rs)) (hi : rs.length - 1 < rs.length)
    (h : ∀ a t n0, (a, tupO [.int (rs[rs.length - 1]).1 t, .bool (rs[rs.length - 1]).2.1] n0) ∈ L9 → Q (.ref a) s)
    (hs : subscripted slice false (.ref l) (.int (-1) u) = operate [.ref l, .int (-1) u] (getItem (.ref l) (.int (-1) u)) := by with_unfolding_all rfl) :
    wpAny (model prog w) A (subscriptTail value slice (.ref l) (.int (-1) u)) Q E s := by
  have hl : (numD rs).length = rs.length := by simp [numD]
  refine last_dat N hm hd (by omega) (fun v d hg hD => ?_) hs
  rw [hl, numD, List.getElem?_map, List.getElem?_eq_getElem hi] at hg
  rw [← Option.some.inj hg] at hD
  obtain ⟨a, t, n0, rfl, hm⟩ := num_dat hD
  exact h a t n0 hm
theorem pl_last (N : News h₀ L s.heap news) (hm : (l, W.listOf us.toArray n) ∈ news) (hd : DatAll L9 us (plD rs)) (hi : rs.length - 1 < rs.length)
    (h : ∀ a t t' n0, (a, tupO [.int (at_ rs (rs.length - 1) : Int) t, .int (at_ rs (rs.length - 1 + 1) : Int) t'] n0) ∈ L9 → Q (.ref a) s)
    (hs : subscripted slice false (.ref l) (.int (-1) u) = operate [.ref l, .int (-1) u] (getItem (.ref l) (.int (-1) u)) := by with_unfolding_all rfl) :
    wpAny (model prog w) A (subscriptTail value slice (.ref l) (.int (-1) u)) Q E s := by
  have hl : (plD rs).length = rs.length := by simp [plD]
  refine last_dat N hm hd (by omega) (fun v d hg hD => ?_) hs
  rw [hl, plD, List.getElem?_map, List.getElem?_range hi] at hg
  rw [← Option.some.inj hg] at hD
  obtain ⟨a, t, t', n0, rfl, hm⟩ := pl_dat hD
  exact h a t t' n0 hm
end
end Mine
end

section
open PySem PySem.W PySem.Calls PyProof.Rows
namespace Mine
theorem cut_list {ns : List Int} {c : Nat} : (KBy.picked (byteArr ns) none (some (c : Int))).toList = (ns.take c).map (fun n => n.toNat.toUInt8) := by
  rw [KBc.picked_eq]
  simp only [Option.elim]
  rw [clipAt_nat]
  simp only [List.drop_zero, Nat.sub_zero, byteArr_list, byteArr_size, ← List.map_take]
  rw [List.take_eq_take_iff.mpr]
  simp
theorem cut_size {ns : List Int} {c : Nat} (h : c ≤ ns.length) : (KBy.picked (byteArr ns) none (some (c : Int))).size = c := by
  have e : (KBy.picked (byteArr ns) none (some (c : Int))).toList.length = c := by
    rw [cut_list, List.length_map, List.length_take]
    omega
  simpa using e
end Mine
end

section
open PySem PySem.W PySem.Calls PyProof.Rows
namespace Mine
/-- the law's long-lived names -/
structure Bag (m : Str → Option Value) (ln lp ls : Addr) (rs : List Row) (to : Tok) : Prop where
  nums : m (Str.ofString "numbers") = some (.ref ln)
  octs : m (Str.ofString "octets") = some (.bytes (byteArr (octL rs)) to)
  plcs : m (Str.ofString "places") = some (.ref lp)
  scr : m (Str.ofString "script") = some (.ref ls)
theorem ite_as {m : Str → Option Value} {x y : Str} {v f : Option Value} (h : m x = v) (hf : f = m y) : (if y = x then v else f) = m y := by
  by_cases e : y = x
  · rw [if_pos e, e, h]
  · rw [if_neg e, hf]
theorem fr_as {h₀ h : Heap} {L : Addr} {m m' : Str → Option Value} (F : Fr h₀ L h m) (e : ∀ y, m' y = m y) : Fr h₀ L h m' := (funext e : m' = m) ▸ F
theorem Bag.fr {h₀ h : Heap} {L : Addr} {m : Str → Option Value} {ln lp ls : Addr} {rs : List Row} {to : Tok} (b : Bag m ln lp ls rs to) (F : Fr h₀ L h m) :
    Fr h₀ L h (fun y => if y = Str.ofString "numbers" then some (.ref ln) else if y = Str.ofString "octets" then some (.bytes (byteArr (octL rs)) to) else if y = Str.ofString "places" then some (.ref lp) else if y = Str.ofString "script" then some (.ref ls) else m y) :=
  fr_as F fun _ => ite_as b.nums (ite_as b.octs (ite_as b.plcs (ite_as b.scr rfl)))
theorem fresh_ne {h : Heap} {a b : Addr} {o : Obj} (e : h.get? a = some o) (f : h.get? b = none) : @Ne Nat a b := fun q => by
  rw [show a = b from q, f] at e
  cases e
end Mine
end

section
open PySem PySem.W PySem.Calls PyProof.Rows
namespace Mine
local macro_rules | `(tactic| walk_at "spare 0") => `(tactic| skip)
local macro_rules | `(tactic| walk_at "spare 1") => `(tactic| skip)
local macro_rules | `(tactic| walk_at "spare 2") => `(tactic| skip)
local macro_rules | `(tactic| walk_at "spare 3") => `(tactic| skip)
local macro_rules | `(tactic| walk_at "spare 4") => `(tactic| skip)
theorem sevens_any {prog : Program} {w : World} {p : Program} {loose : List Str} {mean : ExcName → Option Value} {mg mb : Str → Option Value}
    {dp un : Nat} {gd : Option (List Code)} {cn : Str} {cs : Scope} {a : Addr} {ccd : Value} {cl : List (Str × Addr)} {outer : List Env} {A₀ : Around} {base h₀ : Heap} {L : Addr} {m : Str → Option Value} {s : Shared} {Q E : Value → Shared → Prop}
    {v : Int} {tv : Tok} {sg : Bool} {mo : Int} {tm : Tok} {news : List (Addr × Obj)}
    (B : Below A₀ base outer h₀) (F : Fr h₀ L s.heap m) (N : News h₀ L s.heap news) (X : (frag.heap_1 w.params).In h₀) (T : Top p loose mean mg mb h₀) (hk : cs.kind = .function) (hdp : dp + 1 < recursionLimit) (hun : un + 8 < cLine)
    (hv : -(2 ^ 200) < v ∧ v < 2 ^ 200) (hu : sg = false → 0 ≤ v) (hm : 0 ≤ mo ∧ mo ≤ 2)
    (ret : ∀ (gs : List Int) t h' tk, Sev v sg gs → Fr h₀ L h' m → News h₀ L h' news → Q (.bytes (byteArr (encL gs)) t) { s with heap := h', toks := tk }) :
    wpAny (model prog w) (ktrTop dp un gd cn cs L a ccd cl outer) (call (.ref 918) [.int v tv, .bool sg, .int mo tm]) Q E s :=
  sevens_spec B F X T hk hdp hun hv hu hm fun gs t h' tk hS kp => ret gs t h' tk hS (F.keptAll kp) (N.grown kp)
theorem pow200 {prog : Program} {w : World} {A : Around} {s : Shared} {Q : Value → Shared → Prop} {E : Value → Shared → Prop} {P : Int} {t u : Tok} (hP : P = 2 ^ 200) (h : Q (.int P s.toks) { s with toks := s.toks + 1 }) :
    wpAny (model prog w) A (binaryOp .Pow (.int 2 t) (.int 200 u)) Q E s := by
  refine pow_int_small (by decide) (by decide) (by decide) ?_
  have e : (2 : Int) ^ Int.toNat 200 = P := by rw [hP]; rfl
  rw [e]
  exact h
local macro_rules | `(tactic| walk_at "binaryOp Pow int int") => `(tactic| (refine pow200 (by assumption) ?_; (try dsimp only)))
theorem v_pos {a P : Int} (hP : P = 2 ^ 200) : 0 ≤ a.fmod P ∧ a.fmod P < 2 ^ 200 := by
  have h0 : (0 : Int) < 2 ^ 200 := by decide
  rw [hP]
  exact ⟨Int.fmod_nonneg_of_pos _ h0, Int.fmod_lt_of_pos _ h0⟩
theorem v_rng {a P : Int} (hP : P = 2 ^ 200) : -(2 ^ 200) < a.fmod P ∧ a.fmod P < 2 ^ 200 := by
  have h0 : (0 : Int) < 2 ^ 200 := by decide
  have := v_pos (a := a) hP
  exact ⟨Int.lt_of_lt_of_le (Int.neg_neg_of_pos h0) this.1, this.2⟩
theorem v_rngN {a P : Int} (hP : P = 2 ^ 200) : -(2 ^ 200) < -a.fmod P ∧ -a.fmod P < 2 ^ 200 := by
  have h0 : (0 : Int) < 2 ^ 200 := by decide
  have := v_pos (a := a) hP
  exact ⟨Int.neg_lt_neg this.2, Int.lt_of_le_of_lt (Int.neg_nonpos_of_nonneg this.1) h0⟩
theorem v_uns {a P : Int} {b : Bool} (hP : P = 2 ^ 200) : b = false → 0 ≤ a.fmod P := fun _ => (v_pos hP).1
theorem v_unsN {v n : Int} (h : n.fmod 2 = 1) : (n.fmod 2 == 1) = false → 0 ≤ v := fun q => by rw [h] at q; cases q
theorem m_rng (a : Int) : 0 ≤ a.fmod 3 ∧ a.fmod 3 ≤ 2 := by
  have h0 : (0 : Int) < 3 := by decide
  have h1 := Int.fmod_nonneg_of_pos a h0
  have h2 := Int.fmod_lt_of_pos a h0
  omega
local macro_rules | `(tactic| walk_at "call ref") => `(tactic| (k_here; (with_reducible show wpAny _ _ (call (Value.ref 918) _) _ _ _); k_dflt (refine' sevens_any ?k1 ?k2 ?k3 ?k4 ?k5 ?kK ?kd ?ku ?h1 ?h2 ?h3 ?_; (case k1 => k_asm); (case k2 => k_asm); (case k3 => k_asm); (case k4 => k_asm); (case k5 => k_asm); (case kK => exact rfl); (case kd => k_room); (case ku => ktr_units); (case h1 => first | exact v_rng (by assumption) | exact v_rngN (by assumption)); (case h2 => first | exact v_uns (by assumption) | exact v_unsN (by assumption)); (case h3 => exact m_rng _); k_whole); intro gs9 t9 h' tk' S9 F' N'; (have g8 := Sev.pos S9); (have g9 := Sev.len S9); (try k_sweep)))
local macro_rules | `(tactic| walk_at "call builtin:list.append") => `(tactic| (k_here; (with_reducible show wpAny _ _ (call (Value.builtin _) [Value.ref _, _]) _ _ _); k_dflt (refine' append_K ?k1 ?k2 ?k3 ?_ ?z; (case k1 => k_asm); (case k2 => k_asm); (case k3 => k_upd); (case z => (simp only [List.size_toArray]; rw [sizeLine_eq]; omega)); k_whole); intro h' F' N'; (try simp only [List.push_toArray] at N'); (try k_sweep)))
local macro_rules | `(tactic| walk_at "call builtin:len") => `(tactic| (k_here; (with_reducible show wpAny _ _ (call (Value.builtin "len") [Value.bytes (byteArr _) _]) _ _ _); (refine len_bytes ?z ?_; (case z => (simp only [byteArr_size, encL_length]; omega)); (try simp only [byteArr_size, encL_length]))))
local macro_rules | `(tactic| walk_at "binaryOp Add bytes bytes") => `(tactic| (k_here; (refine KBy.add_bytes ?z ?_; (case z => (simp only [Array.size_append, byteArr_size, encL_length, sizeLine_eq]; omega)); intro _ _)))
theorem law_lens {news : List (Addr × Obj)} {c : LawS} {ns pre post : List Int} {n : Int} (hf : LawFacts news c) (hP : LawP pre c) (hns : [300] ++ List.take 8 ns = pre ++ n :: post) : c.1.length ≤ 8 ∧ c.2.1.length ≤ 8 ∧ c.2.2.1.length ≤ 8 := by
  have h1 := congrArg List.length hns
  simp only [List.length_append, List.length_cons, List.length_nil, List.length_take] at h1
  have h2 := hf.1.length
  have h3 := hf.2.length
  simp only [numD, plD, List.length_map, List.length_range] at h2 h3
  have h4 := hP.1
  omega
set_option maxHeartbeats 8000000 in
theorem loop1 {prog : Program} {w : World} {p : Program} {loose : List Str} {mean : ExcName → Option Value} {mg mb : Str → Option Value}
    {h₀ : Heap} {L fa : Addr} {cd : Value} {m : Str → Option Value} {s : Shared} {Q : Flow → Shared → Prop} {E : Value → Shared → Prop}
    {ln lp ls : Addr} {vs : List Value} {ns : List Int} {t0 : Tok}
    (B : Below callerA h₀ [] h₀) (X : (frag.heap_1 w.params).In h₀) (T : Top p loose mean mg mb h₀)
    (F : Fr h₀ L s.heap m) (b1 : m (Str.ofString "numbers") = some (.ref ln)) (b2 : m (Str.ofString "octets") = some (.bytes #[] t0)) (b3 : m (Str.ofString "places") = some (.ref lp)) (b4 : m (Str.ofString "script") = some (.ref ls))
    (N : News h₀ L s.heap [(lp, W.listOf #[] 0), (ln, W.listOf #[] 0)]) (hne : @LT.lt Nat _ ln lp)
    (hE : PassesOwn (model prog w) (callerA.deeper (envOf (Str.ofString "law") lawScope L fa cd)) (envOf (Str.ofString "law") lawScope L fa cd) E) (hL : h₀.IsList ls vs.toArray) (hI : IntsAre vs ns) (hlen : ns.length ≤ 63)
    (nxt : ∀ (rs : List Row) nv pv nn pn to tl h tk m', 1 ≤ rs.length → rs.length ≤ 9 → (∀ r ∈ rs, Sev r.1 r.2.1 r.2.2) → DatAll tl nv (numD rs) → DatAll tl pv (plD rs) → Fr h₀ L h m' → Bag m' ln lp ls rs to →
      News h₀ L h ((lp, W.listOf pv.toArray pn) :: (ln, W.listOf nv.toArray nn) :: tl) → Q .next { s with heap := h, toks := tk }) :
    wpAny (model prog w) (callerA.deeper (envOf (Str.ofString "law") lawScope L fa cd)) (exec law1 (envOf (Str.ofString "law") lawScope L fa cd)) Q E s := by
  dsimp only [law1, lawScope, lawRec, lawD] at hE ⊢
  replace F := fr_as (m' := fun y => if y = Str.ofString "numbers" then some (.ref ln) else if y = Str.ofString "octets" then some (.bytes #[] t0) else if y = Str.ofString "places" then some (.ref lp) else if y = Str.ofString "script" then some (.ref ls) else m y) F fun _ => ite_as b1 (ite_as b2 (ite_as b3 (ite_as b4 rfl)))
  refine For_invVF F ?k1 ?k2 ?_ (hE := hE)
  case k1 => exact rfl
  case k2 => exact rfl
  (try k_fold)
  repeat' ((fail_if_success (with_reducible show wpAny _ _ (pyIter _) _ _ _)); first | (k_unfold; (try dsimp only)) | walk1 | (dsimp only; walk1) | fail "no step")
  (with_reducible rename Fr h₀ L _ _ => FW); (with_reducible rename News h₀ L _ _ => NW)
  rename_i D1 ws1 h1 hI1 l1
  show wpAny _ _ (pyIter _) _ _ _
  refine kd_listI (lawLed ln lp) [(D1, W.listOf ws1.toArray 0)] lawPs LawFacts [Str.ofString "signed", Str.ofString "value", Str.ofString "row"] LawP [lp, ln, D1] ([], [], [], 0, 0, t0) rfl (.head _) hI1 FW NW ?hn ?hadr ?hf ?hk ?hp ?turn ?done
  case hn =>
    intro p hp
    simp only [List.append_nil, List.cons_append, List.nil_append, List.mem_cons, List.not_mem_nil, or_false] at hp ⊢
    rcases hp with rfl | rfl | rfl <;> simp
  case hadr => exact fun _ => rfl
  case hf => exact ⟨.nil, .nil⟩
  case hk => 
    intro p hp
    rw [List.mem_singleton.mp hp]
    rfl
  case hp => exact ⟨rfl, fun r hr => nomatch hr⟩
  case done =>
    rintro ⟨rs, nv, pv, nn, pn, to⟩ tl u h tk hoff hf hP F1 N1
    have hl := hP.1
    simp only [List.length_append, List.length_cons, List.length_nil, List.length_take] at hl
    exact nxt rs nv pv nn pn to _ h tk _ (by omega) (by omega) hP.2 hf.1 hf.2 F1 ⟨rfl, rfl, rfl, rfl⟩ N1
  clear FW NW
  rintro ⟨rs, nv, pv, nn, pn, to⟩ tl pre post n t u hh tk own hns hmem hsep hoff hf hP F1 N1
  dsimp only at hf hP F1 N1 ⊢
  simp only [lawLed, List.cons_append, List.nil_append] at N1
  have hMk := kdMark
  obtain ⟨hl1, hl2, hl3⟩ := law_lens hf hP hns
  have hol := oct_len hP.2
  dsimp only at hl1 hl2 hl3 hol
  obtain ⟨P2, hP2⟩ : ∃ P : Int, P = 2 ^ 200 := ⟨_, rfl⟩
  (try k_fold)
  repeat' (first | (k_unfold; (try dsimp only)) | walk1 | (dsimp only; walk1) | fail "no step")
  all_goals (
    (with_reducible rename Fr _ _ _ _ => FZ); (with_reducible rename News _ _ _ _ => NZ); (with_reducible rename Sev _ _ _ => SZ)
    refine turn1_end SZ hf hP hsep (by assumption) (by assumption) FZ NZ rfl rfl rfl ?_
    intro z a1 a2 a3
    simp only [List.contains_cons, List.contains_nil, Bool.or_false, Bool.or_eq_false_iff, beq_eq_false_iff_ne, ne_eq] at a3
    simp [a1, a2, a3.1, a3.2.1, a3.2.2, kstB])
end Mine
end

section
open PySem PySem.W PySem.Calls PyProof.Rows
namespace Mine
local macro_rules | `(tactic| walk_at "call ref") => `(tactic| (k_here; (with_reducible show wpAny _ _ (call (Value.ref 892) [Value.str (Str.ofString "x") _]) _ _ _); k_dflt (refine' mk_ux ?k1 ?k2 ?k3 ?k4 ?kK ?kd ?ku ?k5 ?_; (case k1 => k_asm); (case k2 => k_asm); (case k3 => k_asm); (case k4 => k_asm); (case kK => exact rfl); (case kd => k_room); (case ku => ktr_units); (case k5 => k_asm); k_whole); intro y9 d9 h' tk' F' N' l1 l2; (try k_lt l1); (try k_lt2 l2); (try k_sweep)))
local macro_rules | `(tactic| walk_at "call ref") => `(tactic| (k_here; (with_reducible show wpAny _ _ (call (Value.ref 911) [Value.str (Str.ofString "x") _]) _ _ _); k_dflt (refine' mk_sx ?k1 ?k2 ?k3 ?k4 ?kK ?kd ?ku ?k5 ?_; (case k1 => k_asm); (case k2 => k_asm); (case k3 => k_asm); (case k4 => k_asm); (case kK => exact rfl); (case kd => k_room); (case ku => ktr_units); (case k5 => k_asm); k_whole); intro y9 d9 h' tk' F' N' l1 l2; (try k_lt l1); (try k_lt2 l2); (try k_sweep)))
local macro_rules | `(tactic| walk_at "call ref") => `(tactic| (k_here; (with_reducible show wpAny _ _ (call (Value.ref 861) [Value.ref _, Value.ref _]) _ _ _); k_dflt (refine' sp_u0_any ?k1 ?k2 ?k3 ?k4 ?kK ?kd ?ku ?k5 ?m1 ?m2 ?m3 ?m4 ?m5 ?a0 ?a1 ?a2 ?a3 ?a4 ?a5 ?a6 ?a7 ?a8 ?_; (case k1 => k_asm); (case k2 => k_asm); (case k3 => k_asm); (case k4 => k_asm); (case kK => exact rfl); (case kd => k_room); (case ku => ktr_units); (case k5 => k_asm); (case m1 => k_mem); (case m2 => k_mem); (case m3 => k_mem); (case m4 => k_updF); (case m5 => k_mem); (case a0 => first | assumption | omega); (case a1 => first | assumption | omega); (case a2 => first | assumption | omega); (case a3 => first | assumption | omega); (case a4 => first | assumption | omega); (case a5 => first | assumption | omega); (case a6 => first | assumption | omega); (case a7 => first | assumption | omega); (case a8 => first | assumption | omega); k_whole); intro t9 tp9 h' tk' F' N'; (try dsimp only at N'); (try k_sweep)))
local macro_rules | `(tactic| walk_at "call ref") => `(tactic| (k_here; (with_reducible show wpAny _ _ (call (Value.ref 861) [Value.ref _, Value.ref _]) _ _ _); k_dflt (refine' sp_s0_any ?k1 ?k2 ?k3 ?k4 ?kK ?kd ?ku ?k5 ?m1 ?m2 ?m3 ?m4 ?m5 ?a0 ?a1 ?a2 ?a3 ?a4 ?a5 ?a6 ?a7 ?a8 ?_; (case k1 => k_asm); (case k2 => k_asm); (case k3 => k_asm); (case k4 => k_asm); (case kK => exact rfl); (case kd => k_room); (case ku => ktr_units); (case k5 => k_asm); (case m1 => k_mem); (case m2 => k_mem); (case m3 => k_mem); (case m4 => k_updF); (case m5 => k_mem); (case a0 => first | assumption | omega); (case a1 => first | assumption | omega); (case a2 => first | assumption | omega); (case a3 => first | assumption | omega); (case a4 => first | assumption | omega); (case a5 => first | assumption | omega); (case a6 => first | assumption | omega); (case a7 => first | assumption | omega); (case a8 => first | assumption | omega); k_whole); intro t9 tp9 h' tk' F' N'; (try dsimp only at N'); (try k_sweep)))
local macro_rules | `(tactic| walk_at "subscriptTail") => `(tactic| (k_here; (with_reducible show wpAny _ _ (subscriptTail _ _ (Value.ref _) (Value.int _ _)) _ _ _); (first
  | ((with_unfolding_all refine' num_item ?k1 ?k2 ?k3 ?k4 ?k5 ?_ ?k7; (case k1 => k_asm); (case k2 => k_mem); (case k3 => assumption); (case k4 => assumption); (case k5 => assumption); (case k7 => with_unfolding_all rfl); k_whole); intro a9 t9 n9 M9)
  | ((with_unfolding_all refine' pl_item ?k1 ?k2 ?k3 ?k4 ?k5 ?_ ?k7; (case k1 => k_asm); (case k2 => k_mem); (case k3 => assumption); (case k4 => assumption); (case k5 => assumption); (case k7 => with_unfolding_all rfl); k_whole); intro a9 t9 u9 n9 M9))))
local macro_rules | `(tactic| walk_at "call builtin:len") => `(tactic| (k_here; (with_reducible show wpAny _ _ (call (Value.builtin "len") [Value.ref _]) _ _ _); (refine' num_len ?k1 ?k2 ?k3 ?k4 ?_; (case k1 => k_asm); (case k2 => k_mem); (case k3 => assumption); (case k4 => assumption)); (try dsimp only)))
set_option maxHeartbeats 8000000 in
theorem loop2 {prog : Program} {w : World} {p : Program} {loose : List Str} {mean : ExcName → Option Value} {mg mb : Str → Option Value}
    {h₀ : Heap} {L fa : Addr} {cd : Value} {m : Str → Option Value} {s : Shared} {Q : Flow → Shared → Prop} {E : Value → Shared → Prop}
    {ln lp ls x dx ba : Addr} {rs : List Row} {nv pv : List Value} {nn pn : Nat} {to t1 t2 tp : Tok} {tl : List (Addr × Obj)} {bf : Array UInt8}
    (B : Below callerA h₀ [] h₀) (X : (frag.heap_1 w.params).In h₀) (T : Top p loose mean mg mb h₀)
    (F : Fr h₀ L s.heap m) (bag : Bag m ln lp ls rs to) (bs : m (Str.ofString "stream") = some (.ref x))
    (N : News h₀ L s.heap ((dx, strD w.params ba 0 t1 t2 tp) :: (x, instObj 502 dx) :: (ba, baObj bf) :: (lp, W.listOf pv.toArray pn) :: (ln, W.listOf nv.toArray nn) :: tl)) (hx : @LT.lt Nat _ dx x) (hb : @LT.lt Nat _ x ba) (hd1 : @Ne Nat lp dx) (hd2 : @Ne Nat ln dx) (hof : OwnOff tl [dx])
    (hE : PassesOwn (model prog w) (callerA.deeper (envOf (Str.ofString "law") lawScope L fa cd)) (envOf (Str.ofString "law") lawScope L fa cd) E)
    (hDn : DatAll tl nv (numD rs)) (hDp : DatAll tl pv (plD rs)) (hS : ∀ r ∈ rs, Sev r.1 r.2.1 r.2.2) (hlen : rs.length ≤ 9) (hbf : bf = byteArr (octL rs) ++ #[128])
    (nxt : ∀ pos tp' h tk m', 0 ≤ pos → Fr h₀ L h m' → Bag m' ln lp ls rs to → m' (Str.ofString "stream") = some (.ref x) →
      News h₀ L h ((dx, strD w.params ba pos t1 t2 tp') :: (x, instObj 502 dx) :: (ba, baObj bf) :: (lp, W.listOf pv.toArray pn) :: (ln, W.listOf nv.toArray nn) :: tl) → Q .next { s with heap := h, toks := tk }) :
    wpAny (model prog w) (callerA.deeper (envOf (Str.ofString "law") lawScope L fa cd)) (exec law3 (envOf (Str.ofString "law") lawScope L fa cd)) Q E s := by
  dsimp only [law3, lawScope, lawRec, lawD] at hE ⊢
  replace F := fr_as (m' := fun y => if y = Str.ofString "stream" then some (.ref x) else if y = Str.ofString "numbers" then some (.ref ln) else if y = Str.ofString "octets" then some (.bytes (byteArr (octL rs)) to) else if y = Str.ofString "places" then some (.ref lp) else if y = Str.ofString "script" then some (.ref ls) else m y) F fun _ => ite_as bs (ite_as bag.nums (ite_as bag.octs (ite_as bag.plcs (ite_as bag.scr rfl))))
  clear bag bs
  have hMk := kdMark
  refine For_invVF F ?k1 ?k2 ?_ (hE := hE)
  case k1 => exact rfl
  case k2 => exact rfl
  (try k_fold)
  repeat' ((fail_if_success (with_reducible show wpAny _ _ (pyIter _) _ _ _)); first | (k_unfold; (try dsimp only)) | walk1 | (dsimp only; walk1) | fail "no step")
  (with_reducible rename Fr h₀ L _ _ => FW); (with_reducible rename News h₀ L _ _ => NW); (rename IsRange _ _ _ _ _ _ _ _ => RW)
  show wpAny _ _ (pyIter _) _ _ _
  refine kd_range (n := rs.length) (l2Led w.params dx ba t1 t2) ((x, instObj 502 dx) :: (ba, baObj bf) :: (lp, W.listOf pv.toArray pn) :: (ln, W.listOf nv.toArray nn) :: tl) (fun _ => []) (fun _ _ => True) [Str.ofString "value", Str.ofString "signed"] (L2P rs) (dx :: x :: ba :: lp :: ln :: tl.map (·.1)) (0, tp) rfl RW ?hsm ?hsz FW NW ?hn ?hadr trivial ?hk ?hp ?turn ?done
  case hsm => exact small_one (by decide) (by decide) (by omega) (by omega)
  case hsz => (rw [rangeSize_nat]; omega)
  case hn =>
    intro p hp
    simpa using hp
  case hadr => exact fun _ => rfl
  case hk => exact fun _ hp => nomatch hp
  case hp => rfl
  case done =>
    rintro ⟨pos, tp2⟩ tl2 u h tk hoff - hP F1 N1
    have hP : pos = (at_ rs (rangeKs 0 rs.length).length : Int) := hP
    refine nxt pos tp2 h tk _ (by omega) F1 ⟨rfl, rfl, rfl, rfl⟩ rfl (cb_drop N1 fun p hp => ?_)
    rcases List.mem_cons.mp hp with rfl | hp
    · exact List.mem_append.mpr (.inl (.head _))
    · exact List.mem_append.mpr (.inr (List.mem_append.mpr (.inl hp)))
  clear FW NW RW
  rintro ⟨pos, tp2⟩ tl2 pre k t u hh tk own hk hlt hsep hoff - hP F1 N1
  have hP : pos = (at_ rs pre.length : Int) := hP
  subst hP
  obtain rfl : k = ((pre.length : Nat) : Int) := by omega
  simp only [l2Led, List.cons_append, List.nil_append] at N1
  (try dsimp only at F1)
  have hrow := hS _ (List.getElem_mem hlt)
  have hy := says_row (z := #[128]) hlt hS
  have hfit := fits_row (z := #[128]) hlt
  rw [← hbf] at hy hfit
  have hbz : bf.size ≤ 16777216 := by
    have := oct_len hS
    rw [hbf, Array.size_append, byteArr_size]
    show _ + 1 ≤ _
    omega
  have hr1 := hrow.rng
  have hr2 := hrow.pos
  have hr3 := hrow.len
  (try k_fold)
  repeat' ((fail_if_success (with_reducible show wpAny _ _ (call (Value.ref 816) _) _ _ _)); (fail_if_success (with_reducible show wpAny _ _ (call (Value.ref 889) _) _ _ _)); first | (k_unfold; (try dsimp only)) | (k_end; wrow_close) | walk1 | (dsimp only; walk1) | (leave1; walk_say "STEP leave1"; try dsimp only) | fail "no step")
  all_goals first
    | exact absurd (hrow.sig (by assumption)).symm (by assumption)
    | exact absurd (hrow.uns (by assumption)).symm (by assumption)
    | (exfalso; have hn9 := at_succ hlt; omega)
    | skip
  all_goals (
    (with_reducible rename Fr h₀ _ _ _ => FZ); (with_reducible rename News h₀ _ _ _ => NZ)
    refine turn2_end hsep FZ NZ (fun p hp => .tail _ (.tail _ hp)) (by have hn9 := at_succ hlt; omega) ?_
    intro z a1 a3
    simp only [List.contains_cons, List.contains_nil, Bool.or_false, Bool.or_eq_false_iff, beq_eq_false_iff_ne, ne_eq] at a3
    simp [a1, a3.1, a3.2, kstB])
end Mine
end

section
open PySem PySem.W PySem.Calls PyProof.Rows
namespace Mine
local macro_rules | `(tactic| walk_at "spare 0") => `(tactic| skip)
local macro_rules | `(tactic| walk_at "spare 1") => `(tactic| skip)
local macro_rules | `(tactic| walk_at "spare 2") => `(tactic| skip)
local macro_rules | `(tactic| walk_at "spare 3") => `(tactic| skip)
local macro_rules | `(tactic| walk_at "spare 4") => `(tactic| skip)
local macro_rules | `(tactic| walk_at "spare 5") => `(tactic| skip)
local macro_rules | `(tactic| walk_at "spare 6") => `(tactic| skip)
local macro_rules | `(tactic| walk_at "call ref") => `(tactic| (k_here; (with_reducible show wpAny _ _ (call (Value.ref 892) [Value.str (Str.ofString "") _]) _ _ _); k_dflt (refine' mk_u0 ?k1 ?k2 ?k3 ?k4 ?kK ?kd ?ku ?k5 ?_; (case k1 => k_asm); (case k2 => k_asm); (case k3 => k_asm); (case k4 => k_asm); (case kK => exact rfl); (case kd => k_room); (case ku => ktr_units); (case k5 => k_asm); k_whole); intro y9 d9 h' tk' F' N' l1 l2; (try k_lt l1); (try k_lt2 l2); (try k_sweep)))
local macro_rules | `(tactic| walk_at "call ref") => `(tactic| (k_here; (with_reducible show wpAny _ _ (call (Value.ref 911) [Value.str (Str.ofString "") _]) _ _ _); k_dflt (refine' mk_s0 ?k1 ?k2 ?k3 ?k4 ?kK ?kd ?ku ?k5 ?_; (case k1 => k_asm); (case k2 => k_asm); (case k3 => k_asm); (case k4 => k_asm); (case kK => exact rfl); (case kd => k_room); (case ku => ktr_units); (case k5 => k_asm); k_whole); intro y9 d9 h' tk' F' N' l1 l2; (try k_lt l1); (try k_lt2 l2); (try k_sweep)))
local macro_rules | `(tactic| walk_at "call ref") => `(tactic| (k_here; (with_reducible show wpAny _ _ (call (Value.ref 861) [Value.ref _, Value.ref _, Value.int _ _]) _ _ _); k_dflt (refine' sp_u1_any ?k1 ?k2 ?k3 ?k4 ?kK ?kd ?ku ?k5 ?m1 ?m2 ?m3 ?m4 ?m5 ?a0 ?a1 ?a2 ?a3 ?a4 ?a5 ?a6 ?a7 ?a8 ?a9 ?_; (case k1 => k_asm); (case k2 => k_asm); (case k3 => k_asm); (case k4 => k_asm); (case kK => exact rfl); (case kd => k_room); (case ku => ktr_units); (case k5 => k_asm); (case m1 => k_mem); (case m2 => k_mem); (case m3 => k_mem); (case m4 => k_updF); (case m5 => k_mem); (case a0 => first | assumption | omega); (case a1 => first | assumption | omega); (case a2 => first | assumption | omega); (case a3 => first | assumption | omega); (case a4 => first | assumption | omega); (case a5 => first | assumption | omega); (case a6 => first | assumption | omega); (case a7 => first | assumption | omega); (case a8 => first | assumption | omega); (case a9 => first | assumption | omega); k_whole); intro t9 tp9 h' tk' F' N'; (try dsimp only at N'); (try k_sweep)))
local macro_rules | `(tactic| walk_at "call ref") => `(tactic| (k_here; (with_reducible show wpAny _ _ (call (Value.ref 861) [Value.ref _, Value.ref _, Value.int _ _]) _ _ _); k_dflt (refine' sp_s1_any ?k1 ?k2 ?k3 ?k4 ?kK ?kd ?ku ?k5 ?m1 ?m2 ?m3 ?m4 ?m5 ?a0 ?a1 ?a2 ?a3 ?a4 ?a5 ?a6 ?a7 ?a8 ?a9 ?_; (case k1 => k_asm); (case k2 => k_asm); (case k3 => k_asm); (case k4 => k_asm); (case kK => exact rfl); (case kd => k_room); (case ku => ktr_units); (case k5 => k_asm); (case m1 => k_mem); (case m2 => k_mem); (case m3 => k_mem); (case m4 => k_updF); (case m5 => k_mem); (case a0 => first | assumption | omega); (case a1 => first | assumption | omega); (case a2 => first | assumption | omega); (case a3 => first | assumption | omega); (case a4 => first | assumption | omega); (case a5 => first | assumption | omega); (case a6 => first | assumption | omega); (case a7 => first | assumption | omega); (case a8 => first | assumption | omega); (case a9 => first | assumption | omega); k_whole); intro t9 tp9 h' tk' F' N'; (try dsimp only at N'); (try k_sweep)))
local macro_rules | `(tactic| walk_at "subscriptTail") => `(tactic| (k_here; (with_reducible show wpAny _ _ (subscriptTail _ _ (Value.ref _) (Value.int _ _)) _ _ _); (first
  | ((with_unfolding_all refine' num_item ?k1 ?k2 ?k3 ?k4 ?k5 ?_ ?k7; (case k1 => k_asm); (case k2 => k_mem); (case k3 => assumption); (case k4 => assumption); (case k5 => assumption); (case k7 => with_unfolding_all rfl); k_whole); intro a9 t9 n9 M9)
  | ((with_unfolding_all refine' pl_item ?k1 ?k2 ?k3 ?k4 ?k5 ?_ ?k7; (case k1 => k_asm); (case k2 => k_mem); (case k3 => assumption); (case k4 => assumption); (case k5 => assumption); (case k7 => with_unfolding_all rfl); k_whole); intro a9 t9 u9 n9 M9))))
local macro_rules | `(tactic| walk_at "call builtin:len") => `(tactic| (k_here; (with_reducible show wpAny _ _ (call (Value.builtin "len") [Value.ref _]) _ _ _); (refine' num_len ?k1 ?k2 ?k3 ?k4 ?_; (case k1 => k_asm); (case k2 => k_mem); (case k3 => assumption); (case k4 => assumption)); (try dsimp only)))
local macro_rules | `(tactic| walk_at "subscriptTail") => `(tactic| (k_here; (with_reducible show wpAny _ _ (subscriptTail _ _ (Value.bytes (byteArr (octL _)) _) (Value.int _ _)) _ _ _); (refine last_item ?a1 ?a2 ?a3 ?_ ?a5 ?a6; (case a1 => assumption); (case a2 => assumption); (case a3 => assumption); (case a5 => with_unfolding_all rfl); (case a6 => (intro _; with_unfolding_all rfl))); (try dsimp only)))
set_option maxHeartbeats 8000000 in
theorem loop3 {prog : Program} {w : World} {p : Program} {loose : List Str} {mean : ExcName → Option Value} {mg mb : Str → Option Value}
    {h₀ : Heap} {L fa : Addr} {cd : Value} {m : Str → Option Value} {s : Shared} {Q : Flow → Shared → Prop} {E : Value → Shared → Prop}
    {ln lp ls x dx ba : Addr} {rs : List Row} {nv pv : List Value} {nn pn : Nat} {to t1 t2 tp : Tok} {tl : List (Addr × Obj)} {bf : Array UInt8} {pos0 : Int}
    (B : Below callerA h₀ [] h₀) (X : (frag.heap_1 w.params).In h₀) (T : Top p loose mean mg mb h₀)
    (F : Fr h₀ L s.heap m) (bag : Bag m ln lp ls rs to) (bs : m (Str.ofString "stream") = some (.ref x))
    (N : News h₀ L s.heap ((dx, strD w.params ba pos0 t1 t2 tp) :: (x, instObj 502 dx) :: (ba, baObj bf) :: (lp, W.listOf pv.toArray pn) :: (ln, W.listOf nv.toArray nn) :: tl)) (hx : @LT.lt Nat _ dx x) (hb : @LT.lt Nat _ x ba) (hd1 : @Ne Nat lp dx) (hd2 : @Ne Nat ln dx) (hof : OwnOff tl [dx])
    (hE : PassesOwn (model prog w) (callerA.deeper (envOf (Str.ofString "law") lawScope L fa cd)) (envOf (Str.ofString "law") lawScope L fa cd) E)
    (hDn : DatAll tl nv (numD rs)) (hDp : DatAll tl pv (plD rs)) (hS : ∀ r ∈ rs, Sev r.1 r.2.1 r.2.2) (hlen : rs.length ≤ 9) (hp0 : 0 ≤ pos0) (hbf : bf = byteArr (octL rs) ++ #[128])
    (nxt : ∀ h tk m', Fr h₀ L h m' → Bag m' ln lp ls rs to →
      News h₀ L h ((lp, W.listOf pv.toArray pn) :: (ln, W.listOf nv.toArray nn) :: tl) → Q .next { s with heap := h, toks := tk }) :
    wpAny (model prog w) (callerA.deeper (envOf (Str.ofString "law") lawScope L fa cd)) (exec law4 (envOf (Str.ofString "law") lawScope L fa cd)) Q E s := by
  dsimp only [law4, lawScope, lawRec, lawD] at hE ⊢
  replace F := fr_as (m' := fun y => if y = Str.ofString "stream" then some (.ref x) else if y = Str.ofString "numbers" then some (.ref ln) else if y = Str.ofString "octets" then some (.bytes (byteArr (octL rs)) to) else if y = Str.ofString "places" then some (.ref lp) else if y = Str.ofString "script" then some (.ref ls) else m y) F fun _ => ite_as bs (ite_as bag.nums (ite_as bag.octs (ite_as bag.plcs (ite_as bag.scr rfl))))
  clear bag bs
  have hMk := kdMark
  refine For_invVF F ?k1 ?k2 ?_ (hE := hE)
  case k1 => exact rfl
  case k2 => exact rfl
  (try k_fold)
  repeat' ((fail_if_success (with_reducible show wpAny _ _ (pyIter _) _ _ _)); first | (k_unfold; (try dsimp only)) | walk1 | (dsimp only; walk1) | fail "no step")
  (with_reducible rename Fr h₀ L _ _ => FW); (with_reducible rename News h₀ L _ _ => NW); (rename IsRange _ _ _ _ _ _ _ _ => RW)
  show wpAny _ _ (pyIter _) _ _ _
  refine kst_rangeD (n := rs.length) (l3Led w.params dx x ba lp ln t1 t2 bf pv nv pn nn tl) (fun _ => []) (fun _ => True) [Str.ofString "value", Str.ofString "signed", Str.ofString "last"] (fun _ c => 0 ≤ c.1) (pos0, tp) rfl RW ?hsm ?hsz FW NW trivial ?hk hp0 ?turn ?done
  case hsm => exact small_down (by omega) (by omega) (by decide) (by decide)
  case hsz => (rw [rangeSize_downNat]; omega)
  case hk => exact fun _ hp => nomatch hp
  case done =>
    rintro ⟨pos, tp2⟩ u h tk - hP F1 N1
    exact nxt h tk _ F1 ⟨rfl, rfl, rfl, rfl⟩ (cb_drop N1 fun p hp => .tail _ (.tail _ (.tail _ hp)))
  clear FW NW RW
  rintro ⟨pos, tp2⟩ pre k t u hh tk own hk hlt hoff - hP F1 N1
  have hP : 0 ≤ pos := hP
  obtain ⟨i, rfl⟩ : ∃ i : Nat, k = (i : Int) := ⟨rs.length - 1 - pre.length, by omega⟩
  have hi : i < rs.length := by omega
  simp only [l3Led, List.map_cons] at hoff
  simp only [l3Led, List.cons_append, List.nil_append] at N1
  (try dsimp only at F1)
  have hrow := hS _ (List.getElem_mem hi)
  have hy := says_row (z := #[128]) hi hS
  have hfit := fits_row (z := #[128]) hi
  rw [← hbf] at hy hfit
  have hbz : bf.size ≤ 16777216 := by
    have := oct_len hS
    rw [hbf, Array.size_append, byteArr_size]
    show _ + 1 ≤ _
    omega
  have hr1 := hrow.rng
  have hr2 := hrow.pos
  have hr3 := hrow.len
  (try k_fold)
  repeat' ((fail_if_success (with_reducible show wpAny _ _ (call (Value.ref 816) _) _ _ _)); (fail_if_success (with_reducible show wpAny _ _ (call (Value.ref 889) _) _ _ _)); first | (k_unfold; (try dsimp only)) | (k_end; wrow_close) | walk1 | (dsimp only; walk1) | (leave1; walk_say "STEP leave1"; try dsimp only) | fail "no step")
  all_goals first
    | exact absurd (hrow.sig (by assumption)).symm (by assumption)
    | exact absurd (hrow.uns (by assumption)).symm (by assumption)
    | exact absurd ((if_pos (show lst (rs[i]).2.2 < 64 by assumption)).trans (hrow.uns (by assumption)).symm) (show ¬ sv (rs[i]).2.2 = (rs[i]).1 by assumption)
    | skip
  all_goals (
    (with_reducible rename Fr h₀ _ _ _ => FZ); (with_reducible rename News h₀ _ _ _ => NZ)
    refine turn3_end FZ NZ (by first | exact (fun p hp => .tail _ (.tail _ hp)) | exact (fun p hp => .tail _ (.tail _ (.tail _ (.tail _ hp))))) (by omega) ?_
    intro z a1 a3
    simp only [List.contains_cons, List.contains_nil, Bool.or_false, Bool.or_eq_false_iff, beq_eq_false_iff_ne, ne_eq] at a3
    simp [a1, a3.1, a3.2.1, a3.2.2, kstB])
end Mine
end

section
open PySem PySem.W PySem.Calls PyProof.Rows
namespace Mine
local macro_rules | `(tactic| walk_at "subscriptTail") => `(tactic| (k_here; (with_reducible show wpAny _ _ (subscriptTail _ _ (Value.ref _) (Value.int (-1) _)) _ _ _); (first
  | ((with_unfolding_all refine' num_last ?k1 ?k2 ?k3 ?k4 ?_ ?k7; (case k1 => k_asm); (case k2 => k_mem); (case k3 => assumption); (case k4 => assumption); (case k7 => with_unfolding_all rfl); k_whole); intro a9 t9 n9 M9)
  | ((with_unfolding_all refine' pl_last ?k1 ?k2 ?k3 ?k4 ?_ ?k7; (case k1 => k_asm); (case k2 => k_mem); (case k3 => assumption); (case k4 => assumption); (case k7 => with_unfolding_all rfl); k_whole); intro a9 t9 u9 n9 M9))))
set_option maxHeartbeats 8000000 in
theorem stmt5 {prog : Program} {w : World} {p : Program} {loose : List Str} {mean : ExcName → Option Value} {mg mb : Str → Option Value}
    {h₀ : Heap} {L fa : Addr} {cd : Value} {m : Str → Option Value} {s : Shared} {Q : Flow → Shared → Prop} {E : Value → Shared → Prop}
    {ln lp ls : Addr} {rs : List Row} {nv pv : List Value} {nn pn : Nat} {to : Tok} {tl : List (Addr × Obj)}
    (B : Below callerA h₀ [] h₀) (X : (frag.heap_1 w.params).In h₀) (T : Top p loose mean mg mb h₀)
    (F : Fr h₀ L s.heap m) (bag : Bag m ln lp ls rs to)
    (N : News h₀ L s.heap ((lp, W.listOf pv.toArray pn) :: (ln, W.listOf nv.toArray nn) :: tl))
    (hDn : DatAll tl nv (numD rs)) (hDp : DatAll tl pv (plD rs)) (hr0 : rs.length - 1 < rs.length)
    (nxt : ∀ tv h tk m', Fr h₀ L h m' → Bag m' ln lp ls rs to → m' (Str.ofString "value") = some (.int (rs[rs.length - 1]).1 tv) → m' (Str.ofString "signed") = some (.bool (rs[rs.length - 1]).2.1) →
      News h₀ L h ((lp, W.listOf pv.toArray pn) :: (ln, W.listOf nv.toArray nn) :: tl) → Q .next { s with heap := h, toks := tk }) :
    wpAny (model prog w) (callerA.deeper (envOf (Str.ofString "law") lawScope L fa cd)) (exec law5 (envOf (Str.ofString "law") lawScope L fa cd)) Q E s := by
  dsimp only [law5, lawScope, lawRec, lawD]
  have hMk := kdMark
  replace F := bag.fr F
  clear bag
  walk1
  k_steps
  (with_reducible rename Fr h₀ L _ _ => FZ); (with_reducible rename News h₀ L _ _ => NZ)
  exact nxt _ _ _ _ FZ ⟨rfl, rfl, rfl, rfl⟩ rfl rfl NZ
set_option maxHeartbeats 8000000 in
theorem stmt6 {prog : Program} {w : World} {p : Program} {loose : List Str} {mean : ExcName → Option Value} {mg mb : Str → Option Value}
    {h₀ : Heap} {L fa : Addr} {cd : Value} {m : Str → Option Value} {s : Shared} {Q : Flow → Shared → Prop} {E : Value → Shared → Prop}
    {ln lp ls : Addr} {rs : List Row} {nv pv : List Value} {nn pn : Nat} {to tv : Tok} {tl : List (Addr × Obj)}
    (B : Below callerA h₀ [] h₀) (X : (frag.heap_1 w.params).In h₀) (T : Top p loose mean mg mb h₀)
    (hDn : DatAll tl nv (numD rs)) (hDp : DatAll tl pv (plD rs)) (hr0 : rs.length - 1 < rs.length)
    (F : Fr h₀ L s.heap m) (bag : Bag m ln lp ls rs to) (b1 : m (Str.ofString "value") = some (.int (rs[rs.length - 1]).1 tv)) (b2 : m (Str.ofString "signed") = some (.bool (rs[rs.length - 1]).2.1))
    (N : News h₀ L s.heap ((lp, W.listOf pv.toArray pn) :: (ln, W.listOf nv.toArray nn) :: tl))
    (nxt : ∀ ta tb h tk m', Fr h₀ L h m' → m' (Str.ofString "script") = some (.ref ls) → m' (Str.ofString "octets") = some (.bytes (byteArr (octL rs)) to) → m' (Str.ofString "value") = some (.int (rs[rs.length - 1]).1 tv) → m' (Str.ofString "signed") = some (.bool (rs[rs.length - 1]).2.1) →
      m' (Str.ofString "first") = some (.int (at_ rs (rs.length - 1) : Int) ta) → m' (Str.ofString "end") = some (.int (at_ rs (rs.length - 1 + 1) : Int) tb) → Q .next { s with heap := h, toks := tk }) :
    wpAny (model prog w) (callerA.deeper (envOf (Str.ofString "law") lawScope L fa cd)) (exec law6 (envOf (Str.ofString "law") lawScope L fa cd)) Q E s := by
  dsimp only [law6, lawScope, lawRec, lawD]
  have hMk := kdMark
  replace F := fr_as (m' := fun y => if y = Str.ofString "numbers" then some (.ref ln) else if y = Str.ofString "octets" then some (.bytes (byteArr (octL rs)) to) else if y = Str.ofString "places" then some (.ref lp) else if y = Str.ofString "script" then some (.ref ls) else if y = Str.ofString "signed" then some (.bool (rs[rs.length - 1]).2.1) else if y = Str.ofString "value" then some (.int (rs[rs.length - 1]).1 tv) else m y) F
    fun _ => ite_as bag.nums (ite_as bag.octs (ite_as bag.plcs (ite_as bag.scr (ite_as b2 (ite_as b1 rfl)))))
  clear bag b1 b2
  walk1
  k_steps
  (with_reducible rename Fr h₀ L _ _ => FZ)
  exact nxt _ _ _ _ _ FZ rfl rfl rfl rfl rfl rfl
end Mine
end

section
open PySem PySem.W PySem.Calls PyProof.Rows
namespace Mine
theorem gen_builtin {M : Model} {A : Around} {E : Value → Shared → Prop} {s : Shared} {g : Heap} {C : Addr} {m mg mb : Str → Option Value} {p : Program} {loose : List Str} {scope : Scope} {cl : List (Str × Addr)} {code : Value} {env : Env} {x : Str} {pos : Pos} {v : Value} {Q : Value → Shared → Prop}
    (F : Fr g C s.heap m) (T : TopRead p loose mg mb g) (hmiss : mg x = none) (hv : bootBuiltins x = some v) (h : Q v s) (hn : x ≠ "__name__" := by decide)
    (hg : env.globals = mainGlobals := by rfl) (hk : scope.kind = .function := by rfl) (hx : (genEnv scope cl C code builtinsNs env).kindOf x = some .globalImplicit := by rfl)
    (hd : (x == ("__debug__" : Str)) = false := by decide) : wpAny M A (eval (.Name x pos) (genEnv scope cl C code builtinsNs env)) Q E s :=
  Calls.Name_function_global hk hx (Calls.loadGlobal_builtin (env := genEnv scope cl C code builtinsNs env) (show s.heap.Ns env.globals mg from hg ▸ (T.g.keeps F.keep)) hmiss (T.b.keeps F.keep) ((T.builtins x hn).trans hv) h) hd
set_option maxHeartbeats 8000000 in
theorem tail7 {prog : Program} {w : World} {p : Program} {loose : List Str} {mean : ExcName → Option Value} {mg mb : Str → Option Value}
    {h₀ : Heap} {L fa c P : Addr} {bm : Addr} {ob : Obj} {m : Str → Option Value} {s : Shared} {Q : Flow → Shared → Prop} {E : Value → Shared → Prop}
    {ls : Addr} {vs : List Value} {ns : List Int} {a b : Int} {ta tb : Tok}
    (B : Below callerA h₀ [] h₀) (X : (frag.heap_1 w.params).In h₀) (T : Top p loose mean mg mb h₀)
    (F : Fr h₀ L s.heap m) (b1 : m (Str.ofString "end") = some (.int b tb)) (b2 : m (Str.ofString "first") = some (.int a ta)) (b3 : m (Str.ofString "script") = some (.ref ls))
    (N : News h₀ L s.heap []) (B0 : Based h₀ h₀ c P #[]) (M : BMod h₀ mainGlobals mg bm ob)
    (hE : PassesOwn (model prog w) (callerA.deeper (envOf (Str.ofString "law") lawScope L fa (.ref c))) (envOf (Str.ofString "law") lawScope L fa (.ref c)) E)
    (hL : h₀.IsList ls vs.toArray) (hI : IntsAre vs ns) (hlen : ns.length ≤ 63) (hab : 0 ≤ a ∧ a < b) (hG : AllBare s.gens)
    (nxt : ∀ (s' : Shared) ps' (k : Nat) tc m', Based h₀ (regrown h₀ P ps') c P ps' → Fr (regrown h₀ P ps') L s'.heap m' → m' (Str.ofString "cut") = some (.int (a + (k : Int)) tc) → (∀ z, z ≠ Str.ofString "cut" → m' z = m z) → a + (k : Int) ≤ b → AllBare s'.gens → s'.os = s.os → Q .next s') :
    wpAny (model prog w) (callerA.deeper (envOf (Str.ofString "law") lawScope L fa (.ref c))) (exec law7 (envOf (Str.ofString "law") lawScope L fa (.ref c))) Q E s := by
  dsimp only [law7, lawScope, lawRec, lawD] at hE ⊢
  replace F := fr_as (m' := fun y => if y = Str.ofString "end" then some (.int b tb) else if y = Str.ofString "first" then some (.int a ta) else if y = Str.ofString "script" then some (.ref ls) else m y) F fun _ => ite_as b1 (ite_as b2 (ite_as b3 rfl))
  have lgeM := LGe.Mark.mk
  walk1
  k_steps
  (with_reducible rename Fr h₀ L _ _ => FW); (with_reducible rename News h₀ L _ _ => NW); (with_reducible rename IntsAre _ (List.take 8 ns) => IW)
  refine src_listD (pz := fun _ => true) (d := fun k : Int => PyData.int ((if k < 0 then -k else k).fmod 5)) B0 (News.isList NW (.head _)) (IntsAre.areOf IW) FW hG (T.nolimit.keeps FW.keep) (Fr.kb1 FW) (Fr.kb2 FW) ?g1 ?g2 ?g3
  case g1 =>
    intros
    exact wpAny_pure ⟨rfl, _, _, rfl, fun _ _ e => e⟩
  case g2 =>
    intro c' C A' E' k v u m₂ hA hD hU ha hK hp F2 hv hLC hk2
    obtain ⟨t, rfl⟩ := ItemKind.int_is hK
    have TR := LGe.top_regrown F2 (topRead_of T) B0
    walk1
    walk1
    refine gen_builtin F2 TR (mg_none_of X T.g (by k_is)) PyProof.Rows.boot_abs ?_
    walk1
    walk1
    refine ldVarG F2 hv ?_
    walk1
    walk1
    walk1
    walk1
    exact ⟨.int _ _, ⟨_, _, rfl, fun _ _ e => e⟩⟩
  case g3 =>
    intro c' g s5 B5 F5 G5 hos hk5 X5
    have TR := LGe.top_regrown F5 (topRead_of T) B0
    have N5 := newsFor F5 (News.rebase NW B0 hk5)
    have hkb := Fr.kb1 FW
    have hle := News.le NW
    clear FW NW
    walk1
    refine sum_genDA F5 G5 X5 hkb ?_
    rintro ⟨h6, g6, d6, tk6, os6⟩ t6 F6 G6 hos6 hk6
    have N6 := N5.kept hle hk6
    clear F5 N5 X5 hk5 hk6
    k_steps
    (with_reducible rename Fr _ L _ _ => FZ)
    have hq0 := Int.fmod_nonneg_of_pos (List.map (fun k => (if k < 0 then -k else k).fmod 5) (List.filter (fun x => true) (List.take 8 ns))).sum (show 0 < b - a + 1 by omega)
    have hq1 := Int.fmod_lt_of_pos (List.map (fun k => (if k < 0 then -k else k).fmod 5) (List.filter (fun x => true) (List.take 8 ns))).sum (show 0 < b - a + 1 by omega)
    obtain ⟨k9, hk9⟩ : ∃ k : Nat, (List.map (fun k => (if k < 0 then -k else k).fmod 5) (List.filter (fun x => true) (List.take 8 ns))).sum.fmod (b - a + 1) = (k : Int) := Int.eq_ofNat_of_zero_le hq0
    rw [hk9] at FZ hq1
    exact nxt _ _ k9 _ _ B5 FZ rfl (fun z hz => (if_neg hz).trans (ite_as b1 (ite_as b2 (ite_as b3 rfl)))) (by omega) G6 (hos6.trans hos)
end Mine
end

section
open PySem PySem.W PySem.Calls PyProof.Rows
namespace Mine
local macro_rules | `(tactic| walk_at "spare 0") => `(tactic| skip)
local macro_rules | `(tactic| walk_at "binaryOp Add bytes bytes") => `(tactic| (k_here; (refine KBy.add_bytes ?z ?_; (case z => first | (simp only [byteArr_size]; show _ + 1 ≤ _; omega) | (simp only [Array.size_append, byteArr_size, encL_length, sizeLine_eq]; omega)); intro _ _); (try dsimp only)))
set_option maxHeartbeats 8000000 in
theorem stmt2 {prog : Program} {w : World} {p : Program} {loose : List Str} {mean : ExcName → Option Value} {mg mb : Str → Option Value}
    {h₀ : Heap} {L fa : Addr} {cd : Value} {m : Str → Option Value} {s : Shared} {Q : Flow → Shared → Prop} {E : Value → Shared → Prop}
    {ln lp ls : Addr} {rs : List Row} {nv pv : List Value} {nn pn : Nat} {to : Tok} {tl : List (Addr × Obj)}
    (B : Below callerA h₀ [] h₀) (X : (frag.heap_1 w.params).In h₀) (T : Top p loose mean mg mb h₀)
    (F : Fr h₀ L s.heap m) (bag : Bag m ln lp ls rs to)
    (N : News h₀ L s.heap ((lp, W.listOf pv.toArray pn) :: (ln, W.listOf nv.toArray nn) :: tl))
    (hDn : DatAll tl nv (numD rs)) (hDp : DatAll tl pv (plD rs)) (hol : (octL rs).length ≤ 300)
    (nxt : ∀ x dx ba t1 t2 tp h tk m', @LT.lt Nat _ dx x → @LT.lt Nat _ x ba → Fr h₀ L h m' → Bag m' ln lp ls rs to → m' (Str.ofString "stream") = some (.ref x) →
      News h₀ L h ((x, instObj 502 dx) :: (dx, strD w.params ba 0 t1 t2 tp) :: (ba, baObj (byteArr (octL rs) ++ #[128])) :: (lp, W.listOf pv.toArray pn) :: (ln, W.listOf nv.toArray nn) :: tl) → (∀ q ∈ (lp, W.listOf pv.toArray pn) :: (ln, W.listOf nv.toArray nn) :: tl, @Ne Nat q.1 dx) → Q .next { s with heap := h, toks := tk }) :
    wpC (model prog w) (callerA.deeper (envOf (Str.ofString "law") lawScope L fa cd)) (exec law2 (envOf (Str.ofString "law") lawScope L fa cd)) Q E s := by
  dsimp only [law2, lawScope, lawRec, lawD]
  have hMk := kdMark
  replace F := bag.fr F
  clear bag
  refine C_Assign_Name (C_Call (wpC_of ?_))
  walk1
  refine C_callWith_K (K := frag.heap_1 w.params) (by k_is) (C_spliced_more (wpC_of ?_))
  k_steps
  refine C_spliced_none ⟨?_, ?_⟩
  · k_in
  refine stream_spec B F X T rfl (by decide) (by decide) News.nil ?_ ?_
  · rw [Array.size_append, byteArr_size]
    show _ + 1 ≤ _
    omega
  intro x dx ba t1 t2 tp h' tk F' N' kp hx hb hf
  have N2 := N'.append (N.grown kp)
  have hn : ∀ q ∈ (lp, W.listOf pv.toArray pn) :: (ln, W.listOf nv.toArray nn) :: tl, @Ne Nat q.1 dx := fun q hq => fresh_ne (N q hq).1 (hf dx (.tail _ (.head _)))
  simp only [List.cons_append, List.nil_append] at N2
  clear F N N' kp hf
  refine wpC_of ?_
  k_steps
  (with_reducible rename Fr h₀ L _ _ => FZ); (with_reducible rename News h₀ L _ _ => NZ)
  exact nxt x dx ba t1 t2 tp _ _ _ hx hb FZ ⟨rfl, rfl, rfl, rfl⟩ rfl NZ hn
end Mine
end

section
open PySem PySem.W PySem.Calls PyProof.Rows
namespace Mine
local macro_rules | `(tactic| walk_at "spare 0") => `(tactic| skip)
local macro_rules | `(tactic| walk_at "spare 1") => `(tactic| skip)
local macro_rules | `(tactic| walk_at "spare 2") => `(tactic| skip)
local macro_rules | `(tactic| walk_at "call ref") => `(tactic| (k_here; (with_reducible show wpAny _ _ (call (Value.ref 892) [Value.str (Str.ofString "") _]) _ _ _); k_dflt (refine' mk_u0 ?k1 ?k2 ?k3 ?k4 ?kK ?kd ?ku ?k5 ?_; (case k1 => k_asm); (case k2 => k_asm); (case k3 => k_asm); (case k4 => k_asm); (case kK => exact rfl); (case kd => k_room); (case ku => ktr_units); (case k5 => k_asm); k_whole); intro y9 d9 h' tk' F' N' l1 l2; (try k_lt l1); (try k_lt2 l2); (try k_sweep)))
local macro_rules | `(tactic| walk_at "call ref") => `(tactic| (k_here; (with_reducible show wpAny _ _ (call (Value.ref 911) [Value.str (Str.ofString "") _]) _ _ _); k_dflt (refine' mk_s0 ?k1 ?k2 ?k3 ?k4 ?kK ?kd ?ku ?k5 ?_; (case k1 => k_asm); (case k2 => k_asm); (case k3 => k_asm); (case k4 => k_asm); (case kK => exact rfl); (case kd => k_room); (case ku => ktr_units); (case k5 => k_asm); k_whole); intro y9 d9 h' tk' F' N' l1 l2; (try k_lt l1); (try k_lt2 l2); (try k_sweep)))
local macro_rules | `(tactic| walk_at "call ref") => `(tactic| (k_here; (with_reducible show wpAny _ _ (call (Value.ref 861) [Value.ref _, Value.ref _, Value.int _ _]) _ _ _); k_dflt (refine' sp_u1_any ?k1 ?k2 ?k3 ?k4 ?kK ?kd ?ku ?k5 ?m1 ?m2 ?m3 ?m4 ?m5 ?a0 ?a1 ?a2 ?a3 ?a4 ?a5 ?a6 ?a7 ?a8 ?a9 ?_; (case k1 => k_asm); (case k2 => k_asm); (case k3 => k_asm); (case k4 => k_asm); (case kK => exact rfl); (case kd => k_room); (case ku => ktr_units); (case k5 => k_asm); (case m1 => k_mem); (case m2 => k_mem); (case m3 => k_mem); (case m4 => k_updF); (case m5 => k_mem); (case a0 => first | assumption | omega); (case a1 => first | assumption | omega); (case a2 => first | assumption | omega); (case a3 => first | assumption | omega); (case a4 => first | assumption | omega); (case a5 => first | assumption | omega); (case a6 => first | assumption | omega); (case a7 => first | assumption | omega); (case a8 => first | assumption | omega); (case a9 => first | assumption | omega); k_whole); intro t9 tp9 h' tk' F' N'; (try dsimp only at N'); (try k_sweep)))
local macro_rules | `(tactic| walk_at "call ref") => `(tactic| (k_here; (with_reducible show wpAny _ _ (call (Value.ref 861) [Value.ref _, Value.ref _, Value.int _ _]) _ _ _); k_dflt (refine' sp_s1_any ?k1 ?k2 ?k3 ?k4 ?kK ?kd ?ku ?k5 ?m1 ?m2 ?m3 ?m4 ?m5 ?a0 ?a1 ?a2 ?a3 ?a4 ?a5 ?a6 ?a7 ?a8 ?a9 ?_; (case k1 => k_asm); (case k2 => k_asm); (case k3 => k_asm); (case k4 => k_asm); (case kK => exact rfl); (case kd => k_room); (case ku => ktr_units); (case k5 => k_asm); (case m1 => k_mem); (case m2 => k_mem); (case m3 => k_mem); (case m4 => k_updF); (case m5 => k_mem); (case a0 => first | assumption | omega); (case a1 => first | assumption | omega); (case a2 => first | assumption | omega); (case a3 => first | assumption | omega); (case a4 => first | assumption | omega); (case a5 => first | assumption | omega); (case a6 => first | assumption | omega); (case a7 => first | assumption | omega); (case a8 => first | assumption | omega); (case a9 => first | assumption | omega); k_whole); intro t9 tp9 h' tk' F' N'; (try dsimp only at N'); (try k_sweep)))
local macro_rules | `(tactic| walk_at "call ref") => `(tactic| (k_here; (with_reducible show wpAny _ _ (call (Value.ref 861) [Value.ref _, Value.ref _, Value.int _ _]) _ _ _); k_dflt (refine' sp_u1_failany ?k1 ?k2 ?k3 ?k4 ?kK ?kd ?ku ?k5 ?m1 ?m2 ?m3 ?m4 ?m5 ?a0 ?a1 ?a2 ?a3 ?a4 ?a5 ?a6 ?a7 ?a8 ?a9 ?b0 ?_; (case k1 => k_asm); (case k2 => k_asm); (case k3 => k_asm); (case k4 => k_asm); (case kK => exact rfl); (case kd => k_room); (case ku => ktr_units); (case k5 => k_asm); (case m1 => k_mem); (case m2 => k_mem); (case m3 => k_mem); (case m4 => k_mem); (case m5 => k_mem); (case a0 => first | assumption | omega); (case a1 => first | assumption | omega); (case a2 => first | assumption | omega); (case a3 => first | assumption | omega); (case a4 => first | assumption | omega); (case a5 => assumption); (case a6 => assumption); (case a7 => assumption); (case a8 => first | assumption | omega); (case a9 => first | assumption | omega); (case b0 => first | assumption | omega); k_whole); intro e9 g9 h' tk' F9 R9 U9; (try dsimp only)))
local macro_rules | `(tactic| walk_at "call ref") => `(tactic| (k_here; (with_reducible show wpAny _ _ (call (Value.ref 861) [Value.ref _, Value.ref _, Value.int _ _]) _ _ _); k_dflt (refine' sp_s1_failany ?k1 ?k2 ?k3 ?k4 ?kK ?kd ?ku ?k5 ?m1 ?m2 ?m3 ?m4 ?m5 ?a0 ?a1 ?a2 ?a3 ?a4 ?a5 ?a6 ?a7 ?a8 ?a9 ?b0 ?_; (case k1 => k_asm); (case k2 => k_asm); (case k3 => k_asm); (case k4 => k_asm); (case kK => exact rfl); (case kd => k_room); (case ku => ktr_units); (case k5 => k_asm); (case m1 => k_mem); (case m2 => k_mem); (case m3 => k_mem); (case m4 => k_mem); (case m5 => k_mem); (case a0 => first | assumption | omega); (case a1 => first | assumption | omega); (case a2 => first | assumption | omega); (case a3 => first | assumption | omega); (case a4 => first | assumption | omega); (case a5 => assumption); (case a6 => assumption); (case a7 => assumption); (case a8 => first | assumption | omega); (case a9 => first | assumption | omega); (case b0 => first | assumption | omega); k_whole); intro e9 g9 h' tk' F9 R9 U9; (try dsimp only)))
theorem fr0 {h₀ g' h : Heap} {L : Addr} {m : Str → Option Value} (F : Fr g' L h m) (T : KtsTurn [] h₀ g') : Fr h₀ L h m :=
  ⟨F.ns, fun b o q => F.keep b o (T.other b o q (fun z => nomatch z)), by have := F.above; rw [T.size] at this; exact this⟩
theorem C_hit {prog : Program} {w : World} {p : Program} {loose : List Str} {mean : ExcName → Option Value} {mg mb : Str → Option Value} {KF : Frag} {h₀ G : Heap} {L a e : Addr} {cd cls : Value} {name : Str} {scope : Scope} {m : Str → Option Value}
    {s' : Shared} {Q : Flow → Shared → Prop} {E : Value → Shared → Prop} {tt : Expr} {b₀ : Stmt} {suite : List Stmt} {pos : Pos} {rest : List ExceptHandler}
    (B : Below callerA h₀ [] h₀) (X : KF.In h₀) (T : Top p loose mean mg mb h₀) (R : RaisedSN h₀ G [envOf name scope L a cd] e cls [] s'.heap) (F : Fr h₀ L G m) (hsm : G.UpToSlots s'.heap)
    (KT : KtsTest prog w KF p loose mg mb name scope L a cd cls tt true)
    (k : ∀ h', Fr h₀ L h' m → wpAny (model prog w) ((callerA.deeper (envOf name scope L a cd)).mark (some (.ref e))) (execs (b₀ :: suite) (envOf name scope L a cd)) Q (fun _ _ => False) { s' with heap := h' }) :
    wpC (model prog w) (callerA.deeper (envOf name scope L a cd)) (noteFrame (.ref e) (envOf name scope L a cd)) (fun _ s₂ => wpC (model prog w) (callerA.deeper (envOf name scope L a cd)) (setFlight (.ref e) none) (fun _ s₃ =>
      wpC (model prog w) (callerA.deeper (envOf name scope L a cd)) (handleBy (.ref e) (envOf name scope L a cd) (.ExceptHandler (some tt) none (b₀ :: suite) pos :: rest)) Q E s₃) E s₂) E s' := by
  have h := kts_lookSN (E := fun _ _ => False) (Q := Q) (hs := .ExceptHandler (some tt) none (b₀ :: suite) pos :: rest) R F B hsm ktsDicts_nil (fun h' R' U' =>
    hit_SN0 R' F B U' X T ktsDicts_nil KtsTurn.refl KT (fun h'' g' T' F' _ _ _ _ _ => k h'' (fr0 F' T')) PassesOwnAt.never)
  exact wpC_mono (wpC_of h) (fun _ _ h2 => wpC_mono (wpC_of h2) (fun _ _ h3 => wpC_mono (wpC_of h3) (fun _ _ x => x) fun _ _ x => x.elim) fun _ _ x => x.elim) fun _ _ x => x.elim
local macro_rules | `(tactic| walk_at "subscriptTail") => `(tactic| (k_here; (with_reducible show wpAny _ _ (subscriptTail _ (Expr.Slice _ _ none _) (Value.bytes _ _) (Value.ref _)) _ _ _); (with_reducible rename Fr _ _ _ _ => F'); (with_reducible rename News _ _ _ _ => N'); (refine KBc.slice_K (s := ⟨_, _, _, _, _⟩) F' N' rfl (by constructor) (by constructor) ?z ?_; (case z => (rw [KBw.ints_length, byteArr_size]; omega))); intro h' t' k' F' N' _; (try dsimp only)))
set_option maxHeartbeats 8000000 in
theorem stmt8 {prog : Program} {w : World} {p : Program} {loose : List Str} {mean : ExcName → Option Value} {mg mb : Str → Option Value}
    {h₀ : Heap} {L fa : Addr} {cd : Value} {m : Str → Option Value} {s : Shared} {Q : Flow → Shared → Prop} {E : Value → Shared → Prop}
    {rs : List Row} {i k : Nat} {to ta tb tc tv : Tok}
    (B : Below callerA h₀ [] h₀) (X : (frag.heap_1 w.params).In h₀) (T : Top p loose mean mg mb h₀)
    (hi : i < rs.length) (hS : ∀ r ∈ rs, Sev r.1 r.2.1 r.2.2) (hk : k ≤ (rs[i]).2.2.length)
    (F : Fr h₀ L s.heap m) (b1 : m (Str.ofString "cut") = some (.int ((at_ rs i : Int) + (k : Int)) tc)) (b2 : m (Str.ofString "end") = some (.int (at_ rs (i + 1) : Int) tb)) (b3 : m (Str.ofString "first") = some (.int (at_ rs i : Int) ta))
    (b4 : m (Str.ofString "signed") = some (.bool (rs[i]).2.1)) (b5 : m (Str.ofString "value") = some (.int (rs[i]).1 tv)) (b6 : m (Str.ofString "octets") = some (.bytes (byteArr (octL rs)) to))
    (N : News h₀ L s.heap []) (hol : (octL rs).length ≤ 300)
    (ret : ∀ h' tk m', Fr h₀ L h' m' → Q (.ret (.bool true)) { s with heap := h', toks := tk }) :
    wpC (model prog w) (callerA.deeper (envOf (Str.ofString "law") lawScope L fa cd)) (exec law8 (envOf (Str.ofString "law") lawScope L fa cd)) Q E s := by
  dsimp only [law8, lawScope, lawRec, lawD]
  replace F := fr_as (m' := fun y => if y = Str.ofString "cut" then some (.int ((at_ rs i : Int) + (k : Int)) tc) else if y = Str.ofString "end" then some (.int (at_ rs (i + 1) : Int) tb) else if y = Str.ofString "first" then some (.int (at_ rs i : Int) ta) else if y = Str.ofString "signed" then some (.bool (rs[i]).2.1) else if y = Str.ofString "value" then some (.int (rs[i]).1 tv)
      else if y = Str.ofString "octets" then some (.bytes (byteArr (octL rs)) to) else m y) F fun _ => ite_as b1 (ite_as b2 (ite_as b3 (ite_as b4 (ite_as b5 (ite_as b6 rfl)))))
  clear b1 b2 b3 b4 b5 b6
  refine C_Try (wpC_execs_cons (C_Assign_Name (C_Call (wpC_of ?_))))
  walk1
  refine C_callWith_K (K := frag.heap_1 w.params) (by k_is) (C_spliced_more (wpC_of ?_))
  k_steps
  all_goals (
    refine C_spliced_more (C_Call (wpC_of ?_))
    walk1
    refine C_callWith_K (K := frag.heap_1 w.params) (by k_is) (C_spliced_more (wpC_of ?_)))
  all_goals k_steps
  all_goals (
    (with_reducible rename Fr h₀ L _ _ => FY); (with_reducible rename News h₀ L _ _ => NY)
    refine C_spliced_none ⟨?_, ?_⟩
    · k_in
    refine stream_spec B FY X T rfl (by decide) (by decide) News.nil ?_ ?_
    · exact Nat.le_trans (KBc.size_picked_le _ _ _) (by rw [byteArr_size]; omega)
    intro x dx ba t1 t2 tp h' tk F' N' kp hx hb hf
    have N2 := N'.append (NY.grown kp)
    have hy1 := fresh_ne (NY.get (.head _)) (hf dx (.tail _ (.head _)))
    have hy2 := fresh_ne (NY.get (.tail _ (.head _))) (hf dx (.tail _ (.head _)))
    clear N' NY FY
    simp only [List.cons_append, List.nil_append] at N2
    refine C_spliced_more (wpC_of ?_)
    walk1
    refine C_spliced_none ⟨?_, ?_⟩
    · k_in
    have ec : (at_ rs i : Int) + (k : Int) = ((at_ rs i + k : Nat) : Int) := by omega
    rw [ec] at N2
    have hle1 := at_le hi
    have hle2 := at_succ hi
    obtain ⟨bf, hbf⟩ : ∃ bf, bf = KBy.picked (byteArr (octL rs)) none (some ((at_ rs i + k : Nat) : Int)) := ⟨_, rfl⟩
    have hbl : bf.toList = ((octL rs).take (at_ rs i + k)).map (fun n => n.toNat.toUInt8) := by rw [hbf]; exact cut_list
    have hbs : bf.size = at_ rs i + k := by rw [hbf]; exact cut_size (by omega)
    rw [← hbf] at N2
    clear hbf
    have hrow := hS _ (List.getElem_mem hi)
    have hsc := says_cut hi hS hk hbl
    have hr1 := hrow.rng
    have hr2 := hrow.pos
    have hr3 := hrow.len
    have hbz : bf.size ≤ 16777216 := by omega
    refine wpC_of ?_
    rcases Nat.eq_or_lt_of_le hk with hkk | hkk
    · have hsy : Says bf (at_ rs i : Int) (rs[i]).2.2 := fun j hj => hsc j (by omega)
      have hfit : (at_ rs i : Int) + ((rs[i]).2.2.length : Int) ≤ (bf.size : Int) := by omega
      k_steps
      refine wpC_of ?_
      k_steps
      refine wpC_execs_cons (C_Return (wpC_of ?_))
      k_steps
      · (with_reducible rename Fr h₀ L _ _ => FZ)
        first
          | rw [show (sv (rs[i]).2.2 == (rs[i]).1) = true from beq_iff_eq.mpr (hrow.sig (by assumption)).symm]
          | rw [show (uv (rs[i]).2.2 == (rs[i]).1) = true from beq_iff_eq.mpr (hrow.uns (by assumption)).symm]
        exact ret _ _ _ FZ
      · omega
    · have hlt9 : (bf.size : Int) = (at_ rs i : Int) + (k : Int) := by omega
      k_steps
      refine C_hit B X T (by assumption) (by assumption) (by assumption) (by kts_test) ?_
      intro h9 F9
      k_steps
      rw [show decide (((at_ rs i : Nat) : Int) + (k : Int) < ((at_ rs (i + 1) : Nat) : Int)) = true from decide_eq_true (by omega)]
      exact ret _ _ _ F9)
end Mine
end

section
open PySem PySem.W PySem.Calls PyProof.Rows
namespace Mine
theorem enterG {M : Model} {A : Around} {s : Shared} {f : Value} {pos : List Value} {c : ClaimW} {cl : Str → Option Addr} {mean : ExcName → Option Value} {args : List WData} {s₁ : Shared}
    (h : codeC M A (.call f ⟨pos, []⟩) (GoodWG c cl mean args s₁) s) : wpC M A (PySem.call f pos []) (fun v s' => GoodWG c cl mean args s₁ (.ok (.ret v)) s') (fun e s' => GoodWG c cl mean args s₁ (.error e) s') s :=
  wpC_call (codeC_mono h fun res s' g => by
    rcases g.1 with ⟨v, _, _, rfl, _⟩ | ⟨e, _, _, rfl, _⟩ <;> exact g)
set_option maxHeartbeats 8000000 in
theorem law_walk : LawWalk := by
  dsimp only [LawWalk, lawD]
  k_fill
  intro w s₀ s₁ mg mb G Y fa o pm cd doc dV kV ho hd hcd hD hmg hg args vals as hpre hlay hrd hwl hlo
  have KX := kIn_of Y
  have X := (Ground.X G).1
  have V := (Ground.X G).2
  refine Ground.open G ?_
  intro T B D TE TW
  try (refine guard_noD D (by decide +kernel) ?_; clear D)
  obtain ⟨_, _, M⟩ := bmod_of_top T
  obtain ⟨c, P, he, B0⟩ := based_of_top T rfl hmg ho hd
  have he' : cd = _ := he
  subst he'
  have BM := And.intro B0 (And.intro M trivial)
  clear B0 M
  have TA := at_of_top T
  clear hmg
  wrow_args hpre hlay hrd hwl hlo
  refine enterG ?_
  have K0 := below_caller (Top.heap T)
  have he := Dflts.none hD rfl
  subst he
  refine call_topC (by decide) ho hd (Top.nolimit T) hcd (BindsTo.of_eq rfl) (locs rfl) fun h₁ F => ?_
  w_binds F
  have N0 := (News.nil : News _ _ _ []).at F
  clear hd TA
  k_drop
  dsimp only
  refine wpC_execs_cons (wpC_of ?_)
  k_fold
  k_steps
  (with_reducible rename Fr _ _ _ _ => F1); (with_reducible rename News _ _ _ _ => N1)
  refine wpC_execs_cons (wpC_of (loop1 K0 KX T F1 rfl rfl rfl rfl (cb_drop N1 fun p hp => .tail _ hp) (by assumption) PassesOwn.leaving (by assumption) (by assumption) (by omega) ?_))
  clear F1 N1
  intro rs nv pv nn pn to tl h2 tk2 m2 hr1 hr9 hS hDn hDp F2 bag2 N2
  have hol : (octL rs).length ≤ 300 := by have := oct_len hS; omega
  refine wpC_execs_cons (stmt2 K0 KX T F2 bag2 N2 hDn hDp hol ?_)
  clear F2 N2 bag2
  intro x dx ba t1 t2 tp h3 tk3 m3 hx hb F3 bag3 bs3 N3 hne3
  refine wpC_execs_cons (wpC_of (loop2 (t1 := t1) (t2 := t2) (tp := tp) (nn := nn) (pn := pn) K0 KX T F3 bag3 bs3 (cb_drop N3 fun p hp => ?_) hx hb (hne3 _ (.head _)) (hne3 _ (.tail _ (.head _))) (fun p hp b hb => ?_) PassesOwn.leaving hDn hDp hS hr9 rfl ?_))
  · rcases List.mem_cons.mp hp with rfl | hp
    · exact .tail _ (.head _)
    rcases List.mem_cons.mp hp with rfl | hp
    · exact .head _
    · exact .tail _ (.tail _ hp)
  · rw [List.mem_singleton.mp hb]
    exact hne3 p (.tail _ (.tail _ hp))
  clear F3 N3 bag3 bs3
  intro pos tp' h4 tk4 m4 hpos F4 bag4 bs4 N4
  refine wpC_execs_cons (wpC_of (loop3 K0 KX T F4 bag4 bs4 N4 hx hb (hne3 _ (.head _)) (hne3 _ (.tail _ (.head _))) (fun p hp b hb => ?_) PassesOwn.leaving hDn hDp hS hr9 hpos rfl ?_))
  · rw [List.mem_singleton.mp hb]
    exact hne3 p (.tail _ (.tail _ hp))
  clear F4 N4 bag4 bs4
  intro h5 tk5 m5 F5 bag5 N5
  have hr0 : rs.length - 1 < rs.length := by omega
  refine wpC_execs_cons (wpC_of (stmt5 K0 KX T F5 bag5 N5 hDn hDp hr0 ?_))
  clear F5 N5 bag5
  intro tv h6 tk6 m6 F6 bag6 v6 g6 N6
  refine wpC_execs_cons (wpC_of (stmt6 K0 KX T hDn hDp hr0 F6 bag6 v6 g6 N6 ?_))
  clear F6 N6 bag6 v6 g6
  intro ta tb h7 tk7 m7 F7 sc7 oc7 v7 g7 a7 e7
  have hat := at_succ hr0
  have hpo := (hS _ (List.getElem_mem hr0)).pos
  obtain ⟨B0, M, -⟩ := BM
  refine wpC_execs_cons (wpC_of (tail7 K0 KX T F7 e7 a7 sc7 (News.nil.at F7) B0 M PassesOwn.leaving (by assumption) (by assumption) (by omega) (by omega) (.of_eq hg) ?_))
  intro s8 ps' k tc m8 B8 F8 c8 z8 hk8 G8 os8
  refine wpC_execs_cons (stmt8 (below_caller _) (LGeL.in_regrown F8 KX (topRead_of T) B0 (heap_classed w)) (top_weak T B0 (by decide +kernel)) hr0 hS (by omega) F8 c8 ((z8 _ (by decide)).trans e7) ((z8 _ (by decide)).trans a7) ((z8 _ (by decide)).trans g7) ((z8 _ (by decide)).trans v7) ((z8 _ (by decide)).trans oc7) News.nil hol ?_)
  intro h9 tk9 m9 F9
  have O9 := B8.finish F9
  wrow_closeG
end Mine
end

section
/-! The head lays a twin beside each constant that it makes, with an equation between the two. For the trees of the heap's states
these equations are some 350 MB in all, and the head holds (and is faster) without them: a twin's name that is taken is passed over. -/
namespace Mine.law_holds
def tw5058273712933161185 : Unit := ()
def tw1724926542741425601 : Unit := ()
def tw7189144021397156579 : Unit := ()
def tw11838502802998350659 : Unit := ()
def tw10300966854959432708 : Unit := ()
def tw14736132864264863716 : Unit := ()
def tw14829318041163090181 : Unit := ()
def tw1046294387351938789 : Unit := ()
def tw4564682816215774534 : Unit := ()
def tw4054605426343851304 : Unit := ()
def tw8453982366859765931 : Unit := ()
def tw22571297981986635 : Unit := ()
def tw9013377322688217293 : Unit := ()
def tw5229633489150285519 : Unit := ()
def tw5838505073958070000 : Unit := ()
def tw3437919841840417490 : Unit := ()
def tw3909052007298860915 : Unit := ()
def tw10483879233934373492 : Unit := ()
def tw16231714261059239893 : Unit := ()
def tw2104802203949650006 : Unit := ()
def tw11946340739361827192 : Unit := ()
def tw12336541308636382938 : Unit := ()
def tw3234938669768167354 : Unit := ()
def tw6674946733510290875 : Unit := ()
def tw6670392184156354459 : Unit := ()
def tw2868248968327744829 : Unit := ()
def tw3712416203505346943 : Unit := ()
def tw15068483726869450994 : Unit := ()
end Mine.law_holds
namespace Mine
set_option Elab.async true in
set_option maxHeartbeats 8000000 in
theorem law_holds : _root_.PySem.Challenge.rw_bs0028_01.Holds := by
  w_on
  o_law
  o_head (kHook frag.heap_1 asQ asQ_is)
  (case hw => w_witness2)
  exact Eq.mp (by kernel_rfl) law_walk
end Mine
end

theorem PySem.Challenge.cw_bs0028_01_holds : PySem.Challenge.rw_bs0028_01.Holds :=
  Mine.law_holds
