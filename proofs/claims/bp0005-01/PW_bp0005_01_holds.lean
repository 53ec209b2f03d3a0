import PyProof.Rows.All
import Wide.All
import OpenK.AllK
import Wide.FinOn
import KE.BitLaws
import PySem.Challenge.RW_bp0005_01
set_option linter.all false
set_option rowWalk.seconds 0
set_option compiler.extract_closed false
set_option pp.maxSteps 300
set_option pp.deepTerms.threshold 3
-- Cln
open PySem PySem.W PyProof.Rows
set_option Elab.async false
namespace Mine
theorem hush {p : Prop} (h : p) (_ : (q : Prop) → False → q) : p := h
theorem hushed {α : Type} (f : False) (_ : α) (_ : (n : Nat) → Fin (n+1) → α) : False := f
open PySem.Calls
set_option maxRecDepth 100000
set_option maxHeartbeats 4000000

/-- no decoder that holds a bytearray -/
def calm : Code → Bool
  | .builtin id _ => !Builtin.Bytes.decodersThatHold.contains id
  | _ => true
/-- a context without such a decoder -/
def Cln (Γ : Ctx) : Prop := calm Γ.code = true ∧ ∀ x ∈ Γ.below, calm x.1 = true

theorem Cln.enter {Γ : Ctx} (h : Cln Γ) {c : Code} (hc : calm c = true) (hd : Option Value) (p : Pos) : Cln (Γ.enter c hd p) :=
  ⟨hc, fun x hx => by
    rcases List.mem_cons.mp hx with e | e
    · rw [e]; exact h.1
    · exact h.2 x e⟩
theorem Cln.goto {Γ : Ctx} (h : Cln Γ) {c : Code} (hc : calm c = true) : Cln (Γ.goto c) := ⟨hc, h.2⟩

/-- as wpAny, of clean contexts alone -/
def wpC {α : Type} (M : Model) (A : Around) (t : Sem α) (Q : α → Shared → Prop) (E : Value → Shared → Prop) (s : Shared) : Prop :=
  ∀ Γ p, Γ.In A → Cln Γ → Sem.wp M Γ t (fun a _ s' => Q a s') (fun e _ s' => E e s') p s
def codeC (M : Model) (A : Around) (c : Code) (R : Result → Shared → Prop) (s : Shared) : Prop :=
  ∀ Γ p, Γ.code = c → Γ.Below A → Cln Γ → wpCode M Γ R p s

section
variable {α β : Type} {M : Model} {A : Around} {E : Value → Shared → Prop} {s : Shared}
theorem of_any {t : Sem α} {Q : α → Shared → Prop} (h : wpAny M A t Q E s) : wpC M A t Q E s := fun Γ p hΓ _ => h Γ p hΓ
theorem of_code {c : Code} {R : Result → Shared → Prop} (h : codeAny M A c R s) : codeC M A c R s := fun Γ p hc hΓ _ => h Γ p hc hΓ
theorem c_pure {a : α} {Q : α → Shared → Prop} (h : Q a s) : wpC M A (pure a) Q E s := fun _ _ _ _ => h
theorem c_mono {t : Sem α} {Q Q' : α → Shared → Prop} {E' : Value → Shared → Prop} (h : wpC M A t Q E s) (hQ : ∀ a s, Q a s → Q' a s) (hE : ∀ e s, E e s → E' e s) : wpC M A t Q' E' s :=
  fun Γ p hΓ hC => Sem.wp_mono M Γ t (fun a _ s => hQ a s) (fun e _ s => hE e s) p s (h Γ p hΓ hC)
theorem c_bind {m : Sem α} {f : α → Sem β} {Q : β → Shared → Prop} (h : wpC M A m (fun a s' => wpC M A (f a) Q E s') E s) : wpC M A (m >>= f) Q E s := fun Γ p hΓ hC => by
  rw [Sem.wp_bind']
  exact Sem.wp_mono M Γ m (fun _ p' _ h' => h' Γ p' hΓ hC) (fun _ _ _ h' => h') p s (h Γ p hΓ hC)
theorem c_onRaise {m : Sem α} {k : Value → Sem Unit} {Q : α → Shared → Prop} (h : wpC M A m Q (fun e s' => wpC M A (k e) (fun _ s'' => E e s'') E s') s) : wpC M A (m.onRaise k) Q E s := fun Γ p hΓ hC => by
  rw [Sem.wp_onRaise]
  exact Sem.wp_mono M Γ m (fun _ _ _ h' => h') (fun _ p' _ h' => h' Γ p' hΓ hC) p s (h Γ p hΓ hC)
theorem c_holding {vs : List Value} {m : Sem α} {Q : α → Shared → Prop} (h : wpC M A m Q E s) : wpC M A (holding vs m) Q E s := fun Γ p hΓ hC => by
  rw [Sem.wp_holding]; exact h Γ p hΓ hC
theorem c_keep {vs : List Value} {m : Sem α} {Q : α → Shared → Prop} (h : wpC M A m Q E s) : wpC M A (m.keep vs) Q E s := fun Γ p hΓ hC => by
  rw [Sem.wp_keep]; exact h Γ p hΓ hC
theorem c_standAt {pos : Pos} {Q : Unit → Shared → Prop} (h : Q () s) : wpC M A (standAt pos) Q E s := fun _ _ _ _ => h
theorem c_rule {t : String} {Q : Unit → Shared → Prop} (h : Q () s) : wpC M A (rule t) Q E s := fun _ _ _ _ => h
theorem c_point {Q : Unit → Shared → Prop} (h : Q () s) : wpC M A point Q E s := fun _ _ _ _ => h
theorem c_if_true {c : Bool} {a b : Sem α} {Q : α → Shared → Prop} (hc : c = true) (h : wpC M A a Q E s) : wpC M A (if c = true then a else b) Q E s := by subst hc; exact h
theorem c_if_false {c : Bool} {a b : Sem α} {Q : α → Shared → Prop} (hc : c = false) (h : wpC M A b Q E s) : wpC M A (if c = true then a else b) Q E s := by subst hc; exact h
theorem codeC_mono {c : Code} {R R' : Result → Shared → Prop} (h : codeC M A c R s) (hR : ∀ r s, R r s → R' r s) : codeC M A c R' s :=
  fun Γ p hc hΓ hC => wpCode_mono hR (h Γ p hc hΓ hC)
/-- a call node -/
theorem c_node {c : Code} {g : Bool} {l : List Value} {k : Result → Sem α} {Q : α → Shared → Prop} (hc : calm c = true) (h : codeC M A c (fun r s' => wpC M A (k r) Q E s') s) : wpC M A (.call c none g l k) Q E s := fun Γ p hΓ hC => by
  show Sem.wp M Γ (.call c none g l k) _ _ p s
  rw [Sem.wp_call]
  have hb := hΓ.enter c none p (by intro x; cases x)
  have e : A.mark none = A := by cases A; rfl
  rw [e] at hb
  exact wpCode_mono (fun r s' hr => hr Γ p hΓ hC) (h _ p rfl hb (hC.enter hc none p))
theorem c_runValue {c : Code} {Q : Value → Shared → Prop} (hc : calm c = true) (h : codeC M A c (wants Q E) s) : wpC M A (runValue c) Q E s := by
  show wpC M A (Sem.bind (.call c none false [] fun | .ok f => .pure f | .error e => .raise e) _) Q E s
  show wpC M A (.call c none false [] _) Q E s
  refine c_node hc (codeC_mono h fun r s' hr => ?_)
  cases r with
  | error e => exact fun Γ p _ _ => hr
  | ok f => cases f with
    | ret v => exact fun Γ p _ _ => hr
    | _ => exact hr.elim
theorem c_call {f : Value} {pos : List Value} {kw : List (Str × Value)} {Q : Value → Shared → Prop} (h : codeC M A (.call f ⟨pos, kw⟩) (wants Q E) s) : wpC M A (call f pos kw) Q E s := c_runValue rfl h
theorem c_tree {c : Code} {R : Result → Shared → Prop} (hcl : calm c = true)
    (h : wpC M (A.under c) (M.den c) (fun fin s' => match fin with | .done f => R (.ok f) s' | .again c' => calm c' = true ∧ c'.quiet = true ∧ codeC M A c' R s') (fun e s' => R (.error e) s') s) : codeC M A c R s := fun Γ p hc hΓ hC => by
  rw [wpCode_iff_wp, hc]
  refine Sem.wp_mono M Γ _ (fun fin p' s' h' => ?_) (fun _ _ _ h' => h') p s (h Γ p (hc ▸ hΓ.in) hC)
  cases fin with
  | done f => exact h'
  | again c' => exact ⟨h'.2.1, h'.2.2 (Γ.goto c') p' rfl (hΓ.goto c') (hC.goto h'.1)⟩
end
section
variable {prog : Program} {w : World} {A : Around} {E : Value → Shared → Prop} {R : Result → Shared → Prop} {s : Shared}
theorem c_builtin {id : String} {args : Args} {b : Builtin} (hcl : calm (.builtin id args) = true) (hb : entryFor table id = some b)
    (h : wpC (model prog w) (A.under (.builtin id args)) (b args) (fun fin s' => match fin with | .done f => R (.ok f) s' | .again c' => calm c' = true ∧ c'.quiet = true ∧ codeC (model prog w) A c' R s') (fun e s' => R (.error e) s') s) :
    codeC (model prog w) A (.builtin id args) R s := by
  refine c_tree hcl ?_
  show wpC _ _ (match entryFor table id with | some b => b args | none => unsupported ((withoutEnding? id "#data").getD id)) _ _ s
  rw [hb]; exact h
theorem c_func {body : List Stmt} {env : Env}
    (h : wpC (model prog w) (A.deeper env) (execs body env) (fun f s' => R (.ok (.ret (match f with | .ret v => v | _ => .none))) s') (fun e s' => wpC (model prog w) (A.deeper env) (leaving env e) (fun _ s'' => R (.error e) s'') (fun e' s'' => R (.error e') s'') s') s) :
    codeC (model prog w) A (.func body env) R s := by
  refine c_tree rfl ?_
  show wpC _ (A.deeper env) (do point; match ← (execs body env).onRaise (leaving env) with | .ret v => ret v | _ => ret .none) _ _ s
  refine c_bind (c_point (c_bind (c_onRaise (c_mono h (fun f s' h' => ?_) fun _ _ h' => h'))))
  cases f <;> exact c_pure h'
/-- entering a def -/
theorem c_function {a : Addr} {args : Args} {o : Obj} {fd : FuncData} {body : List Stmt} (hroom : A.depth < recursionLimit) (ho : s.heap.get? a = some o) (hd' : o.data = .func fd) (hco : fd.scope.isCoroutine = false) (hgen : fd.scope.isGenerator = false) (hbody : fd.body = .stmts body)
    (hcd : s.heap.CodeRec fd.code fd.qualname)
    (h : wpAny (model prog w) A.in1 (bindArgs fd args) (fun binds s₁ =>
      wpAny (model prog w) A.in1 (newFunctionEnv fd.scope fd.globals fd.closure binds (fd.qualname ++ ".<locals>.") (some a) fd.code none fd.builtins)
        (fun env s₂ => s₂.heap.NoLimit ∧ codeC (model prog w) A (.func body env) R s₂) (fun e s' => R (.error e) s') s₁) (fun e s' => R (.error e) s') s) :
    codeC (model prog w) A (.call (.ref a) args) R s := by
  refine @Mine.hush _ (by
  refine c_tree rfl ?_
  have e : A.under (.call (.ref a) args) = A.in1 := Around.under_plain rfl rfl
  rw [e]
  show wpC _ A.in1 (callAny (.ref a) args) _ _ s
  refine of_any ?_
  simp only [callAny]
  refine wpAny_bind (wpAny_load ho ?_)
  obtain ⟨c, oc, vs, tq, hc, hoc, hdc, hq⟩ := hcd
  simp only [hd', callFunction, hco, hgen, hbody, hc]
  rw [hc] at h
  refine wpAny_bind (m := field (.ref c) 1) (wpAny_field hoc hdc hq (wpAny_bind (wpAny_pure ?_)))
  refine wpAny_bind (wpAny_mono h (fun binds s₁ h₁ => ?_) fun _ _ x => x)
  refine wpAny_bind (wpAny_mono h₁ (fun env s₂ h₂ => ?_) fun _ _ x => x)
  exact wpAny_bind (wpAny_enterFrame h₂.1 hroom (wpAny_pure ⟨rfl, rfl, h₂.2⟩))) ?_
  intro q f
  simpa using Mine.hushed f 5 fun n i => i
end
end Mine

-- Head1
open PySem PySem.W PyProof.Rows
set_option Elab.async false
set_option maxRecDepth 100000
set_option maxHeartbeats 4000000
namespace Mine
open PySem.Calls
theorem clean_caller : Cln ⟨.builtin "claim.caller" {}, none, none, [], none⟩ := ⟨by show (!(Builtin.Bytes.decodersThatHold.contains "claim.caller")) = true; decide +kernel, fun _ h => nomatch h⟩
theorem c_done {M : Model} {A : Around} {Γ : Ctx} {t : Sem Fin} {R : Result → Shared → Prop} {s : Shared} (hin : Γ.In A) (hC : Cln Γ)
    (h : wpC M A t (fun fin s' => ∃ f, fin = .done f ∧ R (.ok f) s') (fun e s' => R (.error e) s') s) (p : Pos) : Sem.wp M Γ t (Sem.finPost M Γ R) (fun e _ s' => R (.error e) s') p s := by
  refine Sem.wp_mono M Γ t (fun fin p' s' h' => ?_) (fun _ _ _ h' => h') p s (h Γ p hin hC)
  obtain ⟨f, rfl, hf⟩ := h'
  exact hf
/-- a call from the claim's caller that keeps to clean contexts -/
theorem c_callFrom {c : ClaimW} {tree : List Value → Sem Fin} {w : World} {s : Shared} {free : Addr → Prop} {gens : Prop} {kept : Heap → Prop} (hz : s.asleep) (hgens : s.gens = #[])
    (hspec : ∀ args, c.pre args = true → WData.layableAll args = true → ∀ ord : List DictEntry → List DictEntry, (∀ l, (ord l).Perm l) →
      ∃ vs s₁, layAllW c.records (classAt s.heap) w.params ord args s = some (vs, s₁) ∧
        wpC (model c.prog w) callerA (tree vs) (fun fin s' => ∃ f, fin = .done f ∧ (c.Ends s args vs s₁ (.ok f) s' ∧ s'.os = s.os ∧ AllBare s'.gens ∧ kept s'.heap))
          (fun e s' => c.Ends s args vs s₁ (.error e) s' ∧ s'.os = s.os ∧ AllBare s'.gens ∧ kept s'.heap) s₁) :
    c.CallFrom (fun vs => ⟨tree vs, .builtin "claim.caller" {}, default, []⟩) w free gens kept s := by
  refine @Mine.hush _ (by
  intro args hpre hlay ord hord
  obtain ⟨vs, s₁, hlaid, hcode⟩ := hspec args hpre hlay ord hord
  have hal := layAllW_rest _ _ _ hlaid
  have hw := c_done (R := fun r s' => (c.Ends s args vs s₁ r s' ∧ s'.os = s.os ∧ kept s'.heap) ∧ leftWithCleanup s'.gens = false) caller_in clean_caller
    (c_mono hcode (fun fin s' z => by
      obtain ⟨f, e, h1, h2, h3, h4⟩ := z
      exact ⟨f, e, ⟨h1, h2, h4⟩, leftWithCleanup_false_of_bare h3⟩) (fun e s' z => by
      obtain ⟨h1, h2, h3, h4⟩ := z
      exact ⟨⟨h1, h2, h4⟩, leftWithCleanup_false_of_bare h3⟩)) default
  obtain ⟨k, r, s'', s', hsched, hrun, hfo, hR⟩ := wp_halts_full (M := model c.prog w) (R := fun r s' => c.Ends s args vs s₁ r s' ∧ s'.os = s.os ∧ kept s'.heap) (Shared.asleep_of_life hal.2.2.2 hz) hw
  obtain ⟨hcase, hos, hkp⟩ := hR
  obtain ⟨eh, _, _, eo, _⟩ := Shared.forget_eq hfo
  have hcase := hcase.congr eh
  have hkp : kept s'.heap := eh ▸ hkp
  rw [← eo] at hos
  have hlife : s'.heap.life = s.heap.life := (runN_life _ _ _ hrun).trans hal.2.2.2
  refine ⟨vs, s₁, hlaid, k, _, s', hsched, ?_, (fun _ i x hx => by rw [hgens] at hx; simp at hx), hkp, by rw [hlife], Shared.rest_eq hos⟩
  rcases hcase with ⟨v, rfl, d1, d2, d3, d4, d5⟩ | ⟨e, ob, cls, rfl, d1, d2, d3, d4, d5⟩
  · exact .inl ⟨v, rfl, d1, d2, d3, fun b o y _ => d4 b o y, d5⟩
  · exact .inr ⟨e, ob, cls, rfl, d1, d2, d3, d4, fun b o y _ => d5 b o y⟩) ?_
  intro q f
  simpa using Mine.hushed f 5 fun n i => i
/-- what is left of a law once its top has run: the call, in clean contexts -/
abbrev WalkC (q : Program) (loose : List Str) (XP : (Str → Option Value) → Heap → Prop) (YP : World → Heap → Prop) (r : RowW) (d : DefRec) (kwd : List (Str × Expr)) : Prop :=
  ∀ (w : World) (s₀ s₁ : Shared) (mg mb : Str → Option Value), Ground q loose r.records XP w s₀ mg mb s₁.heap → YP w s₁.heap → ∀ (a : Addr) (o : Obj) (pm cd doc dV kV : Value), s₁.heap.get? a = some o →
    o.data = .func { docDef d.name d.params d.body d.scope pm cd doc with defaults := dV, kwdefaults := kV } → s₁.heap.CodeRec cd d.name → Dflts mg s₁.heap d.params kwd dV kV → mg d.name = some (.ref a) → s₁.gens = #[] →
    ∀ (args : List WData) (vals : List Value) (as : List Addr), r.claim.pre args = true → WData.layableAll args = true → ReadsAllW r.records (classAt s₀.heap) s₁.heap vals args as → WellAll w.params s₁.heap vals args → (∀ a ∈ as, (a == sysModules) = false) →
      wpC (model r.prog w) callerA (PySem.call (.ref a) vals) (fun v s' => GoodWG r.claim (classAt s₀.heap) (ExcName.means s₀.heap) args s₁ (.ok (.ret v)) s')
        (fun e s' => GoodWG r.claim (classAt s₀.heap) (ExcName.means s₀.heap) args s₁ (.error e) s') s₁
end Mine
namespace Mine.PySem.W
open _root_.PySem.Calls
/-- the head for a law whose call keeps to clean contexts -/
theorem holds_open {r : OpenRow} {q : Program} {loose : List Str} {Xt : Shared → Bool} {XP : (Str → Option Value) → Heap → Prop} {α : Type} {Yf : Shared → α} {Ya : World → α} {YP : World → Heap → Prop} {d : DefRec} {kwd : List (Str × Expr)} {N : Nat}
    (left : LeftO r.prog q loose Xt Yf Ya N) (hY : ∀ w s, Yf s = Ya w → YP w s.heap) (hYk : ∀ w h h', YP w h → (∀ b o, h.get? b = some o → h'.get? b = some o) → YP w h')
    (hX : ∀ s, Xt s = true → XP (s.heap.nsMap mainGlobals) s.heap) (hXk : ∀ mg h h', XP mg h → (∀ b o, h.get? b = some o → h'.get? b = some o) → XP mg h')
    (hdef : defOf q r.name = some (d, kwd)) (hp : r.prog.theDef r.name = some (d.params, d.body, d.scope)) (hk : kwWritten? d.params.kwonlyargs d.params.kw_defaults = some kwd) (hRf : ∀ s, Xt s = true → RecFacts r.records s.heap) (hwr : (!r.writes || r.records.isEmpty) = true)
    (k1 : r.wellSaid = true) (ok : (chainsOk q && opensWell r.prog && (frees r.toRowW && r.within.isEmpty)) = true) (hb : r.prog.bare) (hw : r.toRowW.promised)
    (call : WalkC q loose XP YP r.toRowW d kwd) : r.Holds := by
  refine @Mine.hush _ (by
  refine ⟨k1, hw, ?_⟩
  obtain ⟨ok, k5⟩ := Bool.and_eq_true_iff.mp ok
  obtain ⟨hch, o1⟩ := Bool.and_eq_true_iff.mp ok
  obtain ⟨k5, k6⟩ := Bool.and_eq_true_iff.mp k5
  obtain ⟨hsame, hu, ha, hap, hm⟩ := frees_parts k5
  refine ⟨⟨hb, o1, by show r.makers.map _ = []; rw [hm]; rfl⟩, hw.witness, fun w => ⟨(left.behind hX hch w).1, fun s' hs' => ?_⟩⟩
  obtain ⟨s₀, hf, hg0, s, hT, hz, hgens, hg, G00, y⟩ := (left.behind (XP := fun mg h => XP mg h ∧ RecFacts r.records h) (fun s hs => ⟨hX s hs, hRf s hs⟩) hch w).2 s' hs'
  have G0 : Ground q loose [] XP w s (s.heap.nsMap mainGlobals) (s.heap.nsMap builtinsNs) s.heap := ⟨G00.T, G00.B, G00.D, G00.TE, G00.TD, G00.W, G00.X.1, G00.cls, G00.has, G00.apart, G00.once, G00.K⟩
  have RF := G00.X.2
  have hT' := hT
  refine ⟨s₀, hf, hg0, s, hT, fun n hn => ?_, RF.1, RF.2.1, ?_⟩
  · obtain rfl : n = r.name := by split at hn <;> simp_all
    exact pinned_of_view hg G0 hdef hp hk
  have hgens : s.gens = #[] := Array.eq_empty_of_size_eq_zero (beq_iff_eq.mp hgens)
  have G : Ground q loose r.records XP w s _ _ s.heap := RF.ground G0
  refine c_callFrom (c := r.toRowW.claim) hz hgens fun args hpre hlay ord hord => ?_
  obtain ⟨⟨vs, s₁⟩, hlaid⟩ := Option.isSome_iff_exists.mp (layAllW_isSome (P := w.params) (ord := ord) G.has args r.args s (pre_splitW hpre).1)
  have keeps := layAllW_keeps _ _ _ hlaid
  have hal := layAllW_rest _ _ _ hlaid
  obtain ⟨as, hrd, hin, hold⟩ := reads_layAllW hord _ _ _ hlaid hlay s₁.heap (fun _ _ e => e)
  have L : Laid r.records w s s₁ args vs as := ⟨⟨ord, hord, hlaid⟩, hrd, hin, hold, keeps, hal.1.trans hgens, hal.2.2.1⟩
  have G₁ := G.keeps hXk keeps
  obtain ⟨a, o, pm, cd, doc, dV, kV, h1, h2, h3, h4, h5⟩ := G₁.fn hdef
  have h := call w s s₁ _ _ G₁ (hYk _ _ _ (hY w s y) keeps) a o pm cd doc dV kV h2 h3 h4 h5 (defOf_name hdef ▸ h1) L.gens args vs as hpre hlay L.reads L.well (L.low G.low)
  have hi := ident_freeW hu ha hap
  have hwi : r.toRowW.claim.within = [] := List.isEmpty_iff.mp k6
  refine ⟨vs, s₁, hlaid, c_bind (of_any (wpAny_nsGet G₁.T.g ?_))⟩
  rw [h1]
  refine c_bind (c_mono h (fun v s' g => c_pure ⟨_, rfl, ?_⟩) fun e s' g => ?_)
  · have z := g.laid (c := r.toRowW.claim) hsame hwi hi L
    exact ⟨z.1, z.2.1, z.2.2, fun q => ⟨namesKept_of hT' hg _ keeps g.2.1.old, noTable hwr q⟩⟩
  · have z := g.laid (c := r.toRowW.claim) hsame hwi hi L
    exact ⟨z.1, z.2.1, z.2.2, fun q => ⟨namesKept_of hT' hg _ keeps g.2.1.old, noTable hwr q⟩⟩) ?_
  intro q f
  simpa using Mine.hushed f 5 fun n i => i
end Mine.PySem.W

-- CTop0
open PySem PySem.W PyProof.Rows
set_option Elab.async false
namespace Mine
set_option maxRecDepth 100000 in
set_option maxHeartbeats 8000000 in
open_top hd for _root_.PySem.Challenge.rw_bp0005_01
end Mine

open PySem PySem.W PyProof.Rows
set_option Elab.async false
namespace Mine
open PySem.Calls
set_option maxRecDepth 100000
set_option maxHeartbeats 3000000
theorem walk_off : True := by
  w_top off
  trivial
end Mine
-- Rul1
open PySem PySem.W PyProof.Rows
set_option Elab.async false
namespace Mine
open PySem.Calls PySem.Spec
set_option maxRecDepth 100000
set_option maxHeartbeats 4000000
/-- a bytearray object -/
abbrev AO (arr : Array UInt8) : Obj := { cls := .type "bytearray", data := .bytearray arr 0 }

namespace BA
theorem mro : mroOf (.type "bytearray") = pure [.type "bytearray", .type "object"] := by rw [mroOf_type]; kernel_rfl
theorem look_new : typeLookup (.type "bytearray") "__new__" = pure (some (.builtin "bytearray.__new__")) := by rw [typeLookup_type, builtinLookup_eq_fast]; kernel_rfl
theorem slot_init : Slot "bytearray" "__init__" "bytearray.__init__" :=
  .of (owner := "bytearray") (n := "__init__") (by rw [typeLookup_type, builtinLookup_eq_fast]; kernel_rfl) (by decide +kernel) (by decide +kernel) (by decide +kernel)
    (by first | exact .inl (by decide +kernel) | exact .inr (by decide +kernel)) (by rw [isSubtype_type]; kernel_rfl)
theorem sub_self : isSubtype (.type "bytearray") (.type "bytearray") = pure true := by rw [isSubtype_type]; kernel_rfl
theorem called : TypeCalled "bytearray" "bytearray.__new__" "bytearray.__init__" :=
  ⟨by decide +kernel, by decide +kernel, ⟨_, _, mro⟩, madeBy_type mro look_new (by decide +kernel), by decide +kernel, sub_self, slot_init⟩
theorem typeCall (a : Value) : checkTypeCall "bytearray" ⟨[a], []⟩ = pure () := by kernel_rfl
theorem newCall (a : Value) : checkBuiltinCall "bytearray.__new__" ⟨[.type "bytearray", a], []⟩ = pure () := by kernel_rfl
theorem entry_new : entryFor table "bytearray.__new__" = some Builtin.«list.__new__» :=
  entryFor_alias (id' := "list.__new__") (by kernel_rfl) (by first | rfl | decide +kernel) (by decide +kernel) (by kernel_rfl)
theorem plain_new : plainId "bytearray.__new__" = true := by decide +kernel
theorem entry_init : entryFor table "bytearray.__init__" = some Builtin.«bytearray.__init__» := by first | exact entryFor_of_tree (by kernel_rfl) | exact entryFor_of_fast (by kernel_rfl)
theorem args_init (a b : Value) : argsOk "bytearray.__init__" ⟨[a, b], []⟩ := by unfold argsOk; kernel_rfl
set_option maxRecDepth 1000000 in
theorem owner_new : ("bytearray.__new__".splitOn ".__new__").headD "" = "bytearray" := by simp +decide [String.splitOn, String.splitOnAux]
theorem noDict : typeHasDict (.type "bytearray") = false := by decide +kernel
end BA

section
variable {prog : Program} {w : World} {A : Around} {E : Value → Shared → Prop} {s : Shared}
theorem ba_new (a : Value) {Q₁ : Value → Shared → Prop} (h : Q₁ (.ref s.heap.objs.size) { s with heap := s.heap.push (AO #[]) }) :
    codeAny (model prog w) A (.call (.builtin "bytearray.__new__") ⟨[.type "bytearray", a], []⟩) (wants Q₁ E) s := by
  refine codeAny_of_tree ?_
  show wpAny _ A.in1 (do checkBuiltinCall "bytearray.__new__" ⟨[.type "bytearray", a], []⟩; again (.builtin "bytearray.__new__" ⟨[.type "bytearray", a], []⟩)) _ _ s
  refine wpAny_bind (wpAny_of_eq (BA.newCall a) (wpAny_pure ⟨plainId_quiet BA.plain_new _, codeAny_builtin_stack BA.entry_new rfl fun p st => ?_⟩))
  rw [Around.under_plainId BA.plain_new _]
  have hsub := BA.sub_self
  have hown := BA.owner_new
  have hdict := BA.noDict
  obtain ⟨hp, g, d, tk, os⟩ := s
  simp only [hown]
  wp_walk
  exact h

theorem ba_bind (x : Value) : Builtin.Bytes.bindOptional "bytearray.__init__" "bytearray" ["source", "encoding", "errors"] [x] [] = pure [some x, none, none] := by kernel_rfl
theorem bl_release : typeLookup (.type "bytearray") "__release_buffer__" = pure (some (.builtin "bytearray.__release_buffer__")) := by rw [typeLookup_type, builtinLookup_eq_fast]; kernel_rfl
theorem bl_buffer : typeLookup (.type "bytearray") "__buffer__" = pure (some (.builtin "bytearray.__buffer__")) := by rw [typeLookup_type, builtinLookup_eq_fast]; kernel_rfl
theorem bl_index : typeLookup (.type "bytearray") "__index__" = pure none := by rw [typeLookup_type, builtinLookup_eq_fast]; kernel_rfl
theorem bl_bytes : typeLookup (.type "bytearray") "__bytes__" = pure none := by rw [typeLookup_type, builtinLookup_eq_fast]; kernel_rfl
theorem bl_ends : (!("bytearray.__release_buffer__".endsWith ("." ++ "__release_buffer__"))) = false := by decide +kernel
theorem bl_drop : ("bytearray.__release_buffer__".dropRight ("__release_buffer__".length + 1)) = "bytearray" := by decide +kernel
theorem bl_ends' : (!("bytearray.__buffer__".endsWith ("." ++ "__buffer__"))) = false := by decide +kernel
theorem bl_drop' : ("bytearray.__buffer__".dropRight ("__buffer__".length + 1)) = "bytearray" := by decide +kernel

theorem ba_type {ba : Addr} {arr : Array UInt8} (h : s.heap.get? ba = some (AO arr)) : s.TypeIs (.ref ba) "bytearray" := ⟨_, h, rfl⟩
theorem ba_release {ba : Addr} {arr : Array UInt8} {Q : Bool → Shared → Prop} (h : s.heap.get? ba = some (AO arr)) (k : Q false s) : wpAny (model prog w) A (Builtin.Bytes.ownRelease (.ref ba)) Q E s := by
  have hT := ba_type h
  have h1 := bl_release
  have h2 := BA.sub_self
  unfold Builtin.Bytes.ownRelease Builtin.Bytes.slotIsOwn
  refine wpAny_bind (wpAny_bind (wpAny_specialOf hT bl_release ?_))
  dsimp only
  rw [bl_ends]
  refine bm_if_false rfl ?_
  rw [bl_drop]
  refine wpAny_isInstance hT BA.sub_self ?_
  exact wpAny_pure k
theorem ba_buffer {id : String} {full : Bool} {ba : Addr} {arr : Array UInt8} {Q : Option (Array UInt8) → Shared → Prop} (h : s.heap.get? ba = some (AO arr)) (k : Q (some arr) s) :
    wpAny (model prog w) A (Builtin.Bytes.buffer? id (.ref ba) full) Q E s := by
  refine @Mine.hush _ (by
  have hT := ba_type h
  unfold Builtin.Bytes.buffer?
  refine wpAny_bind (wpAny_specialOf hT bl_buffer ?_)
  dsimp only
  refine wpAny_bind ?_
  unfold Builtin.Bytes.slotIsOwn
  refine wpAny_bind (wpAny_specialOf hT bl_buffer ?_)
  dsimp only
  rw [bl_ends']
  refine bm_if_false rfl ?_
  rw [bl_drop']
  refine wpAny_isInstance hT BA.sub_self ?_
  refine bm_if_false rfl ?_
  refine wpAny_bind (wpAny_specialOf hT bl_buffer ?_)
  refine wpAny_bind (ba_release h ?_)
  refine bm_if_false rfl ?_
  refine wpAny_bind ?_
  unfold Builtin.Bytes.payload Builtin.Bytes.payload?
  refine wpAny_bind (wpAny_bind (wpAny_load h ?_))
  exact wpAny_pure (wpAny_pure (wpAny_pure k))) ?_
  intro q f
  simpa using Mine.hushed f 5 fun n i => i

/-- bytes of a bytearray -/
theorem bytes_of_ba {ba : Addr} {arr : Array UInt8} {Q : Value → Shared → Prop} (h : s.heap.get? ba = some (AO arr)) (hz : arr.size ≤ sizeLine)
    (hQ : ∀ t k, Q (.bytes arr t) { s with toks := k }) : wpAny (model prog w) A (call (.type "bytes") [.ref ba]) Q E s := by
  refine @Mine.hush _ (by
  refine callType_codes (Q₁ := fun obj s₁ => s₁.TypeIs obj "bytes" ∧ Q obj s₁) F.bm_called (F.bm_typeCall _) F.entry_object_init ?_ fun obj s₁ h₁ => ?_
  · refine codeAny_of_tree ?_
    show wpAny _ A.in1.in1 (do checkBuiltinCall "bytes.__new__" ⟨[.type "bytes", .ref ba], []⟩; again (.builtin "bytes.__new__" ⟨[.type "bytes", .ref ba], []⟩)) _ _ s
    refine wpAny_bind (wpAny_of_eq (F.bm_newCall _) (wpAny_pure ⟨plainId_quiet F.bm_plain _, codeAny_builtin F.bm_entry ?_⟩))
    rw [Around.under_plainId F.bm_plain _]
    have hT := ba_type h
    unfold Builtin.«bytes.__new__»
    refine wpAny_bind (wpAny_of_eq (a := true) rfl ?_)
    refine bm_if_false rfl ?_
    refine wpAny_bind (wpAny_of_eq F.bm_sub ?_)
    refine bm_if_false rfl ?_
    refine wpAny_bind (wpAny_of_eq (F.bm_bind _) ?_)
    refine wpAny_bind (wpAny_of_eq (a := ()) rfl ?_)
    refine wpAny_bind (wpAny_of_eq (a := ()) rfl ?_)
    refine bm_if_false rfl ?_
    refine wpAny_bind (wpAny_specialOf hT bl_bytes ?_)
    refine wpAny_bind (wpAny_bind ?_)
    show wpAny _ _ (load ba >>= _) _ _ _
    refine wpAny_bind (wpAny_load h ?_)
    refine wpAny_pure (wpAny_pure ?_)
    refine bm_if_false rfl ?_
    refine wpAny_bind (wpAny_specialOf hT bl_index ?_)
    refine bm_if_true rfl ?_
    first
      | show wpAny _ _ (Builtin.Bytes.buffer? "bytes.__new__" (.ref ba) true >>= _) _ _ _
      | (refine wpAny_bind ?_; show wpAny _ _ (Builtin.Bytes.buffer? "bytes.__new__" (.ref ba) true >>= _) _ _ _)
    refine wpAny_bind (ba_buffer h ?_)
    refine wpAny_bind (wpAny_rule ?_)
    refine wpAny_bind (wpAny_mkBytes ?_ hz)
    show wpAny _ _ (if (Value.type "bytes" == Value.type "bytes") = true then _ else _) _ _ _
    refine bm_if_true (by decide) ?_
    first
      | exact wpAny_pure ⟨PySem.W.typeIs_bytes _ _ _, hQ _ _⟩
      | exact wpAny_bind (wpAny_pure (wpAny_pure ⟨PySem.W.typeIs_bytes _ _ _, hQ _ _⟩))
  · exact ⟨h₁.1, F.args_object_init_2 obj _, object_init_meets F.bm_called.init.lookup F.bm_called.made (by decide) prog w A.in1 _ s₁ ⟨h₁.1, rfl, h₁.2⟩⟩) ?_
  intro q f
  simpa using Mine.hushed f 5 fun n i => i
end
end Mine

-- Rul2
open PySem PySem.W PyProof.Rows
set_option Elab.async false
namespace Mine
open PySem.Calls
set_option maxRecDepth 100000
set_option maxHeartbeats 4000000
section
variable {α β : Type} {M : Model} {A : Around} {E : Value → Shared → Prop} {s : Shared}
theorem c_step {m : Sem α} {f : α → Sem β} {Q : β → Shared → Prop} (h : wpAny M A m (fun a s' => wpC M A (f a) Q E s') E s) : wpC M A (m >>= f) Q E s := c_bind (of_any h)
end
section
variable {prog : Program} {w : World} {A : Around} {E : Value → Shared → Prop} {R : Result → Shared → Prop} {s : Shared}

theorem not_exported {Γ : Ctx} {a : Addr} (hg : Γ.code.guards ++ guardsOf Γ.below = []) (hC : Cln Γ) (p : Pos) :
    (((Γ.code, p) :: Γ.below).any fun
    | (.builtin "bytearray.__contains__" ⟨v :: _, _⟩, _) | (.builtin "bytearray.__mod__" ⟨v :: _, _⟩, _)
    | (.builtin "bytearray.__rmod__" ⟨_ :: v :: _, _⟩, _) | (.builtin "_struct.pack_into.held" ⟨v :: _, _⟩, _) => Builtin.Bytes.sameRef v (.ref a)
    | (.builtin "bytearray.find.held" ⟨_ :: _ :: held, _⟩, _) => held.any (Builtin.Bytes.sameRef (.ref a))
    | (.builtin id ⟨v :: _, _⟩, _) => Builtin.Bytes.sameRef v (.ref a) && Builtin.Bytes.decodersThatHold.contains id
    | _ => false) = false := by
  refine @Mine.hush _ (by
  have hg' : ∀ x ∈ ((Γ.code, p) :: Γ.below), x.1.isGuard = false := by
    intro x hx
    cases hq : x.1.isGuard with
    | false => rfl
    | true =>
      exfalso
      have hm : x.1 ∈ guardsOf ((Γ.code, p) :: Γ.below) := by
        unfold guardsOf
        exact List.mem_filter.mpr ⟨List.mem_map_of_mem hx, hq⟩
      rw [guardsOf_cons, hg] at hm
      cases hm
  have hc' : ∀ x ∈ ((Γ.code, p) :: Γ.below), calm x.1 = true := by
    intro x hx
    rcases List.mem_cons.mp hx with e | e
    · rw [e]; exact hC.1
    · exact hC.2 x e
  rw [List.any_eq_false]
  intro x hx
  have h1 := hg' x hx
  have h2 := hc' x hx
  obtain ⟨c, q⟩ := x
  dsimp only at h1 h2
  split
  · rename_i e; cases e
    exact absurd ((show guardIds.contains "bytearray.__contains__" = true by decide +kernel).symm.trans h1) (by decide)
  · rename_i e; cases e
    exact absurd ((show guardIds.contains "bytearray.__mod__" = true by decide +kernel).symm.trans h1) (by decide)
  · rename_i e; cases e
    exact absurd ((show guardIds.contains "bytearray.__rmod__" = true by decide +kernel).symm.trans h1) (by decide)
  · rename_i e; cases e
    exact absurd ((show guardIds.contains "_struct.pack_into.held" = true by decide +kernel).symm.trans h1) (by decide)
  · rename_i e; cases e
    exact absurd ((show guardIds.contains "bytearray.find.held" = true by decide +kernel).symm.trans h1) (by decide)
  · rename_i e; cases e
    simp only [calm, Bool.not_eq_true'] at h2
    rw [h2]; simp
  · simp) ?_
  intro q f
  simpa using Mine.hushed f 5 fun n i => i
theorem c_exported {a : Addr} {Q : Bool → Shared → Prop} (hg : A.guards = some []) (h : Q false s) : wpC (model prog w) A (Builtin.Bytes.exported (.ref a)) Q E s := fun Γ p hΓ hC => by
  have e := not_exported (a := a) (hΓ.2.2.2.1 [] hg) hC p
  unfold Builtin.Bytes.exported
  have key : ∀ b, b = false → Q b s := fun b hb => hb ▸ h
  exact key _ e
/-- a built-in, by its slot -/
theorem c_slot {T : String} {name : Str} {id : String} {b : Builtin} {self : Value} {rest : List Value} {Q : Value → Shared → Prop} (h : Slot T name id) (hcl : Builtin.Bytes.decodersThatHold.contains id = false) (hT : s.TypeIs self T) (hb : entryFor table id = some b) (ha : argsOk id ⟨self :: rest, []⟩)
    (hc : wpC (model prog w) A.in1 (b ⟨self :: rest, []⟩) (fun fin s' => ∃ v, fin = .done (.ret v) ∧ Q v s') E s) : wpC (model prog w) A (call (.builtin id) (self :: rest)) Q E s := by
  have hcalm : ∀ args, calm (.builtin id args) = true := fun args => by show (!_) = true; rw [hcl]; rfl
  refine c_call (c_tree rfl ?_)
  rw [show A.under (.call (.builtin id) ⟨self :: rest, []⟩) = A.in1 from Around.under_plain rfl rfl]
  show wpC _ _ (do checkBuiltinCall id ⟨self :: rest, []⟩; again (.builtin id ⟨self :: rest, []⟩)) _ _ _
  refine c_step (h.check _ _ _ _ _ _ _ _ hT ha (c_pure ⟨hcalm _, plainId_quiet h.plain _, c_builtin (hcalm _) hb ?_⟩))
  rw [Around.under_plainId h.plain _]
  refine c_mono hc (fun fin s' z => ?_) fun _ _ z => z
  obtain ⟨v, rfl, hv⟩ := z
  exact hv
theorem c_special {T : String} {name : Str} {id : String} {self : Value} {args : List Value} {Q : Option Value → Shared → Prop} (hT : s.TypeIs self T) (h : Slot T name id)
    (hc : wpC (model prog w) A (call (.builtin id) (self :: args)) (fun v => Q (some v)) E s) : wpC (model prog w) A (callSpecial? self name args) Q E s := by
  unfold callSpecial?
  refine c_step (wpAny_specialOf hT h.lookup ?_)
  simp only [h.bind]
  exact c_holding (c_bind (c_pure (c_bind (c_mono hc (fun v s' h' => c_pure h') fun _ _ h' => h'))))
theorem c_typeCall {T newId initId : String} {Bi : Builtin} {args : List Value} {Q Q₁ : Value → Shared → Prop} (ft : TypeCalled T newId initId) (hct : checkTypeCall T ⟨args, []⟩ = pure ()) (entryI : entryFor table initId = some Bi)
    (hcl : Builtin.Bytes.decodersThatHold.contains initId = false)
    (hnew : codeAny (model prog w) A.in1 (.call (.builtin newId) ⟨.type T :: args, []⟩) (wants Q₁ E) s)
    (hnext : ∀ obj s₁, Q₁ obj s₁ → s₁.TypeIs obj T ∧ argsOk initId ⟨obj :: args, []⟩ ∧
      wpC (model prog w) A.in1.in1 (Bi ⟨obj :: args, []⟩) (fun fin s' => fin = .done (.ret .none) ∧ Q obj s') E s₁) :
    wpC (model prog w) A (call (.type T) args) Q E s := by
  refine @Mine.hush _ (by
  obtain ⟨c, tl, hmro⟩ := ft.mro
  have hmade := ft.made
  have hsub := ft.sub
  refine c_call (c_tree rfl ?_)
  rw [show A.under (.call (.type T) ⟨args, []⟩) = A.in1 from Around.under_plain rfl rfl]
  show wpC _ _ (callAny (.type T) _) _ _ _
  have hk : ∀ a, calm (.builtin "type.__call__" a) = true := fun a => by
    show (!(Builtin.Bytes.decodersThatHold.contains "type.__call__")) = true
    decide +kernel
  refine c_pure ⟨hk _, Code.quiet_builtin _ (by decide +kernel), c_builtin (hk _) F.entry_type_call ?_⟩
  rw [Around.under_plain (weight_type_call_type T args []) rfl]
  have h1 := ft.notType
  have h2 := ft.canCreate
  unfold Builtin.«type.__call__»
  dsimp only
  refine c_if_false h1 ?_
  refine c_if_false h2 ?_
  refine c_step (wpAny_of_eq hct ?_)
  refine c_step (wpAny_of_eq hmro ?_)
  refine c_if_false rfl ?_
  refine c_step (wpAny_of_eq hmade ?_)
  dsimp only
  first | refine c_step (wpAny_pure ?_) | skip
  refine c_step (wpAny_holding (wpAny_call (codeAny_mono hnew fun r s₁ hr => ?_)))
  rcases r with e | (v | _ | _ | _)
  · exact hr
  · exact hr
  · exact hr
  · exact hr
  rename_i obj
  obtain ⟨hT, hok, hsi⟩ := hnext _ _ hr
  refine c_step (wpAny_isInstance hT hsub ?_)
  refine c_if_false rfl ?_
  refine c_bind (c_holding (c_special hT ft.init (c_slot ft.init hcl hT entryI hok (c_mono hsi (fun fin s' z => ⟨.none, z.1, ?_⟩) fun _ _ z => z))))
  refine c_if_false rfl ?_
  exact c_pure z.2) ?_
  intro q f
  simpa using Mine.hushed f 5 fun n i => i
end
end Mine

-- Rul3
open PySem PySem.W PyProof.Rows
set_option Elab.async false
namespace Mine
open PySem.Calls
set_option maxRecDepth 100000
set_option maxHeartbeats 4000000
theorem by_index : typeLookup (.type "bytes") "__index__" = pure none := by rw [typeLookup_type, builtinLookup_eq_fast]; kernel_rfl
section
variable {prog : Program} {w : World} {A : Around} {E : Value → Shared → Prop} {R : Result → Shared → Prop} {s : Shared}
theorem c_ite_no {α : Type} {M : Model} {c : Prop} [Decidable c] {a b : Sem α} {Q : α → Shared → Prop} (hc : ¬ c) (h : wpC M A b Q E s) : wpC M A (if c then a else b) Q E s := by rw [if_neg hc]; exact h
theorem c_ite_yes {α : Type} {M : Model} {c : Prop} [Decidable c] {a b : Sem α} {Q : α → Shared → Prop} (hc : c) (h : wpC M A a Q E s) : wpC M A (if c then a else b) Q E s := by rw [if_pos hc]; exact h
/-- what a write into a bytearray leaves -/
theorem ba_write {M : Model} {ba : Addr} {arr : Array UInt8} {f : Array UInt8 → Array UInt8} {Q : Unit → Shared → Prop} (h : s.heap.get? ba = some (AO arr)) (hz : (f arr).size ≤ sizeLine)
    (k : ∀ h', h'.get? ba = some (AO (f arr)) → Heap.SameBut ba s.heap h' → Q () { s with heap := h' }) : wpAny M A (Builtin.Bytes.write (.ref ba) f) Q E s := by
  show wpAny M A (updateBytearray ba f) Q E s
  unfold updateBytearray
  refine wpAny_bind (wpAny_load h ?_)
  show wpAny _ _ (update ba (Obj.mapBytearray f) >>= fun _ => lookBehind ba) _ _ _
  refine wpAny_bind (wpAny_update h ?_)
  have h2 : (s.heap.update ba (Obj.mapBytearray f)).get? ba = some (AO (f arr)) := Heap.get?_update_self (Obj.mapBytearray f) h rfl
  refine wpAny_lookBehind h2 ?_ (k _ h2 (Heap.SameBut.update ..))
  show (if (f arr).size > sizeLine then some "bytearray:memory" else none) = none
  rw [if_neg (Nat.not_lt.mpr hz)]
theorem by_buffer {M : Model} {b : Array UInt8} {t : Tok} {id : String} {full : Bool} {Q : Option (Array UInt8) → Shared → Prop} (k : Q (some b) s) : wpAny M A (Builtin.Bytes.buffer? id (.bytes b t) full) Q E s := by
  unfold Builtin.Bytes.buffer?
  rw [KBy.special_eq KBy.look_buffer, KBy.own_buffer, KBy.own_release]
  exact wpAny_of_eq (by kernel_rfl) k
theorem c_init_bytes {a : Addr} {arr b : Array UInt8} {t : Tok} {Q : Fin → Shared → Prop} (hg : A.guards = some []) (h : s.heap.get? a = some (AO arr)) (hz : b.size ≤ sizeLine)
    (k : ∀ h', h'.get? a = some (AO b) → Heap.SameBut a s.heap h' → Q (.done (.ret .none)) { s with heap := h' }) : wpC (model prog w) A (Builtin.«bytearray.__init__» ⟨[.ref a, .bytes b t], []⟩) Q E s := by
  refine @Mine.hush _ (by
  unfold Builtin.«bytearray.__init__»
  dsimp only
  refine c_step (ba_release h ?_)
  refine c_if_false rfl ?_
  refine c_step (wpAny_of_eq (ba_bind _) ?_)
  dsimp only
  refine c_step (wpAny_of_eq (a := ()) rfl ?_)
  refine c_step (wpAny_of_eq (a := ()) rfl ?_)
  refine c_bind ?_
  refine c_bind (c_exported hg ?_)
  show wpC _ _ (Builtin.Bytes.exportsOf (.ref a) >>= fun n => pure (decide (n > 0))) _ _ _
  refine c_bind ?_
  unfold Builtin.Bytes.exportsOf
  refine c_step (wpAny_load h ?_)
  refine c_pure (c_pure ?_)
  refine c_if_false (by decide) ?_
  refine c_step (ba_write h (Nat.zero_le _) fun h1 hb1 hs1 => ?_)
  refine c_step (wpAny_of_eq (a := none) rfl ?_)
  refine c_if_false rfl ?_
  refine c_step (wpAny_of_eq (a := ()) rfl ?_)
  refine c_step (wpAny_specialOf (T := "bytes") (PySem.W.typeIs_bytes _ _ _) by_index ?_)
  refine c_if_false rfl ?_
  refine c_step (by_buffer ?_)
  dsimp only
  refine c_step (wpAny_rule ?_)
  refine c_step (ba_write hb1 hz fun h2 hb2 hs2 => ?_)
  exact c_pure (k h2 hb2 (hs1.trans hs2))) ?_
  intro q f
  simpa using Mine.hushed f 5 fun n i => i
theorem c_ba_bytes {b : Array UInt8} {t : Tok} {Q : Value → Shared → Prop} (hg : A.guards = some []) (hz : b.size ≤ sizeLine)
    (k : ∀ h', h'.get? s.heap.objs.size = some (AO b) → Heap.SameBut s.heap.objs.size (s.heap.push (AO #[])) h' → Q (.ref s.heap.objs.size) { s with heap := h' }) : wpC (model prog w) A (call (.type "bytearray") [.bytes b t]) Q E s := by
  refine c_typeCall (Q₁ := fun obj s₁ => obj = .ref s.heap.objs.size ∧ s₁ = { s with heap := s.heap.push (AO #[]) }) BA.called (BA.typeCall _) BA.entry_init (by decide +kernel) (ba_new _ ⟨rfl, rfl⟩) fun obj s₁ h₁ => ?_
  obtain ⟨rfl, rfl⟩ := h₁
  have hS : (s.heap.push (AO #[])).get? s.heap.objs.size = some (AO #[]) := Heap.get?_push_size _ rfl
  exact ⟨⟨_, hS, rfl⟩, BA.args_init _ _, c_init_bytes hg hS hz fun h' h1 h2 => ⟨rfl, k h' h1 h2⟩⟩
theorem c_init_int {a : Addr} {arr : Array UInt8} {n : Int} {t : Tok} {Q : Fin → Shared → Prop} (hg : A.guards = some []) (h : s.heap.get? a = some (AO arr)) (h0 : 0 ≤ n) (hz : n ≤ 1048576)
    (k : ∀ h', h'.get? a = some (AO (Array.replicate n.toNat 0)) → Heap.SameBut a s.heap h' → Q (.done (.ret .none)) { s with heap := h' }) : wpC (model prog w) A (Builtin.«bytearray.__init__» ⟨[.ref a, .int n t], []⟩) Q E s := by
  refine @Mine.hush _ (by
  unfold Builtin.«bytearray.__init__»
  dsimp only
  refine c_step (ba_release h ?_)
  refine c_if_false rfl ?_
  refine c_step (wpAny_of_eq (ba_bind _) ?_)
  dsimp only
  refine c_step (wpAny_of_eq (a := ()) rfl ?_)
  refine c_step (wpAny_of_eq (a := ()) rfl ?_)
  refine c_bind ?_
  refine c_bind (c_exported hg ?_)
  show wpC _ _ (Builtin.Bytes.exportsOf (.ref a) >>= fun n => pure (decide (n > 0))) _ _ _
  refine c_bind ?_
  unfold Builtin.Bytes.exportsOf
  refine c_step (wpAny_load h ?_)
  refine c_pure (c_pure ?_)
  refine c_if_false (by decide) ?_
  refine c_step (ba_write h (Nat.zero_le _) fun h1 hb1 hs1 => ?_)
  refine c_step (wpAny_of_eq (a := none) rfl ?_)
  refine c_if_false rfl ?_
  refine c_step (wpAny_of_eq (a := ()) rfl ?_)
  refine c_step (wpAny_specialOf (T := "int") (typeIs_int _ _ _) F.slot_int_index.lookup ?_)
  refine c_if_true rfl ?_
  refine c_step (wpAny_attempt (wpAny_of_eq (rfl : asIndex (.int n t) = pure n) ?_))
  dsimp only
  refine c_if_false (by simp only [Builtin.Bytes.fitsIndex, Bool.not_eq_false', Bool.and_eq_true, decide_eq_true_eq]; lia) ?_
  refine c_ite_no (by lia) ?_
  refine c_if_false (beq_false_of_ne (by lia)) ?_
  refine c_if_false (KBy.tooLong_not (by lia)) ?_
  refine c_step (wpAny_rule ?_)
  by_cases hn : n > 0
  · refine c_ite_yes hn ?_
    refine c_step (ba_write hb1 (by rw [Array.size_replicate, sizeLine_eq]; lia) fun h2 hb2 hs2 => ?_)
    exact c_pure (k h2 hb2 (hs1.trans hs2))
  · refine c_ite_no hn ?_
    have e : n = 0 := by lia
    subst e
    exact c_pure (k h1 hb1 hs1)) ?_
  intro q f
  simpa using Mine.hushed f 5 fun n i => i
theorem c_ba_int {n : Int} {t : Tok} {Q : Value → Shared → Prop} (hg : A.guards = some []) (h0 : 0 ≤ n) (hz : n ≤ 1048576)
    (k : ∀ h', h'.get? s.heap.objs.size = some (AO (Array.replicate n.toNat 0)) → Heap.SameBut s.heap.objs.size (s.heap.push (AO #[])) h' → Q (.ref s.heap.objs.size) { s with heap := h' }) : wpC (model prog w) A (call (.type "bytearray") [.int n t]) Q E s := by
  refine c_typeCall (Q₁ := fun obj s₁ => obj = .ref s.heap.objs.size ∧ s₁ = { s with heap := s.heap.push (AO #[]) }) BA.called (BA.typeCall _) BA.entry_init (by decide +kernel) (ba_new _ ⟨rfl, rfl⟩) fun obj s₁ h₁ => ?_
  obtain ⟨rfl, rfl⟩ := h₁
  have hS : (s.heap.push (AO #[])).get? s.heap.objs.size = some (AO #[]) := Heap.get?_push_size _ rfl
  exact ⟨⟨_, hS, rfl⟩, BA.args_init _ _, c_init_int hg hS h0 hz fun h' h1 h2 => ⟨rfl, k h' h1 h2⟩⟩
end
end Mine

-- Rul4
open PySem PySem.W PyProof.Rows
set_option Elab.async false
namespace Mine
open PySem.Calls
set_option maxRecDepth 100000
set_option maxHeartbeats 4000000
namespace BA
theorem slot_setitem : Slot "bytearray" "__setitem__" "bytearray.__setitem__" :=
  .of (owner := "bytearray") (n := "__setitem__") (by rw [typeLookup_type, builtinLookup_eq_fast]; kernel_rfl) (by decide +kernel) (by decide +kernel) (by decide +kernel)
    (by first | exact .inl (by decide +kernel) | exact .inr (by decide +kernel)) (by rw [isSubtype_type]; kernel_rfl)
theorem entry_setitem : entryFor table "bytearray.__setitem__" = some Builtin.«bytearray.__setitem__» := by first | exact entryFor_of_tree (by kernel_rfl) | exact entryFor_of_fast (by kernel_rfl)
theorem args_setitem (a b c : Value) : argsOk "bytearray.__setitem__" ⟨[a, b, c], []⟩ := by unfold argsOk; kernel_rfl
theorem slot_getitem : Slot "bytearray" "__getitem__" "bytearray.__getitem__" :=
  .of (owner := "bytearray") (n := "__getitem__") (by rw [typeLookup_type, builtinLookup_eq_fast]; kernel_rfl) (by decide +kernel) (by decide +kernel) (by decide +kernel)
    (by first | exact .inl (by decide +kernel) | exact .inr (by decide +kernel)) (by rw [isSubtype_type]; kernel_rfl)
theorem entry_getitem : entryFor table "bytearray.__getitem__" = some Builtin.«bytearray.__getitem__» := by first | exact entryFor_of_tree (by kernel_rfl) | exact entryFor_of_fast (by kernel_rfl)
theorem args_getitem (a b : Value) : argsOk "bytearray.__getitem__" ⟨[a, b], []⟩ := by unfold argsOk; kernel_rfl
theorem slot_len : Slot "bytearray" "__len__" "bytearray.__len__" :=
  .of (owner := "bytearray") (n := "__len__") (by rw [typeLookup_type, builtinLookup_eq_fast]; kernel_rfl) (by decide +kernel) (by decide +kernel) (by decide +kernel)
    (by first | exact .inl (by decide +kernel) | exact .inr (by decide +kernel)) (by rw [isSubtype_type]; kernel_rfl)
theorem entry_len : entryFor table "bytearray.__len__" = some Builtin.«bytearray.__len__» := by first | exact entryFor_of_tree (by kernel_rfl) | exact entryFor_of_fast (by kernel_rfl)
theorem args_len (a : Value) : argsOk "bytearray.__len__" ⟨[a], []⟩ := by unfold argsOk; kernel_rfl
theorem slot_eq : Slot "bytearray" "__eq__" "bytearray.__eq__" :=
  .of (owner := "bytearray") (n := "__eq__") (by rw [typeLookup_type, builtinLookup_eq_fast]; kernel_rfl) (by decide +kernel) (by decide +kernel) (by decide +kernel)
    (by first | exact .inl (by decide +kernel) | exact .inr (by decide +kernel)) (by rw [isSubtype_type]; kernel_rfl)
theorem entry_eq : entryFor table "bytearray.__eq__" = some Builtin.«bytearray.__eq__» := by first | exact entryFor_of_tree (by kernel_rfl) | exact entryFor_of_fast (by kernel_rfl)
theorem args_eq (a b : Value) : argsOk "bytearray.__eq__" ⟨[a, b], []⟩ := by unfold argsOk; kernel_rfl
theorem sub_bytes_ba : isSubtype (.type "bytes") (.type "bytearray") = pure false := by rw [isSubtype_type]; kernel_rfl
theorem sub_bytes_cx : isSubtype (.type "bytes") (.type "complex") = pure false := by rw [isSubtype_type]; kernel_rfl
theorem by_int : typeLookup (.type "bytes") "__int__" = pure none := by rw [typeLookup_type, builtinLookup_eq_fast]; kernel_rfl
theorem by_float : typeLookup (.type "bytes") "__float__" = pure none := by rw [typeLookup_type, builtinLookup_eq_fast]; kernel_rfl
end BA
section
variable {prog : Program} {w : World} {A : Around} {E : Value → Shared → Prop} {R : Result → Shared → Prop} {s : Shared}
theorem ba_parts {M : Model} {sl : Addr} {l u : Value} {lo hi : Option Int} {Q : Value × Value × Value → Shared → Prop} (hs : s.heap.IsSliceOf sl l u .none) (hl : IsPart l lo) (hu : IsPart u hi)
    (k : Q (rawPart lo, rawPart hi, .none) s) : wpAny M A (Builtin.Bytes.sliceParts (.ref sl)) Q E s := by
  refine @Mine.hush _ (by
  obtain ⟨o, ho, hc, hd⟩ := hs
  unfold Builtin.Bytes.sliceParts
  refine wpAny_bind (wpAny_field (x := .none) ho hd rfl ?_)
  kby_none
  refine wpAny_ite (KBy.ite_no (show ¬ ((Value.none == rawInt 0) = true) from Bool.false_ne_true) ?_)
  refine wpAny_bind (wpAny_field (x := l) ho hd rfl ?_)
  cases hl <;> cases hu <;> (first
    | (kby_none; (refine wpAny_bind (wpAny_field (x := .none) ho hd rfl ?_)); kby_none)
    | (kby_none; (refine wpAny_bind (wpAny_field (x := .int _ _) ho hd rfl ?_)); kby_int)
    | (kby_int; (refine wpAny_bind (wpAny_field (x := .none) ho hd rfl ?_)); kby_none)
    | (kby_int; (refine wpAny_bind (wpAny_field (x := .int _ _) ho hd rfl ?_)); kby_int)) <;> exact wpAny_pure k) ?_
  intro q f
  simpa using Mine.hushed f 5 fun n i => i
theorem ba_indices {M : Model} {lo hi : Option Int} {n : Nat} {Q : Int × Int × Int → Shared → Prop} (k : Q (sliceBounds lo hi none n) s) : wpAny M A (sliceIndices (rawPart lo) (rawPart hi) .none n) Q E s :=
  wpAny_of_eq (sliceIndices_raw lo hi none n (fun e => nomatch e)) k
theorem ba_payload {M : Model} {ba : Addr} {arr : Array UInt8} {Q : Array UInt8 → Shared → Prop} (h : s.heap.get? ba = some (AO arr)) (k : Q arr s) : wpAny M A (Builtin.Bytes.payload (.ref ba)) Q E s := by
  unfold Builtin.Bytes.payload Builtin.Bytes.payload?
  exact wpAny_bind (wpAny_bind (wpAny_load h (wpAny_pure (wpAny_pure k))))
theorem ba_getslice {ba sl : Addr} {arr : Array UInt8} {l u : Value} {lo hi : Option Int} {Q : Value → Shared → Prop} (h : s.heap.get? ba = some (AO arr)) (hs : s.heap.IsSliceOf sl l u .none) (hl : IsPart l lo) (hu : IsPart u hi)
    (hz : (KBy.picked arr lo hi).size ≤ sizeLine) (k : Q (.ref s.heap.objs.size) { s with heap := s.heap.push (AO (KBy.picked arr lo hi)) }) : wpAny (model prog w) A (getItem (.ref ba) (.ref sl)) Q E s := by
  refine @Mine.hush _ (by
  have hT := ba_type h
  have hTs : s.TypeIs (.ref sl) "slice" := let ⟨o, ho, hc, _⟩ := hs; ⟨o, ho, hc⟩
  unfold getItem
  try with_reducible refine wpAny_holding ?_
  first | refine wpAny_bind (wpAny_pure ?_) | skip
  refine wpAny_bind (wpAny_sequenceKey hT (by decide) ?_)
  refine wpAny_bind (wpAny_callSpecial?_slot (name := Str.ofString "__getitem__") hT BA.slot_getitem
    (wpAny_call_entry BA.slot_getitem hT BA.entry_getitem ?_ (BA.args_getitem _ _)))
  show wpAny _ _ (Builtin.Bytes.subscript? (.ref sl) >>= _) _ _ s
  refine wpAny_bind ?_
  unfold Builtin.Bytes.subscript?
  refine wpAny_bind (wpAny_specialOf hTs slice_no_index (wpAny_pure ?_))
  refine wpAny_bind (wpAny_typeOf hTs ?_)
  show wpAny _ _ (Builtin.Bytes.sliceParts (.ref sl) >>= fun r => _) _ _ s
  refine wpAny_bind (ba_parts hs hl hu ?_)
  refine wpAny_bind (ba_payload h ?_)
  refine wpAny_bind (ba_indices ?_)
  refine wpAny_bind ?_
  unfold Builtin.Bytes.newBytearray
  refine wpAny_newObj_type ?_ hz
  first
    | exact wpAny_pure ⟨_, rfl, wpAny_pure k⟩
    | exact wpAny_bind (wpAny_pure (wpAny_pure ⟨_, rfl, wpAny_pure k⟩))) ?_
  intro q f
  simpa using Mine.hushed f 5 fun n i => i

theorem by_number : ∀ (M : Model) (A : Around) (E : Value → Shared → Prop) (s : Shared) (b : Array UInt8) (t : Tok) (name : Str) (Q : Bool → Shared → Prop), typeLookup (.type "bytes") name = pure none → Q false s →
    wpAny M A (do return (← specialOf (.bytes b t) name).isSome) Q E s := fun _ _ _ s b t _ _ h k => wpAny_bind (wpAny_specialOf (T := "bytes") (PySem.W.typeIs_bytes s b t) h (wpAny_pure k))
theorem any_or {M : Model} {m n : Sem Bool} {Q : Bool → Shared → Prop} (h : wpAny M A m (fun b s' => b = false ∧ wpAny M A n Q E s') E s) : wpAny M A (m <||> n) Q E s := by
  show wpAny M A (m >>= fun b => match ToBool.toBool b with | true => pure b | false => n) Q E s
  refine wpAny_bind (wpAny_mono h (fun b s' z => ?_) fun _ _ z => z)
  obtain ⟨rfl, z⟩ := z
  exact z
/-- ba[i:j] = b, b bytes of j - i octets -/
theorem c_set_bytes {ba sl : Addr} {arr b : Array UInt8} {t : Tok} {l u : Value} {lo hi : Option Int} {i j : Int} {Q : Unit → Shared → Prop} (hg : A.guards = some []) (h : s.heap.get? ba = some (AO arr)) (hs : s.heap.IsSliceOf sl l u .none) (hl : IsPart l lo) (hu : IsPart u hi)
    (hb : sliceBounds lo hi none arr.size = (i, j, 1)) (hij : i ≤ j) (hsz : (b.size : Int) = j - i) (hz : b.size ≤ sizeLine) (hz2 : (arr.extract 0 i.toNat ++ b ++ arr.extract j.toNat arr.size).size ≤ sizeLine)
    (k : ∀ h', h'.get? ba = some (AO (arr.extract 0 i.toNat ++ b ++ arr.extract j.toNat arr.size)) → (∀ x o, x ≠ ba → s.heap.get? x = some o → h'.get? x = some o) → Q () { s with heap := h' }) :
    wpC (model prog w) A (setItem (.ref ba) (.ref sl) (.bytes b t)) Q E s := by
  refine @Mine.hush _ (by
  have hT := ba_type h
  have hTs : s.TypeIs (.ref sl) "slice" := let ⟨o, ho, hc, _⟩ := hs; ⟨o, ho, hc⟩
  have hTb : s.TypeIs (.bytes b t) "bytes" := PySem.W.typeIs_bytes _ _ _
  unfold setItem
  refine c_holding ?_
  refine c_step (wpAny_sequenceKey hT (by decide) ?_)
  refine c_bind (c_special hT BA.slot_setitem (c_slot BA.slot_setitem (by decide +kernel) hT BA.entry_setitem (BA.args_setitem _ _ _) ?_))
  unfold Builtin.«bytearray.__setitem__»
  refine c_if_false rfl ?_
  refine c_bind ?_
  refine of_any ?_
  unfold Builtin.Bytes.subscript?
  refine wpAny_bind (wpAny_specialOf hTs slice_no_index (wpAny_pure ?_))
  refine c_step (wpAny_typeOf hTs ?_)
  refine c_if_false (by decide) ?_
  refine c_step (ba_parts hs hl hu ?_)
  refine c_if_false rfl ?_
  refine c_step (wpAny_isInstance hTb BA.sub_bytes_ba ?_)
  refine c_if_true rfl ?_
  · refine c_step (any_or (by_number _ _ _ _ _ _ _ _ by_index ⟨rfl, any_or (by_number _ _ _ _ _ _ _ _ BA.by_int ⟨rfl, any_or (by_number _ _ _ _ _ _ _ _ BA.by_float ⟨rfl, wpAny_isInstance hTb BA.sub_bytes_cx ?_⟩)⟩)⟩))
    refine c_step (wpAny_of_eq (a := none) rfl ?_)
    refine c_if_false rfl ?_
    refine c_step (wpAny_rule ?_)
    have hne : s.heap.objs.size ≠ ba := Nat.ne_of_gt (Heap.lt_size h)
    refine c_bind (c_ba_bytes (by simpa using hg) hz fun h1 hb1 hs1 => ?_)
    have keep1 : ∀ x o, s.heap.get? x = some o → h1.get? x = some o := fun x o e => (hs1.2 x (Nat.ne_of_lt (Heap.lt_size e))).trans (Heap.get?_push_of_some _ e)
    have hs' : h1.IsSliceOf sl l u .none := let ⟨o, ho, r⟩ := hs; ⟨o, keep1 _ _ ho, r⟩
    refine c_step (wpAny_holding (ba_parts hs' hl hu ?_))
    refine c_step (ba_payload hb1 ?_)
    refine c_step (ba_payload (keep1 _ _ h) ?_)
    refine c_step (ba_indices ?_)
    rw [hb]
    refine c_if_true rfl ?_
    refine c_step (wpAny_rule ?_)
    have hmax : max i j = j := Int.max_eq_right hij
    refine c_if_false (by rw [hmax, hsz]; simp) ?_
    refine c_step (ba_write (keep1 _ _ h) (by rw [hmax]; exact hz2) fun h2 hb2 hs2 => ?_)
    rw [hmax] at hb2
    refine c_pure ⟨.none, rfl, c_pure (k h2 hb2 fun x o hx e => (hs2.2 x hx).trans (keep1 x o e))⟩
  all_goals (done)) ?_
  intro q f
  simpa using Mine.hushed f 5 fun n i => i

/-- ba[i:j] = bb, another bytearray of j - i octets -/
theorem ba_set_ba {ba bb sl : Addr} {arr b : Array UInt8} {l u : Value} {lo hi : Option Int} {i j : Int} {Q : Unit → Shared → Prop} (h : s.heap.get? ba = some (AO arr)) (h2 : s.heap.get? bb = some (AO b)) (hne : ba ≠ bb) (hs : s.heap.IsSliceOf sl l u .none) (hl : IsPart l lo) (hu : IsPart u hi)
    (hb : sliceBounds lo hi none arr.size = (i, j, 1)) (hij : i ≤ j) (hsz : (b.size : Int) = j - i) (hz2 : (arr.extract 0 i.toNat ++ b ++ arr.extract j.toNat arr.size).size ≤ sizeLine)
    (k : ∀ h', h'.get? ba = some (AO (arr.extract 0 i.toNat ++ b ++ arr.extract j.toNat arr.size)) → Heap.SameBut ba s.heap h' → Q () { s with heap := h' }) :
    wpAny (model prog w) A (setItem (.ref ba) (.ref sl) (.ref bb)) Q E s := by
  refine @Mine.hush _ (by
  have hT := ba_type h
  have hTs : s.TypeIs (.ref sl) "slice" := let ⟨o, ho, hc, _⟩ := hs; ⟨o, ho, hc⟩
  have hTb := ba_type h2
  unfold setItem
  refine wpAny_holding ?_
  first | refine wpAny_bind (wpAny_pure ?_) | skip
  refine wpAny_bind (wpAny_sequenceKey hT (by decide) ?_)
  refine wpAny_bind (wpAny_callSpecial?_slot (name := Str.ofString "__setitem__") hT BA.slot_setitem (wpAny_call_entry BA.slot_setitem hT BA.entry_setitem ?_ (BA.args_setitem _ _ _)))
  unfold Builtin.«bytearray.__setitem__»
  refine bm_if_false rfl ?_
  refine wpAny_bind ?_
  unfold Builtin.Bytes.subscript?
  refine wpAny_bind (wpAny_specialOf hTs slice_no_index (wpAny_pure ?_))
  refine wpAny_bind (wpAny_typeOf hTs ?_)
  refine bm_if_false (by decide) ?_
  refine wpAny_bind (ba_parts hs hl hu ?_)
  refine bm_if_false (by show (ba == bb) = false; exact beq_false_of_ne hne) ?_
  refine wpAny_bind (wpAny_isInstance hTb BA.sub_self ?_)
  refine bm_if_false rfl ?_
  refine wpAny_bind (ba_payload h2 ?_)
  refine wpAny_bind (ba_payload h ?_)
  refine wpAny_bind (ba_indices ?_)
  rw [hb]
  refine bm_if_true rfl ?_
  refine wpAny_bind (wpAny_rule ?_)
  have hmax : max i j = j := Int.max_eq_right hij
  refine bm_if_false (by rw [hmax, hsz]; simp) ?_
  refine wpAny_bind (ba_write h (by rw [hmax]; exact hz2) fun h2 hb2 hs2 => ?_)
  rw [hmax] at hb2
  exact wpAny_pure ⟨.none, rfl, wpAny_pure (k h2 hb2 hs2)⟩) ?_
  intro q f
  simpa using Mine.hushed f 5 fun n i => i
theorem ba_len_gives {ba : Addr} {arr : Array UInt8} {Q : Value → Shared → Prop} (h : s.heap.get? ba = some (AO arr)) (hz : arr.size ≤ 1099511627776) (k : Q (.int arr.size (s.toks + 1)) { s with toks := s.toks + 1 + 1 }) : wpAny (model prog w) A (call (.builtin "len") [.ref ba]) Q E s := by
  refine call_len_meets (n := arr.size) (S := fun _ R s => s.heap.get? ba = some (AO arr) ∧ R (.ok (.ret (.int arr.size s.toks))) { s with toks := s.toks + 1 }) (ba_type h) BA.slot_len BA.entry_len (BA.args_len _) ?_ (by omega) (by omega) (fun Q' hq => ⟨h, hq⟩) k
  refine .of_wp fun prog w A R s hS => ?_
  obtain ⟨h, hr⟩ := hS
  show wpAny _ _ (Builtin.Bytes.payload (.ref ba) >>= fun r => _) _ _ s
  refine wpAny_bind (ba_payload h ?_)
  exact wpAny_bind (wpAny_mkInt (wpAny_pure ⟨_, rfl, hr⟩))

/-- a bytearray and bytes compared -/
theorem ba_eq_bytes {ba : Addr} {arr b : Array UInt8} {t : Tok} {Q : Value → Shared → Prop} (hu : A.units < cLine) (h : s.heap.get? ba = some (AO arr)) (k : Q (.bool (arr.toList == b.toList)) s) : wpAny (model prog w) A (compareOp .Eq (.ref ba) (.bytes b t)) Q E s := by
  refine @Mine.hush _ (by
  refine cmp_ofEq ?_
  have hT := ba_type h
  have hTb : s.TypeIs (.bytes b t) "bytes" := PySem.W.typeIs_bytes _ _ _
  unfold richCompare
  refine wpAny_holding ?_
  refine wpAny_bind (wpAny_cRoomFor hu ?_)
  dsimp only [oneThing?]
  refine wpAny_bind (wpAny_typeOf hT ?_)
  refine wpAny_bind (wpAny_typeOf hTb ?_)
  refine bm_if_true (by decide) ?_
  refine wpAny_bind (wpAny_of_eq BA.sub_bytes_ba ?_)
  refine bm_if_false rfl ?_
  refine wpAny_bind (wpAny_tryCompare_slot hT BA.slot_eq (wpAny_call_entry BA.slot_eq hT BA.entry_eq ?_ (BA.args_eq _ _)))
  show wpAny _ _ (Builtin.Bytes.buffer? "bytearray.__eq__" (.ref ba) >>= fun r => _) _ _ s
  refine wpAny_bind (ba_buffer h ?_)
  show wpAny _ _ (Builtin.Bytes.bufferQuiet? "bytearray.__eq__" (.bytes b t) >>= fun r => _) _ _ s
  refine wpAny_bind ?_
  unfold Builtin.Bytes.bufferQuiet?
  refine wpAny_bind (wpAny_attempt (by_buffer ?_))
  refine wpAny_pure ?_
  refine wpAny_pure ⟨_, rfl, ?_⟩
  refine ⟨fun e => (nomatch e), wpAny_pure ?_⟩
  rw [show Builtin.Bytes.holds "__eq__" (Builtin.Bytes.order arr.toList b.toList) = (arr.toList == b.toList) from order_eq _ _]
  exact k) ?_
  intro q f
  simpa using Mine.hushed f 5 fun n i => i
end
end Mine

-- Rul5
open PySem PySem.W PyProof.Rows
set_option Elab.async false
namespace Mine
open PySem.Calls
set_option maxRecDepth 100000
set_option maxHeartbeats 4000000
/-- a Struct of a given format -/
abbrev SO (fmt : Array UInt8) (t : Tok) : Obj := { cls := .type "_struct.Struct", data := .fields #[.bytes fmt t] }
namespace ST
theorem plainAttrs : PlainAttrs "_struct.Struct" :=
  ⟨⟨"_struct.Struct.__getattribute__", by rw [typeLookup_type, builtinLookup_eq_fast]; kernel_rfl, by decide +kernel⟩, by rw [typeLookup_type, builtinLookup_eq_fast]; kernel_rfl⟩
theorem slot_into : Slot "_struct.Struct" "pack_into" "_struct.Struct.pack_into" :=
  .of (owner := "_struct.Struct") (n := "pack_into") (by rw [typeLookup_type, builtinLookup_eq_fast]; kernel_rfl) (by decide +kernel) (by decide +kernel) (by decide +kernel)
    (by first | exact .inl (by decide +kernel) | exact .inr (by decide +kernel)) (by rw [isSubtype_type]; kernel_rfl)
theorem type_into : typeOf (.builtin "_struct.Struct.pack_into") = pure (.type "method_descriptor") := by show builtinType _ = _; rw [builtinType_eq_fast]; kernel_rfl
theorem entry_into : entryFor table "_struct.Struct.pack_into" = some Builtin.«_struct.Struct.pack_into» := by first | exact entryFor_of_tree (by kernel_rfl) | exact entryFor_of_fast (by kernel_rfl)
theorem args_into (a b c d : Value) : argsOk "_struct.Struct.pack_into" ⟨[a, b, c, d], []⟩ := by unfold argsOk; kernel_rfl
theorem slot_from : Slot "_struct.Struct" "unpack_from" "_struct.Struct.unpack_from" :=
  .of (owner := "_struct.Struct") (n := "unpack_from") (by rw [typeLookup_type, builtinLookup_eq_fast]; kernel_rfl) (by decide +kernel) (by decide +kernel) (by decide +kernel)
    (by first | exact .inl (by decide +kernel) | exact .inr (by decide +kernel)) (by rw [isSubtype_type]; kernel_rfl)
theorem type_from : typeOf (.builtin "_struct.Struct.unpack_from") = pure (.type "method_descriptor") := by show builtinType _ = _; rw [builtinType_eq_fast]; kernel_rfl
theorem entry_from : entryFor table "_struct.Struct.unpack_from" = some Builtin.«_struct.Struct.unpack_from» := by first | exact entryFor_of_tree (by kernel_rfl) | exact entryFor_of_fast (by kernel_rfl)
theorem args_from (a b c : Value) : argsOk "_struct.Struct.unpack_from" ⟨[a, b, c], []⟩ := by unfold argsOk; kernel_rfl
theorem entry_held : entryFor table "_struct.pack_into.held" = some Builtin.«_struct.pack_into.held» := by first | exact entryFor_of_tree (by kernel_rfl) | exact entryFor_of_fast (by kernel_rfl)
theorem bind_from (x y : Value) : Builtin.Bytes.bindOptional "_struct.Struct.unpack_from" "unpack_from" ["buffer", "offset"] [x, y] [] = pure [some x, some y] := by kernel_rfl
open Builtin.Struct in
theorem parse_B : parse #[60, 66] = pure ⟨false, false, [⟨'B', 1, 0, 1⟩], 1, 1⟩ := by kernel_rfl
open Builtin.Struct in
theorem parse_H : parse #[60, 72] = pure ⟨false, false, [⟨'H', 1, 0, 2⟩], 2, 1⟩ := by kernel_rfl
open Builtin.Struct in
theorem parse_I : parse #[60, 73] = pure ⟨false, false, [⟨'I', 1, 0, 4⟩], 4, 1⟩ := by kernel_rfl
open Builtin.Struct in
theorem parse_i : parse #[60, 105] = pure ⟨false, false, [⟨'i', 1, 0, 4⟩], 4, 1⟩ := by kernel_rfl
end ST
/-- the four formats: size, sign -/
inductive Fmt : Array UInt8 → Char → Nat → Prop
  | B : Fmt #[60, 66] 'B' 1
  | H : Fmt #[60, 72] 'H' 2
  | I : Fmt #[60, 73] 'I' 4
  | i : Fmt #[60, 105] 'i' 4
theorem Fmt.parse {fmt : Array UInt8} {c : Char} {n : Nat} (h : Fmt fmt c n) : Builtin.Struct.parse fmt = pure ⟨false, false, [⟨c, 1, 0, n⟩], n, 1⟩ := by
  cases h
  · exact ST.parse_B
  · exact ST.parse_H
  · exact ST.parse_I
  · exact ST.parse_i
/-- what is read of n octets -/
def told (c : Char) (n : Nat) (raw : Array UInt8) : Int :=
  if c.isLower && Builtin.Struct.natOf false raw ≥ 2 ^ (8 * n - 1) then (Builtin.Struct.natOf false raw : Int) - 2 ^ (8 * n) else Builtin.Struct.natOf false raw
section
variable {prog : Program} {w : World} {A : Around} {E : Value → Shared → Prop} {R : Result → Shared → Prop} {s : Shared}
theorem so_type {a : Addr} {fmt : Array UInt8} {t : Tok} (h : s.heap.get? a = some (SO fmt t)) : s.TypeIs (.ref a) "_struct.Struct" := ⟨_, h, rfl⟩
theorem so_from {a : Addr} {fmt : Array UInt8} {t : Tok} {pl : Sem Bool} {Q : Value × List Value → Shared → Prop} (h : s.heap.get? a = some (SO fmt t)) (k : Q (.builtin "_struct.Struct.unpack_from", [.ref a]) s) : wpAny (model prog w) A (getMethod (.ref a) "unpack_from" pl) Q E s :=
  getMethod_builtin (so_type h) ST.plainAttrs ST.slot_from ST.type_from (fun b e => by cases e; exact ⟨_, h, rfl⟩) k
theorem so_into {a : Addr} {fmt : Array UInt8} {t : Tok} {pl : Sem Bool} {Q : Value × List Value → Shared → Prop} (h : s.heap.get? a = some (SO fmt t)) (k : Q (.builtin "_struct.Struct.pack_into", [.ref a]) s) : wpAny (model prog w) A (getMethod (.ref a) "pack_into" pl) Q E s :=
  getMethod_builtin (so_type h) ST.plainAttrs ST.slot_into ST.type_into (fun b e => by cases e; exact ⟨_, h, rfl⟩) k
theorem so_format {M : Model} {a : Addr} {fmt : Array UInt8} {c : Char} {n : Nat} {t : Tok} {Q : Array UInt8 × Builtin.Struct.Format → Shared → Prop} (h : s.heap.get? a = some (SO fmt t)) (hf : Fmt fmt c n)
    (k : Q (fmt, ⟨false, false, [⟨c, 1, 0, n⟩], n, 1⟩) s) : wpAny M A (Builtin.Struct.structFormat (.ref a)) Q E s := by
  unfold Builtin.Struct.structFormat
  refine wpAny_bind (wpAny_field (x := .bytes fmt t) h rfl rfl ?_)
  refine bm_if_false rfl ?_
  refine wpAny_bind (wpAny_of_eq (a := fmt) rfl ?_)
  refine wpAny_bind (wpAny_of_eq hf.parse ?_)
  exact wpAny_pure k
theorem st_unpacked {fmt : Array UInt8} {c : Char} {n : Nat} (hf : Fmt fmt c n) {id : String} {b : Array UInt8} {p : Nat} :
    Builtin.Struct.unpacked id ⟨false, false, [⟨c, 1, 0, n⟩], n, 1⟩ b p = (mkInt (told c n (b.extract p (p + n))) >>= fun v => newTuple [v]) := by
  have hl : ∀ m : Nat, m ≤ 4 → Builtin.Bytes.tooLong m = false := fun m hm => KBy.tooLong_not (by lia)
  cases hf <;> (unfold Builtin.Struct.unpacked; simp [told, hl, Std.Legacy.Range.forIn_eq_forIn_range'])
/-- a buffer: bytes, or a bytearray on the heap -/
def Buf (s : Shared) (v : Value) (arr : Array UInt8) : Prop := (∃ t, v = .bytes arr t) ∨ ∃ ba, v = .ref ba ∧ s.heap.get? ba = some (AO arr)
theorem buf_like {id : String} {v : Value} {arr : Array UInt8} {Q : Array UInt8 → Shared → Prop} (h : Buf s v arr) (k : Q arr s) : wpAny (model prog w) A (Builtin.Bytes.bytesLike id v) Q E s := by
  unfold Builtin.Bytes.bytesLike
  rcases h with ⟨t, rfl⟩ | ⟨ba, rfl, h⟩
  · exact wpAny_bind (by_buffer (wpAny_pure k))
  · exact wpAny_bind (ba_buffer h (wpAny_pure k))
theorem any_ite_no {α : Type} {M : Model} {c : Prop} [Decidable c] {a b : Sem α} {Q : α → Shared → Prop} (hc : ¬ c) (h : wpAny M A b Q E s) : wpAny M A (if c then a else b) Q E s := by rw [if_neg hc]; exact h
theorem so_unpack_from {a : Addr} {fmt : Array UInt8} {c : Char} {n : Nat} {t tp : Tok} {v : Value} {arr : Array UInt8} {p : Int} {Q : Value → Shared → Prop} (h : s.heap.get? a = some (SO fmt t)) (hf : Fmt fmt c n) (hb : Buf s v arr) (h0 : 0 ≤ p) (h1 : p + n ≤ arr.size) (hz : arr.size ≤ 16777216)
    (k : ∀ tk, Q (.ref s.heap.objs.size) { s with heap := s.heap.push { cls := .type "tuple", data := .seq #[.int (told c n (arr.extract p.toNat (p.toNat + n))) tk] }, toks := s.toks + 1 }) :
    wpAny (model prog w) A (call (.builtin "_struct.Struct.unpack_from") [.ref a, v, .int p tp]) Q E s := by
  refine @Mine.hush _ (by
  refine wpAny_call_entry ST.slot_from (so_type h) ST.entry_from ?_ (ST.args_from _ _ _)
  unfold Builtin.«_struct.Struct.unpack_from»
  refine wpAny_bind (wpAny_of_eq (ST.bind_from _ _) ?_)
  show wpAny _ _ (Builtin.Struct.unpackFrom _ _ v (some (.int p tp))) _ _ _
  unfold Builtin.Struct.unpackFrom
  refine wpAny_bind (buf_like hb ?_)
  refine wpAny_bind ?_
  unfold Builtin.Bytes.indexHeld
  refine wpAny_bind (wpAny_bind (wpAny_of_eq (a := some p) rfl (wpAny_pure ?_)))
  refine bm_if_true (by simp) ?_
  refine wpAny_of_eq (rfl : asIndex (.int p tp) = pure p) ?_
  refine bm_if_false (by simp only [Builtin.Bytes.fitsIndex, Bool.not_eq_false', Bool.and_eq_true, decide_eq_true_eq]; lia) ?_
  refine wpAny_bind (wpAny_pure ?_)
  refine wpAny_bind (wpAny_bind (so_format h hf (wpAny_pure ?_)))
  refine bm_if_true rfl ?_
  refine wpAny_bind (buf_like hb ?_)
  refine wpAny_bind ?_
  unfold Builtin.Struct.placeIn
  refine any_ite_no (by lia) ?_
  dsimp only
  rw [if_neg (show ¬ p < 0 by lia)]
  refine any_ite_no (by lia) ?_
  refine wpAny_pure ?_
  rw [st_unpacked hf]
  refine wpAny_bind (wpAny_bind (wpAny_mkInt ?_))
  refine wpAny_newObj_type ?_ (by show 1 ≤ sizeLine; rw [sizeLine_eq]; decide)
  exact wpAny_pure ⟨_, rfl, k _⟩) ?_
  intro q f
  simpa using Mine.hushed f 5 fun n i => i

/-- octets laid into an array -/
def putAt (arr : Array UInt8) (p : Nat) (raw : Array UInt8) : Array UInt8 := arr.extract 0 p ++ raw ++ arr.extract (p + raw.size) arr.size
/-- as Struct lays octets, one by one -/
def plc (out : Array UInt8) (p : Nat) (raw : Array UInt8) : Array UInt8 := raw.toList.zipIdx.foldl (fun out (c, k) => out.setIfInBounds (p + k) c) out
theorem plc_go (p : Nat) : ∀ (l : List UInt8) (k : Nat) (out : Array UInt8), p + k + l.length ≤ out.size →
    ((l.zipIdx k).foldl (fun out (c, k) => out.setIfInBounds (p + k) c) out).toList = out.toList.take (p + k) ++ l ++ out.toList.drop (p + k + l.length)
  | [], k, out, _ => by simp
  | c :: l, k, out, h => by
    rw [List.zipIdx_cons, List.foldl_cons]
    rw [List.length_cons] at h ⊢
    rw [plc_go p l (k + 1) _ (by rw [Array.size_setIfInBounds]; lia)]
    have hlt : p + k < out.toList.length := by rw [Array.length_toList]; lia
    have hl : (out.toList.take (p + k) ++ [c]).length = p + (k + 1) := by rw [List.length_append, List.length_take]; simp only [List.length_cons, List.length_nil]; lia
    have hs : out.toList.set (p + k) c = (out.toList.take (p + k) ++ [c]) ++ out.toList.drop (p + k + 1) := by rw [List.set_eq_take_append_cons_drop, if_pos hlt]; simp
    rw [Array.toList_setIfInBounds, hs, List.take_left' hl, ← List.drop_drop, List.drop_left' hl, List.drop_drop]
    have e3 : p + k + 1 + l.length = p + k + (l.length + 1) := by lia
    rw [e3]
    simp
theorem putAt_toList (out : Array UInt8) (p : Nat) (raw : Array UInt8) : (putAt out p raw).toList = out.toList.take p ++ raw.toList ++ out.toList.drop (p + raw.size) := by
  unfold putAt
  rw [Array.toList_append, Array.toList_append, Array.toList_extract, Array.toList_extract, List.extract_eq_take_drop, List.extract_eq_take_drop]
  rw [List.drop_zero, Nat.sub_zero]
  congr 1
  rw [List.take_of_length_le]
  rw [List.length_drop, Array.length_toList]
  lia
theorem plc_eq (out : Array UInt8) (p : Nat) (raw : Array UInt8) (h : p + raw.size ≤ out.size) : plc out p raw = putAt out p raw := by
  apply Array.ext'
  rw [putAt_toList]
  unfold plc
  rw [plc_go p raw.toList 0 out (by rw [Array.length_toList]; lia)]
  simp
theorem plc_size (out : Array UInt8) (p : Nat) (raw : Array UInt8) : (plc out p raw).size = out.size := by
  unfold plc
  generalize raw.toList.zipIdx = l
  induction l generalizing out with
  | nil => rfl
  | cons x l ih => rw [List.foldl_cons, ih, Array.size_setIfInBounds]
theorem plc_plc (out : Array UInt8) (p : Nat) (z raw : Array UInt8) (e : raw.size = z.size) (h : p + raw.size ≤ out.size) : plc (plc out p z) p raw = putAt out p raw := by
  rw [plc_eq _ _ _ (by rw [plc_size]; exact h), plc_eq _ _ _ (by lia)]
  apply Array.ext'
  have hl : (out.toList.take p).length = p := by rw [List.length_take, Array.length_toList]; lia
  have hl2 : (out.toList.take p ++ z.toList).length = p + raw.size := by rw [List.length_append, hl, Array.length_toList, e]
  rw [putAt_toList, putAt_toList, putAt_toList, List.drop_left' hl2, List.append_assoc (out.toList.take p) z.toList, List.take_left' hl, e]
theorem intBytes_size (n : Nat) (x : Int) : (Builtin.Struct.intBytes false n x).size = n := by
  unfold Builtin.Struct.intBytes Builtin.Memoryview.toLittleEndian
  simp
theorem st_pack {fmt : Array UInt8} {c : Char} {n : Nat} (hf : Fmt fmt c n) {id : String} {x : Int} {tx : Tok} {put : Unit → Nat → Array UInt8 → Sem Unit} {src : Value → Nat → Nat → Sem Unit}
    (hlo : (if c.isLower then -(2 ^ (8 * n - 1)) else 0 : Int) ≤ x) (hhi : x ≤ (if c.isLower then 2 ^ (8 * n - 1) else 2 ^ (8 * n) : Int) - 1) :
    Builtin.Struct.packEach id ⟨false, false, [⟨c, 1, 0, n⟩], n, 1⟩ [.int x tx] () put src = put () 0 (Builtin.Struct.intBytes false n x) := by
  refine @Mine.hush _ (by
  cases hf <;> (unfold Builtin.Struct.packEach; simp [Std.Legacy.Range.forIn_eq_forIn_range'])
  all_goals (
    refine Eq.trans (congrArg (fun m : Sem (Array UInt8) => m >>= fun a => put () 0 a) (?_ : _ = pure (Builtin.Struct.intBytes false _ x))) rfl
    first
      | (show (if (decide (x < 0) || decide (x > 2 ^ 8 - 1)) = true then _ else pure _) = _; rw [if_neg]; simp at hlo hhi ⊢; lia)
      | (show (if (decide (x < 0) || decide (x > 2 ^ 16 - 1)) = true then _ else pure _) = _; rw [if_neg]; simp at hlo hhi ⊢; lia)
      | (show (if (decide (x < 0) || decide (x > 2 ^ 32 - 1)) = true then _ else pure _) = _; rw [if_neg]; simp at hlo hhi ⊢; lia)
      | (show (if (decide (x < -(2 ^ 31)) || decide (x > 2 ^ 31 - 1)) = true then _ else pure _) = _; rw [if_neg]; simp at hlo hhi ⊢; lia))) ?_
  intro q f
  simpa using Mine.hushed f 5 fun n i => i
theorem so_pack_into {a ba : Addr} {fmt : Array UInt8} {c : Char} {n : Nat} {t tp tx : Tok} {arr : Array UInt8} {p x : Int} {Q : Value → Shared → Prop} (h : s.heap.get? a = some (SO fmt t)) (hf : Fmt fmt c n) (hb : s.heap.get? ba = some (AO arr)) (h0 : 0 ≤ p) (h1 : p + n ≤ arr.size) (hz : arr.size ≤ 16777216)
    (hlo : (if c.isLower then -(2 ^ (8 * n - 1)) else 0 : Int) ≤ x) (hhi : x ≤ (if c.isLower then 2 ^ (8 * n - 1) else 2 ^ (8 * n) : Int) - 1)
    (k : ∀ h', h'.get? ba = some (AO (putAt arr p.toNat (Builtin.Struct.intBytes false n x))) → Heap.SameBut ba s.heap h' → Q .none { s with heap := h' }) :
    wpAny (model prog w) A (call (.builtin "_struct.Struct.pack_into") [.ref a, .ref ba, .int p tp, .int x tx]) Q E s := by
  refine @Mine.hush _ (by
  refine wpAny_call (codeAny_call_builtin ST.slot_into.plain ST.entry_into (ST.slot_into.check _ _ _ _ _ _ _ _ (so_type h) (ST.args_into _ _ _ _) ?_))
  unfold Builtin.«_struct.Struct.pack_into»
  refine wpAny_bind (wpAny_of_eq (a := ()) rfl ?_)
  refine wpAny_bind (so_format h hf ?_)
  refine wpAny_bind (wpAny_field (x := .bytes fmt t) h rfl rfl ?_)
  unfold Builtin.Struct.packInto
  refine bm_if_false rfl ?_
  refine wpAny_bind (wpAny_specialOf (ba_type hb) bl_buffer ?_)
  dsimp only
  refine wpAny_bind (ba_payload hb ?_)
  refine wpAny_bind (wpAny_pure ?_)
  refine wpAny_pure ⟨Code.quiet_builtin _ (by decide +kernel), codeAny_builtin ST.entry_held ?_⟩
  unfold Builtin.«_struct.pack_into.held»
  dsimp only
  refine wpAny_bind (wpAny_of_eq (a := fmt) rfl ?_)
  refine wpAny_bind (wpAny_of_eq hf.parse ?_)
  unfold Builtin.Struct.packHeld
  refine wpAny_bind (wpAny_of_eq (rfl : asIndex (.int p tp) = pure p) ?_)
  refine bm_if_false (by simp only [Builtin.Bytes.fitsIndex, Bool.not_eq_false', Bool.and_eq_true, decide_eq_true_eq]; lia) ?_
  refine wpAny_bind ?_
  unfold Builtin.Struct.placeIn
  refine any_ite_no (by lia) ?_
  dsimp only
  rw [if_neg (show ¬ p < 0 by lia)]
  refine any_ite_no (by simp only [rawInt, Int.toNat_natCast]; lia) ?_
  refine wpAny_pure ?_
  show wpAny _ _ (Builtin.Bytes.write (.ref ba) (fun o => plc o (0 + p.toNat) (Array.replicate n 0)) >>= fun _ => _) _ _ _
  have hsz0 : (Array.replicate n (0 : UInt8)).size = n := Array.size_replicate
  refine wpAny_bind (ba_write hb (by rw [plc_size, sizeLine_eq]; exact hz) fun h2 hb2 hs2 => ?_)
  rw [st_pack hf hlo hhi]
  refine wpAny_bind ?_
  show wpAny _ _ (Builtin.Bytes.write (.ref ba) (fun o => plc o (0 + p.toNat + 0) (Builtin.Struct.intBytes false n x))) _ _ _
  refine ba_write hb2 (by rw [plc_size, plc_size, sizeLine_eq]; exact hz) fun h3 hb3 hs3 => ?_
  refine wpAny_pure (k h3 ?_ (hs2.trans hs3))
  rw [hb3, Nat.zero_add, Nat.add_zero, plc_plc _ _ _ _ (by rw [intBytes_size, hsz0]) (by rw [intBytes_size]; lia)]) ?_
  intro q f
  simpa using Mine.hushed f 5 fun n i => i
end
end Mine

-- Ent
open PySem PySem.W PyProof.Rows
set_option Elab.async false
namespace Mine
open PySem.Calls
set_option maxRecDepth 100000
set_option maxHeartbeats 4000000
def LeaveM (h₀ : Heap) (L : Addr) (m : Str → Option Value) (g : Heap) (rest : List (Addr × Obj)) (R : Result → Shared → Prop) (v : Value) (s' : Shared) : Prop :=
  ∃ L' m' news', Fr g L' s'.heap m' ∧ News g L' s'.heap news' ∧ (Fr h₀ L s'.heap m → News h₀ L s'.heap (news' ++ rest) → (∀ p ∈ news', ∀ q ∈ rest, p.1 ≠ q.1) → R (.ok (.ret v)) s')
theorem leaveM_ {h₀ g : Heap} {L L' : Addr} {m m' : Str → Option Value} {news' rest : List (Addr × Obj)} {R : Result → Shared → Prop} {v : Value} {s' : Shared} (F' : Fr g L' s'.heap m') (N' : News g L' s'.heap news')
    (k : Fr h₀ L s'.heap m → News h₀ L s'.heap (news' ++ rest) → (∀ p ∈ news', ∀ q ∈ rest, p.1 ≠ q.1) → R (.ok (.ret v)) s') : LeaveM h₀ L m g rest R v s' := ⟨L', m', news', F', N', k⟩
section
variable {prog : Program} {w : World} {A₀ A : Around} {s : Shared} {base h₀ : Heap} {outer : List Env} {L : Addr} {m mg mb : Str → Option Value} {env : Env} {mine rest : List (Addr × Obj)} {K : Frag} {p : Program} {loose : List Str} {mean : ExcName → Option Value}
  {R : Result → Shared → Prop} {name qual : Str} {params : Arguments} {body : List Stmt} {scope : Scope} {dV kV doc pm cdv ct oc : Value} {an od : Option Addr} {osl : Array (Option Value)} {f : Addr} {args : Args} {binds : List (Str × Value)}
theorem groundM (B : Below A₀ base outer h₀) (F : Fr h₀ L s.heap m) (N : News h₀ L s.heap (mine ++ rest)) (hdis : ∀ q ∈ rest, ∀ p ∈ mine, q.1 ≠ p.1) (hA : A.frames = some (env :: outer)) (hf : env.frame = some L) (hke : env.scope.kind = .function) :
    Fr h₀ L (hideAll s.heap (mine.map (·.1))) m ∧ Below A base (env :: outer) (hideAll s.heap (mine.map (·.1))) ∧ h₀.StaysIn (hideAll s.heap (mine.map (·.1))) ∧
      ∀ v s', LeaveM h₀ L m (hideAll s.heap (mine.map (·.1))) rest R v s' → R (.ok (.ret v)) s' := by
  refine @Mine.hush _ (by
  have N₁ : News h₀ L s.heap mine := fun p hp => N p (List.mem_append_left _ hp)
  refine ⟨(groundX (R := R) B F N₁ hA hf hke).1, (groundX (R := R) B F N₁ hA hf hke).2.1, (groundX (R := R) B F N₁ hA hf hke).2.2.1, fun v s' hl => ?_⟩
  obtain ⟨L', m', news', F', N', k⟩ := hl
  have back := (groundX (R := fun _ s'' => Fr h₀ L s''.heap m ∧ News h₀ L s''.heap news') B F N₁ hA hf hke).2.2.2 v s' ⟨L', m', news', F', N', fun a b => ⟨a, b⟩⟩
  have hg : ∀ q ∈ rest, (hideAll s.heap (mine.map (·.1))).get? q.1 = some q.2 := fun q hq =>
    hideAll_get _ (N q (List.mem_append_right _ hq)).1 fun e => by
      obtain ⟨p, hp, e⟩ := List.mem_map.mp e
      exact hdis q hq p hp e.symm
  refine k back.1 (fun q hq => ?_) fun p hp q hq e => ?_
  · rcases List.mem_append.mp hq with hq | hq
    · exact back.2 q hq
    · exact ⟨F'.keep _ _ (hg q hq), (N q (List.mem_append_right _ hq)).2⟩
  · have h1 := (N' p hp).2.2
    rw [e, hg q hq] at h1
    cases h1) ?_
  intro q f
  simpa using Mine.hushed f 5 fun n i => i
/-- entering a def, as code_def: only a part of the ledger goes in, the rest comes back untouched; clean contexts -/
theorem defC (B : Below A₀ base outer h₀) (F : Fr h₀ L s.heap m) (X₀ : K.In h₀) (N : News h₀ L s.heap (mine ++ rest)) (hdis : ∀ q ∈ rest, ∀ p ∈ mine, q.1 ≠ p.1) (T : Top p loose mean mg mb h₀) (hA : A.frames = some (env :: outer)) (hf : env.frame = some L) (hke : env.scope.kind = .function)
    (ho : K.lookup f = some ⟨oc, od, .func (fnOf name qual params body scope dV kV doc pm an cdv ct), osl⟩) (hcd : codeIn K cdv qual = true) (hroom : A.depth < recursionLimit)
    (hbind : BindsTo s (fnOf name qual params body scope dV kV doc pm an cdv ct) args binds) (hloc : ∀ y ∈ binds, scope.names.lookup y.1 = some .local)
    (h : ∀ g L' h₁, Fr h₀ L g m → Fr g L' h₁ (fun y => binds.reverse.lookup y) → News g L' h₁ mine → Below A base (env :: outer) g → K.In g → Top p loose mean mg mb g → (∀ p ∈ mine, p.1 < L') →
      wpC (model prog w) (A.deeper (envOf qual scope L' f cdv)) (execs body (envOf qual scope L' f cdv))
        (fun fl s' => LeaveM h₀ L m g rest R (match fl with | .ret v => v | _ => .none) s')
        (fun e s' => wpC (model prog w) (A.deeper (envOf qual scope L' f cdv)) (leaving (envOf qual scope L' f cdv) e) (fun _ s'' => R (.error e) s'') (fun e' s'' => R (.error e') s'') s')
        { s with heap := h₁, toks := s.toks + binds.length })
    (hco : scope.isCoroutine = false) (hgen : scope.isGenerator = false) (hk : scope.kind = .function)
    (hcell : ∀ x ∈ scope.names, x.2 ≠ .cell) : codeC (model prog w) A (.call (.ref f) args) R s := by
  refine @Mine.hush _ (by
  obtain ⟨FG, BG, st, lv⟩ := groundM (R := R) B F N hdis hA hf hke
  have N₁ : News h₀ L s.heap mine := fun p hp => N p (List.mem_append_left _ hp)
  have X := X₀.keeps F.keep
  refine c_function (fd := fnOf name qual params body scope dV kV doc pm an cdv ct) hroom (X _ _ ho) rfl hco hgen rfl (codeRec_of X hcd) (hbind _ _ _ _ ?_)
  refine wpAny_newFunctionEnv hcell hloc (fun h₁ hns hsb => ⟨(T.nolimit.keeps F.keep).fresh _ hsb, c_func ?_⟩) hk
  have hk₁ : ∀ b o, s.heap.get? b = some o → h₁.get? b = some o := fun b o e => hsb.extBut b o (Nat.ne_of_lt (Heap.lt_size e)) (Heap.get?_push_of_some _ e)
  exact c_mono (h _ s.heap.objs.size h₁ FG ⟨hns, fun b o e => hk₁ b o (of_hideAll _ e), Nat.le_of_eq (hideAll_size _ _)⟩
    (fun p hp => ⟨hk₁ _ _ (N₁ p hp).1, Nat.ne_of_lt (Heap.lt_size (N₁ p hp).1), hideAll_none _ (List.mem_map_of_mem hp)⟩) BG (X₀.keeps st) (T.keeps st) (fun p hp => Heap.lt_size (N₁ p hp).1)) (fun fl s' hl => lv _ _ hl) fun _ _ y => y) ?_
  intro q f
  simpa using Mine.hushed f 5 fun n i => i
/-- the same, of every context -/
theorem defA (B : Below A₀ base outer h₀) (F : Fr h₀ L s.heap m) (X₀ : K.In h₀) (N : News h₀ L s.heap (mine ++ rest)) (hdis : ∀ q ∈ rest, ∀ p ∈ mine, q.1 ≠ p.1) (T : Top p loose mean mg mb h₀) (hA : A.frames = some (env :: outer)) (hf : env.frame = some L) (hke : env.scope.kind = .function)
    (ho : K.lookup f = some ⟨oc, od, .func (fnOf name qual params body scope dV kV doc pm an cdv ct), osl⟩) (hcd : codeIn K cdv qual = true) (hroom : A.depth < recursionLimit)
    (hbind : BindsTo s (fnOf name qual params body scope dV kV doc pm an cdv ct) args binds) (hloc : ∀ y ∈ binds, scope.names.lookup y.1 = some .local)
    (h : ∀ g L' h₁, Fr h₀ L g m → Fr g L' h₁ (fun y => binds.reverse.lookup y) → News g L' h₁ mine → Below A base (env :: outer) g → K.In g → Top p loose mean mg mb g → (∀ p ∈ mine, p.1 < L') → (∀ x o, s.heap.get? x = some o → (∀ p ∈ mine, p.1 ≠ x) → g.get? x = some o) →
      wpAny (model prog w) (A.deeper (envOf qual scope L' f cdv)) (execs body (envOf qual scope L' f cdv))
        (fun fl s' => LeaveM h₀ L m g rest R (match fl with | .ret v => v | _ => .none) s')
        (fun e s' => wpAny (model prog w) (A.deeper (envOf qual scope L' f cdv)) (leaving (envOf qual scope L' f cdv) e) (fun _ s'' => R (.error e) s'') (fun e' s'' => R (.error e') s'') s')
        { s with heap := h₁, toks := s.toks + binds.length })
    (hco : scope.isCoroutine = false) (hgen : scope.isGenerator = false) (hk : scope.kind = .function)
    (hcell : ∀ x ∈ scope.names, x.2 ≠ .cell) : codeAny (model prog w) A (.call (.ref f) args) R s := by
  refine @Mine.hush _ (by
  obtain ⟨FG, BG, st, lv⟩ := groundM (R := R) B F N hdis hA hf hke
  have N₁ : News h₀ L s.heap mine := fun p hp => N p (List.mem_append_left _ hp)
  have X := X₀.keeps F.keep
  refine codeAny_call_def (fd := fnOf name qual params body scope dV kV doc pm an cdv ct) (body := body) (binds := binds) hroom (X _ _ ho) rfl (T.nolimit.keeps F.keep) (codeRec_of X hcd) rfl hbind hcell hloc (fun h₁ hns hk₁ => ?_) hco hgen hk
  exact wpAny_mono (h _ s.heap.objs.size h₁ FG ⟨hns, fun b o e => hk₁ b o (of_hideAll _ e), Nat.le_of_eq (hideAll_size _ _)⟩
    (fun p hp => ⟨hk₁ _ _ (N₁ p hp).1, Nat.ne_of_lt (Heap.lt_size (N₁ p hp).1), hideAll_none _ (List.mem_map_of_mem hp)⟩) BG (X₀.keeps st) (T.keeps st) (fun p hp => Heap.lt_size (N₁ p hp).1) (fun x o e hx => hideAll_get _ e fun e' => by
      obtain ⟨p, hp, e2⟩ := List.mem_map.mp e'
      exact hx p hp e2)) (fun fl s' hl => lv _ _ hl) fun _ _ y => y) ?_
  intro q f
  simpa using Mine.hushed f 5 fun n i => i
end
/-- apart, told so that omega does not see it -/
def NeA (a b : Nat) : Prop := a ≠ b
theorem neA {a b : Nat} (h : NeA a b) : a ≠ b := h
theorem neA_of {a b : Nat} (h : a ≠ b) : NeA a b := h
/-- apart from each -/
def AllNe (x : Nat) : List Nat → Prop
  | [] => True
  | a :: r => NeA x a ∧ AllNe x r
def AllNes : List (Addr × Obj) → List (Addr × Obj) → Prop
  | [], _ => True
  | p :: l, r => AllNe p.1 (r.map (·.1)) ∧ AllNes l r
theorem allNe_mem {x : Nat} : ∀ {l : List Nat}, AllNe x l → ∀ a ∈ l, x ≠ a
  | _ :: _, h, _, .head _ => h.1
  | _ :: _, h, _, .tail _ m => allNe_mem h.2 _ m
theorem allNe_of {x : Nat} : ∀ {l : List Nat}, (∀ a ∈ l, x ≠ a) → AllNe x l
  | [], _ => trivial
  | _ :: _, h => ⟨h _ (.head _), allNe_of fun a m => h a (.tail _ m)⟩
theorem allNes_of : ∀ {l r : List (Addr × Obj)}, (∀ p ∈ l, ∀ q ∈ r, p.1 ≠ q.1) → AllNes l r
  | [], _, _ => trivial
  | p :: _, _, h => ⟨allNe_of fun a m => by
      obtain ⟨q, hq, rfl⟩ := List.mem_map.mp m
      exact h p (.head _) q hq, allNes_of fun p' hp => h p' (.tail _ hp)⟩
/-- a part of a ledger, the addresses as off -/
inductive Sel (as : List Nat) : List (Addr × Obj) → List (Addr × Obj) → Prop
  | nil : Sel as [] []
  | keep {q : Addr × Obj} {l r : List (Addr × Obj)} : AllNe q.1 as → Sel as l r → Sel as (q :: l) (q :: r)
  | skip {q : Addr × Obj} {l r : List (Addr × Obj)} : Sel as l r → Sel as (q :: l) r
theorem Sel.skip1 {I : Nat} {o : Obj} {l r : List (Addr × Obj)} (h : Sel [I] l r) : Sel [I] ((I, o) :: l) r := .skip h
theorem Sel.skipm {mine l r : List (Addr × Obj)} {q : Addr × Obj} {o : Obj} (_ : (q.1, o) ∈ mine) (h : Sel (mine.map (·.1)) l r) : Sel (mine.map (·.1)) (q :: l) r := .skip h
theorem Sel.sub {as : List Nat} {l r : List (Addr × Obj)} (h : Sel as l r) : ∀ q ∈ r, q ∈ l := by
  induction h with
  | nil => exact fun _ h => h
  | keep _ _ ih =>
    intro x hx
    rcases List.mem_cons.mp hx with e | e
    · exact e ▸ .head _
    · exact .tail _ (ih x e)
  | skip _ ih => exact fun x hx => .tail _ (ih x hx)
theorem Sel.off {as : List Nat} {l r : List (Addr × Obj)} (h : Sel as l r) : ∀ q ∈ r, ∀ a ∈ as, q.1 ≠ a := by
  induction h with
  | nil => exact fun _ h => nomatch h
  | keep h1 _ ih =>
    intro x hx
    rcases List.mem_cons.mp hx with e | e
    · exact e ▸ allNe_mem h1
    · exact ih x e
  | skip _ ih => exact ih
/-- a ledger of two parts that lie apart -/
structure Part (h₀ : Heap) (L : Addr) (h : Heap) (mine rest : List (Addr × Obj)) : Prop where
  news : News h₀ L h (mine ++ rest)
  dis : ∀ q ∈ rest, ∀ p ∈ mine, q.1 ≠ p.1
theorem part_of {h₀ h : Heap} {L : Addr} {mine l rest : List (Addr × Obj)} (N : News h₀ L h l) (hm : ∀ p ∈ mine, p ∈ l) (S : Sel (mine.map (·.1)) l rest) : Part h₀ L h mine rest :=
  ⟨fun p hp => by
    rcases List.mem_append.mp hp with e | e
    · exact N p (hm p e)
    · exact N p (S.sub p e), fun q hq p hp => S.off q hq p.1 (List.mem_map_of_mem hp)⟩
theorem news_ne {h₀ h : Heap} {L : Addr} {l : List (Addr × Obj)} {p q : Addr × Obj} (N : News h₀ L h l) (hp : p ∈ l) (hq : q ∈ l) (hne : p.2 ≠ q.2) : p.1 ≠ q.1 := fun e => by
  have h1 := (N p hp).1
  rw [e, (N q hq).1] at h1
  exact hne (Option.some.inj h1).symm
theorem sub0 {l : List (Addr × Obj)} : ∀ p ∈ ([] : List (Addr × Obj)), p ∈ l := fun _ h => nomatch h
/-- octets that are read only: a bytes, or a bytearray that nobody changes -/
def BufIn (h : Heap) (v : Value) (arr : Array UInt8) : Prop := (∃ t, v = .bytes arr t) ∨ ∃ ba, v = .ref ba ∧ h.get? ba = some (AO arr)
theorem BufIn.keep {g h : Heap} {L : Addr} {m : Str → Option Value} {v : Value} {arr : Array UInt8} (H : BufIn g v arr) (F : Fr g L h m) : BufIn h v arr := H.imp id fun ⟨ba, e, hb⟩ => ⟨ba, e, F.keep _ _ hb⟩
theorem BufIn.enter {h₀ h g : Heap} {L : Addr} {v : Value} {arr : Array UInt8} {mine rest : List (Addr × Obj)} (H : BufIn h v arr) (N : News h₀ L h (mine ++ rest)) (G : ∀ x o, h.get? x = some o → (∀ p ∈ mine, p.1 ≠ x) → g.get? x = some o) (hc : ∀ p ∈ mine, p.2.cls ≠ (AO arr).cls) : BufIn g v arr :=
  H.imp id fun ⟨ba, e, hb⟩ => ⟨ba, e, G _ _ hb fun p hp e => by
    have h1 := (N p (List.mem_append_left _ hp)).1
    rw [e, hb] at h1
    exact hc p hp (congrArg Obj.cls (Option.some.inj h1).symm)⟩
theorem BufIn.of_led {h₀ h : Heap} {L : Addr} {ba : Addr} {arr : Array UInt8} {l : List (Addr × Obj)} (N : News h₀ L h l) (hm : (ba, AO arr) ∈ l) : BufIn h (.ref ba) arr := .inr ⟨ba, rfl, (N _ hm).1⟩
end Mine

-- Stm
open PySem PySem.W PyProof.Rows
set_option Elab.async false
namespace Mine
open PySem.Calls
set_option maxRecDepth 100000
set_option maxHeartbeats 4000000
section
variable {M : Model} {A : Around} {E : Value → Shared → Prop} {s : Shared} {env : Env}
theorem c_execs_nil {Q : Flow → Shared → Prop} (h : Q .next s) : wpC M A (execs [] env) Q E s := of_any (wpAny_execs_nil h)
theorem c_execs_cons {st : Stmt} {rest : List Stmt} {Q : Flow → Shared → Prop}
    (h : wpC M A (exec st env) (fun f s' => match f with | .next => wpC M A (execs rest env) Q E s' | f => Q f s') E s) : wpC M A (execs (st :: rest) env) Q E s := by
  rw [execs_cons]
  refine c_bind (c_mono h (fun f s' h' => ?_) fun _ _ h' => h')
  cases f <;> first | exact h' | exact c_pure h'
theorem c_Expr {e : Expr} {pos : Pos} {Q : Flow → Shared → Prop} (h : wpC M A (eval e env) (fun v s' => match v with | .ref _ => False | _ => Q .next s') E s)
    (hi : interactive env = false := by rfl) (hs : swapsWith e none pos.line env = pure false := by rfl) : wpC M A (exec (.Expr e pos) env) Q E s := by
  rw [exec_Expr env e pos hi hs]
  refine c_bind (c_standAt (c_bind (c_mono h (fun v s' h' => ?_) fun _ _ x => x)))
  have hv : ∀ a, v ≠ .ref a := fun a hva => by subst hva; exact h'
  rw [dropValue_plain hv]
  refine c_pure ?_
  cases v <;> first | exact h' | exact (hv _ rfl).elim
theorem c_Assign_Name {x : Str} {pos' pos : Pos} {value : Expr} {Q : Flow → Shared → Prop} (h : wpC M A (eval value env) (fun v s₁ => wpAny M A (storeName env x v) (fun _ => Q .next) E s₁) E s)
    (hs : swapsWith value (some (.Name x pos')) pos.line env = pure false := by rfl) : wpC M A (exec (.Assign [.Name x pos'] value pos) env) Q E s := by
  rw [exec_Assign_Name env x pos' value pos hs]
  exact c_bind (c_standAt (c_bind (c_mono h (fun v s₁ h₁ => c_bind (c_standAt (c_bind (of_any (wpAny_bindName (wpAny_mono h₁ (fun _ _ z => c_pure z) fun _ _ z => z)))))) fun _ _ z => z)))
theorem c_Assign_Attr {o : Expr} {attr : Str} {pos' pos : Pos} {value : Expr} {Q : Flow → Shared → Prop} (h : wpC M A (eval value env) (fun v s₁ => wpAny M A (eval o env) (fun ov s₂ => wpAny M A (setAttr ov attr v) (fun _ => Q .next) E s₂) E s₁) E s)
    (hs : swapsWith value (some (.Attribute o attr pos')) pos.line env = pure false := by rfl) : wpC M A (exec (.Assign [.Attribute o attr pos'] value pos) env) Q E s := fun Γ p hΓ hC => by
  simp only [plainObj_exec_Assign_Attribute o attr pos' value pos hs, assign_Attribute, Sem.wp_bind', Sem.wp_holding, Sem.wp_cmd_standAt, Sem.wp_release, Sem.wp_pure']
  exact Sem.wp_mono M Γ _ (fun v p₁ s₁ h₁ => Sem.wp_mono M Γ _ (fun ov _ s₂ h₂ => h₂ Γ _ hΓ) (fun _ _ _ h' => h') _ _ (h₁ Γ p₁ hΓ)) (fun _ _ _ h' => h') _ _ (h Γ _ hΓ hC)
theorem c_Assign_Subscript {o i : Expr} {pos' pos : Pos} {value : Expr} {Q : Flow → Shared → Prop}
    (h : wpAny M A (eval value env) (fun v s₁ => wpAny M A (eval o env) (fun ov s₂ => wpAny M A (eval i env) (fun iv s₃ => wpC M A (setItem ov iv v) (fun _ => Q .next) E s₃) E s₂) E s₁) E s)
    (hs : swapsWith value (some (.Subscript o i pos')) pos.line env = pure false := by rfl) : wpC M A (exec (.Assign [.Subscript o i pos'] value pos) env) Q E s := fun Γ p hΓ hC => by
  simp only [exec_Assign_Subscript o i pos' value pos hs, assign_Subscript, Sem.wp_bind', Sem.wp_holding, Sem.wp_cmd_standAt, Sem.wp_release, Sem.wp_pure']
  exact Sem.wp_mono M Γ _ (fun v p₁ s₁ h₁ => Sem.wp_mono M Γ _ (fun ov p₂ s₂ h₂ => Sem.wp_mono M Γ _ (fun iv _ s₃ h₃ => h₃ Γ _ hΓ hC) (fun _ _ _ h' => h') _ _ (h₂ Γ p₂ hΓ)) (fun _ _ _ h' => h') _ _ (h₁ Γ p₁ hΓ)) (fun _ _ _ h' => h') _ _ (h Γ _ hΓ)
theorem c_Return {e : Expr} {pos : Pos} {Q : Flow → Shared → Prop} (h : wpC M A (eval e env) (fun v => Q (.ret v)) E s) : wpC M A (exec (.Return (some e) pos) env) Q E s := by
  rw [exec_Return_some]
  exact c_bind (c_standAt (c_bind (c_mono h (fun _ _ z => c_pure z) fun _ _ z => z)))
theorem c_If {test : Expr} {body orelse : List Stmt} {pos : Pos} {Q : Flow → Shared → Prop}
    (h : wpAny M A (isTrue test env (eval test env)) (fun b s₂ => if b then wpC M A (execs body env) Q E s₂ else wpC M A (execs orelse env) Q E s₂) E s) : wpC M A (exec (.If test body orelse pos) env) Q E s := by
  rw [exec_If]
  refine c_bind (c_standAt (c_step (wpAny_mono h (fun b s₂ h₂ => ?_) fun _ _ x => x)))
  cases b <;> exact h₂
theorem c_IfExp {test body orelse : Expr} {pos : Pos} {Q : Value → Shared → Prop}
    (h : wpAny M A (isTrue test env (eval test env)) (fun b s₂ => if b then wpC M A (eval body env) Q E s₂ else wpC M A (eval orelse env) Q E s₂) E s)
    (he : eval (.IfExp test body orelse pos) env = (do standAt pos; if ← isTrue test env (eval test env) then eval body env else eval orelse env) := by rfl) : wpC M A (eval (.IfExp test body orelse pos) env) Q E s := by
  rw [he]
  refine c_bind (c_standAt (c_step (wpAny_mono h (fun b s₂ h₂ => ?_) fun _ _ x => x)))
  cases b <;> exact h₂
theorem c_MethodCall {o : Expr} {name : Str} {apos pos : Pos} {args : List Expr} {kws : List Keyword} {pl : Sem Bool} {Q : Value → Shared → Prop}
    (h : wpAny M A (eval o env) (fun ov s₁ => wpAny M A (getMethod ov name pl) (fun fx s₂ => wpC M A (callWith pos fx.1 fx.2 (backTo pos (starEach args env)) (backToKw pos (keywordEach kws env))) Q E s₂) E s₁) E s)
    (he : eval (.Call (.Attribute o name apos) args kws pos) env = (do
      let ov ← eval o env
      standAt apos.atName
      let (f, first) ← holding [ov] (getMethod ov name pl)
      callWith pos f first (backTo pos (starEach args env)) (backToKw pos (keywordEach kws env))) := by rfl) : wpC M A (eval (.Call (.Attribute o name apos) args kws pos) env) Q E s := by
  rw [he]
  exact c_step (wpAny_mono h (fun ov s₁ h₁ => c_bind (c_standAt (c_step (wpAny_holding (wpAny_mono h₁ (fun fx s₂ h₂ => h₂) fun _ _ x => x))))) fun _ _ x => x)
theorem c_Call {func : Expr} {args : List Expr} {kws : List Keyword} {pos : Pos} {Q : Value → Shared → Prop}
    (h : wpAny M A (eval func env) (fun f s₁ => wpC M A (callWith pos f [] (backTo pos (starEach args env)) (backToKw pos (keywordEach kws env))) Q E s₁) E s)
    (he : eval (.Call func args kws pos) env = (do callWith pos (← eval func env) [] (backTo pos (starEach args env)) (backToKw pos (keywordEach kws env))) := by rfl) : wpC M A (eval (.Call func args kws pos) env) Q E s := by
  rw [he]; exact c_step h
theorem c_callWith {P : Heap → Prop} {pos : Pos} {f : Value} {first : List Value} {args : List (Bool × Sem Value)} {keywords : List (Option Str × Sem Value)} {Q : Value → Shared → Prop} (hplain : (args.any (·.1) || keywords.any (·.1.isNone)) = false)
    (hk : ∀ h, P h → ∃ k, (k = Keeper.frame ∨ k = Keeper.machine ∨ k = Keeper.boundFrame) ∧ Looks M h (keeperOf f) k)
    (h : wpC M A (evalArgs f true args keywords) (fun a s₁ => P s₁.heap ∧ wpC M A (call f (first ++ a.pos) a.kw) Q E s₁) E s) : wpC M A (callWith pos f first args keywords) Q E s := by
  refine @Mine.hush _ (by
  unfold callWith
  refine c_bind (c_holding (c_mono h (fun a s₁ h₁ => c_bind (c_standAt ?_)) fun _ _ x => x))
  obtain ⟨k, hk', L⟩ := hk _ h₁.1
  simp only [hplain]
  refine c_step (L.here ?_)
  have tail : ∀ {t : Sem Value}, wpC M A t Q E s₁ → wpC M A (t >>= fun r => holding [r] point >>= fun _ => pure r) Q E s₁ :=
    fun ht => c_bind (c_mono ht (fun r s₂ hr => c_bind (c_holding (c_point (c_pure hr)))) fun _ _ x => x)
  have marked (mk : Value) : wpC M A (callMarked mk f (first ++ a.pos) a.kw) Q E s₁ := by unfold callMarked; exact c_keep h₁.2
  rcases hk' with rfl | rfl | rfl <;> dsimp only <;> first | exact tail h₁.2 | (split <;> first | exact tail h₁.2 | exact tail (marked _))) ?_
  intro q f
  simpa using Mine.hushed f 5 fun n i => i
/-- a def or class of the written part, its arguments clean -/
theorem c_callWith_K {K : Frag} {h₀ : Heap} {pos : Pos} {f : Value} {first : List Value} {e : Expr} {rest : List Expr} {Q : Value → Shared → Prop} (X : K.In h₀) (hk : keepIn K f = true)
    (h : wpAny M A (spliced (backTo pos (starEach (e :: rest) env))) (fun vs s₁ => K.In s₁.heap ∧ wpC M A (call f (first ++ vs)) Q E s₁) E s)
    (he : starEach (e :: rest) env = (false, eval e env) :: starEach rest env := by rfl) (hplain : (backTo pos (starEach rest env)).any (·.1) = false := by rfl) :
    wpC M A (callWith pos f first (backTo pos (starEach (e :: rest) env)) (backToKw pos (keywordEach [] env))) Q E s := by
  rw [he] at h ⊢
  exact c_callWith (by show ((false || (backTo pos (starEach rest env)).any (·.1)) || false) = false; rw [hplain]; rfl) (keeps_K hk) (of_any (evalArgs_plain h))
theorem c_callWith_K0 {K : Frag} {pos : Pos} {f : Value} {first : List Value} {Q : Value → Shared → Prop} (X : K.In s.heap) (hk : keepIn K f = true) (h : wpC M A (call f (first ++ [])) Q E s) :
    wpC M A (callWith pos f first (backTo pos (starEach [] env)) (backToKw pos (keywordEach [] env))) Q E s :=
  c_callWith rfl (keeps_K hk) (of_any (evalArgs_nil3 ⟨X, h⟩))
theorem c_callWith_KW {K : Frag} {h₀ : Heap} {pos : Pos} {f : Value} {first : List Value} {e : Expr} {rest : List Expr} {kws : List Keyword} {Q : Value → Shared → Prop} (X : K.In h₀) (hk : keepIn K f = true) (hall : (backToKw pos (keywordEach kws env)).all (·.1.isSome) = true)
    (h : wpAny M A (spliced (backTo pos (starEach (e :: rest) env))) (fun vs s₁ => wpAny M A (evalAll ((backToKw pos (keywordEach kws env)).map (·.2)))
      (fun ks s₂ => K.In s₂.heap ∧ wpC M A (call f (first ++ vs) (((backToKw pos (keywordEach kws env)).filterMap (·.1)).zip ks)) Q E s₂) E s₁) E s)
    (hplain : ((backTo pos (starEach (e :: rest) env)).any (·.1) || (backToKw pos (keywordEach kws env)).any (·.1.isNone)) = false := by rfl) (he : starEach (e :: rest) env = (false, eval e env) :: starEach rest env := by rfl) :
    wpC M A (callWith pos f first (backTo pos (starEach (e :: rest) env)) (backToKw pos (keywordEach kws env))) Q E s :=
  c_callWith hplain (keeps_K hk) (of_any (evalArgs_kw2 hall h he))
theorem c_runOwn {c : Code} {Q : Flow → Shared → Prop} (hc : calm c = true) (h : codeC M A c (fun r s' => match r with | .ok f => Q f s' | .error _ => False) s) : wpC M A (runOwn c env none) Q E s := by
  unfold runOwn run
  refine c_onRaise ?_
  refine c_node hc (codeC_mono h fun r s' z => ?_)
  cases r with
  | ok f => exact c_pure z
  | error e => exact z.elim
theorem c_While {test : Expr} {body orelse : List Stmt} {pos : Pos} {Q : Flow → Shared → Prop} (h : codeC M A (.whileLoop test body orelse env) (fun r s' => match r with | .ok f => Q f s' | .error _ => False) s) : wpC M A (exec (.While test body orelse pos) env) Q E s := by
  rw [exec_While]
  exact c_bind (c_standAt (c_runOwn rfl h))
end
section
variable {prog : Program} {w : World} {A : Around} {s : Shared} {env : Env}
/-- one turn of a while -/
theorem c_while_turn {test : Expr} {body orelse : List Stmt} {R : Result → Shared → Prop}
    (h : wpAny (model prog w) A (isTrue test env (eval test env)) (fun b s₁ => if b = true then wpC (model prog w) A (execs body env) (fun f s₂ => match f with
        | .next | .cont => codeC (model prog w) A (.whileLoop test body orelse env) R s₂ | .brk => R (.ok .next) s₂ | .ret v => R (.ok (.ret v)) s₂) (fun _ _ => False) s₁
      else wpC (model prog w) A (execs orelse env) (fun f s₂ => R (.ok f) s₂) (fun _ _ => False) s₁) (fun _ _ => False) s) : codeC (model prog w) A (.whileLoop test body orelse env) R s := by
  refine @Mine.hush _ (by
  refine c_tree rfl ?_
  rw [Around.under_of_weight (A := A) (c := .whileLoop test body orelse env) rfl rfl]
  show wpC _ A ((whileTurn test body orelse env).onRaise _) _ _ s
  refine c_onRaise ?_
  unfold whileTurn
  refine c_step (wpAny_mono h (fun b s₁ z => ?_) fun _ _ z => z.elim)
  cases b with
  | true =>
    refine c_if_true rfl (c_bind (c_mono z (fun f s₂ z => ?_) fun _ _ z => z.elim))
    cases f with
    | next => exact c_pure ⟨rfl, rfl, z⟩
    | cont => exact c_pure ⟨rfl, rfl, z⟩
    | brk => exact c_pure z
    | ret v => exact c_pure z
  | false => exact c_if_false rfl (c_bind (c_mono z (fun f s₂ z => c_pure z) fun _ _ z => z.elim))) ?_
  intro q f
  simpa using Mine.hushed f 5 fun n i => i
/-- fewer are left -/
def Less (I : Nat → Shared → Prop) (n : Nat) (s : Shared) : Prop := ∃ k, k < n ∧ I k s
/-- a while, by a word that a number counts down -/
theorem c_while_ind {test : Expr} {body orelse : List Stmt} {R : Result → Shared → Prop} {I : Nat → Shared → Prop}
    (turn : ∀ n s, I n s → wpAny (model prog w) A (isTrue test env (eval test env)) (fun b s₁ => if b = true then wpC (model prog w) A (execs body env) (fun f s₂ => match f with
        | .next | .cont => Less I n s₂ | .brk => R (.ok .next) s₂ | .ret v => R (.ok (.ret v)) s₂) (fun _ _ => False) s₁
      else wpC (model prog w) A (execs orelse env) (fun f s₂ => R (.ok f) s₂) (fun _ _ => False) s₁) (fun _ _ => False) s) (n : Nat) : ∀ s, I n s → codeC (model prog w) A (.whileLoop test body orelse env) R s := by
  induction n using Nat.strongRecOn with
  | ind n ih =>
    intro s hI
    refine c_while_turn (wpAny_mono (turn n s hI) (fun b s₁ z => ?_) fun _ _ z => z)
    cases b with
    | true =>
      refine c_mono z (fun f s₂ z => ?_) fun _ _ z => z
      cases f with
      | next => obtain ⟨k, hk, hi⟩ := z; exact ih k hk s₂ hi
      | cont => obtain ⟨k, hk, hi⟩ := z; exact ih k hk s₂ hi
      | brk => exact z
      | ret v => exact z
    | false => exact z
end
end Mine

-- Led
open PySem PySem.W PyProof.Rows
set_option Elab.async false
namespace Mine
open PySem.Calls
set_option maxRecDepth 100000
set_option maxHeartbeats 4000000
/-- the octets of a builder's array from its head on -/
def Has (arr : Array UInt8) (hd : Int) (out : List UInt8) : Prop := 0 ≤ hd ∧ hd ≤ arr.size ∧ arr.toList.drop hd.toNat = out
theorem Has.len {arr : Array UInt8} {hd : Int} {out : List UInt8} (h : Has arr hd out) : (out.length : Int) = arr.size - hd := by
  obtain ⟨h0, h1, h2⟩ := h
  have := congrArg List.length h2
  rw [List.length_drop, Array.length_toList] at this
  lia
theorem has_set {arr b : Array UInt8} {i j : Int} {out : List UInt8} (h : Has arr j out) (h0 : 0 ≤ i) (hs : (b.size : Int) = j - i) :
    Has (arr.extract 0 i.toNat ++ b ++ arr.extract j.toNat arr.size) i (b.toList ++ out) ∧ (arr.extract 0 i.toNat ++ b ++ arr.extract j.toNat arr.size).size = arr.size := by
  refine @Mine.hush _ (by
  obtain ⟨g0, g1, g2⟩ := h
  have e : (arr.extract 0 i.toNat ++ b ++ arr.extract j.toNat arr.size).toList = arr.toList.take i.toNat ++ (b.toList ++ out) := by
    rw [Array.toList_append, Array.toList_append, Array.toList_extract, Array.toList_extract, List.extract_eq_take_drop, List.extract_eq_take_drop, List.drop_zero, Nat.sub_zero, g2, List.append_assoc]
    congr 2
    rw [List.take_of_length_le]
    have := congrArg List.length g2
    rw [List.length_drop, Array.length_toList] at this
    lia
  have l1 : (arr.toList.take i.toNat).length = i.toNat := by rw [List.length_take, Array.length_toList]; lia
  have sz : (arr.extract 0 i.toNat ++ b ++ arr.extract j.toNat arr.size).size = arr.size := by
    simp only [Array.size_append, Array.size_extract]; lia
  refine ⟨⟨h0, by rw [sz]; lia, ?_⟩, sz⟩
  rw [e, List.drop_left' l1]) ?_
  intro q f
  simpa using Mine.hushed f 5 fun n i => i
theorem has_put {arr raw : Array UInt8} {hd : Int} {out : List UInt8} {p : Int} (h : Has arr hd out) (h0 : 0 ≤ p) (hs : p + raw.size = hd) : Has (putAt arr p.toNat raw) p (raw.toList ++ out) ∧ (putAt arr p.toNat raw).size = arr.size := by
  have e : (p.toNat + raw.size) = hd.toNat := by lia
  unfold putAt
  rw [e]
  exact has_set h h0 (by lia)
theorem bounds_in {i j : Int} {n : Nat} (h0 : 0 ≤ i) (h1 : i ≤ j) (h2 : j ≤ n) : sliceBounds (some i) (some j) none n = (i, j, 1) := by
  have e1 : (if i < 0 then i + (n : Int) else i) = i := if_neg (by lia)
  have e2 : (if j < 0 then j + (n : Int) else j) = j := if_neg (by lia)
  simp only [sliceBounds, Option.getD_none, show ((1 : Int) > 0) from by decide, if_true, e1, e2]
  rw [Int.min_eq_left (by lia), Int.min_eq_left (by lia), Int.max_eq_right h0, Int.max_eq_right (by lia)]
theorem bounds_from {i : Int} {n : Nat} (h0 : 0 ≤ i) (h2 : i ≤ n) : sliceBounds (some i) none none n = (i, (n : Int), 1) := by
  have e1 : (if i < 0 then i + (n : Int) else i) = i := if_neg (by lia)
  simp only [sliceBounds, Option.getD_none, show ((1 : Int) > 0) from by decide, if_true, e1]
  rw [Int.min_eq_left (by lia), Int.max_eq_right h0]
section
variable {prog : Program} {w : World} {A : Around} {E : Value → Shared → Prop} {s : Shared} {h₀ : Heap} {L : Addr} {m : Str → Option Value} {news : List (Addr × Obj)} {g : Obj → List (Addr × Obj)} {K : Frag}
/-- an object of the ledger changed, all else kept -/
theorem led_upd {h : Heap} {d : Addr} {o o' : Obj} (F : Fr h₀ L s.heap m) (N : News h₀ L s.heap news) (U : UpdF d o news g) (h1 : h.get? d = some o') (h2 : ∀ x y, x ≠ d → s.heap.get? x = some y → h.get? x = some y) : Fr h₀ L h m ∧ News h₀ L h (g o') := by
  obtain ⟨pre, post, rfl, hg, a, b⟩ := U.split
  have D := N (d, o) (by simp)
  obtain ⟨oL, es, ep, hL, r⟩ := F.ns
  refine ⟨⟨⟨oL, es, ep, h2 _ _ (Ne.symm D.2.1) hL, r⟩, fun x y e => h2 _ _ (fun q => ?_) (F.keep x y e), F.above⟩, ?_⟩
  · have := D.2.2; rw [← q, e] at this; cases this
  · rw [hg]
    intro p hp
    rcases List.mem_append.mp hp with q | q
    · have P := N p (List.mem_append_left _ q); exact ⟨h2 _ _ (a p q) P.1, P.2⟩
    · rcases List.mem_cons.mp q with rfl | q
      · exact ⟨h1, D.2⟩
      · have P := N p (List.mem_append_right _ (.tail _ q)); exact ⟨h2 _ _ (b p q) P.1, P.2⟩
/-- a new object on the ledger, all else kept -/
theorem led_new {h : Heap} {o : Obj} (F : Fr h₀ L s.heap m) (N : News h₀ L s.heap news) (h1 : h.get? s.heap.objs.size = some o) (h2 : ∀ x y, s.heap.get? x = some y → h.get? x = some y) : Fr h₀ L h m ∧ News h₀ L h ((s.heap.objs.size, o) :: news) := by
  refine ⟨F.after h2, fun p hp => ?_⟩
  rcases List.mem_cons.mp hp with rfl | hp
  · obtain ⟨oL, _, _, hL, _⟩ := F.ns
    refine ⟨h1, Nat.ne_of_gt (Heap.lt_size hL), ?_⟩
    cases q : h₀.get? s.heap.objs.size with
    | none => rfl
    | some y => exact absurd (Heap.lt_size (F.keep _ _ q)) (Nat.lt_irrefl _)
  · exact ⟨h2 _ _ (N p hp).1, (N p hp).2⟩
theorem led_lt (N : News h₀ L s.heap news) : ∀ p ∈ news, p.1 < s.heap.objs.size := fun p hp => Heap.lt_size (N p hp).1
/-- ba[i:j] = bytes, the builder's array -/
theorem c_setN {ba : Addr} {arr b : Array UInt8} {t ti tj : Tok} {i j j' : Int} {out : List UInt8} {Q : Unit → Shared → Prop} (hg : A.guards = some []) (F : Fr h₀ L s.heap m) (N : News h₀ L s.heap news) (U : UpdF ba (AO arr) news g) (h : Has arr j out) (ej : j = j') (h0 : 0 ≤ i) (hs : (b.size : Int) = j - i) (hz : arr.size ≤ 4096)
    (k : ∀ h' arr', Has arr' i (b.toList ++ out) → arr'.size = arr.size → Fr h₀ L h' m → News h₀ L h' (g (AO arr')) → Q () { s with heap := h' }) :
    wpC (model prog w) A (setItem (.ref ba) (.ref s.heap.objs.size) (.bytes b t)) Q E { s with heap := s.heap.push { cls := .type "slice", data := .fields #[.int i ti, .int j' tj, .none] } } := by
  subst ej
  have hm : (ba, AO arr) ∈ news := by obtain ⟨pre, post, rfl, _⟩ := U.split; simp
  obtain ⟨g1, g2⟩ := has_set h h0 hs
  have hb := (N _ hm).1
  have hj := h.1
  have hj2 := h.2.1
  refine c_set_bytes (lo := some i) (hi := some j) (i := i) (j := j) hg (Heap.get?_push_of_some _ hb) (Heap.IsSliceOf.new _ _ _ _) (.int _ _) (.int _ _) (bounds_in h0 (by lia) hj2) (by lia) hs (by rw [sizeLine_eq]; lia) (by rw [g2, sizeLine_eq]; lia) fun h' h1 h2 => ?_
  obtain ⟨F', N'⟩ := led_upd (h := h') F N U h1 fun x y hx e => h2 x y hx (Heap.get?_push_of_some _ e)
  exact k h' _ g1 g2 F' N'
theorem ba_lenN {ba : Addr} {arr : Array UInt8} {Q : Value → Shared → Prop} (N : News h₀ L s.heap news) (hm : (ba, AO arr) ∈ news) (hz : arr.size ≤ 1099511627776) (k : Q (.int arr.size (s.toks + 1)) { s with toks := s.toks + 1 + 1 }) : wpAny (model prog w) A (call (.builtin "len") [.ref ba]) Q E s :=
  ba_len_gives (N _ hm).1 hz k
theorem so_fromK {a : Addr} {fmt : Array UInt8} {t : Tok} {pl : Sem Bool} {Q : Value × List Value → Shared → Prop} (X : K.In s.heap) (h : K.lookup a = some (SO fmt t)) (k : Q (.builtin "_struct.Struct.unpack_from", [.ref a]) s) : wpAny (model prog w) A (getMethod (.ref a) (PySem.Str.ofString "unpack_from") pl) Q E s := so_from (X _ _ h) k
theorem so_intoK {a : Addr} {fmt : Array UInt8} {t : Tok} {pl : Sem Bool} {Q : Value × List Value → Shared → Prop} (X : K.In s.heap) (h : K.lookup a = some (SO fmt t)) (k : Q (.builtin "_struct.Struct.pack_into", [.ref a]) s) : wpAny (model prog w) A (getMethod (.ref a) (PySem.Str.ofString "pack_into") pl) Q E s := so_into (X _ _ h) k
theorem so_fromN {a : Addr} {fmt : Array UInt8} {c : Char} {n : Nat} {t tp : Tok} {v : Value} {arr : Array UInt8} {p : Int} {Q : Value → Shared → Prop} (X : K.In s.heap) (F : Fr h₀ L s.heap m) (N : News h₀ L s.heap news) (h : K.lookup a = some (SO fmt t)) (hf : Fmt fmt c n) (hb : (∃ t, v = .bytes arr t) ∨ ∃ ba, v = .ref ba ∧ (ba, AO arr) ∈ news) (h0 : 0 ≤ p) (h1 : p + n ≤ arr.size) (hz : arr.size ≤ 16777216)
    (k : ∀ x h' tk k', Fr h₀ L h' m → News h₀ L h' ((x, { cls := .type "tuple", data := .seq #[.int (told c n (arr.extract p.toNat (p.toNat + n))) tk] }) :: news) → (∀ p ∈ news, p.1 < x) → Q (.ref x) { s with heap := h', toks := k' }) :
    wpAny (model prog w) A (call (.builtin "_struct.Struct.unpack_from") [.ref a, v, .int p tp]) Q E s :=
  so_unpack_from (X _ _ h) hf (hb.imp id fun ⟨ba, e, hm⟩ => ⟨ba, e, (N _ hm).1⟩) h0 h1 hz fun tk => k _ _ tk _ (F.push _) (N.push F _) (led_lt N)
theorem so_fromB {a : Addr} {fmt : Array UInt8} {c : Char} {n : Nat} {t tp : Tok} {v : Value} {arr : Array UInt8} {p : Int} {Q : Value → Shared → Prop} (X : K.In s.heap) (F : Fr h₀ L s.heap m) (N : News h₀ L s.heap news) (h : K.lookup a = some (SO fmt t)) (hf : Fmt fmt c n) (hb : BufIn s.heap v arr) (h0 : 0 ≤ p) (h1 : p + n ≤ arr.size) (hz : arr.size ≤ 16777216)
    (k : ∀ x h' tk k', Fr h₀ L h' m → News h₀ L h' ((x, { cls := .type "tuple", data := .seq #[.int (told c n (arr.extract p.toNat (p.toNat + n))) tk] }) :: news) → (∀ p ∈ news, p.1 < x) → Q (.ref x) { s with heap := h', toks := k' }) :
    wpAny (model prog w) A (call (.builtin "_struct.Struct.unpack_from") [.ref a, v, .int p tp]) Q E s :=
  so_unpack_from (X _ _ h) hf hb h0 h1 hz fun tk => k _ _ tk _ (F.push _) (N.push F _) (led_lt N)
theorem so_intoN {a ba : Addr} {fmt : Array UInt8} {c : Char} {n : Nat} {t tp tx : Tok} {arr : Array UInt8} {p x : Int} {Q : Value → Shared → Prop} (X : K.In s.heap) (F : Fr h₀ L s.heap m) (N : News h₀ L s.heap news) (U : UpdF ba (AO arr) news g) (h : K.lookup a = some (SO fmt t)) (hf : Fmt fmt c n) (h0 : 0 ≤ p) (h1 : p + n ≤ arr.size) (hz : arr.size ≤ 4096)
    (hlo : (if c.isLower then -(2 ^ (8 * n - 1)) else 0 : Int) ≤ x) (hhi : x ≤ (if c.isLower then 2 ^ (8 * n - 1) else 2 ^ (8 * n) : Int) - 1)
    (k : ∀ h', Fr h₀ L h' m → News h₀ L h' (g (AO (putAt arr p.toNat (Builtin.Struct.intBytes false n x)))) → Q .none { s with heap := h' }) :
    wpAny (model prog w) A (call (.builtin "_struct.Struct.pack_into") [.ref a, .ref ba, .int p tp, .int x tx]) Q E s := by
  have hm : (ba, AO arr) ∈ news := by obtain ⟨pre, post, rfl, _⟩ := U.split; simp
  refine so_pack_into (X _ _ h) hf (N _ hm).1 h0 h1 (by lia) hlo hhi fun h' e1 e2 => ?_
  obtain ⟨F', N'⟩ := led_upd (h := h') F N U e1 fun x y hx e => (e2.2 x hx).trans e
  exact k h' F' N'
theorem c_new_int {n : Int} {t : Tok} {Q : Value → Shared → Prop} (hg : A.guards = some []) (F : Fr h₀ L s.heap m) (N : News h₀ L s.heap news) (h0 : 0 ≤ n) (hz : n ≤ 1048576)
    (k : ∀ x h', Fr h₀ L h' m → News h₀ L h' ((x, AO (Array.replicate n.toNat 0)) :: news) → (∀ p ∈ news, p.1 < x) → Q (.ref x) { s with heap := h' }) : wpC (model prog w) A (call (.type "bytearray") [.int n t]) Q E s := by
  refine c_ba_int hg h0 hz fun h' h1 h2 => ?_
  obtain ⟨F', N'⟩ := led_new (h := h') F N h1 fun x y e => (h2.2 x (Nat.ne_of_lt (Heap.lt_size e))).trans (Heap.get?_push_of_some _ e)
  exact k _ _ F' N' (led_lt N)
theorem c_new_bytes {b : Array UInt8} {t : Tok} {Q : Value → Shared → Prop} (hg : A.guards = some []) (F : Fr h₀ L s.heap m) (N : News h₀ L s.heap news) (hz : b.size ≤ 16777216)
    (k : ∀ x h', Fr h₀ L h' m → News h₀ L h' ((x, AO b) :: news) → (∀ p ∈ news, p.1 < x) → Q (.ref x) { s with heap := h' }) : wpC (model prog w) A (call (.type "bytearray") [.bytes b t]) Q E s := by
  refine c_ba_bytes hg (by rw [sizeLine_eq]; exact hz) fun h' h1 h2 => ?_
  obtain ⟨F', N'⟩ := led_new (h := h') F N h1 fun x y e => (h2.2 x (Nat.ne_of_lt (Heap.lt_size e))).trans (Heap.get?_push_of_some _ e)
  exact k _ _ F' N' (led_lt N)
/-- b2[i:] = ba, as GrowByteBuffer does -/
theorem ba_setN {ba bb : Addr} {arr b : Array UInt8} {ti : Tok} {i : Int} {Q : Unit → Shared → Prop} (F : Fr h₀ L s.heap m) (N : News h₀ L s.heap news) (U : UpdF ba (AO arr) news g) (hm2 : (bb, AO b) ∈ news) (hne : ba ≠ bb) (h0 : 0 ≤ i) (hs : (b.size : Int) = arr.size - i) (hz : arr.size ≤ 1048576)
    (k : ∀ h' arr', Has arr' i b.toList → arr'.size = arr.size → Fr h₀ L h' m → News h₀ L h' (g (AO arr')) → Q () { s with heap := h' }) :
    wpAny (model prog w) A (setItem (.ref ba) (.ref s.heap.objs.size) (.ref bb)) Q E { s with heap := s.heap.push { cls := .type "slice", data := .fields #[.int i ti, .none, .none] } } := by
  refine @Mine.hush _ (by
  have hm : (ba, AO arr) ∈ news := by obtain ⟨pre, post, rfl, _⟩ := U.split; simp
  have ha : Has arr (arr.size : Nat) [] := ⟨by lia, by lia, by simp⟩
  obtain ⟨g1, g2⟩ := has_set (b := b) (i := i) ha h0 hs
  rw [List.append_nil] at g1
  have hb := (N _ hm).1
  refine ba_set_ba (lo := some i) (hi := none) (i := i) (j := arr.size) (Heap.get?_push_of_some _ hb) (Heap.get?_push_of_some _ (N _ hm2).1) hne (Heap.IsSliceOf.new _ _ _ _) (.int _ _) .none (bounds_from h0 (by lia)) (by lia) hs (by rw [g2, sizeLine_eq]; lia) fun h' h1 h2 => ?_
  obtain ⟨F', N'⟩ := led_upd (h := h') F N U h1 fun x y hx e => (h2.2 x hx).trans (Heap.get?_push_of_some _ e)
  exact k h' _ g1 g2 F' N') ?_
  intro q f
  simpa using Mine.hushed f 5 fun n i => i
theorem c_callWith_T {env : Env} {pos : Pos} {T : String} {e : Expr} {rest : List Expr} {Q : Value → Shared → Prop} (h : wpAny (model prog w) A (spliced (backTo pos (starEach (e :: rest) env))) (fun vs s₁ => wpC (model prog w) A (call (.type T) vs) Q E s₁) E s)
    (he : starEach (e :: rest) env = (false, eval e env) :: starEach rest env := by rfl) (hplain : (backTo pos (starEach rest env)).any (·.1) = false := by rfl) :
    wpC (model prog w) A (callWith pos (.type T) [] (backTo pos (starEach (e :: rest) env)) (backToKw pos (keywordEach [] env))) Q E s := by
  rw [he] at h ⊢
  exact c_callWith (P := fun _ => True) (by show ((false || (backTo pos (starEach rest env)).any (·.1)) || false) = false; rw [hplain]; rfl) (fun h _ => ⟨.machine, .inr (.inl rfl), Looks.of_pure rfl⟩)
    (of_any (evalArgs_plain (wpAny_mono h (fun vs s₁ z => ⟨trivial, z⟩) fun _ _ z => z)))
end
theorem zeros_mul {prog : Program} {w : World} {A : Around} {E : Value → Shared → Prop} {s : Shared} {n : Int} {t u : Tok} {Q : Value → Shared → Prop} (h0 : 0 ≤ n) (hn : n ≤ 4096) (h : ∀ t' k, Q (.bytes (Array.replicate n.toNat 0) t') { s with toks := k }) :
    wpAny (model prog w) A (binaryOp .Mult (.bytes #[0] t) (.int n u)) Q E s := by
  refine bytes_mul_any (b := [0]) (by simp) (by lia) (by lia) (by simp) fun t' k => ?_
  rw [show ((List.replicate n.toNat [(0 : UInt8)]).flatten).toArray = Array.replicate n.toNat 0 from by
    apply Array.ext'
    simp]
  exact h t' k
theorem news_sub {h₀ h : Heap} {L : Addr} {l l' rest : List (Addr × Obj)} (N : News h₀ L h (l ++ rest)) (hs : ∀ p ∈ l', p ∈ l) : News h₀ L h (l' ++ rest) := fun p hp => by
  rcases List.mem_append.mp hp with e | e
  · exact N p (List.mem_append_left _ (hs p e))
  · exact N p (List.mem_append_right _ e)
theorem dis_sub {l l' rest : List (Addr × Obj)} (D : ∀ p ∈ l, ∀ q ∈ rest, p.1 ≠ q.1) (hs : ∀ p ∈ l', p ∈ l) : ∀ p ∈ l', ∀ q ∈ rest, p.1 ≠ q.1 := fun p hp => D p (hs p hp)
theorem sub1 {a : Addr × Obj} {l : List (Addr × Obj)} (h1 : a ∈ l) : ∀ p ∈ [a], p ∈ l := List.forall_mem_cons.mpr ⟨h1, List.forall_mem_nil _⟩
theorem sub2 {a b : Addr × Obj} {l : List (Addr × Obj)} (h1 : a ∈ l) (h2 : b ∈ l) : ∀ p ∈ [a, b], p ∈ l := List.forall_mem_cons.mpr ⟨h1, sub1 h2⟩
theorem sub3 {a b c : Addr × Obj} {l : List (Addr × Obj)} (h1 : a ∈ l) (h2 : b ∈ l) (h3 : c ∈ l) : ∀ p ∈ [a, b, c], p ∈ l := List.forall_mem_cons.mpr ⟨h1, sub2 h2 h3⟩
theorem sub4 {a b c d : Addr × Obj} {l : List (Addr × Obj)} (h1 : a ∈ l) (h2 : b ∈ l) (h3 : c ∈ l) (h4 : d ∈ l) : ∀ p ∈ [a, b, c, d], p ∈ l := List.forall_mem_cons.mpr ⟨h1, sub3 h2 h3 h4⟩
theorem sub5 {a b c d e : Addr × Obj} {l : List (Addr × Obj)} (h1 : a ∈ l) (h2 : b ∈ l) (h3 : c ∈ l) (h4 : d ∈ l) (h5 : e ∈ l) : ∀ p ∈ [a, b, c, d, e], p ∈ l := List.forall_mem_cons.mpr ⟨h1, sub4 h2 h3 h4 h5⟩
theorem news3 {h₀ h : Heap} {L b dx ba : Addr} {o1 o2 o3 : Obj} {rest : List (Addr × Obj)} (N : News h₀ L h ([(b, o1), (dx, o2), (ba, o3)] ++ rest)) (h12 : o1.cls ≠ o2.cls) (h13 : o1.cls ≠ o3.cls) (h23 : o2.cls ≠ o3.cls) : @Ne Nat b dx ∧ @Ne Nat b ba ∧ @Ne Nat dx ba :=
  ⟨news_ne N (p := (b, o1)) (q := (dx, o2)) (.head _) (.tail _ (.head _)) fun e => h12 (congrArg Obj.cls e), news_ne N (p := (b, o1)) (q := (ba, o3)) (.head _) (.tail _ (.tail _ (.head _))) fun e => h13 (congrArg Obj.cls e),
    news_ne N (p := (dx, o2)) (q := (ba, o3)) (.tail _ (.head _)) (.tail _ (.tail _ (.head _))) fun e => h23 (congrArg Obj.cls e)⟩
end Mine

-- EntV
open PySem PySem.W PyProof.Rows
set_option Elab.async false
namespace Mine
open PySem.Calls Builtin Builtin.ObjectAttr
set_option maxRecDepth 100000
set_option maxHeartbeats 4000000
section
variable {prog : Program} {w : World} {A₀ A : Around} {s : Shared} {base h₀ : Heap} {outer : List Env} {L : Addr} {m mg mb : Str → Option Value} {env : Env} {mine rest : List (Addr × Obj)} {K : Frag} {p : Program} {loose : List Str} {mean : ExcName → Option Value}
  {R : Result → Shared → Prop} {name qual : Str} {params : Arguments} {body : List Stmt} {scope : Scope} {dV kV doc pm cdv ct oc : Value} {an od : Option Addr} {osl : Array (Option Value)} {f : Addr} {args : Args} {binds : List (Str × Value)}
/-- the same, a def with *args -/
theorem defCV {vs : List Value} {g₁ : Addr → Option (List (Str × Value))} {binds : Addr → List (Str × Value)} (B : Below A₀ base outer h₀) (F : Fr h₀ L s.heap m) (X₀ : K.In h₀) (N : News h₀ L s.heap (mine ++ rest)) (hdis : ∀ q ∈ rest, ∀ p ∈ mine, q.1 ≠ p.1) (T : Top p loose mean mg mb h₀) (hA : A.frames = some (env :: outer)) (hf : env.frame = some L) (hke : env.scope.kind = .function)
    (ho : K.lookup f = some ⟨oc, od, .func (fnOf name qual params body scope dV kV doc pm an cdv ct), osl⟩) (hcd : codeIn K cdv qual = true) (hroom : A.depth < recursionLimit)
    (hv : args.pos.drop (params.posonlyargs.length + params.args.length) = vs)
    (hp : peek1 K ⟨prog, w.params⟩ (bindArgs (fnOf name qual params body scope dV kV doc pm an cdv ct) args) = some (({ cls := .type "tuple", data := .seq vs.toArray } : Obj), g₁))
    (hg : ∀ D, g₁ D = some (binds D)) (hloc : ∀ D, ∀ y ∈ binds D, scope.names.lookup y.1 = some .local)
    (h : ∀ D g L' h₁, Fr h₀ L g m → Fr g L' h₁ (fun y => (binds D).reverse.lookup y) → News g L' h₁ ((D, ({ cls := .type "tuple", data := .seq vs.toArray } : Obj)) :: mine) → Below A base (env :: outer) g → K.In g → Top p loose mean mg mb g → (∀ p ∈ mine, p.1 < L') → (∀ p ∈ mine, p.1 < D) →
      wpC (model prog w) (A.deeper (envOf qual scope L' f cdv)) (execs body (envOf qual scope L' f cdv))
        (fun fl s' => LeaveM h₀ L m g rest R (match fl with | .ret v => v | _ => .none) s')
        (fun e s' => wpC (model prog w) (A.deeper (envOf qual scope L' f cdv)) (leaving (envOf qual scope L' f cdv) e) (fun _ s'' => R (.error e) s'') (fun e' s'' => R (.error e') s'') s')
        { s with heap := h₁, toks := s.toks + (binds D).length })
    (hco : scope.isCoroutine = false) (hgen : scope.isGenerator = false) (hk : scope.kind = .function)
    (hcell : ∀ x ∈ scope.names, x.2 ≠ .cell) : codeC (model prog w) A (.call (.ref f) args) R s := by
  refine @Mine.hush _ (by
  have _ := hv
  have X := X₀.keeps F.keep
  refine c_function (fd := fnOf name qual params body scope dV kV doc pm an cdv ct) hroom (X _ _ ho) rfl hco hgen rfl (codeRec_of X hcd) ?_
  refine wp_of_peek1 (o := ({ cls := .type "tuple", data := .seq vs.toArray } : Obj)) F N X rfl (r := binds) (fun D h' F' N' l => ?_) _ g₁ hp hg
  obtain ⟨FG, BG, st, lv⟩ := groundM (R := R) (s := { s with heap := h' }) (mine := (D, ({ cls := .type "tuple", data := .seq vs.toArray } : Obj)) :: mine) (rest := rest) B F' N' (fun q hq p hp => by
    rcases List.mem_cons.mp hp with rfl | hp
    · exact Nat.ne_of_lt (l q (List.mem_append_right _ hq))
    · exact hdis q hq p hp) hA hf hke
  have N₁ : News h₀ L h' ((D, ({ cls := .type "tuple", data := .seq vs.toArray } : Obj)) :: mine) := fun p hp => N' p (by
    rcases List.mem_cons.mp hp with rfl | hp
    · exact .head _
    · exact .tail _ (List.mem_append_left _ hp))
  refine wpAny_newFunctionEnv (s := { s with heap := h' }) hcell (hloc D) (fun h₁ hns hsb => ⟨(T.nolimit.keeps F'.keep).fresh _ hsb, c_func ?_⟩) hk
  have hk₁ : ∀ b o, h'.get? b = some o → h₁.get? b = some o := fun b o e => hsb.extBut b o (Nat.ne_of_lt (Heap.lt_size e)) (Heap.get?_push_of_some _ e)
  exact c_mono (h D _ h'.objs.size h₁ FG ⟨hns, fun b o e => hk₁ b o (of_hideAll _ e), Nat.le_of_eq (hideAll_size _ _)⟩
    (fun p hp => ⟨hk₁ _ _ (N₁ p hp).1, Nat.ne_of_lt (Heap.lt_size (N₁ p hp).1), hideAll_none _ (List.mem_map_of_mem hp)⟩) BG (X₀.keeps st) (T.keeps st) (fun p hp => Heap.lt_size (N₁ p (.tail _ hp)).1) (fun p hp => l p (List.mem_append_left _ hp))) (fun fl s' hl => lv _ _ hl) fun _ _ y => y) ?_
  intro q f
  simpa using Mine.hushed f 5 fun n i => i
end

theorem c_operating {M : Model} {A : Around} {E : Value → Shared → Prop} {s : Shared} {vs : List Value} {m : Sem Value} {Q : Value → Shared → Prop} (h : wpC M A m Q E s) : wpC M A (operate vs m) Q E s :=
  fun Γ p hΓ hC => by rw [Sem.wp_operate]; exact h Γ p hΓ hC
theorem c_star {P : Heap → Prop} {M : Model} {A : Around} {E : Value → Shared → Prop} {s : Shared} {pos : Pos} {f : Value} {first : List Value} {args : List (Bool × Sem Value)} {Q : Value → Shared → Prop} (hst : args.any (·.1) = true)
    (hk : ∀ h, P h → ∃ k, (k = Keeper.frame ∨ k = Keeper.machine ∨ k = Keeper.boundFrame) ∧ Looks M h (keeperOf f) k)
    (h : wpC M A (evalArgs f true args []) (fun a s₁ => P s₁.heap ∧ wpC M A (call f (first ++ a.pos) a.kw) Q E s₁) E s) : wpC M A (callWith pos f first args []) Q E s := by
  refine @Mine.hush _ (by
  unfold callWith
  refine c_bind (c_holding (c_mono h (fun a s₁ h₁ => c_bind (c_standAt ?_)) fun _ _ x => x))
  obtain ⟨k, hk', L⟩ := hk _ h₁.1
  simp only [hst, Bool.true_or]
  refine c_step (L.here ?_)
  have tail : ∀ {t : Sem Value}, wpC M A t Q E s₁ → wpC M A (t >>= fun r => holding [r] point >>= fun _ => pure r) Q E s₁ :=
    fun ht => c_bind (c_mono ht (fun r s₂ hr => c_bind (c_holding (c_point (c_pure hr)))) fun _ _ x => x)
  have marked (mk : Value) : wpC M A (callMarked mk f (first ++ a.pos) a.kw) Q E s₁ := by unfold callMarked; exact c_keep h₁.2
  rcases hk' with rfl | rfl | rfl <;> dsimp only <;> first | exact tail (marked _) | exact tail (c_operating h₁.2)) ?_
  intro q f
  simpa using Mine.hushed f 5 fun n i => i
theorem c_callWith_S {K : Frag} {h₀ : Heap} {M : Model} {A : Around} {E : Value → Shared → Prop} {s : Shared} {env : Env} {pos : Pos} {f : Value} {first : List Value} {e : Expr} {rest : List Expr} {Q : Value → Shared → Prop} (_X : K.In h₀) (hk : keepIn K f = true)
    (h : wpAny M A (spliced (backTo pos (starEach (e :: rest) env))) (fun vs s₁ => K.In s₁.heap ∧ wpC M A (call f (first ++ vs)) Q E s₁) E s)
    (he : starEach (e :: rest) env = (false, eval e env) :: starEach rest env := by rfl) (hst : (backTo pos (starEach rest env)).any (·.1) = true := by rfl) :
    wpC M A (callWith pos f first (backTo pos (starEach (e :: rest) env)) (backToKw pos (keywordEach [] env))) Q E s := by
  rw [he] at h ⊢
  exact c_star (by show (false || (backTo pos (starEach rest env)).any (·.1)) = true; rw [hst]; rfl) (keeps_K hk) (of_any (evalArgs_plain h))
theorem c_methObj {prog : Program} {w : World} {A : Around} {s : Shared} {R : Result → Shared → Prop} {q g : Addr} {self : Value} {pos : List Value} {kw : List (Str × Value)} (ho : s.heap.get? q = some (methodObj (.ref g) self))
    (h : codeC (model prog w) A (.call (.ref g) ⟨self :: pos, kw⟩) R s) : codeC (model prog w) A (.call (.ref q) ⟨pos, kw⟩) R s := by
  obtain ⟨hh, gg, dr, t, os⟩ := s
  refine c_tree rfl (of_any ?_)
  show wpAny _ _ (callAny (.ref q) _) _ _ _
  dsimp only at ho
  exact nd_load ho (wpAny_pure ⟨rfl, rfl, h⟩)
theorem c_call_meth {prog : Program} {w : World} {A : Around} {E : Value → Shared → Prop} {s : Shared} {h₀ : Heap} {L : Addr} {news : List (Addr × Obj)} {Q : Value → Shared → Prop} {q g : Addr} {self : Value} {pos : List Value} {kw : List (Str × Value)} (N : News h₀ L s.heap news) (hq : (q, methodObj (.ref g) self) ∈ news)
    (h : codeC (model prog w) A (.call (.ref g) ⟨self :: pos, kw⟩) (wants Q E) s) : wpC (model prog w) A (call (.ref q) pos kw) Q E s := c_call (c_methObj (N _ hq).1 h)
theorem c_callWith_MS {K : Frag} {h₀ : Heap} {L : Addr} {news : List (Addr × Obj)} {q g : Addr} {self : Value} {M : Model} {A : Around} {E : Value → Shared → Prop} {s : Shared} {env : Env} {pos : Pos} {first : List Value} {e : Expr} {rest : List Expr} {Q : Value → Shared → Prop} (_X : K.In h₀) (_N : News h₀ L s.heap news) (_q : (q, methodObj (.ref g) self) ∈ news) (hf : fnIn K g = true)
    (h : wpAny M A (spliced (backTo pos (starEach (e :: rest) env))) (fun vs s₁ => MethP K q g self s₁.heap ∧ wpC M A (call (.ref q) (first ++ vs)) Q E s₁) E s)
    (he : starEach (e :: rest) env = (false, eval e env) :: starEach rest env := by rfl) (hst : (backTo pos (starEach rest env)).any (·.1) = true := by rfl) :
    wpC M A (callWith pos (.ref q) first (backTo pos (starEach (e :: rest) env)) (backToKw pos (keywordEach [] env))) Q E s := by
  rw [he] at h ⊢
  exact c_star (by show (false || (backTo pos (starEach rest env)).any (·.1)) = true; rw [hst]; rfl) (keeps_M hf) (of_any (evalArgs_plain h))
theorem c_MethodCallS {M : Model} {A : Around} {E : Value → Shared → Prop} {s : Shared} {env : Env} {o : Expr} {name : Str} {apos pos : Pos} {args : List Expr} {kws : List Keyword} {Q : Value → Shared → Prop}
    (h : wpAny M A (eval o env) (fun ov s₁ => wpAny M A (getAttr ov name true) (fun f s₂ => wpC M A (callWith pos f [] (backTo pos (starEach args env)) (backToKw pos (keywordEach kws env))) Q E s₂) E s₁) E s)
    (he : eval (.Call (.Attribute o name apos) args kws pos) env = (do
      let ov ← eval o env
      standAt apos.atName
      let (f, first) ← holding [ov] (do pure (← getAttr ov name true, []))
      callWith pos f first (backTo pos (starEach args env)) (backToKw pos (keywordEach kws env))) := by rfl) : wpC M A (eval (.Call (.Attribute o name apos) args kws pos) env) Q E s := by
  rw [he]
  exact c_step (wpAny_mono h (fun ov s₁ h₁ => c_bind (c_standAt (c_step (wpAny_holding (wpAny_bind (wpAny_mono h₁ (fun f s₂ h₂ => wpAny_pure h₂) fun _ _ x => x)))))) fun _ _ x => x)
theorem findObj_fnS {K : Frag} {C f : Addr} {od : Option Obj} {name : Str} {g : Value} (hh : hasDictIn K C = false) (hs : isClsIn K C = true) (ha : findIn K (.ref C) name = some (some (.ref f))) (hg : specialIn K (.ref f) "__get__" = some (some g)) (ht : takesIn K (.ref f) = some false) (hc : copiedNames.contains name = false) :
    findObj K C od name = some (.bind g (.ref f)) := by
  obtain ⟨cd, hc'⟩ := Option.isSome_iff_exists.mp hs
  have hd : cd.hasDict = false := by
    unfold hasDictIn at hh
    rw [hc'] at hh
    exact hh
  unfold findObj
  have ho : PySem.W.ownOf cd od name = some none := by unfold PySem.W.ownOf; rw [if_neg (by rw [hd]; decide)]
  rw [hc', Option.bind_some, ha, Option.bind_some]
  simp only [hg, ht, Option.bind_some, ho, hc, Bool.false_and, Bool.false_eq_true, if_false]
theorem kbm_boundS {prog : Program} {w : World} {A : Around} {E : Value → Shared → Prop} {s : Shared} {K : Frag} {x C f L : Addr} {ox : Obj} {od : Option Obj} {name : Str} {expr : Bool} {h₀ : Heap} {m : Str → Option Value} {news : List (Addr × Obj)} {Q : Value → Shared → Prop} (F : Fr h₀ L s.heap m) (X₀ : K.In h₀) (N : News h₀ L s.heap news) (I : InstAt s.heap x ox C od) (hg : plainGet K C name = true) (hh : hasDictIn K C = false) (hs : isClsIn K C = true) (ha : findIn K (.ref C) name = some (some (.ref f))) (hf : isFn K (.ref f) = true)
    (hgf : specialIn K (.ref f) "__get__" = some (some (.builtin "function.__get__"))) (ht : takesIn K (.ref f) = some false) (hc : copiedNames.contains name = false)
    (h : ∀ q h', Fr h₀ L h' m → News h₀ L h' ((q, methodObj (.ref f) (.ref x)) :: news) → (∀ p ∈ news, p.1 < q) → Q (.ref q) { s with heap := h', toks := s.toks + 1 }) : wpAny (model prog w) A (getAttr (.ref x) name expr) Q E s :=
  get_bind (X₀.keeps F.keep) I (plainGet_of hg).1 (findObj_fnS hh hs ha hgf ht hc) (plainGet_of hg).2
    (wpAny_call (fn_get (s := { s with toks := s.toks + 1 }) (X₀.keeps F.keep) (beq_iff_eq.mp hf) (handed_on rfl (h s.heap.objs.size _ (F.push _) (N.push F _) fun p hp => Heap.lt_size (N p hp).1))))
end Mine

-- Pl1
namespace Mine
open PySem
/-- how many zeros bring x up to a multiple of sz -/
def padOf (sz x : Int) : Nat := ((-x) % sz).toNat
theorem padOf_and {sz x : Int} (hs : sz = 2 ∨ sz = 4) : Builtin.bitAnd (Builtin.bitNot x + 1) (sz - 1) = (padOf sz x : Nat) := by
  have e : Builtin.bitNot x + 1 = -x := by unfold Builtin.bitNot; lia
  rw [e]
  unfold padOf
  rcases hs with rfl | rfl
  · rw [show ((2 : Int) - 1) = 1 from rfl, PyProof.Rows.bitAnd_m1]; lia
  · rw [show ((4 : Int) - 1) = 3 from rfl, PyProof.Rows.bitAnd_m2]; lia
theorem padOf_lt {sz x : Int} (hs : 0 < sz) : (padOf sz x : Int) < sz := by
  unfold padOf
  have := Int.emod_lt_of_pos (-x) hs
  have := Int.emod_nonneg (-x) (Int.ne_of_gt hs)
  lia
theorem has_grow {arr arr' : Array UInt8} {k h : Int} {out : List UInt8} (g : Has arr' k arr.toList) (H : Has arr h out) : Has arr' (h + k) out := by
  obtain ⟨a0, a1, a2⟩ := g
  obtain ⟨b0, b1, b2⟩ := H
  have hl := congrArg List.length a2
  rw [List.length_drop, Array.length_toList, Array.length_toList] at hl
  refine ⟨by lia, by lia, ?_⟩
  rw [show (h + k).toNat = k.toNat + h.toNat from by lia, ← List.drop_drop, a2, b2]
/-- what lies behind a Prep -/
def pd (sz add : Int) (out : List UInt8) : List UInt8 := List.replicate (padOf sz (out.length + add)) 0 ++ out
theorem pd_len {sz add : Int} {out : List UInt8} (h : 0 < sz) : (out.length : Int) ≤ (pd sz add out).length ∧ ((pd sz add out).length : Int) < out.length + sz := by
  have := padOf_lt (x := out.length + add) h
  unfold pd
  rw [List.length_append, List.length_replicate]
  lia
theorem pd_pd {ne : Int} {out : List UInt8} : pd 2 (2 * ne) (pd 4 (2 * ne) out) = pd 4 (2 * ne) out := by
  have e : padOf 2 ((pd 4 (2 * ne) out).length + 2 * ne) = 0 := by
    unfold pd padOf
    rw [List.length_append, List.length_replicate]
    lia
  rw [pd, e]; rfl
/-- an int as Struct lays it -/
def lay (n : Nat) (x : Int) : List UInt8 := (Builtin.Struct.intBytes false n x).toList
theorem lay_length {n : Nat} {x : Int} : (lay n x).length = n := by rw [lay, Array.length_toList]; exact intBytes_size _ _
theorem lay_app {n : Nat} {x : Int} {out : List UInt8} : ((lay n x ++ out).length : Int) = out.length + n := by rw [List.length_append, lay_length]; lia
theorem has_lay {arr : Array UInt8} {hd : Int} {out : List UInt8} {p : Int} {n : Nat} {x : Int} (h : Has arr hd out) (h0 : 0 ≤ p) (hs : p + n = hd) : Has (putAt arr p.toNat (Builtin.Struct.intBytes false n x)) p (lay n x ++ out) ∧ (putAt arr p.toNat (Builtin.Struct.intBytes false n x)).size = arr.size := has_put h h0 (by rw [intBytes_size]; exact hs)
end Mine

-- Rul6
open PySem PySem.W PyProof.Rows
set_option Elab.async false
namespace Mine
open PySem.Calls
set_option maxRecDepth 100000
set_option maxHeartbeats 4000000
/-- the octets of a text -/
def enc (x : Str) : Array UInt8 := x.cps.foldl (fun acc y => acc ++ (Str.utf8Of y).toArray) #[]
theorem findIdx_none {p : Nat → Bool} {a : Array Nat} (h : ∀ c ∈ a, p c = false) : a.findIdx? p = none := by
  rw [Array.findIdx?_eq_none_iff]
  exact fun x hx => h x hx
theorem loop2 {σ : Type} {body : Nat → σ → Sem (ForInStep σ)} {init fin : σ} {n : Nat} (h0 : n = 0 → init = fin) (h1 : ∀ k, 0 < n → body k init = pure (.yield fin)) (h2 : ∀ k, body k fin = pure (.done fin)) : (forIn (List.range' 0 n) init body : Sem σ) = pure fin := by
  cases n with
  | zero => rw [h0 rfl]; rfl
  | succ n =>
    rw [List.range'_succ, List.forIn_cons, h1 _ (by omega), pure_bind]
    cases n with
    | zero => rfl
    | succ n =>
      dsimp only
      rw [List.range'_succ, List.forIn_cons, h2, pure_bind]
open Builtin._codecs in
theorem narrow_eq {id : String} {v : Value} {x : Str} (h : ∀ c ∈ x.cps, Str.isSurrogate c = false) (hz : (enc x).size ≤ 16777216) : encodeNarrow id utf8Codec none v x = pure (enc x) := by
  refine @Mine.hush _ (by
  unfold encodeNarrow
  obtain ⟨cps⟩ := x
  have hb : ∀ c ∈ cps, utf8Codec.bad c = false := h
  simp only [Std.Legacy.Range.forIn_eq_forIn_range']
  have hn : ([:({ cps := cps } : Str).length] : Std.Legacy.Range).size = cps.size := by simp [Std.Legacy.Range.size, Str.length]
  rw [hn, loop2 (fin := (cps.size, enc ⟨cps⟩, {}))]
  · rfl
  · intro e
    have : cps = #[] := Array.eq_empty_of_size_eq_zero e
    subst this
    rfl
  · intro k hk
    dsimp only
    rw [if_neg (by simp [sizeLine_eq])]
    have e0 : cps[0]? = some cps[0] := Array.getElem?_eq_getElem hk
    rw [e0]
    dsimp only
    rw [if_pos (by rw [hb _ (Array.getElem_mem hk)]; rfl)]
    have e1 : cps.extract 0 = cps := by simp
    rw [e1, findIdx_none hb]
    simp only [Option.getD_none, e1, Nat.zero_add]
    rfl
  · intro k
    dsimp only
    rw [if_neg (by rw [sizeLine_eq]; omega)]
    rw [show cps[cps.size]? = none by simp]) ?_
  intro q f
  simpa using Mine.hushed f 5 fun n i => i
open Builtin._codecs in
theorem str_encode {prog : Program} {w : World} {A : Around} {E : Value → Shared → Prop} {s : Shared} {x : Str} {t u : Tok} {Q : Value → Shared → Prop} (h : ∀ c ∈ x.cps, Str.isSurrogate c = false) (hz : (enc x).size ≤ 1048576) (k : ∀ t' tk, Q (.bytes (enc x) t') { s with toks := tk }) :
    wpAny (model prog w) A (call (.builtin "str.encode") [.str x t, .str (Str.ofString "utf-8") u]) Q E s := by
  refine wpAny_call_entry F.slot_str_encode (typeIs_str _ _ _) F.entry_str_encode ?_ (F.args_str_encode_2 _ _)
  have e : (Builtin.«str.encode» ⟨[.str x t, .str (Str.ofString "utf-8") u], []⟩ : Sem _) = (do ret (← encodeRoad "str.encode" (.str x t) x (Str.ofString "utf-8") none)) := by kernel_rfl
  rw [e, encodeRoad_utf8, narrow_eq h (by omega)]
  refine wpAny_bind (wpAny_bind (wpAny_pure (wpAny_mkBytes ?_ (by rw [sizeLine_eq]; omega))))
  exact wpAny_pure ⟨_, rfl, k _ _⟩
theorem str_encode_get {prog : Program} {w : World} {A : Around} {E : Value → Shared → Prop} {s : Shared} {x : Str} {t : Tok} {pl : Sem Bool} {Q : Value × List Value → Shared → Prop} (k : Q (.builtin "str.encode", [.str x t]) s) : wpAny (model prog w) A (getMethod (.str x t) (Str.ofString "encode") pl) Q E s :=
  getMethod_builtin (typeIs_str _ _ _) F.plainAttrs_str F.slot_str_encode F.type_str_encode (fun b e => by cases e) k
end Mine

-- Dfs
open PySem PySem.W PyProof.Rows
set_option Elab.async false
namespace Mine
open PySem.Calls
set_option maxRecDepth 100000
set_option maxHeartbeats 3000000
/-- the methods that reach bytearray(..) -/
def isDirty (x : Str) : Bool := ([Str.ofString "Prep", Str.ofString "Pad", Str.ofString "GrowByteBuffer", Str.ofString "PrependSOffsetTRelative", Str.ofString "PrependUOffsetTRelative", Str.ofString "StartVector", Str.ofString "CreateString", Str.ofString "CreateByteVector", Str.ofString "WriteVtable", Str.ofString "EndObject", Str.ofString "_Builder__Finish", Str.ofString "Finish", Str.ofString "FinishSizePrefixed", Str.ofString "Prepend", Str.ofString "PrependSlot", Str.ofString "PrependUint32Slot", Str.ofString "PrependInt32", Str.ofString "PrependUOffsetTRelativeSlot", Str.ofString "PrependUint16", Str.ofString "PrependVOffsetT"] : List Str).any fun y => y == x
/-- the defs that reach bytearray(..) -/
def isDirtyAd (a : Nat) : Bool := ([734, 348, 376, 383, 390, 411, 418, 425, 432, 439, 461, 468, 504, 512, 520, 527, 534, 569, 611, 646, 681, 702, 789, 794, 801] : List Nat).any fun y => y == a
section
variable {M : Model} {A : Around} {E : Value → Shared → Prop} {s : Shared} {env : Env} {o : Expr} {name : Str} {ap p pos : Pos} {args : List Expr} {kws : List Keyword}
theorem of_anyD {a : Nat} {vs : List Value} {kw : List (Str × Value)} {Q : Value → Shared → Prop} (_hd : isDirtyAd a = false) (h : wpAny M A (call (.ref a) vs kw) Q E s) : wpC M A (call (.ref a) vs kw) Q E s := of_any h
theorem c_ExprD {Q : Flow → Shared → Prop} (_hd : isDirty name = true) (h : wpC M A (eval (.Call (.Attribute o name ap) args kws p) env) (fun v s' => match v with | .ref _ => False | _ => Q .next s') E s)
    (hi : interactive env = false := by rfl) (hs : swapsWith (.Call (.Attribute o name ap) args kws p) none pos.line env = pure false := by rfl) : wpC M A (exec (.Expr (.Call (.Attribute o name ap) args kws p) pos) env) Q E s := c_Expr h hi hs
theorem c_ReturnD {Q : Flow → Shared → Prop} (_hd : isDirty name = true) (h : wpC M A (eval (.Call (.Attribute o name ap) args kws p) env) (fun v => Q (.ret v)) E s) : wpC M A (exec (.Return (some (.Call (.Attribute o name ap) args kws p)) pos) env) Q E s := c_Return h
theorem c_AssignD {x : Str} {pos' : Pos} {Q : Flow → Shared → Prop} (_hd : isDirty name = true) (h : wpC M A (eval (.Call (.Attribute o name ap) args kws p) env) (fun v s₁ => wpAny M A (storeName env x v) (fun _ => Q .next) E s₁) E s)
    (hs : swapsWith (.Call (.Attribute o name ap) args kws p) (some (.Name x pos')) pos.line env = pure false := by rfl) : wpC M A (exec (.Assign [.Name x pos'] (.Call (.Attribute o name ap) args kws p) pos) env) Q E s := c_Assign_Name h hs
theorem c_MethodCallD {pl : Sem Bool} {Q : Value → Shared → Prop} (_hd : isDirty name = true)
    (h : wpAny M A (eval o env) (fun ov s₁ => wpAny M A (getMethod ov name pl) (fun fx s₂ => wpC M A (callWith p fx.1 fx.2 (backTo p (starEach args env)) (backToKw p (keywordEach kws env))) Q E s₂) E s₁) E s)
    (he : eval (.Call (.Attribute o name ap) args kws p) env = (do
      let ov ← eval o env
      standAt ap.atName
      let (f, first) ← holding [ov] (getMethod ov name pl)
      callWith p f first (backTo p (starEach args env)) (backToKw p (keywordEach kws env))) := by rfl) : wpC M A (eval (.Call (.Attribute o name ap) args kws p) env) Q E s := c_MethodCall h he
theorem c_MethodCallSD {Q : Value → Shared → Prop} (_hd : isDirty name = true)
    (h : wpAny M A (eval o env) (fun ov s₁ => wpAny M A (getAttr ov name true) (fun f s₂ => wpC M A (callWith p f [] (backTo p (starEach args env)) (backToKw p (keywordEach kws env))) Q E s₂) E s₁) E s)
    (he : eval (.Call (.Attribute o name ap) args kws p) env = (do
      let ov ← eval o env
      standAt ap.atName
      let (f, first) ← holding [ov] (do pure (← getAttr ov name true, []))
      callWith p f first (backTo p (starEach args env)) (backToKw p (keywordEach kws env))) := by rfl) : wpC M A (eval (.Call (.Attribute o name ap) args kws p) env) Q E s := c_MethodCallS h he
end
noncomputable abbrev LO : List Str := looseW Mine.hd.view_39
      [Str.ofString "uint8", Str.ofString "uint16", Str.ofString "uint32", Str.ofString "int32", Str.ofString "uoffset",
        Str.ofString "soffset", Str.ofString "Uint8Flags", Str.ofString "Uint16Flags", Str.ofString "Uint32Flags",
        Str.ofString "Int32Flags", Str.ofString "Get_encode", Str.ofString "Table", Str.ofString "string_types",
        Str.ofString "binary_types", Str.ofString "Builder", Str.ofString "GetBufferIdentifier",
        Str.ofString "BufferHasIdentifier"]
/-- a Builder -/
abbrev BO (dx ba : Addr) (v1 : Value) (fin : Bool) (hd : Int) (t : Tok) (ma : Int) (t' : Tok) (nest : Bool) (v7 : Value) (v9 : Option Value) (dv : Addr) : Obj :=
  { cls := .ref 734, dict := some dx, data := .plain, slots := #[some (.ref ba), some v1, some (.bool fin), some (.bool false), some (.int hd t), some (.int ma t'), some (.bool nest), some v7, some .none, v9, some (.ref dv)] }
abbrev CV (x0 x1 x2 x3 : Value) : Obj := W.listOf #[x0, x1, x2, x3] 0
theorem news3B {h₀ h : Heap} {L b dx ba dv : Addr} {v1 : Value} {fin : Bool} {hd : Int} {t : Tok} {ma : Int} {t' : Tok} {nest : Bool} {v7 : Value} {v9 : Option Value} {arr : Array UInt8} {rest : List (Addr × Obj)} (N : News h₀ L h ([(b, BO dx ba v1 fin hd t ma t' nest v7 v9 dv), (dx, dictOf [] 0), (ba, AO arr)] ++ rest)) : NeA b dx ∧ NeA b ba ∧ NeA dx ba :=
  news3 N (by intro e; cases e) (by intro e; cases e) (by intro e; exact absurd (Value.type.inj e) (by decide))
theorem news4B {h₀ h : Heap} {L b dx ba dv cv : Addr} {v1 x0 x1 x2 x3 : Value} {fin : Bool} {hd : Int} {t : Tok} {ma : Int} {t' : Tok} {nest : Bool} {v7 : Value} {v9 : Option Value} {arr : Array UInt8} {rest : List (Addr × Obj)} (N : News h₀ L h ([(b, BO dx ba v1 fin hd t ma t' nest v7 v9 dv), (dx, dictOf [] 0), (ba, AO arr), (cv, CV x0 x1 x2 x3)] ++ rest)) :
    NeA b dx ∧ NeA b ba ∧ NeA dx ba ∧ NeA b cv ∧ NeA dx cv ∧ NeA ba cv := by
  refine @Mine.hush _ (by
  obtain ⟨a1, a2, a3⟩ := news3B (rest := (cv, CV x0 x1 x2 x3) :: rest) N
  refine ⟨a1, a2, a3, ?_, ?_, ?_⟩
  · exact news_ne N (p := (b, _)) (q := (cv, CV x0 x1 x2 x3)) (.head _) (.tail _ (.tail _ (.tail _ (.head _)))) fun e => by cases congrArg Obj.cls e
  · exact news_ne N (p := (dx, _)) (q := (cv, CV x0 x1 x2 x3)) (.tail _ (.head _)) (.tail _ (.tail _ (.tail _ (.head _)))) fun e => absurd (Value.type.inj (congrArg Obj.cls e)) (by decide)
  · exact news_ne N (p := (ba, _)) (q := (cv, CV x0 x1 x2 x3)) (.tail _ (.tail _ (.head _))) (.tail _ (.tail _ (.tail _ (.head _)))) fun e => absurd (Value.type.inj (congrArg Obj.cls e)) (by decide)) ?_
  intro q f
  simpa using Mine.hushed f 5 fun n i => i
end Mine

-- ForC
open PySem PySem.W PyProof.Rows
set_option Elab.async false
namespace Mine
open PySem.Calls
set_option maxRecDepth 100000
set_option maxHeartbeats 4000000
section
variable {M : Model} {A : Around} {E : Value → Shared → Prop} {s : Shared} {env : Env}
theorem c_For {target iter : Expr} {body : List Stmt} {pos : Pos} {Q : Flow → Shared → Prop}
    (h : wpAny M A (eval iter env) (fun x s₁ => wpAny M A (pyIter x) (fun it s₂ => codeC M A (.forLoop target it body [] env) (fun r s' => match r with | .ok f => Q f s' | .error _ => False) s₂) E s₁) E s)
    (hs : ∀ x, foldedSetIterable iter env x = pure x := by intro _; rfl) : wpC M A (exec (.For target iter body [] pos) env) Q E s := by
  rw [exec_For]
  exact c_bind (c_standAt (c_step (wpAny_mono h (fun x s₁ h₁ => c_step (wpAny_of_eq (hs x) (c_bind (c_standAt (c_step (wpAny_holding
    (wpAny_mono h₁ (fun it s₂ h₂ => c_runOwn rfl h₂) fun _ _ h' => h'))))))) fun _ _ h' => h')))
end
section
variable {prog : Program} {w : World} {A : Around} {s : Shared} {env : Env}
/-- one turn of a for -/
theorem c_for_turn {target : Expr} {it : Value} {body : List Stmt} {R : Result → Shared → Prop}
    (h : wpAny (model prog w) A (pyNext it) (fun r s₁ => match r with
      | none => R (.ok .next) s₁
      | some v => wpAny (model prog w) A (assign target env v) (fun _ s₂ => wpC (model prog w) A (execs body env) (fun f s₃ => match f with
          | .next | .cont => codeC (model prog w) A (.forLoop target it body [] env) R s₃
          | .brk => R (.ok .next) s₃
          | .ret v => R (.ok (.ret v)) s₃) (fun _ _ => False) s₂) (fun _ _ => False) s₁) (fun _ _ => False) s)
    (ht : ∀ v, letOwnedTupleGo target it v = pure () := by intro _; rfl) : codeC (model prog w) A (.forLoop target it body [] env) R s := by
  refine @Mine.hush _ (by
  refine c_tree rfl ?_
  rw [Around.under_of_weight (A := A) (c := .forLoop target it body [] env) rfl rfl]
  show wpC _ A ((forTurn target it body [] env).onRaise _) _ _ s
  refine c_onRaise ?_
  simp only [forTurn]
  refine c_bind (c_standAt (c_bind (c_onRaise (of_any (wpAny_mono h (fun r s₁ h₁ => ?_) fun _ _ h' => h'.elim)))))
  cases r with
  | none => exact c_pure ⟨rfl, rfl, of_code (codeAny_block (wpAny_execs_nil h₁))⟩
  | some v =>
    refine c_step (wpAny_of_eq (ht v) ?_)
    refine c_step (wpAny_mono h₁ (fun _ s₂ h₂ => c_bind (c_mono h₂ (fun f s₃ h₃ => ?_) fun _ _ h' => h'.elim)) fun _ _ h' => h'.elim)
    cases f with
    | next => exact c_pure ⟨rfl, rfl, h₃⟩
    | cont => exact c_pure ⟨rfl, rfl, h₃⟩
    | brk => exact c_pure h₃
    | ret v => exact c_pure h₃) ?_
  intro q f
  simpa using Mine.hushed f 5 fun n i => i
/-- a for, by a word that a number counts down -/
theorem c_for_ind {target : Expr} {it : Value} {body : List Stmt} {R : Result → Shared → Prop} {I : Nat → Shared → Prop}
    (turn : ∀ n s, I n s → wpAny (model prog w) A (pyNext it) (fun r s₁ => match r with
      | none => R (.ok .next) s₁
      | some v => wpAny (model prog w) A (assign target env v) (fun _ s₂ => wpC (model prog w) A (execs body env) (fun f s₃ => match f with
          | .next | .cont => Less I n s₃
          | .brk => R (.ok .next) s₃
          | .ret v => R (.ok (.ret v)) s₃) (fun _ _ => False) s₂) (fun _ _ => False) s₁) (fun _ _ => False) s)
    (ht : ∀ v, letOwnedTupleGo target it v = pure () := by intro _; rfl) (n : Nat) : ∀ s, I n s → codeC (model prog w) A (.forLoop target it body [] env) R s := by
  induction n using Nat.strongRecOn with
  | ind n ih =>
    intro s hI
    refine c_for_turn (wpAny_mono (turn n s hI) (fun r s₁ z => ?_) fun _ _ z => z) ht
    cases r with
    | none => exact z
    | some v =>
      refine wpAny_mono z (fun _ s₂ z => c_mono z (fun f s₃ z => ?_) fun _ _ z => z) fun _ _ z => z
      cases f with
      | next => obtain ⟨k, hk, hi⟩ := z; exact ih k hk s₃ hi
      | cont => obtain ⟨k, hk, hi⟩ := z; exact ih k hk s₃ hi
      | brk => exact z
      | ret v => exact z
end
section
variable {prog : Program} {w : World} {A : Around} {E : Value → Shared → Prop} {s : Shared} {h₀ : Heap} {L : Addr} {m : Str → Option Value} {news rest : List (Addr × Obj)} {g : Obj → List (Addr × Obj)}
/-- an object of the ledger is let go, all else kept -/
theorem led_drop {h : Heap} {I : Addr} {o : Obj} (F : Fr h₀ L s.heap m) (N : News h₀ L s.heap news) (hI : (I, o) ∈ news) (S : Sel [I] news rest) (H : Heap.ExtBut I s.heap h) : Fr h₀ L h m ∧ News h₀ L h rest := by
  have D := N _ hI
  obtain ⟨oL, es, ep, hL, r⟩ := F.ns
  refine ⟨⟨⟨oL, es, ep, H _ _ (Ne.symm D.2.1) hL, r⟩, fun x y e => H _ _ (fun q => ?_) (F.keep x y e), F.above⟩, fun p hp => ?_⟩
  · have := D.2.2; rw [← q, e] at this; cases this
  · have P := N p (S.sub p hp)
    exact ⟨H _ _ (S.off p hp I (.head _)) P.1, P.2⟩
def RevAt (o : Obj) (l : Addr) (i : Int) : Prop := o.cls = .type "list_reverseiterator" ∧ o.data = .fields #[.ref l, rawInt i]
theorem rev_next {I l : Addr} {o : Obj} {items : Array Value} {n i : Nat} {x : Value} {Q : Option Value → Shared → Prop} (F : Fr h₀ L s.heap m) (N : News h₀ L s.heap news) (U : UpdF I o news g) (ho : RevAt o l (i : Int)) (hl : (l, W.listOf items n) ∈ news) (hx : items[i]? = some x)
    (k : ∀ o' h', RevAt o' l ((i : Int) - 1) → Fr h₀ L h' m → News h₀ L h' (g o') → Q (some x) { s with heap := h' }) : wpAny (model prog w) A (pyNext (.ref I)) Q E s := by
  have hm : (I, o) ∈ news := by obtain ⟨pre, post, rfl, _⟩ := U.split; simp
  refine wpAny_pyNext_rev_item (l := l) (i := i) ⟨o, (N _ hm).1, ho⟩ ⟨_, (N _ hl).1, rfl, n, rfl⟩ hx fun h' h1 h2 => ?_
  obtain ⟨o', e1, e2⟩ := h1
  obtain ⟨F', N'⟩ := led_upd (h := h') F N U e1 fun x y hx e => (h2.2 x hx).trans e
  exact k o' h' e2 F' N'
theorem rev_end {I l : Addr} {o : Obj} {Q : Option Value → Shared → Prop} (hh : A.handled = none) (F : Fr h₀ L s.heap m) (N : News h₀ L s.heap news) (hm : (I, o) ∈ news) (S : Sel [I] news rest) (ho : RevAt o l (-1))
    (k : ∀ h', Fr h₀ L h' m → News h₀ L h' rest → Q none { s with heap := h' }) : wpAny (model prog w) A (pyNext (.ref I)) Q E s := by
  refine wpAny_pyNext_rev_end (l := l) hh ⟨o, (N _ hm).1, ho⟩ fun h' h1 => ?_
  obtain ⟨F', N'⟩ := led_drop F N hm S h1
  exact k h' F' N'
theorem rev_iter {I l : Addr} {o : Obj} {i : Int} {Q : Value → Shared → Prop} (N : News h₀ L s.heap news) (hm : (I, o) ∈ news) (ho : RevAt o l i) (k : Q (.ref I) s) : wpAny (model prog w) A (pyIter (.ref I)) Q E s :=
  wpAny_pyIter_revIter (l := l) (i := i) ⟨o, (N _ hm).1, ho⟩ k
def LiAt (o : Obj) (l : Addr) (i : Nat) : Prop := o.cls = .type "list_iterator" ∧ o.data = .fields #[.ref l, .int i 0]
theorem li_next {I l : Addr} {o : Obj} {items : Array Value} {n i : Nat} {x : Value} {Q : Option Value → Shared → Prop} (F : Fr h₀ L s.heap m) (N : News h₀ L s.heap news) (U : UpdF I o news g) (ho : LiAt o l i) (hl : (l, W.listOf items n) ∈ news) (hx : items[i]? = some x)
    (k : ∀ o' h', LiAt o' l (i + 1) → Fr h₀ L h' m → News h₀ L h' (g o') → Q (some x) { s with heap := h' }) : wpAny (model prog w) A (pyNext (.ref I)) Q E s := by
  have hm : (I, o) ∈ news := by obtain ⟨pre, post, rfl, _⟩ := U.split; simp
  refine wpAny_pyNext_list_item (l := l) (i := i) ⟨o, (N _ hm).1, ho⟩ ⟨_, (N _ hl).1, rfl, n, rfl⟩ hx fun h' h1 h2 => ?_
  obtain ⟨o', e1, e2⟩ := h1
  obtain ⟨F', N'⟩ := led_upd (h := h') F N U e1 fun x y hx e => (h2.2 x hx).trans e
  exact k o' h' e2 F' N'
theorem li_end {I l : Addr} {o : Obj} {items : Array Value} {n i : Nat} {Q : Option Value → Shared → Prop} (hh : A.handled = none) (F : Fr h₀ L s.heap m) (N : News h₀ L s.heap news) (hm : (I, o) ∈ news) (S : Sel [I] news rest) (ho : LiAt o l i) (hl : (l, W.listOf items n) ∈ news) (hx : items[i]? = none)
    (k : ∀ h', Fr h₀ L h' m → News h₀ L h' rest → Q none { s with heap := h' }) : wpAny (model prog w) A (pyNext (.ref I)) Q E s := by
  refine wpAny_pyNext_list_end (l := l) (i := i) hh ⟨o, (N _ hm).1, ho⟩ ⟨_, (N _ hl).1, rfl, n, rfl⟩ hx fun h' h1 => ?_
  obtain ⟨F', N'⟩ := led_drop F N hm S h1
  exact k h' F' N'
theorem li_iter {l : Addr} {items : Array Value} {n : Nat} {Q : Value → Shared → Prop} (F : Fr h₀ L s.heap m) (N : News h₀ L s.heap news) (hl : (l, W.listOf items n) ∈ news)
    (k : ∀ x h' o, LiAt o l 0 → Fr h₀ L h' m → News h₀ L h' ((x, o) :: news) → (∀ p ∈ news, p.1 < x) → Q (.ref x) { s with heap := h' }) : wpAny (model prog w) A (pyIter (.ref l)) Q E s :=
  wpAny_pyIter_list ⟨_, (N _ hl).1, rfl, n, rfl⟩ (k _ _ _ ⟨rfl, rfl⟩ (F.push _) (N.push F _) (led_lt N))
/-- a range's iterator -/
abbrev RI (x left step : Int) : Obj := { cls := .type "range_iterator", data := .fields #[rawInt x, rawInt left, rawInt step] }
theorem ri_next {I : Addr} {x left step : Int} {Q : Option Value → Shared → Prop} (F : Fr h₀ L s.heap m) (N : News h₀ L s.heap news) (U : UpdF I (RI x left step) news g) (hl : 0 < left)
    (k : ∀ h' t k', Fr h₀ L h' m → News h₀ L h' (g (RI (x + step) (left - 1) step)) → Q (some (.int x t)) { s with heap := h', toks := k' }) : wpAny (model prog w) A (pyNext (.ref I)) Q E s := by
  have hm : (I, RI x left step) ∈ news := by obtain ⟨pre, post, rfl, _⟩ := U.split; simp
  refine wpAny_pyNext_range_item (N _ hm).1 hl fun h' h1 h2 => ?_
  obtain ⟨F', N'⟩ := led_upd (h := h') F N U h1 fun x y hx e => (h2.2 x hx).trans e
  exact k h' _ _ F' N'
theorem ri_end {I : Addr} {x left step : Int} {Q : Option Value → Shared → Prop} (hh : A.handled = none) (F : Fr h₀ L s.heap m) (N : News h₀ L s.heap news) (hm : (I, RI x left step) ∈ news) (S : Sel [I] news rest) (hl : left ≤ 0)
    (k : ∀ h', Fr h₀ L h' m → News h₀ L h' rest → Q none { s with heap := h' }) : wpAny (model prog w) A (pyNext (.ref I)) Q E s := by
  refine wpAny_pyNext_range_end hh (N _ hm).1 hl fun h' h1 => ?_
  obtain ⟨F', N'⟩ := led_drop F N hm S h1
  exact k h' F' N'
theorem ri_iter {r : Addr} {a b c : Int} {t u v : Tok} {Q : Value → Shared → Prop} (F : Fr h₀ L s.heap m) (N : News h₀ L s.heap news) (hr : s.heap.get? r = some { cls := .type "range", dict := none, data := .fields #[.int a t, .int b u, .int c v], slots := #[] }) (hs : Builtin.Range.small a b c = true)
    (k : ∀ x h', Fr h₀ L h' m → News h₀ L h' ((x, RI a (Builtin.Range.rangeSize a b c) c) :: news) → (∀ p ∈ news, p.1 < x) → Q (.ref x) { s with heap := h' }) : wpAny (model prog w) A (pyIter (.ref r)) Q E s :=
  wpAny_pyIter_range hr hs (k _ _ (F.push _) (N.push F _) (led_lt N))
theorem ri_iter4 {r : Addr} {a b c : Int} {t u v : Tok} {Q : Value → Shared → Prop} (F : Fr h₀ L s.heap m) (N : News h₀ L s.heap news) (hr : (r, ({ cls := .type "range", dict := none, data := .fields #[.int a t, .int b u, .int c v], slots := #[] } : Obj)) ∈ news) (ha : a = 3) (hb : b = -1) (hc : c = -1)
    (k : ∀ x h', Fr h₀ L h' m → News h₀ L h' ((x, RI 3 4 (-1)) :: news) → (∀ p ∈ news, p.1 < x) → Q (.ref x) { s with heap := h' }) : wpAny (model prog w) A (pyIter (.ref r)) Q E s := by
  subst ha hb hc
  exact ri_iter F N (N _ hr).1 (by decide) fun x h' F' N' l => k x h' F' N' l
theorem ri_nextL {I : Addr} {x left step x' left' : Int} {Q : Option Value → Shared → Prop} (F : Fr h₀ L s.heap m) (N : News h₀ L s.heap news) (U : UpdF I (RI x left step) news g) (hl : 0 < left) (hx : x + step = x') (hl' : left - 1 = left')
    (k : ∀ h' t k', Fr h₀ L h' m → News h₀ L h' (g (RI x' left' step)) → Q (some (.int x t)) { s with heap := h', toks := k' }) : wpAny (model prog w) A (pyNext (.ref I)) Q E s :=
  ri_next F N U hl fun h' t k' F' N' => k h' t k' F' (by rw [← hx, ← hl']; exact N')
/-- the same, the range as the library tells it -/
theorem ri_iter3 {r : Addr} {a b c : Int} {t u v : Tok} {Q : Value → Shared → Prop} (F : Fr h₀ L s.heap m) (N : News h₀ L s.heap news) (hr : IsRange s.heap r a b c t u v) (ha : a = 3) (hb : b = -1) (hc : c = -1)
    (k : ∀ x h', Fr h₀ L h' m → News h₀ L h' ((x, RI 3 4 (-1)) :: news) → (∀ p ∈ news, p.1 < x) → Q (.ref x) { s with heap := h' }) : wpAny (model prog w) A (pyIter (.ref r)) Q E s := by
  subst ha hb hc
  exact ri_iter F N hr (by decide) fun x h' F' N' l => k x h' F' N' l
end
end Mine

-- Tup
open PySem PySem.W PyProof.Rows
set_option Elab.async false
namespace Mine
open PySem.Calls PyProof.V
set_option maxRecDepth 100000
set_option maxHeartbeats 4000000
section
variable {prog : Program} {w : World} {A : Around} {E : Value → Shared → Prop} {s : Shared} {h₀ : Heap} {L : Addr} {m : Str → Option Value} {news rest : List (Addr × Obj)}
variable {ov : Obj}
theorem tup_tab {T : Type} [DecidableEq T] {knd : KeyKind prog w T} {enc : T → PyData} {d : Addr} (hlo : (d == sysModules) = false) (hd : (d, ov) ∈ news) (ho : ov.IsDictOf (strKind prog w) []) : TupTab knd enc news d [] :=
  TupTab.ofEmpty hd hlo ho
/-- the get of an empty dict, the key a tuple of ints -/
theorem tup_get {d a : Addr} {ns : List Int} {vs : List Value} {Q : Value → Shared → Prop} (hu : A.units + 1 < cLine) (hlo : (d == sysModules) = false) (N : News h₀ L s.heap news) (hd : (d, ov) ∈ news) (ho : ov.IsDictOf (strKind prog w) []) (ha : (a, { cls := .type "tuple", data := .seq vs.toArray }) ∈ news) (hi : ItemsAre (intKind prog w) ns vs)
    (h : ∀ k, Q .none { s with toks := k }) : wpAny (model prog w) A (call (.builtin "dict.get") [.ref d, .ref a]) Q E s :=
  call_get1_tupTab (knd := intKind prog w) (enc := PyData.int) (D := []) same_int hu N (tup_tab hlo hd ho) ha (TupKeyObj.made hi) fun v hv => by
    cases hv s.heap with
    | none => exact h _
theorem tup_getm {d : Addr} {pl : Sem Bool} {Q : Value × List Value → Shared → Prop} (hlo : (d == sysModules) = false) (N : News h₀ L s.heap news) (hd : (d, ov) ∈ news) (ho : ov.IsDictOf (strKind prog w) []) (h : Q (.builtin "dict.get", [.ref d]) s) :
    wpAny (model prog w) A (getMethod (.ref d) (PySem.Str.ofString "get") pl) Q E s := getMethod_tupTab_get (knd := intKind prog w) (enc := PyData.int) (D := []) N (tup_tab hlo hd ho) h
theorem tup_set {d a : Addr} {ns : List Int} {vs : List Value} {x : Int} {t : Tok} {Q : Unit → Shared → Prop} (hu : A.units + 1 < cLine) (hlo : (d == sysModules) = false) (F : Fr h₀ L s.heap m) (N : News h₀ L s.heap news) (hd : (d, ov) ∈ news) (ho : ov.IsDictOf (strKind prog w) []) (ha : (a, { cls := .type "tuple", data := .seq vs.toArray }) ∈ news) (hi : ItemsAre (intKind prog w) ns vs) (S : Sel [d] news rest)
    (h : ∀ h' k, Fr h₀ L h' m → News h₀ L h' rest → Q () { s with heap := h', toks := k }) : wpAny (model prog w) A (setItem (.ref d) (.ref a) (.int x t)) Q E s :=
  setItem_tupTab (knd := intKind prog w) (enc := PyData.int) (D := []) same_int hu (Flat.int _ _) F N (tup_tab hlo hd ho) ha (TupKeyObj.made hi) (fun h' news' F' N' _ _ hk => h h' _ F' fun p hp => N' p (hk p (S.sub p hp) (S.off p hp d (.head _)))) (by simp)
theorem items5 {a b c d e : Int} {t1 t2 t3 t4 t5 : Tok} : ItemsAre (intKind prog w) [a, b, c, d, e] [.int a t1, .int b t2, .int c t3, .int d t4, .int e t5] :=
  .cons (intKind_is _ _ _ _) (.cons (intKind_is _ _ _ _) (.cons (intKind_is _ _ _ _) (.cons (intKind_is _ _ _ _) (.cons (intKind_is _ _ _ _) .nil))))
/-- an item of a list of the ledger, at a place that is told -/
theorem item_at {value slice : PySem.Expr} {l : Addr} {vs : Array Value} {c n : Nat} {iv : Int} {u : Tok} {x : Value} {Q : Value → Shared → Prop} (N : News h₀ L s.heap news) (hm : (l, W.listOf vs c) ∈ news) (he : iv = (n : Nat)) (hx : vs[n]? = some x) (hn : (n : Int) < 2 ^ 63) (h : Q x s)
    (hs : subscripted slice false (.ref l) (.int iv u) = operate [.ref l, .int iv u] (getItem (.ref l) (.int iv u)) := by with_unfolding_all rfl) : wpAny (model prog w) A (subscriptTail value slice (.ref l) (.int iv u)) Q E s := by
  subst he
  have hl : s.heap.IsList l vs := ⟨_, (N _ hm).1, rfl, c, rfl⟩
  exact tail_any hl.typeIs slot_list_getitem.lookup (wpAny_getItem_list hl (by omega) hn (by rw [Int.toNat_natCast]; exact hx) h) hs
end
/-- where a walk is to wait -/
def Stop (p : Prop) : Prop := p
theorem stop_ {p : Prop} (h : Stop p) : p := h
theorem stop_on {p : Prop} (h : p) : Stop p := h
end Mine

-- Pl2
namespace Mine
open PySem
/-- a slot's place in the vtable -/
def kv (oo x : Int) : Int := if x = 0 then 0 else oo - x
def VsAre : List Int → List Value → Prop
  | [], [] => True
  | n :: ns, v :: vs => (∃ t, v = .int n t) ∧ VsAre ns vs
  | _, _ => False
theorem VsAre.push {n : Int} {t : Tok} : ∀ {ns : List Int} {vs : List Value}, VsAre ns vs → VsAre (ns ++ [n]) (vs ++ [.int n t])
  | [], [], _ => ⟨⟨t, rfl⟩, trivial⟩
  | _ :: _, _ :: _, h => ⟨h.1, VsAre.push h.2⟩
  | [], _ :: _, h => h.elim
  | _ :: _, [], h => h.elim
theorem VsAre.length : ∀ {ns : List Int} {vs : List Value}, VsAre ns vs → vs.length = ns.length
  | [], [], _ => rfl
  | _ :: _, _ :: _, h => congrArg (· + 1) (VsAre.length h.2)
  | [], _ :: _, h => h.elim
  | _ :: _, [], h => h.elim
theorem VsAre.four {a b c d : Int} {vs : Array Value} (h : VsAre [a, b, c, d] vs.toList) : ∃ t1 t2 t3 t4, vs = #[.int a t1, .int b t2, .int c t3, .int d t4] := by
  obtain ⟨l⟩ := vs
  match l, h with
  | [v1, v2, v3, v4], ⟨⟨t1, e1⟩, ⟨t2, e2⟩, ⟨t3, e3⟩, ⟨t4, e4⟩, _⟩ => exact ⟨t1, t2, t3, t4, by rw [e1, e2, e3, e4]⟩
/-- an item of a list of four ints -/
theorem cv_get {x0 x1 x2 x3 : Int} {u0 u1 u2 u3 : Tok} {P : Int → Prop} (n : Nat) (h1 : n < 4) (p0 : P x0) (p1 : P x1) (p2 : P x2) (p3 : P x3) :
    ∃ x u, (#[.int x0 u0, .int x1 u1, .int x2 u2, .int x3 u3] : Array Value)[n]? = some (.int x u) ∧ P x ∧ (n = 3 → x = x3) ∧ [x0, x1, x2, x3].drop n = x :: [x0, x1, x2, x3].drop (n + 1) := by
  match n, h1 with
  | 0, _ => exact ⟨x0, u0, rfl, p0, fun e => by lia, rfl⟩
  | 1, _ => exact ⟨x1, u1, rfl, p1, fun e => by lia, rfl⟩
  | 2, _ => exact ⟨x2, u2, rfl, p2, fun e => by lia, rfl⟩
  | 3, _ => exact ⟨x3, u3, rfl, p3, fun _ => rfl, rfl⟩
/-- the places, behind a vtable's two heads -/
def vl (oo : Int) (xs : List Int) : List UInt8 := (xs.map fun x => lay 2 (kv oo x)).flatten
theorem vl_cons {oo x : Int} {xs : List Int} : vl oo (x :: xs) = lay 2 (kv oo x) ++ vl oo xs := rfl
theorem vl_len {oo : Int} : ∀ {xs : List Int}, (vl oo xs).length = 2 * xs.length
  | [] => rfl
  | x :: xs => by rw [vl_cons, List.length_append, lay_length, vl_len, List.length_cons]; lia
theorem pd2_even {out : List UInt8} (h : out.length % 2 = 0) : pd 2 0 out = out := by
  have e : padOf 2 (out.length + 0) = 0 := by unfold padOf; lia
  unfold pd
  rw [e]; rfl
theorem has_over {arr raw : Array UInt8} {hd p : Int} {a b c : List UInt8} (h : Has arr hd (a ++ (b ++ c))) (hr : raw.size = b.length) (hp : p = hd + a.length) :
    Has (putAt arr p.toNat raw) hd (a ++ (raw.toList ++ c)) ∧ (putAt arr p.toNat raw).size = arr.size := by
  refine @Mine.hush _ (by
  have hl := h.len
  rw [List.length_append, List.length_append] at hl
  obtain ⟨h0, h1, h2⟩ := h
  have e : (putAt arr p.toNat raw).toList.drop hd.toNat = a ++ (raw.toList ++ c) := by
    rw [putAt_toList]
    have ep : p.toNat = hd.toNat + a.length := by lia
    have hla : hd.toNat ≤ arr.toList.length := by rw [Array.length_toList]; lia
    have e1 : arr.toList = arr.toList.take hd.toNat ++ (a ++ (b ++ c)) := by rw [← h2, List.take_append_drop]
    have l1 : (arr.toList.take hd.toNat).length = hd.toNat := by rw [List.length_take]; lia
    have e2 : arr.toList.take p.toNat = arr.toList.take hd.toNat ++ a := by
      rw [ep, List.take_add, h2, List.take_left]
    have e3 : arr.toList.drop (p.toNat + raw.size) = c := by
      rw [ep, hr, Nat.add_assoc, ← List.drop_drop, h2, ← List.drop_drop, List.drop_left, List.drop_left]
    rw [e2, e3, List.append_assoc, List.append_assoc, List.drop_left' l1]
  have sz : (putAt arr p.toNat raw).size = arr.size := by
    unfold putAt
    simp only [Array.size_append, Array.size_extract]
    lia
  exact ⟨⟨h0, by rw [sz]; exact h1, e⟩, sz⟩) ?_
  intro q f
  simpa using Mine.hushed f 5 fun n i => i
/-- a table: the vtable, its place and what lies behind -/
def vtab (out : List UInt8) (oe : Int) (xs : List Int) : List UInt8 :=
  lay 2 12 ++ (lay 2 ((pd 4 0 out).length + 4 - oe) ++ (vl ((pd 4 0 out).length + 4) xs ++ (lay 4 12 ++ pd 4 0 out)))
theorem kv_range {oo x : Int} (h0 : 0 ≤ x) (h1 : x ≤ oo) : 0 ≤ kv oo x ∧ kv oo x ≤ oo := by unfold kv; split <;> lia
theorem pd4_mod {out : List UInt8} : (pd 4 0 out).length % 4 = 0 := by
  unfold pd padOf
  rw [List.length_append, List.length_replicate]
  lia
end Mine

-- Pl3
namespace Mine
open PySem
/-- what Finish lays ahead -/
def finO (mk : Option (List UInt8)) (sized : Bool) (root : Int) (out : List UInt8) : List UInt8 :=
  let o1 := pd 4 (4 + (if mk.isSome then 4 else 0) + (if sized then 4 else 0)) out
  let o2 := match mk with | none => o1 | some m => m ++ pd 4 4 o1
  let o3 := lay 4 ((pd 4 0 o2).length - root + 4) ++ pd 4 0 o2
  if sized then lay 4 o3.length ++ pd 4 0 o3 else o3
theorem lay1 (p : UInt8) : lay 1 (p.toNat : Int) = [p] := by
  unfold lay Builtin.Struct.intBytes Builtin.Memoryview.toLittleEndian
  have h : p.toNat < 256 := p.toNat_lt
  have e : ((p.toNat : Int) % 2 ^ (8 * 1)).toNat = p.toNat := by
    rw [show ((2 : Int) ^ (8 * 1)) = 256 from rfl, Int.emod_eq_of_lt (by omega) (by omega), Int.toNat_natCast]
  simp only [Bool.false_eq_true, if_false, e, List.range_one, List.map_cons, List.map_nil, Nat.pow_zero, Nat.div_one, List.toList_toArray]
  rw [Nat.mod_eq_of_lt h]
  simp
end Mine

-- Pl4
namespace Mine
open PySem PySem.W PyProof.Rows
/-- the parts that a number stands for -/
def numF (n : Int) : Int := (n.fdiv 13).fmod (2 ^ Int.toNat 32)
def wordF (n : Int) : Str := Txt.join (Str.ofString "") (List.map (fun a => if (Txt.item (Str.ofString "abcxyzé日") ((n.fdiv (7 ^ a.toNat)).fmod 8)).length = 1 then Txt.item (Str.ofString "abcxyzé日") ((n.fdiv (7 ^ a.toNat)).fmod 8) else Str.empty) (rangeKs 0 ((n.fdiv 5).fmod 6 - 0).toNat))
def rowF (n : Int) : List Int := List.map (fun k' => (n.fdiv (11 ^ k'.toNat)).fmod 65536) (rangeKs 0 ((n.fdiv 4).fmod 4 - 0).toNat)
def markV (n : Int) : List Int := List.map (fun k' => 65 + (n.fdiv (17 ^ k'.toNat)).fmod 26) (rangeKs 0 (Int.toNat (4 - 0)))
def markF (n : Int) : Option (List UInt8) := if n.fmod 2 = 1 then some ((markV n).map fun x => x.toNat.toUInt8) else none
def sizedF (n : Int) : Bool := (n.fdiv 2).fmod 2 == 1
theorem fmod_in {a b : Int} (h : 0 < b) : 0 ≤ a.fmod b ∧ a.fmod b < b := ⟨Int.fmod_nonneg_of_pos _ h, Int.fmod_lt_of_pos _ h⟩
theorem numF_in (n : Int) : 0 ≤ numF n ∧ numF n ≤ 4294967295 := by
  have h := fmod_in (a := n.fdiv 13) (b := 2 ^ Int.toNat 32) (by decide)
  have e : (2 : Int) ^ Int.toNat 32 = 4294967296 := by decide
  unfold numF
  omega
theorem rowF_in (n : Int) : (rowF n).length ≤ 3 ∧ ∀ x ∈ rowF n, 0 ≤ x ∧ x ≤ 65535 := by
  have h := fmod_in (a := n.fdiv 4) (b := 4) (by decide)
  refine ⟨?_, fun x hx => ?_⟩
  · unfold rowF
    rw [List.length_map, rangeKs_length]
    omega
  · unfold rowF at hx
    obtain ⟨k, _, rfl⟩ := List.mem_map.mp hx
    have := fmod_in (a := n.fdiv (11 ^ k.toNat)) (b := 65536) (by decide)
    omega
end Mine

-- Pl5
namespace Mine
open PySem PySem.W PyProof.Rows
/-- what a slot with a number lays ahead -/
def numO (x : Int) (out : List UInt8) : List UInt8 := if x = 0 then out else lay 4 x ++ pd 4 0 out
/-- what a slot with an offset lays ahead -/
def offO (x : Int) (out : List UInt8) : List UInt8 := if x = 0 then out else lay 4 ((pd 4 0 out).length - x + 4) ++ pd 4 0 out
/-- the slot's value -/
def slV (x : Int) (out : List UInt8) : Int := if x = 0 then 0 else (pd 4 0 out).length + 4
theorem numO_len {x : Int} {out : List UInt8} : (out.length : Int) ≤ (numO x out).length ∧ ((numO x out).length : Int) ≤ out.length + 7 := by
  have h := pd_len (sz := 4) (add := 0) (out := out) (by decide)
  unfold numO
  split
  · lia
  · rw [lay_app]; lia
theorem offO_len {x : Int} {out : List UInt8} : (out.length : Int) ≤ (offO x out).length ∧ ((offO x out).length : Int) ≤ out.length + 7 := by
  have h := pd_len (sz := 4) (add := 0) (out := out) (by decide)
  unfold offO
  split
  · lia
  · rw [lay_app]; lia
theorem slV_in {x : Int} {out : List UInt8} : 0 ≤ slV x out ∧ slV x out ≤ (numO x out).length ∧ slV x out ≤ (offO x out).length ∧ (x ≠ 0 → slV x out ≠ 0) := by
  unfold slV numO offO
  split
  · rename_i h
    refine ⟨by lia, by lia, by lia, fun g => absurd h g⟩
  · rw [lay_app, lay_app]
    refine ⟨by lia, by lia, by lia, fun _ => by lia⟩
/-- the numbers of a row, laid down -/
def rowO : List Int → List UInt8 → List UInt8
  | [], out => out
  | x :: xs, out => lay 2 x ++ rowO xs out
theorem rowO_len : ∀ {xs : List Int} {out : List UInt8}, (rowO xs out).length = 2 * xs.length + out.length
  | [], out => by simp [rowO]
  | x :: xs, out => by rw [rowO, List.length_append, lay_length, rowO_len, List.length_cons]; lia
/-- what a text lays down -/
def strO (b : Array UInt8) (out : List UInt8) : List UInt8 := lay 4 b.size ++ (b.toList ++ (lay 1 0 ++ pd 4 (b.size + 1) out))
/-- what a row of octets lays down -/
def octO (b : Array UInt8) (out : List UInt8) : List UInt8 := lay 4 b.size ++ (b.toList ++ pd 4 b.size out)
/-- a whole buffer of its parts -/
structure Made where
  o1 : List UInt8
  o2 : List UInt8
  oct : Int
  o4 : List UInt8
  o5 : List UInt8
  o6 : List UInt8
  o7 : List UInt8
  o8 : List UInt8
  o9 : List UInt8
  o10 : List UInt8
def innO (inner : Option (Array UInt8)) (out : List UInt8) : List UInt8 := match inner with | none => out | some a => octO a out
def innV (inner : Option (Array UInt8)) (out : List UInt8) : Int := match inner with | none => 0 | some a => ((a.toList ++ pd 4 a.size out).length : Int) + 4
/-- the buffer's stages -/
def stages (num : Int) (word : Array UInt8) (row : List Int) (inner : Option (Array UInt8)) : Made :=
  let o1 := strO word []
  let o2 := innO inner o1
  let o4 := rowO row (pd 4 (2 * row.length) o2)
  let o5 := lay 4 row.length ++ o4
  let o6 := numO num o5
  let o7 := offO o1.length o6
  let o8 := offO (innV inner o1) o7
  let o9 := offO (o4.length + 4) o8
  ⟨o1, o2, innV inner o1, o4, o5, o6, o7, o8, o9, vtab o9 o5.length [slV num o5, slV o1.length o6, slV (innV inner o1) o7, slV (o4.length + 4) o8]⟩
def madeO (num : Int) (word : Array UInt8) (row : List Int) (mk : Option (List UInt8)) (sized : Bool) (inner : Option (Array UInt8)) : List UInt8 :=
  let m := stages num word row inner
  finO mk sized ((pd 4 0 m.o9).length + 4) m.o10
/-- what _law_made makes -/
def madeF (n : Int) (inner : Option (Array UInt8)) : List UInt8 := madeO (numF n) (enc (wordF n)) (rowF n) (markF n) (sizedF n) inner
theorem row_get : ∀ {ys : List Value} {ns : List Int} (n : Nat), IntsAre ys ns → n < ns.length → ∃ x t, ys.toArray[n]? = some (.int x t) ∧ ns.drop n = x :: ns.drop (n + 1) ∧ x ∈ ns := by
  intro ys ns n hi hn
  have hl := hi.length
  have hv : ys[n]? = some (ys[n]'(by lia)) := List.getElem?_eq_getElem _
  obtain ⟨k, t, e, hk⟩ := IntsAre.at hi n _ hv
  refine ⟨k, t, by rw [List.getElem?_toArray, hv, e], ?_, List.mem_of_getElem? hk⟩
  have e2 := List.getElem?_eq_some_iff.mp hk
  obtain ⟨h1, h2⟩ := e2
  rw [List.drop_eq_getElem_cons h1, h2]
theorem rowO_even {xs : List Int} {ne : Nat} {out : List UInt8} : (rowO xs (pd 4 (2 * ne) out)).length % 2 = 0 := by
  rw [rowO_len]
  unfold pd padOf
  rw [List.length_append, List.length_replicate]
  lia
end Mine

-- Pl6
namespace Mine
open PySem PySem.W PyProof.Rows
theorem toU8 (m : Nat) : (m % 256).toUInt8.toNat = m % 256 := by
  show (UInt8.ofNat (m % 256)).toNat = m % 256
  rw [UInt8.toNat_ofNat']
  omega
theorem le1 (m : Nat) : Builtin.Memoryview.littleEndian (Builtin.Memoryview.toLittleEndian 1 m) = m % 256 := by
  unfold Builtin.Memoryview.littleEndian Builtin.Memoryview.toLittleEndian
  simp [List.range_succ, -Nat.toUInt8_eq]
theorem le2 (m : Nat) : Builtin.Memoryview.littleEndian (Builtin.Memoryview.toLittleEndian 2 m) = m % 65536 := by
  unfold Builtin.Memoryview.littleEndian Builtin.Memoryview.toLittleEndian
  simp [List.range_succ, -Nat.toUInt8_eq]
  omega
theorem le4 (m : Nat) : Builtin.Memoryview.littleEndian (Builtin.Memoryview.toLittleEndian 4 m) = m % 4294967296 := by
  unfold Builtin.Memoryview.littleEndian Builtin.Memoryview.toLittleEndian
  simp [List.range_succ, -Nat.toUInt8_eq]
  omega
theorem nat_lay (n : Nat) (x : Int) : Builtin.Struct.natOf false (Builtin.Struct.intBytes false n x) = Builtin.Memoryview.littleEndian (Builtin.Memoryview.toLittleEndian n (x % 2 ^ (8 * n)).toNat) := rfl
theorem told_H {x : Int} (h0 : 0 ≤ x) (h1 : x ≤ 65535) : told 'H' 2 (Builtin.Struct.intBytes false 2 x) = x := by
  unfold told
  rw [nat_lay, le2, show Char.isLower 'H' = false from rfl, Bool.false_and, if_neg Bool.false_ne_true, show ((2 : Int) ^ (8 * 2)) = 65536 from rfl]
  omega
theorem told_I {x : Int} (h0 : 0 ≤ x) (h1 : x ≤ 4294967295) : told 'I' 4 (Builtin.Struct.intBytes false 4 x) = x := by
  unfold told
  rw [nat_lay, le4, show Char.isLower 'I' = false from rfl, Bool.false_and, if_neg Bool.false_ne_true, show ((2 : Int) ^ (8 * 4)) = 4294967296 from rfl]
  omega
theorem told_i {x : Int} (h0 : -2147483648 ≤ x) (h1 : x ≤ 2147483647) : told 'i' 4 (Builtin.Struct.intBytes false 4 x) = x := by
  unfold told
  have e : ((2 : Int) ^ (8 * 4)) = 4294967296 := rfl
  have e2 : (2 ^ (8 * 4 - 1) : Nat) = 2147483648 := rfl
  rw [nat_lay, le4, e, e2]
  by_cases h : 0 ≤ x
  · rw [if_neg]
    · omega
    · intro hh
      have := of_decide_eq_true (Bool.and_eq_true_iff.mp hh).2
      omega
  · rw [if_pos]
    · omega
    · refine Bool.and_eq_true_iff.mpr ⟨by decide, decide_eq_true ?_⟩
      omega
/-- octets that lie in an array and end at a place -/
def Lies (arr : Array UInt8) (e : Int) (s : List UInt8) : Prop := ∃ pre post, arr.toList = pre ++ (s ++ post) ∧ (pre.length : Int) + s.length = e
theorem Lies.tail {arr : Array UInt8} {e : Int} {a s : List UInt8} (h : Lies arr e (a ++ s)) : Lies arr e s := by
  obtain ⟨pre, post, h1, h2⟩ := h
  refine ⟨pre ++ a, post, by rw [h1]; simp, ?_⟩
  rw [List.length_append] at h2 ⊢
  omega
theorem Lies.pd {arr : Array UInt8} {e sz add : Int} {s : List UInt8} (h : Lies arr e (pd sz add s)) : Lies arr e s := Lies.tail (a := List.replicate _ 0) h
theorem Lies.inn {arr : Array UInt8} {e : Int} {s : List UInt8} (h : Lies arr e s) : (s.length : Int) ≤ e ∧ e ≤ arr.size := by
  obtain ⟨pre, post, h1, h2⟩ := h
  have := congrArg List.length h1
  rw [List.length_append, List.length_append, Array.length_toList] at this
  omega
/-- a cut of an array where octets lie -/
theorem Lies.cut {arr : Array UInt8} {e : Int} {a s : List UInt8} {p : Int} (h : Lies arr e (a ++ s)) (hp : p = e - s.length - a.length) : arr.extract p.toNat (p.toNat + a.length) = a.toArray := by
  obtain ⟨pre, post, h1, h2⟩ := h
  rw [List.length_append] at h2
  apply Array.ext'
  have e1 : p.toNat = pre.length := by omega
  rw [Array.toList_extract, List.extract_eq_take_drop, h1, e1, List.drop_left, List.append_assoc]
  rw [show pre.length + a.length - pre.length = a.length from by omega, List.take_left]
theorem Lies.lay {arr : Array UInt8} {e : Int} {n : Nat} {x : Int} {s : List UInt8} {p : Int} (h : Lies arr e (lay n x ++ s)) (hp : p = e - s.length - n) : arr.extract p.toNat (p.toNat + n) = Builtin.Struct.intBytes false n x := by
  have h2 := h.cut (p := p) (by rw [lay_length]; exact hp)
  rw [lay_length] at h2
  rw [h2]
  unfold Mine.lay
  rw [Array.toArray_toList]
theorem Lies.H {arr : Array UInt8} {e x p : Int} {s : List UInt8} (h : Lies arr e (Mine.lay 2 x ++ s)) (h0 : 0 ≤ x) (h1 : x ≤ 65535) (hp : p = e - s.length - 2) : told 'H' 2 (arr.extract p.toNat (p.toNat + 2)) = x := by
  rw [h.lay (by rw [hp]; rfl), told_H h0 h1]
theorem Lies.I {arr : Array UInt8} {e x p : Int} {s : List UInt8} (h : Lies arr e (Mine.lay 4 x ++ s)) (h0 : 0 ≤ x) (h1 : x ≤ 4294967295) (hp : p = e - s.length - 4) : told 'I' 4 (arr.extract p.toNat (p.toNat + 4)) = x := by
  rw [h.lay (by rw [hp]; rfl), told_I h0 h1]
theorem Lies.i {arr : Array UInt8} {e x p : Int} {s : List UInt8} (h : Lies arr e (Mine.lay 4 x ++ s)) (h0 : -2147483648 ≤ x) (h1 : x ≤ 2147483647) (hp : p = e - s.length - 4) : told 'i' 4 (arr.extract p.toNat (p.toNat + 4)) = x := by
  rw [h.lay (by rw [hp]; rfl), told_i h0 h1]
end Mine

-- Pl7
namespace Mine
open PySem PySem.W PyProof.Rows
/-- a sign that takes three octets at most -/
def okc (c : Nat) : Bool := !Str.isSurrogate c && decide ((Str.utf8Of c).length ≤ 3)
theorem item_ok (i : Int) (h0 : 0 ≤ i) (h1 : i < 8) : ∃ c, Txt.item (Str.ofString "abcxyzé日") i = ⟨#[c]⟩ ∧ okc c = true := by
  have h : i = 0 ∨ i = 1 ∨ i = 2 ∨ i = 3 ∨ i = 4 ∨ i = 5 ∨ i = 6 ∨ i = 7 := by lia
  rcases h with rfl | rfl | rfl | rfl | rfl | rfl | rfl | rfl
  · exact ⟨97, by decide, by decide⟩
  · exact ⟨98, by decide, by decide⟩
  · exact ⟨99, by decide, by decide⟩
  · exact ⟨120, by decide, by decide⟩
  · exact ⟨121, by decide, by decide⟩
  · exact ⟨122, by decide, by decide⟩
  · exact ⟨233, by decide, by decide⟩
  · exact ⟨26085, by decide, by decide⟩
/-- a text of few good signs -/
def Few (k : Nat) (x : Str) : Prop := x.cps.size ≤ k ∧ ∀ c ∈ x.cps, okc c = true
theorem glue_go : ∀ (l : List Str) (acc : Array Nat) (k : Nat), acc.size ≤ k → (∀ c ∈ acc, okc c = true) → (∀ p ∈ l, Few 1 p) →
    (l.foldl (fun acc p => acc ++ (Str.ofString "").cps ++ p.cps) acc).size ≤ k + l.length ∧ ∀ c ∈ l.foldl (fun acc p => acc ++ (Str.ofString "").cps ++ p.cps) acc, okc c = true
  | [], acc, k, h1, h2, _ => ⟨h1, h2⟩
  | p :: l, acc, k, h1, h2, h3 => by
    have hp := h3 p (.head _)
    have e : (Str.ofString "").cps = #[] := by decide
    have q := glue_go l (acc ++ (Str.ofString "").cps ++ p.cps) (k + 1) (by rw [e, Array.append_empty, Array.size_append]; have := hp.1; lia) (fun c hc => by
      rw [e, Array.append_empty] at hc
      rcases Array.mem_append.mp hc with hc | hc
      · exact h2 c hc
      · exact hp.2 c hc) fun p hp => h3 p (.tail _ hp)
    rw [List.foldl_cons, List.length_cons]
    refine ⟨?_, q.2⟩
    have := q.1
    lia
theorem glued_few {l : List Str} (h : ∀ p ∈ l, Few 1 p) : Few l.length (Builtin.Str.glued (Str.ofString "") l) := by
  unfold Builtin.Str.glued
  cases l with
  | nil => exact ⟨Nat.le_refl _, fun c hc => by cases Array.not_mem_empty c hc⟩
  | cons p l =>
    have hp := h p (.head _)
    have q := glue_go l p.cps 1 hp.1 hp.2 fun p hp => h p (.tail _ hp)
    refine ⟨?_, q.2⟩
    have := q.1
    simp only [List.length_cons]
    show (l.foldl _ p.cps).size ≤ _
    lia
theorem enc_go : ∀ (l : List Nat) (acc : Array UInt8), (∀ c ∈ l, okc c = true) → (l.foldl (fun acc y => acc ++ (Str.utf8Of y).toArray) acc).size ≤ acc.size + 3 * l.length
  | [], acc, _ => Nat.le_refl _
  | c :: l, acc, h => by
    have hc := h c (.head _)
    have h3 := of_decide_eq_true (Bool.and_eq_true_iff.mp hc).2
    have q := enc_go l (acc ++ (Str.utf8Of c).toArray) fun c hc => h c (.tail _ hc)
    have e : (Str.utf8Of c).toArray.size = (Str.utf8Of c).length := List.size_toArray ..
    rw [Array.size_append, e] at q
    rw [List.foldl_cons, List.length_cons]
    lia
theorem wordF_few (n : Int) : Few 5 (wordF n) := by
  refine @Mine.hush _ (by
  have h := fmod_in (a := n.fdiv 5) (b := 6) (by decide)
  have q := glued_few (l := List.map (fun a => if (Txt.item (Str.ofString "abcxyzé日") ((n.fdiv (7 ^ a.toNat)).fmod 8)).length = 1 then Txt.item (Str.ofString "abcxyzé日") ((n.fdiv (7 ^ a.toNat)).fmod 8) else Str.empty) (rangeKs 0 ((n.fdiv 5).fmod 6 - 0).toNat)) fun p hp => by
    obtain ⟨a, _, rfl⟩ := List.mem_map.mp hp
    have hb := fmod_in (a := n.fdiv (7 ^ a.toNat)) (b := 8) (by decide)
    obtain ⟨c, hc, ho⟩ := item_ok _ hb.1 hb.2
    rw [hc]
    show Few 1 (if (1 : Nat) = 1 then _ else _)
    rw [if_pos rfl]
    exact ⟨Nat.le_refl _, fun d hd => by rw [Array.mem_singleton.mp hd]; exact ho⟩
  refine ⟨Nat.le_trans q.1 ?_, q.2⟩
  rw [List.length_map, rangeKs_length]
  lia) ?_
  intro q f
  simpa using Mine.hushed f 5 fun n i => i
theorem wordF_ok (n : Int) : (∀ c ∈ (wordF n).cps, Str.isSurrogate c = false) ∧ (enc (wordF n)).size ≤ 20 := by
  obtain ⟨h1, h2⟩ := wordF_few n
  refine ⟨fun c hc => ?_, ?_⟩
  · have := (Bool.and_eq_true_iff.mp (h2 c hc)).1
    simpa using this
  · have q := enc_go (wordF n).cps.toList #[] fun c hc => h2 c (by simpa using hc)
    unfold enc
    rw [← Array.foldl_toList]
    refine Nat.le_trans q ?_
    rw [Array.length_toList]
    show (0 : Nat) + _ ≤ _
    lia
end Mine

-- ClsT
open PySem PySem.W PyProof.Rows
set_option Elab.async false
namespace Mine
open PySem.Calls Builtin Builtin.ObjectAttr
set_option maxRecDepth 100000
set_option maxHeartbeats 4000000
theorem int_typeOf : (typeOf (.type "int") : Sem Value) = pure (.type "type") := by kernel_rfl
theorem type_get : typeLookup (.type "type") "__get__" = pure none := by rw [typeLookup_type, builtinLookup_eq_fast]; kernel_rfl
theorem int_special : (specialOf (.type "int") "__get__" : Sem (Option Value)) = pure none := by
  unfold specialOf
  rw [int_typeOf, pure_bind, type_get]
section
variable {prog : Program} {w : World} {A : Around} {E : Value → Shared → Prop} {s : Shared} {K : Frag} {mc : Value} {name : Str} {h₀ : Heap} {L : Addr} {m : Str → Option Value}
/-- a class's attribute that is int -/
theorem cls_int {C : Addr} {expr : Bool} {Q : Value → Shared → Prop} (F : Fr h₀ L s.heap m) (X₀ : K.In h₀) (hm : typeIn K (.ref C) = some mc) (hr : readsIn K C mc = true) (e0 : findIn K mc name = some none) (e1 : findIn K (.ref C) name = some (some (.type "int")))
    (h2 : heldUnderItsOwnName name (.type "int") = false) (h : Q (.type "int") { s with toks := s.toks + 1 }) : wpAny (model prog w) A (getAttr (.ref C) name expr) Q E s := by
  refine @Mine.hush _ (by
  have X := X₀.keeps F.keep
  simp only [readsIn, Bool.and_eq_true, beq_iff_eq] at hr
  obtain ⟨⟨⟨⟨a, b⟩, hga⟩, d⟩, hi⟩ := hr
  obtain ⟨hk, d⟩ := Option.isSome_iff_exists.mp d
  have ho : Looks (model prog w) s.heap (opaqueClassAbove (.ref C)) none := looks_opaque X a
  have ht : Looks (model prog w) s.heap (typeOf (.ref C)) mc := looks_typeIn X b
  have hb : Looks (model prog w) s.heap (hookBefore mc) hk := looks_hook X d
  refine wpAny_bind (wpAny_mkText (wpAny_holding (wpAny_bind (ht _ _ _ _ (fun _ _ e => e) (wpAny_bind (looks_findIn X hga _ _ _ _ (fun _ _ e => e) ?_))))))
  dsimp only
  rw [show (onTheHeap mc && Value.builtin "type.__getattribute__" == Value.builtin "object.__getattribute__") = false from by rw [show (Value.builtin "type.__getattribute__" == Value.builtin "object.__getattribute__") = false from by decide +kernel, Bool.and_false], if_neg (by decide)]
  refine wpAny_bind (hb _ _ _ _ (fun _ _ e => e) (wpAny_bind (wpAny_attempt (wpAny_holding ?_))))
  unfold callGetattribute
  rw [show (expr && onTheHeap (Value.builtin "type.__getattribute__")) = false from Bool.and_false _, if_neg (by decide)]
  unfold boundAndCalled
  rw [KF.slot_tga.bind]
  refine wpAny_bind (wpAny_pure ?_)
  show wpAny _ _ (call (.builtin "type.__getattribute__") [.ref C, .str name s.toks]) _ _ _
  refine wpAny_call ?_
  refine codeAny_call_builtin KF.slot_tga.plain KF.entry_tga ?_
  refine @check_slot (model prog w) _ _ { s with toks := s.toks + 1 } "type.__getattribute__" "type" "__getattribute__" (.ref C) [.str name s.toks] [] _ (by decide +kernel) (by decide +kernel) (ht.andThen (looks_subIn X hi)) (KF.args_tga (.ref C) (.str name s.toks)) ?_
  have L1 := looks_findIn (M := model prog w) X e0
  have L2 := looks_findIn (M := model prog w) X e1
  unfold Builtin.«type.__getattribute__»
  refine wpAny_bind (wpAny_pure (wpAny_bind (ho.at (wpAny_bind (ht.at (wpAny_bind (L1.at ?_)))))))
  refine wpAny_bind (wpAny_pure ?_)
  refine wpAny_bind (L2.at ?_)
  dsimp only
  rw [if_neg (by rw [h2]; decide)]
  refine wpAny_bind (wpAny_of_eq int_typeOf ?_)
  rw [if_neg (by decide +kernel)]
  refine wpAny_bind (wpAny_of_eq int_special ?_)
  dsimp only
  rw [handedOut_of (show handedIn (.type "int") = true from by first | rfl | decide +kernel)]
  refine wpAny_bind (wpAny_pure ?_)
  refine wpAny_pure ?_
  show wpAny _ _ (handedOut (.type "int")) _ _ _
  rw [handedOut_of (show handedIn (.type "int") = true from by first | rfl | decide +kernel)]
  exact wpAny_pure h) ?_
  intro q f
  simpa using Mine.hushed f 5 fun n i => i
end
end Mine

-- MkC
open PySem PySem.W PyProof.Rows
set_option Elab.async false
namespace Mine
open PySem.Calls Builtin Builtin.ObjectAttr Builtin.Getset_descriptor
set_option maxRecDepth 100000
set_option maxHeartbeats 4000000
section
variable {prog : Program} {w : World} {A : Around} {K : Frag} {C x : Addr} {s : Shared} {h₀ : Heap} {L : Addr} {m : Str → Option Value} {news : List (Addr × Obj)} {R : Result → Shared → Prop}
/-- an object made in clean contexts, its __init__ a def -/
theorem c_make {rest : List Value} {kw : List (Str × Value)} {fI : Addr} (F : Fr h₀ L s.heap m) (N : News h₀ L s.heap news) (X : K.In s.heap) (hm : makesIn K C = true)
    (hi : findIn K (.ref C) "__init__" = some (some (.ref fI))) (hf : typeIn K (.ref fI) = some (.type "function"))
    (hq : ∀ x dx h', Fr h₀ L h' m → News h₀ L h' ((x, instObj C dx) :: (dx, emptyDict) :: news) → (∀ p ∈ news, p.1 < dx) → dx < x →
      codeC (model prog w) (A.under (.builtin "type.__call__" ⟨.ref C :: rest, kw⟩)) (.call (.ref fI) ⟨.ref x :: rest, kw⟩) (InitBack x R) { s with heap := h' }) :
    codeC (model prog w) A (.call (.ref C) ⟨rest, kw⟩) R s := by
  refine @Mine.hush _ (by
  obtain ⟨h, g, d, t, os⟩ := s
  have N2 := (N.push F emptyDict).push (F.push _) (instObj C h.objs.size)
  rw [Heap.size_push] at N2
  have hq := hq _ h.objs.size _ ((F.push _).push _) N2 (fun p hp => Heap.lt_size (N p hp).1) (Nat.lt_succ_self _)
  have Y := makes_of (M := model prog w) X hm
  have Y' := Y
  have hi := looks_findIn (M := model prog w) X hi
  have hb : ∀ self, Looks (model prog w) h (bindSpecial (.ref fI) self) (.ref fI, [self]) := fun self => bind_fn X self hf
  obtain ⟨⟨oc, od, cd, sl, hC, e1, e2, e4⟩, made, base, self, top, call, typ⟩ := Y
  have hk : ∀ a, calm (.builtin "type.__call__" a) = true := fun a => by
    show (!(Builtin.Bytes.decodersThatHold.contains "type.__call__")) = true
    decide +kernel
  refine c_tree rfl (of_any ?_)
  show wpAny _ _ (callAny (.ref C) _) _ _ _
  refine nd_load hC ?_
  show wpAny _ _ (callAny.viaDunder (.ref C) _) _ _ _
  unfold callAny.viaDunder
  refine wpAny_bind (call.at ?_)
  dsimp only
  rw [tc_bind]
  refine wpAny_bind (wpAny_pure (wpAny_bind (wpAny_pure ?_)))
  refine wpAny_pure (a := Fin.again (.call (.builtin "type.__call__") ⟨.ref C :: rest, kw⟩)) ⟨rfl, rfl, ?_⟩
  refine c_tree rfl ?_
  show wpC _ A.in1 (do checkBuiltinCall "type.__call__" ⟨.ref C :: rest, kw⟩; again (.builtin "type.__call__" ⟨.ref C :: rest, kw⟩)) _ _ _
  refine c_step (check_slot tc_kind tc_split typ (tc_args _ _ _) (c_pure ⟨hk _, Code.quiet_builtin _ (by decide +kernel), c_builtin (hk _) entry_typeCall ?_⟩))
  unfold Builtin.«type.__call__»
  have hmr : Looks (model prog w) h (mroOf (.ref C)) cd.mro := ((Looks.ld (part := none) hC).andThen .now).andThen .now
  have k : ∀ b o, h.get? b = some o → ((h.push emptyDict).push (instObj C h.objs.size)).get? b = some o := fun b o e => Heap.get?_push_of_some _ (Heap.get?_push_of_some _ e)
  have hx : ((h.push emptyDict).push (instObj C h.objs.size)).get? (h.objs.size + 1) = some (instObj C h.objs.size) := by heap_get
  have t1 : Looks (model prog w) ((h.push emptyDict).push (instObj C h.objs.size)) (typeOf (.ref (h.objs.size + 1))) (.ref C) := (Looks.ld hx).andThen .now
  have s1 := self.keeps k
  have i1 := hi.keeps k
  have b1 := (hb (.ref (h.objs.size + 1))).keeps k
  dsimp only
  refine c_if_false rfl ?_
  first | refine c_step (wpAny_pure ?_) | skip
  refine c_step (hmr.at ?_)
  refine c_if_false e4 ?_
  refine c_step (made.at ?_)
  dsimp only
  first | refine c_step (wpAny_pure ?_) | skip
  refine c_step (wpAny_holding (wpAny_call (new_K Y' hi (.inl rfl) ?_)))
  have ti : Looks (model prog w) ((h.push emptyDict).push (instObj C h.objs.size)) (isInstance (.ref (h.objs.size + 1)) (.ref C)) true := t1.andThen s1
  have tl : Looks (model prog w) ((h.push emptyDict).push (instObj C h.objs.size)) (specialOf (.ref (h.objs.size + 1)) "__init__") (some (.ref fI)) := t1.andThen i1
  refine c_step (ti.at ?_)
  refine c_if_false rfl ?_
  refine c_bind (c_holding ?_)
  unfold callSpecial?
  refine c_step (tl.at ?_)
  dsimp only
  refine c_holding (c_step (b1.at ?_))
  refine c_bind ?_
  refine c_call (codeC_mono hq fun r s' z => ?_)
  rcases r with e | (v | _ | _ | _)
  · exact z
  · exact z.elim
  · exact z.elim
  · exact z.elim
  obtain ⟨rfl, z⟩ := z
  refine c_pure ?_
  dsimp only
  refine c_if_false rfl ?_
  exact c_pure z) ?_
  intro q f
  simpa using Mine.hushed f 5 fun n i => i
end
end Mine

-- CelC
open PySem PySem.W PyProof.Rows
set_option Elab.async false
namespace Mine
open PySem.Calls
set_option maxRecDepth 100000
set_option maxHeartbeats 4000000
section
variable {prog : Program} {w : World} {A₀ A : Around} {s : Shared} {base h₀ : Heap} {outer : List Env} {L : Addr} {m mg mb : Str → Option Value} {env : Env} {mine rest : List (Addr × Obj)} {K : Frag} {p : Program} {loose : List Str} {mean : ExcName → Option Value}
  {R : Result → Shared → Prop} {name qual : Str} {params : Arguments} {body : List Stmt} {scope : Scope} {dV kV doc pm cdv ct oc : Value} {an od : Option Addr} {osl : Array (Option Value)} {f : Addr} {args : Args} {binds : List (Str × Value)}
/-- as defA, a def whose locals are captured -/
theorem defAC (B : Below A₀ base outer h₀) (F : Fr h₀ L s.heap m) (X₀ : K.In h₀) (N : News h₀ L s.heap (mine ++ rest)) (hdis : ∀ q ∈ rest, ∀ p ∈ mine, q.1 ≠ p.1) (T : Top p loose mean mg mb h₀) (hA : A.frames = some (env :: outer)) (hf : env.frame = some L) (hke : env.scope.kind = .function)
    (ho : K.lookup f = some ⟨oc, od, .func (fnOf name qual params body scope dV kV doc pm an cdv ct), osl⟩) (hcd : codeIn K cdv qual = true) (hroom : A.depth < recursionLimit)
    (hbind : BindsTo s (fnOf name qual params body scope dV kV doc pm an cdv ct) args binds) (hkind : (binds.all fun y => scope.names.lookup y.1 == some .local || scope.names.lookup y.1 == some .cell) = true)
    (hnd : ((cellsFrom 0 scope.names []).map (·.1)).Nodup)
    (h : ∀ g L' h₁ tk cells, Fr h₀ L g m → Fr g L' h₁ (bindL (envOfC qual scope L' f cdv).kindOf binds fun _ => none) → News g L' h₁ (cells ++ mine) →
      CellsAre (bindC (envOfC qual scope L' f cdv).kindOf binds fun _ => none) (cellsFrom (L' + 1) scope.names []) cells → Below A base (env :: outer) g → K.In g → Top p loose mean mg mb g → (∀ p ∈ mine, p.1 < L') → (∀ x o, s.heap.get? x = some o → (∀ p ∈ mine, p.1 ≠ x) → g.get? x = some o) →
      wpAny (model prog w) (A.deeper (envOfC qual scope L' f cdv)) (execs body (envOfC qual scope L' f cdv))
        (fun fl s' => LeaveM h₀ L m g rest R (match fl with | .ret v => v | _ => .none) s')
        (fun e s' => wpAny (model prog w) (A.deeper (envOfC qual scope L' f cdv)) (leaving (envOfC qual scope L' f cdv) e) (fun _ s'' => R (.error e) s'') (fun e' s'' => R (.error e') s'') s')
        { s with heap := h₁, toks := tk })
    (hco : scope.isCoroutine = false) (hgen : scope.isGenerator = false) (hk : scope.kind = .function) : codeAny (model prog w) A (.call (.ref f) args) R s := by
  refine @Mine.hush _ (by
  obtain ⟨FG, BG, st, lv⟩ := groundM (R := R) B F N hdis hA hf hke
  have N₁ : News h₀ L s.heap mine := fun p hp => N p (List.mem_append_left _ hp)
  have X := X₀.keeps F.keep
  refine codeAny_call_function hroom (X _ _ ho) rfl hco hgen rfl (codeRec_of X hcd) (hbind _ _ _ _ ?_)
  refine wpAny_newFunctionEnv_cells hk (kindsX hkind _) fun env' he s' x => ?_
  subst he
  refine ⟨(T.nolimit.keeps F.keep).keeps x.toInCall.keep, codeAny_func ?_⟩
  obtain ⟨h₁, tk, rfl, _⟩ := x.done
  have hk₁ := x.toInCall.keep
  obtain ⟨cells, NC, Y⟩ := Cl.news (h₀ := s.heap) (Nat.le_refl _) fun n c hm => ⟨x.cell n c (lookup_of_mem_nodup (cellsFrom_names scope.names 0 (s.heap.objs.size + 1) [] [] rfl ▸ hnd) hm), x.above n c hm⟩
  refine wpAny_mono (h _ s.heap.objs.size h₁ tk cells FG ⟨x.toInCall.ns, fun b o e => hk₁ b o (of_hideAll _ e), Nat.le_of_eq (hideAll_size _ _)⟩ (fun p hp => ?_) Y BG (X₀.keeps st) (T.keeps st) (fun p hp => Heap.lt_size (N₁ p hp).1) (fun x o e hx => hideAll_get _ e fun e' => by
      obtain ⟨p, hp, e2⟩ := List.mem_map.mp e'
      exact hx p hp e2)) (fun fl s' hl => lv _ _ hl) fun _ _ y => y
  rcases List.mem_append.mp hp with hp | hp
  · refine ⟨(NC p hp).1, (NC p hp).2.1, ?_⟩
    cases q : (hideAll s.heap (mine.map (·.1))).get? p.1 with
    | none => rfl
    | some o => have := of_hideAll _ q; rw [(NC p hp).2.2] at this; cases this
  · exact ⟨hk₁ _ _ (N₁ p hp).1, Nat.ne_of_lt (Heap.lt_size (N₁ p hp).1), hideAll_none _ (List.mem_map_of_mem hp)⟩) ?_
  intro q f
  simpa using Mine.hushed f 5 fun n i => i
end
end Mine

-- Rul7
open PySem PySem.W PyProof.Rows
set_option Elab.async false
namespace Mine
open PySem.Calls
set_option maxRecDepth 100000
set_option maxHeartbeats 4000000
namespace UP
theorem plain : plainId "_struct.unpack" = true := by decide +kernel
theorem entry : entryFor table "_struct.unpack" = some Builtin.«_struct.unpack» := by first | exact entryFor_of_tree (by kernel_rfl) | exact entryFor_of_fast (by kernel_rfl)
theorem check (a b : Value) : checkBuiltinCall "_struct.unpack" ⟨[a, b], []⟩ = pure () := by kernel_rfl
theorem parse4 : Builtin.Struct.parse #[62, 66, 66, 66, 66] = pure ⟨true, false, [⟨'B', 1, 0, 1⟩, ⟨'B', 1, 1, 1⟩, ⟨'B', 1, 2, 1⟩, ⟨'B', 1, 3, 1⟩], 4, 4⟩ := by kernel_rfl
theorem nat1 (a : UInt8) : Builtin.Struct.natOf true #[a] = a.toNat := by
  unfold Builtin.Struct.natOf
  simp [Builtin.Memoryview.littleEndian]
theorem fbytes (t : Tok) : Builtin.Struct.formatBytes (.str (Str.ofString ">BBBB") t) = pure #[62, 66, 66, 66, 66] := by kernel_rfl
theorem modf (t : Tok) : Builtin.Struct.moduleFormat (.str (Str.ofString ">BBBB") t) = pure ⟨true, false, [⟨'B', 1, 0, 1⟩, ⟨'B', 1, 1, 1⟩, ⟨'B', 1, 2, 1⟩, ⟨'B', 1, 3, 1⟩], 4, 4⟩ := by
  have e : (typeOf (.str (Str.ofString ">BBBB") t) : Sem Value) = pure (.type "str") := by kernel_rfl
  unfold Builtin.Struct.moduleFormat
  rw [e, pure_bind]
  simp only [fbytes, pure_bind, parse4]
  rfl
theorem unp (a b c d : UInt8) : Builtin.Struct.unpacked "_struct.unpack" ⟨true, false, [⟨'B', 1, 0, 1⟩, ⟨'B', 1, 1, 1⟩, ⟨'B', 1, 2, 1⟩, ⟨'B', 1, 3, 1⟩], 4, 4⟩ #[a, b, c, d] 0 =
    (mkInt (a.toNat : Int) >>= fun v1 => mkInt (b.toNat : Int) >>= fun v2 => mkInt (c.toNat : Int) >>= fun v3 => mkInt (d.toNat : Int) >>= fun v4 => newTuple [v1, v2, v3, v4]) := by
  have hl : ∀ m : Nat, m ≤ 4 → Builtin.Bytes.tooLong m = false := fun m hm => KBy.tooLong_not (by omega)
  have e1 : (#[a, b, c, d] : Array UInt8).extract 0 1 = #[a] := rfl
  have e2 : (#[a, b, c, d] : Array UInt8).extract 1 2 = #[b] := rfl
  have e3 : (#[a, b, c, d] : Array UInt8).extract 2 3 = #[c] := rfl
  have e4 : (#[a, b, c, d] : Array UInt8).extract 3 4 = #[d] := rfl
  unfold Builtin.Struct.unpacked
  simp [hl, Std.Legacy.Range.forIn_eq_forIn_range', nat1]
end UP
section
variable {prog : Program} {w : World} {A : Around} {E : Value → Shared → Prop} {s : Shared}
theorem unpack4 {a b c d : UInt8} {t u : Tok} {Q : Value → Shared → Prop}
    (k : ∀ t1 t2 t3 t4 k', Q (.ref s.heap.objs.size) { s with heap := s.heap.push { cls := .type "tuple", data := .seq #[.int a.toNat t1, .int b.toNat t2, .int c.toNat t3, .int d.toNat t4] }, toks := k' }) :
    wpAny (model prog w) A (call (.builtin "_struct.unpack") [.str (Str.ofString ">BBBB") t, .bytes #[a, b, c, d] u]) Q E s := by
  refine @Mine.hush _ (by
  refine wpAny_call (codeAny_of_tree ?_)
  show wpAny _ A.in1 (do checkBuiltinCall "_struct.unpack" ⟨[.str (Str.ofString ">BBBB") t, .bytes #[a, b, c, d] u], []⟩; again (.builtin "_struct.unpack" ⟨[.str (Str.ofString ">BBBB") t, .bytes #[a, b, c, d] u], []⟩)) _ _ s
  refine wpAny_bind (wpAny_of_eq (UP.check _ _) (wpAny_pure ⟨plainId_quiet UP.plain _, codeAny_builtin UP.entry ?_⟩))
  rw [Around.under_plainId UP.plain _]
  unfold Builtin.«_struct.unpack»
  refine wpAny_bind (wpAny_of_eq (a := ()) rfl ?_)
  refine wpAny_bind (wpAny_of_eq (a := ()) rfl ?_)
  refine wpAny_bind (wpAny_of_eq (UP.modf t) ?_)
  unfold Builtin.Struct.unpackExact
  refine wpAny_bind ?_
  unfold Builtin.Bytes.bytesLike
  refine wpAny_bind (by_buffer (wpAny_pure ?_))
  refine wpAny_bind (wpAny_pure ?_)
  refine bm_if_false rfl ?_
  show wpAny _ _ (Builtin.Struct.unpacked _ _ #[a, b, c, d] 0 >>= fun v => ret v) _ _ _
  rw [UP.unp]
  refine wpAny_bind (wpAny_bind (wpAny_mkInt (wpAny_bind (wpAny_mkInt (wpAny_bind (wpAny_mkInt (wpAny_bind (wpAny_mkInt ?_))))))))
  refine wpAny_newObj_type ?_ (by show 4 ≤ sizeLine; rw [sizeLine_eq]; decide)
  exact wpAny_pure (k _ _ _ _ _)) ?_
  intro q f
  simpa using Mine.hushed f 5 fun n i => i
theorem unpack4N {h₀ : Heap} {L : Addr} {m : Str → Option Value} {news : List (Addr × Obj)} {a b c d : UInt8} {t u : Tok} {Q : Value → Shared → Prop} (F : Fr h₀ L s.heap m) (N : News h₀ L s.heap news)
    (k : ∀ x h' t1 t2 t3 t4 k', Fr h₀ L h' m → News h₀ L h' ((x, { cls := .type "tuple", data := .seq #[.int a.toNat t1, .int b.toNat t2, .int c.toNat t3, .int d.toNat t4] }) :: news) → (∀ p ∈ news, p.1 < x) → Q (.ref x) { s with heap := h', toks := k' }) :
    wpAny (model prog w) A (call (.builtin "_struct.unpack") [.str (Str.ofString ">BBBB") t, .bytes #[a, b, c, d] u]) Q E s :=
  unpack4 fun t1 t2 t3 t4 k' => k _ _ t1 t2 t3 t4 k' (F.push _) (N.push F _) (led_lt N)
end
end Mine

-- Rul8
open PySem PySem.W PyProof.Rows
set_option Elab.async false
namespace Mine
open PySem.Calls Builtin
set_option maxRecDepth 100000
set_option maxHeartbeats 4000000
theorem pick_in {b : Array UInt8} {i j : Int} (h0 : 0 ≤ i) (h1 : i ≤ j) (h2 : j ≤ b.size) : KBy.picked b (some i) (some j) = b.extract i.toNat j.toNat := by
  apply Array.ext'
  rw [KBc.picked_eq, List.toList_toArray, Array.toList_extract, List.extract_eq_take_drop]
  have e1 : clipAt b.size i = i.toNat := by have := clipAt_nat b.size i.toNat; rw [Int.toNat_of_nonneg h0] at this; rw [this]; omega
  have e2 : clipAt b.size j = j.toNat := by have := clipAt_nat b.size j.toNat; rw [Int.toNat_of_nonneg (by omega)] at this; rw [this]; omega
  simp only [Option.elim_some, e1, e2]
theorem pick_from {b : Array UInt8} {i : Int} (h0 : 0 ≤ i) (h2 : i ≤ b.size) : KBy.picked b (some i) none = b.extract i.toNat b.size := by
  apply Array.ext'
  rw [KBc.picked_eq, List.toList_toArray, Array.toList_extract, List.extract_eq_take_drop]
  have e1 : clipAt b.size i = i.toNat := by have := clipAt_nat b.size i.toNat; rw [Int.toNat_of_nonneg h0] at this; rw [this]; omega
  simp only [Option.elim_some, Option.elim_none, e1]
theorem has_pick {arr : Array UInt8} {hd : Int} {out : List UInt8} (h : Has arr hd out) : arr.extract hd.toNat arr.size = out.toArray := by
  apply Array.ext'
  rw [Array.toList_extract, List.extract_eq_take_drop, List.toList_toArray, ← h.2.2, List.take_of_length_le]
  rw [List.length_drop, Array.length_toList]
  omega
theorem by_bytes : typeLookup (.type "bytes") "__bytes__" = pure (some (.builtin "bytes.__bytes__")) := by rw [typeLookup_type, builtinLookup_eq_fast]; kernel_rfl
section
variable {prog : Program} {w : World} {A : Around} {E : Value → Shared → Prop} {s : Shared} {value slice : PySem.Expr} {h₀ : Heap} {L : Addr} {m : PySem.Str → Option Value} {news : List (Addr × Obj)} {l u : Value} {lo hi : Option Int} {Q : Value → Shared → Prop}
/-- ba[l:u] of the ledger -/
theorem ba_cut {ba : Addr} {arr : Array UInt8} (F : Fr h₀ L s.heap m) (N : News h₀ L s.heap news) (hb : s.heap.get? ba = some (AO arr)) (hl : IsPart l lo) (hu : IsPart u hi) (hz : arr.size ≤ 16777216)
    (h : ∀ x h', Fr h₀ L h' m → News h₀ L h' ((x, AO (KBy.picked arr lo hi)) :: news) → (∀ p ∈ news, p.1 < x) → Q (.ref x) { s with heap := h' })
    (hs : subscripted slice false (.ref ba) (.ref s.heap.objs.size) = operate [.ref s.heap.objs.size, .ref ba] (getItem (.ref ba) (.ref s.heap.objs.size)) := by with_unfolding_all rfl) :
    wpAny (model prog w) A (subscriptTail value slice (.ref ba) (.ref s.heap.objs.size)) Q E { s with heap := s.heap.push { cls := .type "slice", data := .fields #[l, u, .none] } } := by
  have hb' := Heap.get?_push_of_some { cls := Value.type "slice", data := Data.fields #[l, u, .none] } hb
  refine tail_any (s := { s with heap := s.heap.push { cls := .type "slice", data := .fields #[l, u, .none] } }) (ba_type hb') BA.slot_getitem.lookup (ba_getslice hb' (Heap.IsSliceOf.new _ _ _ _) hl hu (Nat.le_trans (KBc.size_picked_le arr lo hi) (by rw [sizeLine_eq]; exact hz)) ?_) hs
  exact h _ _ ((F.push _).push _) ((News.pushKeep N _).push (F.push _) _) fun p hp => Nat.lt_trans (led_lt N p hp) (by rw [Heap.size_push]; exact Nat.lt_succ_self _)
/-- b[l:u] -/
theorem by_cut {b : Array UInt8} {t : Tok} (F : Fr h₀ L s.heap m) (N : News h₀ L s.heap news) (hl : IsPart l lo) (hu : IsPart u hi) (hz : b.size ≤ 16777216)
    (h : ∀ h' t' k, Fr h₀ L h' m → News h₀ L h' news → Q (.bytes (KBy.picked b lo hi) t') { s with heap := h', toks := k })
    (hs : subscripted slice false (.bytes b t) (.ref s.heap.objs.size) = operate [.ref s.heap.objs.size, .bytes b t] (getItem (.bytes b t) (.ref s.heap.objs.size)) := by with_unfolding_all rfl)
    (ht : ∀ r, letTemporaryGo value (.bytes b t) r = pure () := by intro _; with_unfolding_all rfl) :
    wpAny (model prog w) A (subscriptTail value slice (.bytes b t) (.ref s.heap.objs.size)) Q E { s with heap := s.heap.push { cls := .type "slice", data := .fields #[l, u, .none] } } :=
  KBc.slice_K F N rfl hl hu (by rw [KBw.ints_length]; exact hz) (fun h' t' k F' N' _ => h h' t' k F' N') hs ht
/-- of octets that are read only -/
theorem buf_cut {v : Value} {arr : Array UInt8} (F : Fr h₀ L s.heap m) (N : News h₀ L s.heap news) (H : BufIn s.heap v arr) (hl : IsPart l lo) (hu : IsPart u hi) (hz : arr.size ≤ 16777216)
    (h : ∀ v' h' k, Fr h₀ L h' m → News h₀ L h' news → BufIn h' v' (KBy.picked arr lo hi) → Q v' { s with heap := h', toks := k })
    (hs : subscripted slice false v (.ref s.heap.objs.size) = operate [.ref s.heap.objs.size, v] (getItem v (.ref s.heap.objs.size)) := by with_unfolding_all rfl)
    (ht : ∀ b t r, letTemporaryGo value (.bytes b t) r = pure () := by intro _ _ _; with_unfolding_all rfl) :
    wpAny (model prog w) A (subscriptTail value slice v (.ref s.heap.objs.size)) Q E { s with heap := s.heap.push { cls := .type "slice", data := .fields #[l, u, .none] } } := by
  rcases H with ⟨t, rfl⟩ | ⟨ba, rfl, hb⟩
  · exact by_cut F N hl hu hz (fun h' t' k F' N' => h _ h' k F' N' (.inl ⟨t', rfl⟩)) hs (ht _ _)
  · exact ba_cut F N hb hl hu hz (fun x h' F' N' _ => h _ h' _ F' (fun p hp => N' p (.tail _ hp)) (.inr ⟨x, rfl, (N' _ (.head _)).1⟩)) hs
theorem bytes_of_bytes {b : Array UInt8} {t : Tok} (hQ : ∀ t k, Q (.bytes b t) { s with toks := k }) : wpAny (model prog w) A (call (.type "bytes") [.bytes b t]) Q E s := by
  refine @Mine.hush _ (by
  refine callType_codes (Q₁ := fun obj s₁ => s₁.TypeIs obj "bytes" ∧ Q obj s₁) F.bm_called (F.bm_typeCall _) F.entry_object_init ?_ fun obj s₁ h₁ => ?_
  · refine codeAny_of_tree ?_
    show wpAny _ A.in1.in1 (do checkBuiltinCall "bytes.__new__" ⟨[.type "bytes", .bytes b t], []⟩; again (.builtin "bytes.__new__" ⟨[.type "bytes", .bytes b t], []⟩)) _ _ s
    refine wpAny_bind (wpAny_of_eq (F.bm_newCall _) (wpAny_pure ⟨plainId_quiet F.bm_plain _, codeAny_builtin F.bm_entry ?_⟩))
    rw [Around.under_plainId F.bm_plain _]
    unfold Builtin.«bytes.__new__»
    refine wpAny_bind (wpAny_of_eq (a := true) rfl ?_)
    refine bm_if_false rfl ?_
    refine wpAny_bind (wpAny_of_eq F.bm_sub ?_)
    refine bm_if_false rfl ?_
    refine wpAny_bind (wpAny_of_eq (F.bm_bind _) ?_)
    refine wpAny_bind (wpAny_of_eq (a := ()) rfl ?_)
    refine wpAny_bind (wpAny_of_eq (a := ()) rfl ?_)
    refine bm_if_false rfl ?_
    refine wpAny_bind (wpAny_specialOf (PySem.W.typeIs_bytes s b t) by_bytes ?_)
    dsimp only
    refine wpAny_bind (wpAny_rule ?_)
    refine wpAny_bind (wpAny_typeOf (PySem.W.typeIs_bytes s b t) ?_)
    refine bm_if_true rfl ?_
    show wpAny _ _ (if (Value.type "bytes" == Value.type "bytes") = true then _ else _) _ _ _
    refine bm_if_true (by decide) ?_
    first
      | exact wpAny_pure ⟨PySem.W.typeIs_bytes _ _ _, hQ _ _⟩
      | exact wpAny_bind (wpAny_pure (wpAny_pure ⟨PySem.W.typeIs_bytes _ _ _, hQ _ _⟩))
  · exact ⟨h₁.1, F.args_object_init_2 obj _, object_init_meets F.bm_called.init.lookup F.bm_called.made (by decide) prog w A.in1 _ s₁ ⟨h₁.1, rfl, h₁.2⟩⟩) ?_
  intro q f
  simpa using Mine.hushed f 5 fun n i => i
theorem bytes_of_buf {v : Value} {arr : Array UInt8} (H : BufIn s.heap v arr) (hz : arr.size ≤ 16777216) (hQ : ∀ t k, Q (.bytes arr t) { s with toks := k }) : wpAny (model prog w) A (call (.type "bytes") [v]) Q E s := by
  rcases H with ⟨t, rfl⟩ | ⟨ba, rfl, hb⟩
  · exact bytes_of_bytes hQ
  · exact bytes_of_ba hb (by rw [sizeLine_eq]; exact hz) hQ
end
end Mine

-- Rul9
open PySem PySem.W PyProof.Rows
set_option Elab.async false
namespace Mine
open PySem.Calls
theorem pow_small {b k : Int} (h1 : 1 ≤ b) (h17 : b ≤ 17) (h0 : 0 ≤ k) (h6 : k < 6) : b ^ k.toNat ≠ 0 ∧ (b ^ k.toNat).natAbs < 1073741824 := by
  refine ⟨Int.ne_of_gt (Int.pow_pos (by omega)), ?_⟩
  rw [Int.natAbs_pow]
  have hb : b.natAbs ≤ 17 := by omega
  have hk : k.toNat ≤ 5 := by omega
  calc b.natAbs ^ k.toNat ≤ 17 ^ k.toNat := Nat.pow_le_pow_left hb _
    _ ≤ 17 ^ 5 := Nat.pow_le_pow_right (by decide) hk
    _ < 1073741824 := by decide
theorem fdiv_pow {prog : Program} {w : World} {A : Around} {E : Value → Shared → Prop} {s : Shared} {a b k : Int} {t u : Tok} {Q : Value → Shared → Prop} (h1 : 1 ≤ b) (h17 : b ≤ 17) (h0 : 0 ≤ k) (h6 : k < 6)
    (h : Q (.int (a.fdiv (b ^ k.toNat)) s.toks) { s with toks := s.toks + 1 }) : wpAny (model prog w) A (binaryOp .FloorDiv (.int a t) (.int (b ^ k.toNat) u)) Q E s :=
  floordiv_int (pow_small h1 h17 h0 h6).1 h (.inl (PyProof.noPylong_small (pow_small h1 h17 h0 h6).2))
end Mine

-- Rul10
open PySem PySem.W PyProof.Rows
set_option Elab.async false
namespace Mine
open PySem.Calls
set_option maxRecDepth 100000
set_option maxHeartbeats 4000000
theorem row_same {row : List Int} {f : Int → Int} {k : Nat} (hk : k = row.length) (h : ∀ (j : Nat) (x : Int), row[j]? = some x → f j = x) : List.map f (rangeKs 0 k) = row := by
  subst hk
  apply List.ext_getElem
  · rw [List.length_map, rangeKs_length]
  · intro j h1 h2
    rw [List.getElem_map]
    have e : (rangeKs 0 row.length)[j]'(by rw [rangeKs_length]; exact h2) = (j : Int) := by simp [rangeKs]
    rw [e]
    exact h j _ (List.getElem?_eq_getElem h2)
section
variable {prog : Program} {w : World} {A : Around} {E : Value → Shared → Prop} {s : Shared} {h₀ : Heap} {L : Addr} {m : Str → Option Value} {news : List (Addr × Obj)}
/-- two tuples of the same value and the same int -/
theorem tup2_ne {x y : Addr} {v : Value} {p q : Int} {t u : Tok} {Q : Value → Shared → Prop} (N : News h₀ L s.heap news) (hx : (x, ({ cls := .type "tuple", data := .seq #[v, .int p t] } : Obj)) ∈ news) (hy : (y, ({ cls := .type "tuple", data := .seq #[v, .int q u] } : Obj)) ∈ news)
    (hu : A.units < cLine) (hp : p = q) (h : Q (.bool false) s) : wpAny (model prog w) A (compareOp .NotEq (.ref x) (.ref y)) Q E s := by
  refine @Mine.hush _ (by
  subst hp
  refine PySem.SeqAt.RcNeAt.tuples (e := fun _ => true) ⟨_, (N _ hx).1, rfl, _, rfl⟩ ⟨_, (N _ hy).1, rfl, _, rfl⟩ hu (fun j h1 h2 => ?_) _ _ _ _ ?_
  · have hj : j = 0 ∨ j = 1 := by
      have : j < 2 := h1
      omega
    rcases hj with rfl | rfl
    · exact PySem.SeqAt.EqAt.same v
    · have := PySem.SeqAt.EqAt.int_int (A := A.in1) (s := s) p t p u
      rw [beq_self_eq_true] at this
      exact this
  · have e : (!((List.range (min (#[v, Value.int p t]).size (#[v, Value.int p u]).size)).all (fun _ => true) && (#[v, Value.int p t]).size == (#[v, Value.int p u]).size)) = false := by simp
    rw [e]; exact h) ?_
  intro q f
  simpa using Mine.hushed f 5 fun n i => i
/-- two lists of ints on the ledger that are the same -/
theorem ne_rows {a b : Addr} {xs ys : List Value} {ns ms : List Int} {Q : Value → Shared → Prop} (N : News h₀ L s.heap news) (ha : (a, LCg.lst xs) ∈ news) (hb : (b, LCg.lst ys) ∈ news) (hi : IntsAre xs ns) (hj : IntsAre ys ms) (hu : A.units + 64 < cLine) (he : ns = ms) (h : Q (.bool false) s) :
    wpAny (model prog w) A (compareOp .NotEq (.ref a) (.ref b)) Q E s :=
  ke_ne_ints ⟨_, (N _ ha).1, rfl, _, rfl⟩ ⟨_, (N _ hb).1, rfl, _, rfl⟩ hi hj hu (by rw [decide_eq_true he]; exact h)
end
end Mine

-- Pl8
set_option maxRecDepth 100000
namespace Mine
open PySem PySem.W PyProof.Rows
/-- what is read at a place -/
abbrev Rd (c : Char) (n : Nat) (arr : Array UInt8) (p : Int) : Int := told c n (arr.extract p.toNat (p.toNat + n))
/-- a table with its vtable of twelve octets -/
structure TabAt (arr : Array UInt8) (pos vt : Int) : Prop where
  so : Rd 'i' 4 arr pos = pos - vt
  ve : Rd 'H' 2 arr vt = 12
  v0 : 0 ≤ vt
  v1 : vt + 12 ≤ arr.size
  p0 : 0 ≤ pos
  p1 : pos + 4 ≤ arr.size
theorem pd_mod {add : Int} {out : List UInt8} : (((pd 4 add out).length : Int) + add) % 4 = 0 := by
  unfold pd padOf
  rw [List.length_append, List.length_replicate]
  lia
theorem pd_zero {out : List UInt8} (h : out.length % 4 = 0) : pd 4 0 out = out := by
  have e : padOf 4 (out.length + 0) = 0 := by unfold padOf; lia
  unfold pd
  rw [e]; rfl
theorem pd_four {out : List UInt8} (h : out.length % 4 = 0) : pd 4 4 out = out := by
  have e : padOf 4 (out.length + 4) = 0 := by unfold padOf; lia
  unfold pd
  rw [e]; rfl
section
variable {arr : Array UInt8} {e : Int}
theorem Lies.cutN {a s : List UInt8} {p q : Int} (h : Lies arr e (a ++ s)) (hp : p = e - s.length - a.length) (hq : q = e - s.length) : arr.extract p.toNat q.toNat = a.toArray := by
  have h2 := h.cut hp
  have hi := h.inn
  rw [List.length_append] at hi
  rw [← h2]
  congr 1
  lia
/-- what Finish has laid, read -/
structure FinTells (arr : Array UInt8) (a e : Int) (mk : Option (List UInt8)) (sized : Bool) (root : Int) : Prop where
  sz : sized = true → Rd 'i' 4 arr a = e - a - 4
  ro : Rd 'I' 4 arr (if sized then a + 4 else a) = e - root - (if sized then a + 4 else a)
  at4 : (if sized then a + 4 else a) + 4 ≤ e
  mm : ∀ m, mk = some m → arr.extract ((if sized then a + 4 else a) + 4).toNat ((if sized then a + 4 else a) + 4 + 4).toNat = m.toArray ∧ (if sized then a + 4 else a) + 8 ≤ e
/-- the root's offset and the mark -/
def fin3 (mk : Option (List UInt8)) (root : Int) (o1 : List UInt8) : List UInt8 :=
  lay 4 ((pd 4 0 (match mk with | none => o1 | some m => m ++ pd 4 4 o1)).length - root + 4) ++ pd 4 0 (match mk with | none => o1 | some m => m ++ pd 4 4 o1)
theorem finO_eq {mk : Option (List UInt8)} {sized : Bool} {root : Int} {out : List UInt8} : finO mk sized root out = (if sized then lay 4 (fin3 mk root (pd 4 (4 + (if mk.isSome = true then 4 else 0) + (if sized = true then 4 else 0)) out)).length ++
    pd 4 0 (fin3 mk root (pd 4 (4 + (if mk.isSome = true then 4 else 0) + (if sized = true then 4 else 0)) out)) else fin3 mk root (pd 4 (4 + (if mk.isSome = true then 4 else 0) + (if sized = true then 4 else 0)) out)) := by
  cases mk <;> rfl
theorem fin_core {mk : Option (List UInt8)} {root : Int} {o1 o3 : List UInt8} (hm : ∀ m, mk = some m → m.length = 4) (h4 : ((o1.length : Int) + (if mk.isSome then 4 else 0)) % 4 = 0) (hr0 : 0 ≤ root) (hr1 : root ≤ o1.length) (hz : o1.length ≤ 4000)
    (h3 : o3 = fin3 mk root o1) (h : Lies arr e o3) :
    Rd 'I' 4 arr (e - o3.length) = e - root - (e - o3.length) ∧ (∀ m, mk = some m → arr.extract (e - o3.length + 4).toNat (e - o3.length + 4 + 4).toNat = m.toArray ∧ 8 ≤ o3.length) ∧ Lies arr e o1 ∧ o3.length % 4 = 0 ∧ 4 ≤ o3.length ∧ o3.length ≤ o1.length + 8 := by
  refine @Mine.hush _ (by
  cases mk with
  | none =>
    have e0 : o1.length % 4 = 0 := by simp at h4; lia
    unfold fin3 at h3
    dsimp only at h3
    rw [pd_zero e0] at h3
    subst h3
    rw [List.length_append, lay_length]
    refine ⟨?_, fun m hm => (nomatch hm), h.tail, by lia, by lia, by lia⟩
    have h5 := Lies.I (p := e - ((4 + o1.length : Nat) : Int)) h (by lia) (by lia) (by lia)
    exact h5.trans (by lia)
  | some m =>
    have e0 : o1.length % 4 = 0 := by simp at h4; lia
    have em := hm m rfl
    have e1 : (m ++ o1).length % 4 = 0 := by rw [List.length_append]; lia
    unfold fin3 at h3
    dsimp only at h3
    rw [pd_four e0, pd_zero e1] at h3
    subst h3
    rw [List.length_append, lay_length]
    have h1 : Lies arr e (m ++ o1) := h.tail
    have l1 : (m ++ o1).length = 4 + o1.length := by rw [List.length_append, em]
    refine ⟨?_, fun m' hm' => ?_, h1.tail, by lia, by lia, by lia⟩
    · have h5 := Lies.I (p := e - ((4 + (m ++ o1).length : Nat) : Int)) h (by lia) (by lia) (by lia)
      exact h5.trans (by lia)
    · obtain rfl : m = m' := Option.some.inj hm'
      exact ⟨h1.cutN (by lia) (by lia), by lia⟩) ?_
  intro q f
  simpa using Mine.hushed f 5 fun n i => i
theorem fin_lies {mk : Option (List UInt8)} {sized : Bool} {root : Int} {out : List UInt8} (hm : ∀ m, mk = some m → m.length = 4) (hr0 : 0 ≤ root) (hr1 : root ≤ out.length) (hz : out.length ≤ 3900) (h : Lies arr e (finO mk sized root out)) :
    FinTells arr (e - (finO mk sized root out).length) e mk sized root ∧ Lies arr e out ∧ ((finO mk sized root out).length : Int) ≤ out.length + 16 := by
  refine @Mine.hush _ (by
  rw [finO_eq] at h ⊢
  obtain ⟨o1, ho1⟩ : ∃ o1, o1 = pd 4 (4 + (if mk.isSome = true then 4 else 0) + (if sized = true then 4 else 0)) out := ⟨_, rfl⟩
  obtain ⟨o3, ho3⟩ : ∃ o3, o3 = fin3 mk root o1 := ⟨_, rfl⟩
  have hmod := pd_mod (add := 4 + (if mk.isSome = true then 4 else 0) + (if sized = true then 4 else 0)) (out := out)
  have hl := pd_len (sz := 4) (add := 4 + (if mk.isSome = true then 4 else 0) + (if sized = true then 4 else 0)) (out := out) (by decide)
  rw [← ho1] at hmod hl h ⊢
  rw [← ho3] at h ⊢
  have hfull : ∀ h3 : Lies arr e o3, Rd 'I' 4 arr (e - o3.length) = e - root - (e - o3.length) ∧ (∀ m, mk = some m → arr.extract (e - o3.length + 4).toNat (e - o3.length + 4 + 4).toNat = m.toArray ∧ 8 ≤ o3.length) ∧ Lies arr e o1 ∧ o3.length % 4 = 0 ∧ 4 ≤ o3.length ∧ o3.length ≤ o1.length + 8 :=
    fun h3 => fin_core hm (by split at hmod <;> split at hmod <;> simp_all <;> lia) hr0 (by lia) (by lia) ho3 h3
  have hout : ∀ h1 : Lies arr e o1, Lies arr e out := fun h1 => by rw [ho1] at h1; exact h1.pd
  cases sized with
  | false =>
    simp only [Bool.false_eq_true, if_false] at h ⊢
    obtain ⟨f1, f2, f3, f4, f5, f6⟩ := hfull h
    refine ⟨⟨fun q => (nomatch q), ?_, ?_, ?_⟩, hout f3, by lia⟩
    · simp only [Bool.false_eq_true, if_false]; exact f1
    · simp only [Bool.false_eq_true, if_false]; lia
    · intro m hm'
      simp only [Bool.false_eq_true, if_false]
      obtain ⟨g1, g2⟩ := f2 m hm'
      exact ⟨g1, by lia⟩
  | true =>
    simp only [if_true] at h ⊢
    have h3 : Lies arr e o3 := h.tail.pd
    obtain ⟨f1, f2, f3, f4, f5, f6⟩ := hfull h3
    rw [pd_zero f4] at h ⊢
    have hL : ((lay 4 (o3.length : Int) ++ o3).length : Int) = o3.length + 4 := by rw [lay_app]; rfl
    have ea : e - ((lay 4 (o3.length : Int) ++ o3).length : Int) + 4 = e - o3.length := by lia
    refine ⟨⟨fun _ => ?_, ?_, ?_, ?_⟩, hout f3, by lia⟩
    · have h5 := Lies.i (p := e - ((lay 4 (o3.length : Int) ++ o3).length : Int)) h (by lia) (by lia) (by lia)
      exact h5.trans (by lia)
    · simp only [if_true, ea]; exact f1
    · simp only [if_true, ea]; lia
    · intro m hm'
      simp only [if_true, ea]
      obtain ⟨g1, g2⟩ := f2 m hm'
      exact ⟨g1, by lia⟩) ?_
  intro q f
  simpa using Mine.hushed f 5 fun n i => i
/-- a table, read -/
theorem vtab_lies {out : List UInt8} {oe x0 x1 x2 x3 root : Int} (hroot : root = (pd 4 0 out).length + 4) (hz : out.length ≤ 3900) (h0 : 0 ≤ x0 ∧ x0 ≤ root) (h1 : 0 ≤ x1 ∧ x1 ≤ root) (h2 : 0 ≤ x2 ∧ x2 ≤ root) (h3 : 0 ≤ x3 ∧ x3 ≤ root) (h : Lies arr e (vtab out oe [x0, x1, x2, x3])) :
    TabAt arr (e - root) (e - root - 12) ∧ Rd 'H' 2 arr (e - root - 12 + 4) = kv root x0 ∧ Rd 'H' 2 arr (e - root - 12 + 6) = kv root x1 ∧ Rd 'H' 2 arr (e - root - 12 + 8) = kv root x2 ∧ Rd 'H' 2 arr (e - root - 12 + 10) = kv root x3 ∧ Lies arr e out := by
  refine @Mine.hush _ (by
  have hl := pd_len (sz := 4) (add := 0) (out := out) (by decide)
  unfold vtab at h
  rw [← hroot] at h
  obtain ⟨t, ht⟩ : ∃ t, t = lay 4 12 ++ pd 4 0 out := ⟨_, rfl⟩
  have htl : (t.length : Int) = root := by rw [ht, lay_app, hroot]; rfl
  have hx : vl root [x0, x1, x2, x3] ++ (lay 4 12 ++ pd 4 0 out) = lay 2 (kv root x0) ++ (lay 2 (kv root x1) ++ (lay 2 (kv root x2) ++ (lay 2 (kv root x3) ++ t))) := by
    rw [vl_cons, vl_cons, vl_cons, vl_cons, ht]
    simp only [List.append_assoc]
    rfl
  rw [hx] at h
  have k0 := kv_range h0.1 h0.2
  have k1 := kv_range h1.1 h1.2
  have k2 := kv_range h2.1 h2.2
  have k3 := kv_range h3.1 h3.2
  have a0 := h.tail
  have a1 := a0.tail
  have a2 := a1.tail
  have a3 := a2.tail
  have a4 := a3.tail
  have a5 := a4.tail
  have hin := h.inn
  simp only [List.length_append, lay_length] at hin
  have l3 : ((lay 2 (kv root x3) ++ t).length : Int) = root + 2 := by rw [lay_app, htl]; rfl
  have l2 : ((lay 2 (kv root x2) ++ (lay 2 (kv root x3) ++ t)).length : Int) = root + 4 := by rw [lay_app, l3]; lia
  have l1 : ((lay 2 (kv root x1) ++ (lay 2 (kv root x2) ++ (lay 2 (kv root x3) ++ t))).length : Int) = root + 6 := by rw [lay_app, l2]; lia
  have l0 : ((lay 2 (kv root x0) ++ (lay 2 (kv root x1) ++ (lay 2 (kv root x2) ++ (lay 2 (kv root x3) ++ t)))).length : Int) = root + 8 := by rw [lay_app, l1]; lia
  have ls : ((lay 2 (root - oe) ++ (lay 2 (kv root x0) ++ (lay 2 (kv root x1) ++ (lay 2 (kv root x2) ++ (lay 2 (kv root x3) ++ t))))).length : Int) = root + 10 := by rw [lay_app, l0]; lia
  have hsz : root ≤ 4000 := by lia
  refine ⟨⟨?_, ?_, by lia, by lia, by lia, by lia⟩, ?_, ?_, ?_, ?_, ?_⟩
  · have q : Lies arr e (lay 4 12 ++ pd 4 0 out) := ht ▸ a5
    exact (q.i (by lia) (by lia) (by lia)).trans (by lia)
  · exact h.H (by lia) (by lia) (by lia)
  · exact a1.H (by lia) (by lia) (by lia)
  · exact a2.H (by lia) (by lia) (by lia)
  · exact a3.H (by lia) (by lia) (by lia)
  · exact a4.H (by lia) (by lia) (by lia)
  · have q : Lies arr e (lay 4 12 ++ pd 4 0 out) := ht ▸ a5
    exact q.tail.pd) ?_
  intro q f
  simpa using Mine.hushed f 5 fun n i => i
/-- a number's slot, read -/
theorem num_lies {x : Int} {out : List UInt8} (h0 : 0 ≤ x) (h1 : x ≤ 4294967295) (h : Lies arr e (numO x out)) : (x ≠ 0 → Rd 'I' 4 arr (e - slV x out) = x) ∧ Lies arr e out := by
  unfold numO at h
  unfold slV
  split at h
  · rename_i hx
    exact ⟨fun g => absurd hx g, h⟩
  · rename_i hx
    refine ⟨fun _ => ?_, h.tail.pd⟩
    rw [if_neg hx]; exact h.I h0 h1 (by lia)
/-- an offset's slot, read -/
theorem off_lies {x : Int} {out : List UInt8} (h0 : 0 ≤ x) (h1 : x ≤ out.length) (hz : out.length ≤ 3900) (h : Lies arr e (offO x out)) : (x ≠ 0 → Rd 'I' 4 arr (e - slV x out) = slV x out - x) ∧ Lies arr e out := by
  have hl := pd_len (sz := 4) (add := 0) (out := out) (by decide)
  unfold offO at h
  unfold slV
  split at h
  · rename_i hx
    exact ⟨fun g => absurd hx g, h⟩
  · rename_i hx
    refine ⟨fun _ => ?_, h.tail.pd⟩
    rw [if_neg hx]; exact (h.I (by lia) (by lia) (by lia)).trans (by lia)
theorem row_lies : ∀ {row : List Int} {out : List UInt8}, (∀ x ∈ row, 0 ≤ x ∧ x ≤ 65535) → Lies arr e (rowO row out) → (∀ (j : Nat) (x : Int), row[j]? = some x → Rd 'H' 2 arr (e - (rowO row out).length + 2 * j) = x) ∧ Lies arr e out
  | [], out, _, h => ⟨fun j x hx => by simp at hx, h⟩
  | y :: row, out, hr, h => by
    have h' : Lies arr e (lay 2 y ++ rowO row out) := h
    obtain ⟨i1, i2⟩ := row_lies (fun x hx => hr x (.tail _ hx)) h'.tail
    have hl : ((rowO (y :: row) out).length : Int) = (rowO row out).length + 2 := by show ((lay 2 y ++ rowO row out).length : Int) = _; rw [lay_app]; rfl
    refine ⟨fun j x hx => ?_, i2⟩
    have hy := hr y (.head _)
    cases j with
    | zero =>
      simp only [List.getElem?_cons_zero, Option.some.injEq] at hx
      subst hx
      exact h'.H hy.1 hy.2 (by lia)
    | succ j =>
      simp only [List.getElem?_cons_succ] at hx
      have ep : e - ((rowO (y :: row) out).length : Int) + 2 * ((j + 1 : Nat) : Int) = e - (rowO row out).length + 2 * j := by lia
      rw [ep]
      exact i1 j x hx
end
theorem markF_len (n : Int) (m : List UInt8) (h : markF n = some m) : m.length = 4 := by
  unfold markF at h
  split at h
  · obtain rfl := Option.some.inj h
    rw [List.length_map]
    unfold markV
    rw [List.length_map, rangeKs_length]
    rfl
  · cases h
theorem strO_len {b : Array UInt8} {out : List UInt8} : (out.length : Int) + b.size + 5 ≤ (strO b out).length ∧ ((strO b out).length : Int) ≤ out.length + b.size + 8 := by
  have h := pd_len (sz := 4) (add := b.size + 1) (out := out) (by decide)
  unfold strO
  rw [List.length_append, List.length_append, List.length_append, lay_length, lay_length, show b.toList.length = b.size from Array.length_toList]
  lia
theorem octO_len {a : Array UInt8} {out : List UInt8} : ((octO a out).length : Int) = (pd 4 a.size out).length + a.size + 4 := by
  unfold octO
  rw [lay_app, List.length_append, show a.toList.length = a.size from Array.length_toList]
  lia
theorem innO_len {inner : Option (Array UInt8)} {out : List UInt8} : (out.length : Int) ≤ (innO inner out).length ∧ ((innO inner out).length : Int) ≤ out.length + (inner.getD #[]).size + 7 ∧ 0 ≤ innV inner out ∧ innV inner out ≤ (innO inner out).length := by
  refine @Mine.hush _ (by
  cases inner with
  | none => exact ⟨Int.le_refl _, by show (out.length : Int) ≤ out.length + ((#[] : Array UInt8).size : Int) + 7; lia, Int.le_refl _, by show (0 : Int) ≤ (out.length : Int); lia⟩
  | some a =>
    have h := pd_len (sz := 4) (add := a.size) (out := out) (by decide)
    have e : ((innO (some a) out).length : Int) = (pd 4 a.size out).length + a.size + 4 := octO_len
    have e2 : innV (some a) out = (pd 4 a.size out).length + a.size + 4 := by
      show (((a.toList ++ pd 4 a.size out).length : Int) + 4) = _
      rw [List.length_append, show a.toList.length = a.size from Array.length_toList]
      lia
    rw [e, e2]
    show _ ∧ _ ≤ (out.length : Int) + (a.size : Int) + 7 ∧ _
    lia) ?_
  intro q f
  simpa using Mine.hushed f 5 fun n i => i
/-- where the inner row lies, from the end -/
def inV (n : Int) (inner : Option (Array UInt8)) : Int := innV inner (strO (enc (wordF n)) [])
/-- what the buffer tells, place by place -/
structure Tells (arr : Array UInt8) (a e n : Int) (inner : Option (Array UInt8)) (pos x4 x6 x8 x10 d6 d8 d10 : Int) : Prop where
  a0 : 0 ≤ a
  e1 : e ≤ arr.size
  fin : FinTells arr a e (markF n) (sizedF n) (e - pos)
  tab : TabAt arr pos (pos - 12)
  h4 : Rd 'H' 2 arr (pos - 12 + 4) = x4
  h6 : Rd 'H' 2 arr (pos - 12 + 6) = x6
  h8 : Rd 'H' 2 arr (pos - 12 + 8) = x8
  h10 : Rd 'H' 2 arr (pos - 12 + 10) = x10
  num : (x4 = 0 ∧ numF n = 0) ∨ (x4 ≠ 0 ∧ 0 ≤ pos + x4 ∧ pos + x4 + 4 ≤ arr.size ∧ Rd 'I' 4 arr (pos + x4) = numF n)
  w0 : 0 ≤ x6 ∧ pos + x6 + 4 ≤ arr.size
  wd : Rd 'I' 4 arr (pos + x6) = d6
  wl : Rd 'I' 4 arr (pos + x6 + d6) = (enc (wordF n)).size
  w1 : 0 ≤ pos + x6 + d6 ∧ pos + x6 + d6 + 4 + (enc (wordF n)).size ≤ arr.size
  wt : arr.extract (pos + x6 + d6 + 4).toNat (pos + x6 + d6 + 4 + (enc (wordF n)).size).toNat = enc (wordF n)
  r0 : 0 ≤ x10 ∧ x10 + pos + 4 ≤ arr.size
  rd : Rd 'I' 4 arr (x10 + pos) = d10
  rl : Rd 'I' 4 arr (x10 + pos + d10) = (rowF n).length
  r1 : 0 ≤ x10 + pos + d10 ∧ x10 + pos + d10 + 4 + 2 * (rowF n).length ≤ arr.size
  rt : ∀ (j : Nat) (x : Int), (rowF n)[j]? = some x → Rd 'H' 2 arr (x10 + pos + d10 + 4 + 2 * j) = x
  i0 : inner = none → x8 = 0
  i1 : ∀ b, inner = some b → x8 ≠ 0 ∧ 0 ≤ x8 ∧ x8 + pos + 4 ≤ arr.size ∧ Rd 'I' 4 arr (x8 + pos) = d8 ∧ 0 ≤ x8 + pos + d8 ∧ x8 + pos + d8 + 4 + b.size ≤ arr.size ∧ Rd 'I' 4 arr (x8 + pos + d8) = b.size ∧
    x8 + pos + d8 + 4 = e - inV n inner + 4 ∧ arr.extract (e - inV n inner + 4).toNat (e - inV n inner + 4 + b.size).toNat = b ∧ Lies arr (e - inV n inner + 4 + b.size) b.toList
theorem vtab_len {out : List UInt8} {oe x0 x1 x2 x3 : Int} : ((vtab out oe [x0, x1, x2, x3]).length : Int) = (pd 4 0 out).length + 16 := by
  unfold vtab
  rw [List.length_append, List.length_append, List.length_append, List.length_append, lay_length, lay_length, lay_length, vl_len]
  simp only [List.length_cons, List.length_nil]
  lia
theorem slV_pos {x : Int} {out : List UInt8} (h : x ≠ 0) : slV x out ≠ 0 ∧ slV x out = (pd 4 0 out).length + 4 := by
  unfold slV
  rw [if_neg h]
  exact ⟨by lia, rfl⟩
theorem kv_pos {root x : Int} (h : x ≠ 0) : kv root x = root - x := if_neg h
theorem tells {arr : Array UInt8} {e n : Int} {inner : Option (Array UInt8)} (h : Lies arr e (madeF n inner)) (hi : ((inner.getD #[]).size : Int) ≤ 500) :
    (∃ pos x4 x6 x8 x10 d6 d8 d10, Tells arr (e - (madeF n inner).length) e n inner pos x4 x6 x8 x10 d6 d8 d10) ∧ ((madeF n inner).length : Int) ≤ (inner.getD #[]).size + 150 ∧ 4 ≤ (madeF n inner).length := by
  refine @Mine.hush _ (by
  have hin := h.inn
  obtain ⟨hws, hwz⟩ := wordF_ok n
  obtain ⟨hn0, hn1⟩ := numF_in n
  obtain ⟨hrl, hri⟩ := rowF_in n
  obtain ⟨a, ha⟩ : ∃ a, a = e - ((madeF n inner).length : Int) := ⟨_, rfl⟩
  rw [← ha]
  obtain ⟨o1, ho1⟩ : ∃ o, o = strO (enc (wordF n)) [] := ⟨_, rfl⟩
  obtain ⟨o2, ho2⟩ : ∃ o, o = innO inner o1 := ⟨_, rfl⟩
  obtain ⟨o4, ho4⟩ : ∃ o, o = rowO (rowF n) (pd 4 (2 * (rowF n).length) o2) := ⟨_, rfl⟩
  obtain ⟨o5, ho5⟩ : ∃ o, o = lay 4 (rowF n).length ++ o4 := ⟨_, rfl⟩
  obtain ⟨o6, ho6⟩ : ∃ o, o = numO (numF n) o5 := ⟨_, rfl⟩
  obtain ⟨o7, ho7⟩ : ∃ o, o = offO o1.length o6 := ⟨_, rfl⟩
  obtain ⟨o8, ho8⟩ : ∃ o, o = offO (innV inner o1) o7 := ⟨_, rfl⟩
  obtain ⟨o9, ho9⟩ : ∃ o, o = offO (o4.length + 4) o8 := ⟨_, rfl⟩
  obtain ⟨o10, ho10⟩ : ∃ o, o = vtab o9 o5.length [slV (numF n) o5, slV o1.length o6, slV (innV inner o1) o7, slV (o4.length + 4) o8] := ⟨_, rfl⟩
  obtain ⟨root, hroot⟩ : ∃ r : Int, r = (pd 4 0 o9).length + 4 := ⟨_, rfl⟩
  have hm : madeF n inner = finO (markF n) (sizedF n) root o10 := by rw [hroot, ho10, ho9, ho8, ho7, ho6, ho5, ho4, ho2, ho1]; rfl
  -- lengths
  have l1 := strO_len (b := enc (wordF n)) (out := [])
  rw [← ho1, List.length_nil] at l1
  have l2 := innO_len (inner := inner) (out := o1)
  rw [← ho2] at l2
  have l3 := pd_len (sz := 4) (add := 2 * (rowF n).length) (out := o2) (by decide)
  have l4 := rowO_len (xs := rowF n) (out := pd 4 (2 * (rowF n).length) o2)
  rw [← ho4] at l4
  have l5 : (o5.length : Int) = o4.length + 4 := by rw [ho5, lay_app]; rfl
  have l6 := numO_len (x := numF n) (out := o5)
  rw [← ho6] at l6
  have l7 := offO_len (x := o1.length) (out := o6)
  rw [← ho7] at l7
  have l8 := offO_len (x := innV inner o1) (out := o7)
  rw [← ho8] at l8
  have l9 := offO_len (x := (o4.length + 4 : Int)) (out := o8)
  rw [← ho9] at l9
  have l9p := pd_len (sz := 4) (add := 0) (out := o9) (by decide)
  have l10 := vtab_len (out := o9) (oe := o5.length) (x0 := slV (numF n) o5) (x1 := slV o1.length o6) (x2 := slV (innV inner o1) o7) (x3 := slV (o4.length + 4) o8)
  rw [← ho10] at l10
  have s0 := slV_in (x := numF n) (out := o5)
  have s1 := slV_in (x := (o1.length : Int)) (out := o6)
  have s2 := slV_in (x := innV inner o1) (out := o7)
  have s3 := slV_in (x := (o4.length + 4 : Int)) (out := o8)
  rw [← ho6] at s0
  rw [← ho7] at s1
  rw [← ho8] at s2
  rw [← ho9] at s3
  have n1 : (o1.length : Int) ≠ 0 := by lia
  have n3 : (o4.length + 4 : Int) ≠ 0 := by lia
  have t1 := slV_pos (out := o6) n1
  have t3 := slV_pos (out := o8) n3
  -- readings
  rw [hm] at h hin ha
  obtain ⟨f1, f2, f3⟩ := fin_lies (markF_len n) (by lia) (by lia) (by lia) h
  rw [← ha] at f1
  rw [ho10] at f2
  obtain ⟨v1, v2, v3, v4, v5, v6⟩ := vtab_lies hroot (by lia) ⟨by lia, by lia⟩ ⟨by lia, by lia⟩ ⟨by lia, by lia⟩ ⟨by lia, by lia⟩ f2
  rw [ho9] at v6
  obtain ⟨p3, v7⟩ := off_lies (by lia) (by lia) (by lia) v6
  rw [ho8] at v7
  obtain ⟨p2, v8⟩ := off_lies (by lia) (by lia) (by lia) v7
  rw [ho7] at v8
  obtain ⟨p1, v9⟩ := off_lies (by lia) (by lia) (by lia) v8
  rw [ho6] at v9
  obtain ⟨p0, v10⟩ := num_lies hn0 hn1 v9
  have p1 := p1 n1
  have p3 := p3 n3
  rw [ho5] at v10
  have rl := v10.I (p := e - o5.length) (by lia) (by lia) (by lia)
  have v11 := v10.tail
  rw [ho4] at v11
  obtain ⟨rt, v12⟩ := row_lies hri v11
  rw [← ho4] at rt
  have v13 := v12.pd
  have v13i := v13.inn
  have v14 : Lies arr e o1 := by
    rw [ho2] at v13
    cases inner with
    | none => exact v13
    | some b => exact Lies.pd (Lies.tail (Lies.tail v13))
  rw [ho1] at v14
  have wl := v14.I (p := e - o1.length) (by lia) (by lia) (by
    have : ((strO (enc (wordF n)) []).length : Int) = 4 + ((enc (wordF n)).toList ++ (lay 1 0 ++ pd 4 ((enc (wordF n)).size + 1) [])).length := by unfold strO; rw [lay_app]; lia
    rw [ho1]; lia)
  have wt := v14.tail
  have hwl : ((strO (enc (wordF n)) []).length : Int) = 4 + (enc (wordF n)).size + (lay 1 0 ++ pd 4 ((enc (wordF n)).size + 1) []).length := by
    unfold strO
    rw [lay_app, List.length_append, show (enc (wordF n)).toList.length = (enc (wordF n)).size from Array.length_toList]; lia
  rw [← ho1] at hwl
  have wt2 := wt.cutN (p := e - o1.length + 4) (q := e - o1.length + 4 + (enc (wordF n)).size) (by rw [show (enc (wordF n)).toList.length = (enc (wordF n)).size from Array.length_toList]; lia) (by lia)
  rw [Array.toArray_toList] at wt2
  have hl := f2.inn
  rw [← ho10] at hl
  refine ⟨⟨e - root, kv root (slV (numF n) o5), kv root (slV o1.length o6), kv root (slV (innV inner o1) o7), kv root (slV (o4.length + 4) o8), slV o1.length o6 - o1.length, slV (innV inner o1) o7 - innV inner o1, slV (o4.length + 4) o8 - (o4.length + 4), ?_⟩, ?_, ?_⟩
  · have k1 := kv_pos (root := root) t1.1
    have k3 := kv_pos (root := root) t3.1
    have er : e - (e - root) = root := by lia
    refine ⟨by lia, by lia, by rw [er]; exact f1, v1, v2, v3, v4, v5, ?_, by lia, ?_, ?_, by lia, ?_, by lia, ?_, ?_, by lia, ?_, ?_, ?_⟩
    · by_cases hz : numF n = 0
      · exact .inl ⟨by unfold kv slV; rw [if_pos hz, if_pos rfl], hz⟩
      · have t0 := slV_pos (out := o5) hz
        have k0 := kv_pos (root := root) t0.1
        have ep : e - root + kv root (slV (numF n) o5) = e - slV (numF n) o5 := by lia
        exact .inr ⟨by lia, by lia, by lia, by rw [ep]; exact p0 hz⟩
    · have ep : e - root + kv root (slV o1.length o6) = e - slV o1.length o6 := by lia
      rw [ep]; exact p1
    · have ep : e - root + kv root (slV o1.length o6) + (slV o1.length o6 - o1.length) = e - o1.length := by lia
      rw [ep]; exact wl
    · have ep : e - root + kv root (slV o1.length o6) + (slV o1.length o6 - o1.length) + 4 = e - o1.length + 4 := by lia
      rw [ep]; exact wt2
    · have ep : kv root (slV (o4.length + 4) o8) + (e - root) = e - slV (o4.length + 4) o8 := by lia
      rw [ep]; exact p3
    · have ep : kv root (slV (o4.length + 4) o8) + (e - root) + (slV (o4.length + 4) o8 - (o4.length + 4)) = e - o5.length := by lia
      rw [ep]; exact rl
    · intro j x hx
      have ep : kv root (slV (o4.length + 4) o8) + (e - root) + (slV (o4.length + 4) o8 - (o4.length + 4)) + 4 + 2 * (j : Int) = e - o4.length + 2 * j := by lia
      rw [ep]; exact rt j x hx
    · rintro rfl
      show kv root (slV 0 o7) = 0
      unfold kv slV
      rw [if_pos rfl, if_pos rfl]
    · rintro b rfl
      have e2 : innV (some b) o1 = (pd 4 b.size o1).length + b.size + 4 := by
        show (((b.toList ++ pd 4 b.size o1).length : Int) + 4) = _
        rw [List.length_append, show b.toList.length = b.size from Array.length_toList]
        lia
      have n2 : innV (some b) o1 ≠ 0 := by lia
      have t2 := slV_pos (out := o7) n2
      have k2 := kv_pos (root := root) t2.1
      have p2 := p2 n2
      have hiv : inV n (some b) = innV (some b) o1 := by unfold inV; rw [ho1]
      have ep : kv root (slV (innV (some b) o1) o7) + (e - root) = e - slV (innV (some b) o1) o7 := by lia
      have ep2 : kv root (slV (innV (some b) o1) o7) + (e - root) + (slV (innV (some b) o1) o7 - innV (some b) o1) = e - innV (some b) o1 := by lia
      rw [hiv, ep2, ep]
      rw [ho2] at v13
      have w : Lies arr e (lay 4 b.size ++ (b.toList ++ pd 4 b.size o1)) := v13
      have wl : ((b.toList ++ pd 4 b.size o1).length : Int) = innV (some b) o1 - 4 := by
        rw [List.length_append, show b.toList.length = b.size from Array.length_toList]
        lia
      have hbz : (b.size : Int) ≤ 500 := hi
      have wt3 := w.tail.cutN (p := e - innV (some b) o1 + 4) (q := e - innV (some b) o1 + 4 + b.size) (by rw [show b.toList.length = b.size from Array.length_toList]; lia) (by lia)
      rw [Array.toArray_toList] at wt3
      refine ⟨by lia, by lia, by lia, p2, by lia, by lia, w.I (by lia) (by lia) (by lia), rfl, wt3, ?_⟩
      obtain ⟨pre, post, g1, g2⟩ := w.tail
      refine ⟨pre, pd 4 b.size o1 ++ post, by rw [g1, List.append_assoc], ?_⟩
      rw [List.length_append] at g2
      rw [show b.toList.length = b.size from Array.length_toList] at g2 ⊢
      lia
  · rw [hm]; lia
  · rw [hm]
    have := f1.at4
    split at this <;> lia) ?_
  intro q f
  simpa using Mine.hushed f 5 fun n i => i
end Mine

-- Pl9
namespace Mine
open PySem PySem.W PyProof.Rows
/-- a mark: none, or four octets -/
def MarkIs (mk : Option (List UInt8)) (v : Value) : Prop := (mk = none ∧ v = .none) ∨ ∃ p q r s t, mk = some [p, q, r, s] ∧ v = .bytes #[p, q, r, s] t
/-- what lies within: nothing, or octets -/
def InnIs (inner : Option (Array UInt8)) (v : Value) : Prop := (inner = none ∧ v = .none) ∨ ∃ a t, inner = some a ∧ v = .bytes a t
/-- where the inner row begins and ends, as _law_told says it -/
def fstV (e n : Int) (inner : Option (Array UInt8)) : Int := match inner with | none => 0 | some b => e - inV n (some b) + 4
def sndV (e n : Int) (inner : Option (Array UInt8)) : Int := match inner with | none => 0 | some b => e - inV n (some b) + 4 + b.size
/-- what a list of numbers builds, one within the other -/
def madesF : List Int → List (Array UInt8) → List (Array UInt8)
  | [], acc => acc
  | n :: ns, acc => madesF ns (acc ++ [(madeF n acc.getLast?).toArray])
end Mine

-- Pl10
set_option maxRecDepth 100000
namespace Mine
open PySem PySem.W PyProof.Rows
/-- what lies within the buffer at a level -/
def innF (ns : List Int) : Nat → Option (Array UInt8)
  | 0 => none
  | k + 1 => some (madeF (ns.getD k 0) (innF ns k)).toArray
/-- the buffers made, up to a level -/
def madesTo (ns : List Int) (i : Nat) : List (Array UInt8) := (List.range i).map fun k => (madeF (ns.getD k 0) (innF ns k)).toArray
theorem madesTo_succ {ns : List Int} {i : Nat} : madesTo ns (i + 1) = madesTo ns i ++ [(madeF (ns.getD i 0) (innF ns i)).toArray] := by
  unfold madesTo
  rw [List.range_succ, List.map_append]; rfl
theorem madesTo_length {ns : List Int} {i : Nat} : (madesTo ns i).length = i := by unfold madesTo; rw [List.length_map, List.length_range]
theorem madesTo_get {ns : List Int} {i k : Nat} (h : k < i) : (madesTo ns i)[k]? = some (madeF (ns.getD k 0) (innF ns k)).toArray := by
  unfold madesTo
  rw [List.getElem?_map, List.getElem?_range h]; rfl
theorem made_lies {l : List UInt8} : Lies l.toArray (l.toArray.size : Nat) l := ⟨[], [], by simp, by simp⟩
theorem made_len {n : Int} {inner : Option (Array UInt8)} (h : ((inner.getD #[]).size : Int) ≤ 500) : ((madeF n inner).length : Int) ≤ (inner.getD #[]).size + 150 ∧ 4 ≤ (madeF n inner).length :=
  (tells made_lies h).2
theorem innF_size {ns : List Int} : ∀ k : Nat, k ≤ 3 → (((innF ns k).getD #[]).size : Int) ≤ 150 * k
  | 0, _ => by show ((#[] : Array UInt8).size : Int) ≤ _; simp
  | k + 1, h => by
    have ih := innF_size (ns := ns) k (by lia)
    have q := (made_len (n := ns.getD k 0) (inner := innF ns k) (by lia)).1
    have e : ((((innF ns (k + 1)).getD #[]).size : Nat) : Int) = (madeF (ns.getD k 0) (innF ns k)).length := by
      show (((madeF (ns.getD k 0) (innF ns k)).toArray.size : Nat) : Int) = _
      rw [List.size_toArray]
    rw [e]
    lia
theorem buf_size {ns : List Int} {k : Nat} (h : k ≤ 3) : ((madeF (ns.getD k 0) (innF ns k)).toArray.size : Int) ≤ 600 ∧ 4 ≤ (madeF (ns.getD k 0) (innF ns k)).toArray.size ∧ (((innF ns k).getD #[]).size : Int) ≤ 500 := by
  have a := innF_size (ns := ns) k h
  have q := made_len (n := ns.getD k 0) (inner := innF ns k) (by lia)
  rw [List.size_toArray]
  lia
/-- the row within, found where it is told to lie -/
theorem inner_lies {arr : Array UInt8} {e n : Int} {b : Array UInt8} (h : Lies arr e (madeF n (some b))) (hb : (b.size : Int) ≤ 500) : Lies arr (sndV e n (some b)) b.toList ∧ fstV e n (some b) = sndV e n (some b) - b.toList.length := by
  obtain ⟨pos, x4, x6, x8, x10, d6, d8, d10, T⟩ := (tells h hb).1
  refine ⟨(T.i1 b rfl).2.2.2.2.2.2.2.2.2, ?_⟩
  show e - inV n (some b) + 4 = e - inV n (some b) + 4 + b.size - (b.toList.length : Nat)
  rw [Array.length_toList]; lia
/-- the octets: strange ones ahead and behind -/
theorem mid_lies {a c : Array UInt8} {b : List UInt8} : Lies (a ++ b.toArray ++ c) ((a.size : Nat) + (b.toArray.size : Nat) : Int) b := by
  refine ⟨a.toList, c.toList, by simp, ?_⟩
  rw [Array.length_toList, show b.toArray.size = b.length from List.size_toArray ..]
/-- what is cut out where octets lie -/
theorem Lies.whole {arr : Array UInt8} {e : Int} {s : List UInt8} (h : Lies arr e s) : arr.extract (e - s.length).toNat e.toNat = s.toArray := by
  have q := Lies.cutN (a := s) (s := []) (p := e - s.length) (q := e) (by rw [List.append_nil]; exact h) (by simp) (by simp)
  exact q
theorem fstV_shift {e c n : Int} {b : Array UInt8} : fstV c n (some b) + (e - c) = fstV e n (some b) := by show c - inV n (some b) + 4 + (e - c) = e - inV n (some b) + 4; lia
theorem sndV_shift {e c n : Int} {b : Array UInt8} : sndV c n (some b) + (e - c) = sndV e n (some b) := by show c - inV n (some b) + 4 + b.size + (e - c) = e - inV n (some b) + 4 + b.size; lia
end Mine

-- TopC
open PySem PySem.W PyProof.Rows
set_option Elab.async false
namespace Mine
open PySem.Calls
set_option maxRecDepth 100000
set_option maxHeartbeats 3000000
/-- entering a def of the top, from the claim's caller, clean contexts -/
theorem top_callC {prog : Program} {w : World} {A : Around} {R : Result → Shared → Prop} {s : Shared} {name : Str} {params : Arguments} {body : List Stmt} {scope : Scope} {dV kV pm cd doc : Value} {a : Addr} {o : Obj} {args : Args} {binds : List (Str × Value)}
    (hroom : A.depth < recursionLimit) (ho : s.heap.get? a = some o) (hdata : o.data = .func { docDef name params body scope pm cd doc with defaults := dV, kwdefaults := kV }) (hlim : s.heap.NoLimit) (hcd : s.heap.CodeRec cd name)
    (hbind : BindsTo s { docDef name params body scope pm cd doc with defaults := dV, kwdefaults := kV } args binds) (hloc : ∀ x ∈ binds, scope.names.lookup x.1 = some .local)
    (h : ∀ h₁, Fr s.heap s.heap.objs.size h₁ (fun x => binds.reverse.lookup x) →
      wpC (model prog w) (A.deeper (envOf name scope s.heap.objs.size a cd)) (execs body (envOf name scope s.heap.objs.size a cd))
        (fun f s' => R (.ok (.ret (match f with | .ret v => v | _ => .none))) s')
        (fun e s' => wpC (model prog w) (A.deeper (envOf name scope s.heap.objs.size a cd)) (leaving (envOf name scope s.heap.objs.size a cd) e) (fun _ s'' => R (.error e) s'') (fun e' s'' => R (.error e') s'') s')
        { s with heap := h₁, toks := s.toks + binds.length })
    (hco : scope.isCoroutine = false) (hgen : scope.isGenerator = false) (hk : scope.kind = .function) (hcell : ∀ x ∈ scope.names, x.2 ≠ .cell) : codeC (model prog w) A (.call (.ref a) args) R s := by
  refine c_function (fd := { docDef name params body scope pm cd doc with defaults := dV, kwdefaults := kV }) hroom ho hdata hco hgen rfl hcd (hbind _ _ _ _ ?_)
  refine wpAny_newFunctionEnv hcell hloc (fun h₁ hns hsb => ⟨hlim.fresh _ hsb, c_func ?_⟩) hk
  exact h h₁ ⟨hns, fun b o e => hsb.extBut b o (Nat.ne_of_lt (Heap.lt_size e)) (Heap.get?_push_of_some _ e), Nat.le_refl _⟩
end Mine

-- LawR
open PySem PySem.W PyProof.Rows
set_option Elab.async false
namespace Mine
open PySem.Calls
set_option maxRecDepth 100000
set_option maxHeartbeats 3000000
section
variable {M : Model} {A : Around} {E : Value → Shared → Prop} {s : Shared} {env : Env}
theorem c_evalArgs_plain {f : Value} {x : Sem Value} {rest : List (Bool × Sem Value)} {Q : Args → Shared → Prop}
    (h : wpC M A x (fun v s₁ => wpAny M A (spliced rest) (fun vs s' => Q ⟨v :: vs, []⟩ s') E s₁) E s) : wpC M A (evalArgs f true ((false, x) :: rest) []) Q E s := by
  unfold evalArgs
  have hs : wpC M A (spliced ((false, x) :: rest)) (fun vs s' => Q ⟨vs, []⟩ s') E s := by
    unfold spliced
    refine c_bind (c_mono h (fun v s₁ h₁ => ?_) fun _ _ z => z)
    refine c_bind (m := pure [v]) (c_pure ?_)
    exact c_bind (c_holding (of_any (wpAny_mono h₁ (fun vs s' h' => fun Γ p _ _ => h') fun _ _ z => z)))
  show wpC M A (spliced ((false, x) :: rest) >>= _) Q E s
  refine c_bind (c_mono hs (fun vs s' h' => ?_) fun _ _ x => x)
  refine c_holding ?_
  exact c_bind (c_pure (c_bind (c_pure (c_pure h'))))
/-- a class of the machine, its first argument dirty -/
theorem c_callWith_TD {pos : Pos} {T : String} {e : Expr} {rest : List Expr} {Q : Value → Shared → Prop}
    (h : wpC M A (eval e env) (fun v s₁ => wpAny M A (spliced (backTo pos (starEach rest env))) (fun vs s₂ => wpC M A (call (.type T) (v :: vs)) Q E s₂) E s₁) E s)
    (he : starEach (e :: rest) env = (false, eval e env) :: starEach rest env := by rfl) (hplain : (backTo pos (starEach rest env)).any (·.1) = false := by rfl) :
    wpC M A (callWith pos (.type T) [] (backTo pos (starEach (e :: rest) env)) (backToKw pos (keywordEach [] env))) Q E s := by
  rw [he]
  exact c_callWith (P := fun _ => True) (by show ((false || (backTo pos (starEach rest env)).any (·.1)) || false) = false; rw [hplain]; rfl) (fun h _ => ⟨.machine, .inr (.inl rfl), Looks.of_pure rfl⟩)
    (c_evalArgs_plain (c_mono h (fun v s₁ z => wpAny_mono z (fun vs s₂ z => ⟨trivial, z⟩) fun _ _ z => z) fun _ _ z => z))
/-- a built-in, its first argument dirty -/
theorem c_callWith_BD {pos : Pos} {id : String} {first : List Value} {e : Expr} {rest : List Expr} {Q : Value → Shared → Prop}
    (h : wpC M A (eval e env) (fun v s₁ => wpAny M A (spliced (backTo pos (starEach rest env))) (fun vs s₂ => wpC M A (call (.builtin id) (first ++ (v :: vs))) Q E s₂) E s₁) E s)
    (he : starEach (e :: rest) env = (false, eval e env) :: starEach rest env := by rfl) (hplain : (backTo pos (starEach rest env)).any (·.1) = false := by rfl) :
    wpC M A (callWith pos (.builtin id) first (backTo pos (starEach (e :: rest) env)) (backToKw pos (keywordEach [] env))) Q E s := by
  rw [he]
  exact c_callWith (P := fun _ => True) (by show ((false || (backTo pos (starEach rest env)).any (·.1)) || false) = false; rw [hplain]; rfl) (fun h _ => ⟨.machine, .inr (.inl rfl), Looks.of_pure rfl⟩)
    (c_evalArgs_plain (c_mono h (fun v s₁ z => wpAny_mono z (fun vs s₂ z => ⟨trivial, z⟩) fun _ _ z => z) fun _ _ z => z))
/-- a def of the text, its first argument dirty -/
theorem c_callWith_KD {K : Frag} {h₀ : Heap} {pos : Pos} {f : Value} {first : List Value} {e : Expr} {rest : List Expr} {Q : Value → Shared → Prop} (_X : K.In h₀) (hk : keepIn K f = true)
    (h : wpC M A (eval e env) (fun v s₁ => wpAny M A (spliced (backTo pos (starEach rest env))) (fun vs s₂ => K.In s₂.heap ∧ wpC M A (call f (first ++ (v :: vs))) Q E s₂) E s₁) E s)
    (he : starEach (e :: rest) env = (false, eval e env) :: starEach rest env := by rfl) (hplain : (backTo pos (starEach rest env)).any (·.1) = false := by rfl) :
    wpC M A (callWith pos f first (backTo pos (starEach (e :: rest) env)) (backToKw pos (keywordEach [] env))) Q E s := by
  rw [he]
  exact c_callWith (P := K.In) (by show ((false || (backTo pos (starEach rest env)).any (·.1)) || false) = false; rw [hplain]; rfl) (keeps_K hk)
    (c_evalArgs_plain h)
end
/-- bytes, one by one -/
def BytesAre : List (Array UInt8) → List Value → Prop
  | [], [] => True
  | a :: as, v :: vs => (∃ t, v = .bytes a t) ∧ BytesAre as vs
  | _, _ => False
theorem BytesAre.push {b : Array UInt8} {t : Tok} : ∀ {as : List (Array UInt8)} {vs : List Value}, BytesAre as vs → BytesAre (as ++ [b]) (vs ++ [.bytes b t])
  | [], [], _ => ⟨⟨t, rfl⟩, trivial⟩
  | _ :: _, _ :: _, h => ⟨h.1, BytesAre.push h.2⟩
  | [], _ :: _, h => h.elim
  | _ :: _, [], h => h.elim
theorem BytesAre.length : ∀ {as : List (Array UInt8)} {vs : List Value}, BytesAre as vs → vs.length = as.length
  | [], [], _ => rfl
  | _ :: _, _ :: _, h => congrArg (· + 1) (BytesAre.length h.2)
  | [], _ :: _, h => h.elim
  | _ :: _, [], h => h.elim
theorem BytesAre.at : ∀ {as : List (Array UInt8)} {vs : List Value} (i : Nat) (b : Array UInt8), BytesAre as vs → as[i]? = some b → ∃ t, vs[i]? = some (.bytes b t)
  | [], _, _, _, _, h => by simp at h
  | a :: as, v :: vs, 0, b, h, e => by
    simp only [List.getElem?_cons_zero, Option.some.injEq] at e
    subst e
    obtain ⟨t, rfl⟩ := h.1
    exact ⟨t, rfl⟩
  | a :: as, v :: vs, i + 1, b, h, e => by
    simp only [List.getElem?_cons_succ] at e ⊢
    exact BytesAre.at i b h.2 e
  | _ :: _, [], _, _, h, _ => h.elim
section
variable {prog : Program} {w : World} {A : Around} {E : Value → Shared → Prop} {s : Shared} {h₀ : Heap} {L : Addr} {news : List (Addr × Obj)} {value slice : PySem.Expr} {l : Addr} {vs : List Value} {u : Tok} {Q : Value → Shared → Prop}
theorem item_bat {va : Array Value} {c : Nat} {as : List (Array UInt8)} {b : Array UInt8} {iv : Int} {n : Nat} (N : News h₀ L s.heap news) (hm : (l, W.listOf va c) ∈ news) (hb : BytesAre as va.toList) (he : iv = (n : Nat)) (hx : as[n]? = some b) (hn : (n : Int) < 2 ^ 63) (h : ∀ t, Q (.bytes b t) s)
    (hs : subscripted slice false (.ref l) (.int iv u) = operate [.ref l, .int iv u] (getItem (.ref l) (.int iv u)) := by with_unfolding_all rfl) : wpAny (model prog w) A (subscriptTail value slice (.ref l) (.int iv u)) Q E s := by
  obtain ⟨t, e⟩ := BytesAre.at n b hb hx
  exact item_at (vs := va) N hm he (by rw [← Array.getElem?_toList]; exact e) hn (h t) hs
theorem item_blast {va : Array Value} {c : Nat} {as : List (Array UInt8)} {b : Array UInt8} (N : News h₀ L s.heap news) (hm : (l, W.listOf va c) ∈ news) (hb : BytesAre (as ++ [b]) va.toList) (h : ∀ t, Q (.bytes b t) s)
    (hs : subscripted slice false (.ref l) (.int (-1) u) = operate [.ref l, .int (-1) u] (getItem (.ref l) (.int (-1) u)) := by with_unfolding_all rfl) : wpAny (model prog w) A (subscriptTail value slice (.ref l) (.int (-1) u)) Q E s := by
  have hl := hb.length
  rw [List.length_append] at hl
  simp only [List.length_cons, List.length_nil] at hl
  obtain ⟨t, e⟩ := BytesAre.at as.length b hb (by simp)
  refine kde_neg (vs := va.toList) (j := as.length) ⟨_, (N _ hm).1, rfl, c, by rw [Array.toArray_toList]⟩ (by decide) (by decide) ?_ e (h t) hs
  rw [seqIndex_neg (by decide) (by lia)]
  congr 1
  lia
theorem item_iat {c : Nat} {ns : List Int} {iv : Int} {n : Nat} {x : Int} (N : News h₀ L s.heap news) (hm : (l, W.listOf vs.toArray c) ∈ news) (hi : IntsAre vs ns) (he : iv = (n : Nat)) (hx : ns[n]? = some x) (hn : (n : Int) < 2 ^ 63) (h : ∀ t, Q (.int x t) s)
    (hs : subscripted slice false (.ref l) (.int iv u) = operate [.ref l, .int iv u] (getItem (.ref l) (.int iv u)) := by with_unfolding_all rfl) : wpAny (model prog w) A (subscriptTail value slice (.ref l) (.int iv u)) Q E s := by
  have hl := hi.length
  have hlt : n < vs.length := by
    obtain ⟨h1, _⟩ := List.getElem?_eq_some_iff.mp hx
    lia
  obtain ⟨k, t, e, hk⟩ := IntsAre.at hi n _ (List.getElem?_eq_getElem hlt)
  have : k = x := by rw [hk] at hx; exact Option.some.inj hx
  subst this
  exact item_at (vs := vs.toArray) N hm he (by rw [List.getElem?_toArray, List.getElem?_eq_getElem hlt, e]) hn (h t) hs
theorem item_ilast {c : Nat} {ns : List Int} (N : News h₀ L s.heap news) (hm : (l, W.listOf vs.toArray c) ∈ news) (hi : IntsAre vs ns) (hne : 1 ≤ ns.length) (h : ∀ t, Q (.int (ns.getD (ns.length - 1) 0) t) s)
    (hs : subscripted slice false (.ref l) (.int (-1) u) = operate [.ref l, .int (-1) u] (getItem (.ref l) (.int (-1) u)) := by with_unfolding_all rfl) : wpAny (model prog w) A (subscriptTail value slice (.ref l) (.int (-1) u)) Q E s := by
  have hl := hi.length
  have hlt : ns.length - 1 < vs.length := by lia
  obtain ⟨k, t, e, hk⟩ := IntsAre.at hi (ns.length - 1) _ (List.getElem?_eq_getElem hlt)
  have hk2 : ns.getD (ns.length - 1) 0 = k := by rw [List.getD_eq_getElem?_getD, hk]; rfl
  refine kde_neg (j := ns.length - 1) ⟨_, (N _ hm).1, rfl, _, rfl⟩ (by decide) (by decide) ?_ (by rw [List.getElem?_eq_getElem hlt, e]) (hk2 ▸ h t) hs
  rw [seqIndex_neg (by decide) (by lia)]
  congr 1
  lia
end
theorem truthy_some {prog : Program} {w : World} {A : Around} {E : Value → Shared → Prop} {s : Shared} {h₀ : Heap} {L l : Addr} {news : List (Addr × Obj)} {va : Array Value} {c : Nat} {Q : Bool → Shared → Prop} (N : News h₀ L s.heap news) (hm : (l, W.listOf va c) ∈ news) (h0 : 0 < va.size) (hz : va.size ≤ 1000)
    (h : Q true { s with toks := s.toks + 1 + 1 }) : wpAny (model prog w) A (truthy (.ref l)) Q E s := by
  refine wpAny_truthy_list (items := va) ⟨_, (N _ hm).1, rfl, c, rfl⟩ (by lia) ?_
  have e : (!va.isEmpty) = true := by simp; intro e; subst e; simp at h0
  rw [e]; exact h
theorem int_get {ys : List Value} {ns : List Int} (n : Nat) (hi : IntsAre ys ns) (hn : n < ns.length) : ∃ t, ys.toArray[n]? = some (.int (ns.getD n 0) t) := by
  have hl := hi.length
  obtain ⟨k, t, e, hk⟩ := IntsAre.at hi n _ (List.getElem?_eq_getElem (by lia))
  refine ⟨t, ?_⟩
  rw [List.getElem?_toArray, List.getElem?_eq_getElem (by lia), e, List.getD_eq_getElem?_getD, hk]
  rfl
/-- a statement whose ways meet -/
theorem c_join {M : Model} {A : Around} {E : Value → Shared → Prop} {s : Shared} {t : Sem Flow} {Q : Flow → Shared → Prop} (J : Shared → Prop) (step : wpC M A t (fun f s' => match f with | .next => J s' | _ => False) (fun _ _ => False) s) (rest : ∀ s', J s' → Q .next s') : wpC M A t Q E s :=
  c_mono step (fun f s' z => by
    cases f with
    | next => exact rest s' z
    | _ => exact z.elim) fun _ _ z => z.elim
theorem c_joinJ {M : Model} {A : Around} {E : Value → Shared → Prop} {s : Shared} {t : Sem Flow} {Q : Flow → Shared → Prop} {g : Heap} {L : Addr} {mm : Str → Option Value} {bs : List (Addr × Obj)} (J : Shared → Heap → Addr → (Str → Option Value) → List (Addr × Obj) → Shared → Prop) (_F : Fr g L s.heap mm) (_N : News g L s.heap bs)
    (step : wpC M A t (fun f s' => match f with | .next => J s g L mm bs s' | _ => False) (fun _ _ => False) s) (rest : ∀ s', J s g L mm bs s' → Q .next s') : wpC M A t Q E s := c_join _ step rest
end Mine

open PySem PySem.W PyProof.Rows
set_option Elab.async false
namespace Mine
open PySem.Calls
set_option maxRecDepth 100000
set_option maxHeartbeats 3000000
local macro_rules | `(tactic| walk_at "spl") => `(tactic| repeat (first | (with_reducible rename And (NeA _ _) _ => hq; obtain ⟨hq1, hq2⟩ := hq) | (with_reducible rename And (And (NeA _ _) _) _ => hq; obtain ⟨hq1, hq2⟩ := hq) | (with_reducible rename And (@LT.lt Nat _ _ _) _ => hq; obtain ⟨hq1, hq2⟩ := hq)))
local macro_rules | `(tactic| k_lt $h:ident) => `(tactic| (replace $h := allLt_of $h; simp only [AllLt, and_true] at $h:ident; (walk_at "spl")))
local macro_rules | `(tactic| k_in) => `(tactic| (with_reducible first | assumption | exact Frag.In.keeps (by with_reducible assumption) (Fr.keep (by with_reducible assumption))))
local macro_rules | `(tactic| k_ne) => `(tactic| (refine neN ?_; (try dsimp only); (first | exact neA (by with_reducible assumption) | exact Ne.symm (neA (by with_reducible assumption)) | exact Nat.ne_of_lt (by with_reducible assumption) | exact Nat.ne_of_gt (by with_reducible assumption))))
local macro_rules | `(tactic| walk_at "cl1") => `(tactic| repeat (with_reducible rename NeA _ _ => hq; clear hq))
local macro_rules | `(tactic| walk_at "cl") => `(tactic| skip)
local macro_rules | `(tactic| walk_at "ft") => `(tactic| (first | with_reducible assumption | ((walk_at "cl"); first | omega | (simp only [List.length_append, List.length_replicate, Array.size_replicate, lay_length, List.length_nil] at *; omega)) | assumption))
local macro_rules | `(tactic| walk_at "room") => `(tactic| (first | ((walk_at "cl"); ktr_room) | (dsimp only; (walk_at "cl"); omega)))
local macro_rules | `(tactic| walk_at "units") => `(tactic| (first | ((walk_at "cl"); ktr_units) | (dsimp only; (walk_at "cl"); omega)))
local macro_rules | `(tactic| walk_at "sel") => `(tactic| (repeat (first | exact Sel.nil | (with_reducible apply Sel.skip1) | (with_reducible apply Sel.skipm (by k_mem)) | (apply Sel.keep; · ((simp only [List.map_cons, List.map_nil, AllNe, and_true]) <;> (repeat' (with_reducible refine And.intro ?_ ?_)) <;> (first | with_reducible assumption | exact neA_of (Ne.symm (neA (by with_reducible assumption))) | exact neA_of (Nat.ne_of_lt (by with_reducible assumption)) | exact neA_of (Nat.ne_of_gt (by with_reducible assumption))))) | apply Sel.skip)))
local macro_rules | `(tactic| walk_at "fin9") => `(tactic| (rename_i N9 D9; (dsimp only [List.cons_append, List.nil_append] at N9); (simp only [AllNes, AllNe, List.map_cons, List.map_nil, and_true] at D9); (try (have hq : True := D9; clear hq; clear D9)); (walk_at "spl"); (try k_sweep); (try dsimp only)))
local macro_rules | `(tactic| walk_at "fin93") => `(tactic| (rename_i N9 D9; (obtain ⟨n91, n92, n93⟩ := news3B N9); (dsimp only [List.cons_append, List.nil_append] at N9); (simp only [AllNes, AllNe, List.map_cons, List.map_nil, and_true] at D9); (try (have hq : True := D9; clear hq; clear D9)); (walk_at "spl"); (try k_sweep); (try dsimp only)))
local macro_rules | `(tactic| walk_at "fin94") => `(tactic| (rename_i N9 D9; (obtain ⟨n91, n92, n93, n94, n95, n96⟩ := news4B N9); (dsimp only [List.cons_append, List.nil_append] at N9); (simp only [AllNes, AllNe, List.map_cons, List.map_nil, and_true] at D9); (try (have hq : True := D9; clear hq; clear D9)); (walk_at "spl"); (try k_sweep); (try dsimp only)))
local macro_rules | `(tactic| walk_at "has9") => `(tactic| ((with_reducible rename Has _ _ _ => hH9); (have hq9 := Has.len hH9); (have hr9 := hH9.1)))
local macro_rules | `(tactic| walk_at "lt1") => `(tactic| (rename_i l1; k_lt l1))
local macro_rules | `(tactic| walk_at "dirty") => `(tactic| decide +kernel)
local macro_rules | `(tactic| walk_at $s:str) => `(tactic| k_extra $s)
-- KA

theorem setup_KA_1 : True := by
  k_with_none
  k_with "wpC" => ((k_here; (with_reducible show wpC _ _ _ _ _ _); (fail_if_success (with_reducible show wpC _ _ (setItem _ _ (Value.bytes _ _)) _ _ _)); (fail_if_success (with_reducible show wpC _ _ (call (Value.ref _) _ _) _ _ _)); (fail_if_success (with_reducible show wpC _ _ (callWith _ (Value.type _) _ _ _) _ _ _)); (fail_if_success (with_reducible show wpC _ _ (call (Value.type _) _ _) _ _ _)); (refine of_any ?_)))
  k_with "wpC" => ((k_here; (with_reducible show wpC _ _ (call (Value.ref _) _ _) _ _ _); (refine' of_anyD ?qqd ?_; (case qqd => (walk_at "dirty")))))
  k_with "wpC" => ((k_here; (with_reducible show wpC _ _ (exec (Stmt.While _ _ _ _) _) _ _ _); (refine c_While ?_)))
  k_with "wpC" => ((k_here; (with_reducible show wpC _ _ (exec (Stmt.If _ _ _ _) _) _ _ _); (refine c_If ?_)))
  k_with "wpC" => ((k_here; (with_reducible show wpC _ _ (exec (Stmt.Assign [Expr.Subscript _ (Expr.Slice _ _ _ _) _] _ _) _) _ _ _); k_dflt (refine c_Assign_Subscript ?_)))
  k_with "wpC" => ((k_here; (with_reducible show wpC _ _ (exec (Stmt.Expr (Expr.Call (Expr.Attribute _ _ _) _ _ _) _) _) _ _ _); k_dflt (refine' c_ExprD ?qqd ?_; (case qqd => (walk_at "dirty")))))
  k_with "wpC" => ((k_here; (with_reducible show wpC _ _ (exec (Stmt.Return (some (Expr.Call (Expr.Attribute _ _ _) _ _ _)) _) _) _ _ _); k_dflt (refine' c_ReturnD ?qqd ?_; (case qqd => (walk_at "dirty")))))
  k_with "wpC" => ((k_here; (with_reducible show wpC _ _ (exec (Stmt.Assign [Expr.Name _ _] (Expr.Call (Expr.Attribute _ _ _) _ _ _) _) _) _ _ _); k_dflt (refine' c_AssignD ?qqd ?_; (case qqd => (walk_at "dirty")))))
  k_with "wpC" => ((k_here; (with_reducible show wpC _ _ (eval (Expr.Call (Expr.Attribute _ _ _) _ _ _) _) _ _ _); k_dflt (refine' c_MethodCallSD ?qqd ?_; (case qqd => (walk_at "dirty")))))
  k_with "wpC" => ((k_here; (with_reducible show wpC _ _ (eval (Expr.Call (Expr.Attribute _ _ _) _ _ _) _) _ _ _); k_dflt (refine' c_MethodCallD ?qqd ?_; (case qqd => (walk_at "dirty")))))
  k_with "wpC" => ((k_here; (with_reducible show wpC _ _ (exec (Stmt.Assign [Expr.Name _ _] (Expr.Call (Expr.Name (PySem.Str.ofString "Builder") _) _ _ _) _) _) _ _ _); k_dflt (refine c_Assign_Name ?_)))
  k_with "wpC" => ((k_here; (with_reducible show wpC _ _ (eval (Expr.Call (Expr.Name (PySem.Str.ofString "Builder") _) _ _ _) _) _ _ _); k_dflt (refine c_Call ?_)))
  k_with "wpC" => ((k_here; (with_reducible show wpC _ _ (exec (Stmt.Assign [Expr.Name _ _] (Expr.Call (Expr.Name (PySem.Str.ofString "_law_made") _) _ _ _) _) _) _ _ _); k_dflt (refine c_Assign_Name ?_)))
  k_with "wpC" => ((k_here; (with_reducible show wpC _ _ (eval (Expr.Call (Expr.Name (PySem.Str.ofString "_law_made") _) _ _ _) _) _ _ _); k_dflt (refine c_Call ?_)))
  k_with "wpC" => ((k_here; (with_reducible show wpC _ _ (exec (Stmt.Assign [Expr.Attribute _ _ _] (Expr.Call (Expr.Name (PySem.Str.ofString "bytearray") _) _ _ _) _) _) _ _ _); k_dflt (refine c_Assign_Attr ?_)))
  k_with "wpC" => ((k_here; (with_reducible show wpC _ _ (exec (Stmt.Assign [Expr.Name _ _] (Expr.Call (Expr.Name (PySem.Str.ofString "bytearray") _) _ _ _) _) _) _ _ _); k_dflt (refine c_Assign_Name ?_)))
  k_with "wpC" => ((k_here; (with_reducible show wpC _ _ (eval (Expr.Call (Expr.Name (PySem.Str.ofString "bytearray") _) _ _ _) _) _ _ _); k_dflt (refine c_Call ?_)))
  k_with "wpC" => ((k_here; (with_reducible show wpC _ _ (execs [] _) _ _ _); (refine c_execs_nil ?_)))
  k_with "wpC" => ((k_here; (with_reducible show wpC _ _ (execs (_ :: _) _) _ _ _); (refine c_execs_cons ?_)))
  k_with "wpC" => ((k_here; (with_reducible show wpC _ _ (callWith _ (Value.ref _) _ _ _) _ _ _); k_dflt (first | refine' c_callWith_K ?qqk1 ?qqk2 ?_; (case qqk1 => k_asm); (case qqk2 => k_is); k_whole | refine' c_callWith_S ?qqk1 ?qqk2 ?_; (case qqk1 => k_asm); (case qqk2 => k_is); k_whole | refine' c_callWith_MS ?qqk1 ?qqk2 ?qqk3 ?qqk4 ?_; (case qqk1 => k_asm); (case qqk2 => k_asm); (case qqk3 => k_mem); (case qqk4 => k_is); k_whole | refine' c_callWith_K0 ?qqk1 ?qqk2 ?_; (case qqk1 => k_in); (case qqk2 => k_is); k_whole | refine' c_callWith_KW ?qqk1 ?qqk2 ?qqk3 ?_; (case qqk1 => k_asm); (case qqk2 => k_is); (case qqk3 => exact rfl); k_whole)))
  k_with "wpC" => ((k_here; (with_reducible show wpC _ _ (callWith _ (Value.type _) _ _ _) _ _ _); k_dflt (refine' c_callWith_T ?_)))
  k_with "wpC" => ((k_here; (with_reducible show wpC _ _ (setItem (Value.ref _) (Value.ref _) (Value.bytes _ _)) _ _ _); k_dflt (refine' c_setN (s := ⟨_, _, _, _, _⟩) ?qqg ?qqF ?qqN ?qqU ?qqh ?qqej ?qqh0 ?qqhs ?qqz ?_; (case qqF => k_asm); (case qqN => k_asm); (case qqU => k_updF); (case qqh => k_asm); (case qqg => exact rfl); (case qqej => (walk_at "cl"; omega)); (case qqh0 => (walk_at "cl"; omega)); (case qqhs => ((walk_at "cl"); first | omega | (simp only [List.length_append, List.length_replicate, Array.size_replicate, lay_length, List.length_nil] at *; omega))); (case qqz => (walk_at "cl"; omega)); k_whole); intro _ _ _ _ _ _; (try k_sweep)))
  k_with "wpC" => ((k_here; (with_reducible show wpC _ _ (call (Value.type _) [Value.int _ _]) _ _ _); k_dflt (refine' c_new_int ?qqg ?qqF ?qqN ?qqh0 ?qqhz ?_; (case qqg => exact rfl); (case qqF => k_asm); (case qqN => k_asm); (case qqh0 => (walk_at "cl"; omega)); (case qqhz => (walk_at "cl"; omega)); k_whole); intro _ _ _ _ _; (try (walk_at "lt1")); (try k_sweep)))
  k_with "wpC" => ((k_here; (with_reducible show wpC _ _ (call (Value.type _) [Value.bytes _ _]) _ _ _); k_dflt (refine' c_new_bytes ?qqg ?qqF ?qqN ?qqhz ?_; (case qqg => exact rfl); (case qqF => k_asm); (case qqN => k_asm); (case qqhz => (walk_at "cl"; omega)); k_whole); intro _ _ _ _ _; (try (walk_at "lt1")); (try k_sweep)))
  k_with "LeaveM" => ((k_dflt (refine' leaveM_ ?qqk1 ?qqk2 ?_; (case qqk1 => k_asm); (case qqk2 => k_asm); k_whole); intro _ _ _; (try dsimp only [InitBack, CmpBack, LenBack, StrBack, BoolBack]); (try refine ⟨rfl, ?_⟩)))
  k_with "getMethod str" => ((k_here; (with_reducible show wpAny _ _ (getMethod (Value.str _ _) (PySem.Str.ofString "encode") _) _ _ _); k_dflt (refine' str_encode_get ?_; k_whole)))
  k_with "call builtin:str.encode" => ((k_here; k_dflt (refine' str_encode ?qqh ?qqz ?_; (case qqh => k_asm); (case qqz => (walk_at "cl"; omega)); k_whole); intro _ _))
  k_with "getAttr ref" => ((k_here; k_dflt (refine' kbm_boundS ?qqk1 ?qqk2 ?qqk3 ?qqk4 ?qqk5 ?qqk6 ?qqk6b ?qqk7 ?qqk8 ?qqk9 ?qqk10 ?qqk11 ?_; (case qqk4 => k_inst); (case qqk1 => k_asm); (case qqk2 => k_asm); (case qqk7 => k_is); (case qqk3 => k_asm); (case qqk5 => k_is); (case qqk6 => k_is); (case qqk6b => k_is); (case qqk8 => k_is); (case qqk9 => k_is); (case qqk10 => k_is); (case qqk11 => decide +kernel); k_whole); intro _ _ _ _ _; (try (walk_at "lt1")); (try k_sweep)))
  k_with "eval Name" => ((k_here; (with_reducible show wpAny _ _ (eval (Expr.Name (PySem.Str.ofString "bytearray") _) _) _ _ _); with_unfolding_all refine guard_global (by rfl) ?_; k_dflt (refine' name_B ?qqkF ?qqk1 ?qqk2 ?qqk3 ?qqk4 ?qqk5 ?_; (case qqkF => with_reducible assumption); (case qqk1 => with_reducible assumption); (case qqk2 => k_asm); (case qqk3 => k_is); (case qqk4 => boot_by_name); (case qqk5 => decide); k_whole)))
  k_with "getAttr ref" => ((k_here; (with_reducible show wpAny _ _ (getAttr (Value.ref _) _ _) _ _ _); k_dflt (refine' get_slot ?qqk1 ?qqk2 ?qqk3 ?qqk4 ?qqk5 ?qqk6 ?qqk7 ?qqk8 ?qqk9 ?qqk10 ?qqk11 ?_; (case qqk1 => with_reducible assumption); (case qqk2 => with_reducible assumption); (case qqk3 => k_inst); (case qqk4 => k_is); (case qqk5 => k_is); (case qqk6 => k_is); (case qqk7 => k_is); (case qqk8 => k_is); (case qqk9 => k_is); (case qqk10 => k_slotget); (case qqk11 => k_handed); k_whole)))
  k_with "ite" => ((k_here; k_openite; k_dflt (first | (refine ite_pos (by ((walk_at "cl"); (try simp only [decide_eq_true_eq, beq_iff_eq, bne_iff_ne, ne_eq]); omega)) ?_) | (refine ite_neg (by ((walk_at "cl"); (try simp only [decide_eq_true_eq, beq_iff_eq, bne_iff_ne, ne_eq]); omega)) ?_)); walk_say "PRUNED here"))
  k_with "binaryOp Mult bytes int" => ((k_here; k_dflt (refine' zeros_mul ?qqh0 ?qqhn ?_; (case qqh0 => (walk_at "cl"; omega)); (case qqhn => (walk_at "cl"; omega)); k_whole); intro _ _))
  k_with "call builtin:len" => ((k_here; (with_reducible show wpAny _ _ (call (Value.builtin "len") [Value.ref _]) _ _ _); k_dflt (refine' ba_lenN ?qqN ?qqm ?qqz ?_; (case qqN => k_asm); (case qqm => k_mem); (case qqz => (walk_at "cl"; omega)); k_whole)))
  k_with "setItem ref ref" => ((k_here; (with_reducible show wpAny _ _ (setItem (Value.ref _) (Value.ref _) (Value.ref _)) _ _ _); k_dflt (refine' ba_setN (s := ⟨_, _, _, _, _⟩) ?qqF ?qqN ?qqU ?qqm ?qqne ?qqh0 ?qqhs ?qqhz ?_; (case qqF => k_asm); (case qqN => k_asm); (case qqU => k_updF); (case qqm => k_mem); (case qqne => k_ne); (case qqh0 => (walk_at "cl"; omega)); (case qqhs => ((walk_at "cl"); first | omega | (simp only [List.length_append, List.length_replicate, Array.size_replicate, lay_length, List.length_nil] at *; omega))); (case qqhz => ((walk_at "cl"); first | omega | (simp only [List.length_append, List.length_replicate, Array.size_replicate, lay_length, List.length_nil] at *; omega))); k_whole); intro _ _ _ _ _ _; (try k_sweep)))
  k_with "getMethod ref" => ((k_here; (with_reducible show wpAny _ _ (getMethod (Value.ref _) (PySem.Str.ofString "unpack_from") _) _ _ _); k_dflt (refine' so_fromK ?qqX ?qqh ?_; (case qqX => k_in); (case qqh => exact rfl); k_whole)))
  k_with "getMethod ref" => ((k_here; (with_reducible show wpAny _ _ (getMethod (Value.ref _) (PySem.Str.ofString "pack_into") _) _ _ _); k_dflt (refine' so_intoK ?qqX ?qqh ?_; (case qqX => k_in); (case qqh => exact rfl); k_whole)))
  k_with "call builtin:_struct.Struct.unpack_from" => ((k_here; k_dflt (refine' so_fromN ?qqX ?qqF ?qqN ?qqh ?qqf ?qqb ?qqh0 ?qqh1 ?qqhz ?_; (case qqX => k_in); (case qqF => k_asm); (case qqN => k_asm); (case qqh => exact rfl); (case qqf => constructor); (case qqb => first | exact .inl ⟨_, rfl⟩ | exact .inr ⟨_, rfl, by k_mem⟩); (case qqh0 => (walk_at "cl"; omega)); (case qqh1 => (walk_at "cl"; omega)); (case qqhz => (walk_at "cl"; omega)); k_whole); intro _ _ _ _ _ _ _; (try (walk_at "lt1")); (try k_sweep)))
  k_with "call builtin:_struct.Struct.unpack_from" => ((k_here; k_dflt (refine' so_fromB ?qqX ?qqF ?qqN ?qqh ?qqf ?qqb ?qqh0 ?qqh1 ?qqhz ?_; (case qqX => k_in); (case qqF => k_asm); (case qqN => k_asm); (case qqh => exact rfl); (case qqf => constructor); (case qqb => exact BufIn.keep (by assumption) (by k_asm)); (case qqh0 => (walk_at "cl"; omega)); (case qqh1 => (walk_at "cl"; omega)); (case qqhz => (walk_at "cl"; omega)); k_whole); intro _ _ _ _ _ _ _; (try (walk_at "lt1")); (try k_sweep)))
  k_with "call builtin:_struct.Struct.pack_into" => ((k_here; k_dflt (refine' so_intoN ?qqX ?qqF ?qqN ?qqU ?qqh ?qqf ?qqh0 ?qqh1 ?qqhz ?qqlo ?qqhi ?_; (case qqX => k_in); (case qqF => k_asm); (case qqN => k_asm); (case qqU => k_updF); (case qqh => exact rfl); (case qqf => constructor); (case qqh0 => (walk_at "cl"; omega)); (case qqh1 => (walk_at "cl"; omega)); (case qqhz => (walk_at "cl"; omega)); (case qqlo => ((first | rw [if_neg (by decide)] | rw [if_pos (by decide)]); (try simp only [Nat.reduceMul, Nat.reduceSub, Int.reducePow, Int.reduceNeg]); walk_at "cl"; omega)); (case qqhi => ((first | rw [if_neg (by decide)] | rw [if_pos (by decide)]); (try simp only [Nat.reduceMul, Nat.reduceSub, Int.reducePow, Int.reduceNeg]); walk_at "cl"; omega)); k_whole); intro _ _ _; (try k_sweep)))
  k_with "wpC" => ((k_here; (with_reducible show wpC _ _ (call (Value.ref _) _ _) _ _ _); (walk_at "wpCc")))
  trivial

theorem pad_k : ∀ {w : World} {mean : ExcName → Option Value} {mg mb : Str → Option Value} {dp un : Nat} {cn : Str} {cs : Scope} {a : Addr} {ccd : Value} {cl : List (Str × Addr)} {outer : List Env} {A₀ : Around} {base h₀ : Heap} {L : Addr} {m : Str → Option Value} {s : Shared}
    {Q E : Value → Shared → Prop} {rest : List (Addr × Obj)} (B : Below A₀ base outer h₀) (F : Fr h₀ L s.heap m) (X : (Mine.hd.heap_39 w.params).In h₀) (T : Top Mine.hd.view_39 LO mean mg mb h₀) (hk : cs.kind = .function) (hd : dp + 1 < recursionLimit) (hu : un + 8 < cLine) {b : Addr} {dx : Addr} {ba : Addr} {dv : Addr} {arr : Array UInt8} {v1 : Value} {v7 : Value} {v9 : Option Value} {hd1 : Int} {ma : Int} {t1 : Tok} {t2 : Tok} {fin : Bool} {nest : Bool} {n : Int} {t : Tok} {out : List UInt8} (hH : Has arr hd1 out) (hz : arr.size ≤ 4096) (hn : 0 ≤ n) (hn2 : n ≤ hd1) (P : Part h₀ L s.heap [(b, BO dx ba v1 fin hd1 t1 ma t2 nest v7 v9 dv), (dx, dictOf [] 0), (ba, AO arr)] rest)
    (hret : ∀ (h' : Heap) (tk' : Nat) (arr' : Array UInt8) (t1' : Tok), Has arr' (hd1 - n) (List.replicate n.toNat 0 ++ out) → arr'.size = arr.size → Fr h₀ L h' m → News h₀ L h' ([(b, BO dx ba v1 fin (hd1 - n) t1' ma t2 nest v7 v9 dv), (dx, dictOf [] 0), (ba, AO arr')] ++ rest) → AllNes [(b, BO dx ba v1 fin (hd1 - n) t1' ma t2 nest v7 v9 dv), (dx, dictOf [] 0), (ba, AO arr')] rest → Q .none { s with heap := h', toks := tk' }),
    wpC (model _root_.PySem.Challenge.rw_bp0005_01.row.prog w) (ktrTop dp un (some []) cn cs L a ccd cl outer) (call (.ref 411) [.ref b, .int n t] ) Q E s := by
  refine @Mine.hush _ (by
  k_fill
  intro w mean mg mb dp un cn cs a ccd cl outer A₀ base h₀ L m s Q E rest B F X T hk hd hu b dx ba dv arr v1 v7 v9 hd1 ma t1 t2 fin nest n t out hH hz hn hn2 P hret
  have N := P.news
  have hdis := P.dis
  obtain ⟨n1, n2, n3⟩ := news3B N
  refine c_call ?_
  k_dflt (refine' defC ?k1 ?k2 ?k3 ?k4 ?kd ?k5 ?kA ?kF ?kK ?k6 ?k7 ?k8 ?k9 ?kB ?_ ?c2 ?c3 ?c4 ?c5; (case kA => exact rfl); (case kF => exact rfl); (case kK => assumption); (case k1 => k_asm); (case k2 => k_asm); (case k3 => k_asm); (case k4 => k_asm); (case kd => k_asm); (case k5 => k_asm); (case k6 => k_is); (case k7 => k_is); (case k8 => ktr_room); (case k9 => exact BindsTo.of_eq rfl); (case c5 => decide); (case kB => exact locs rfl); (case c2 => exact rfl); (case c3 => exact rfl); (case c4 => exact rfl); k_whole; intro g' L' h' FG' F' N' B' X' T' l0 ; (try dsimp only); (try k_fold))
  have hH0 := hH.1
  have hH1 := hH.2.1
  k_steps
  all_goals dsimp only [wants]
  · rename_i kF kN kD
    have e0 : n = 0 := by omega
    rw [e0, Int.sub_zero] at hret
    exact hret _ _ _ _ (by simpa using hH) rfl kF (news_sub kN (sub3 (by k_mem) (by k_mem) (by k_mem))) (allNes_of (dis_sub kD (sub3 (by k_mem) (by k_mem) (by k_mem))))
  · rename_i kF kN kD
    exact hret _ _ _ _ (by rw [← Array.toList_replicate]; k_asm) (by k_asm) kF (news_sub kN (sub3 (by k_mem) (by k_mem) (by k_mem))) (allNes_of (dis_sub kD (sub3 (by k_mem) (by k_mem) (by k_mem))))) ?_
  intro q f
  simpa using Mine.hushed f 5 fun n i => i
theorem setup_KA_2 : True := by
  k_with "wpCc" => ((k_here; (with_reducible show wpC _ _ (call (Value.ref 411) _ _) _ _ _); k_dflt (refine' pad_k ?qqB ?qqF ?qqX ?qqT ?qqhk ?qqhd ?qqhu ?qqf0 ?qqf1 ?qqf2 ?qqf3 (part_of ?qqN (sub3 ?qqm0 ?qqm1 ?qqm2) ?qqS) ?_; (case qqB => k_asm); (case qqF => k_asm); (case qqX => k_asm); (case qqT => k_asm); (case qqhk => first | exact rfl | assumption); (case qqN => k_asm); (case qqm0 => k_mem); (case qqm1 => k_mem); (case qqm2 => k_mem); (case qqhd => (walk_at "room")); (case qqhu => (walk_at "units")); (case qqf0 => (walk_at "ft")); (case qqf1 => (walk_at "ft")); (case qqf2 => (walk_at "ft")); (case qqf3 => (walk_at "ft")); (case qqS => (walk_at "sel"))); (walk_at "cl1"); intro _ _ _ _ _ _ _ _ _; (walk_at "fin93")))
  trivial

theorem grow_k : ∀ {w : World} {mean : ExcName → Option Value} {mg mb : Str → Option Value} {dp un : Nat} {cn : Str} {cs : Scope} {a : Addr} {ccd : Value} {cl : List (Str × Addr)} {outer : List Env} {A₀ : Around} {base h₀ : Heap} {L : Addr} {m : Str → Option Value} {s : Shared}
    {Q E : Value → Shared → Prop} {rest : List (Addr × Obj)} (B : Below A₀ base outer h₀) (F : Fr h₀ L s.heap m) (X : (Mine.hd.heap_39 w.params).In h₀) (T : Top Mine.hd.view_39 LO mean mg mb h₀) (hk : cs.kind = .function) (hd : dp + 1 < recursionLimit) (hu : un + 8 < cLine) {b : Addr} {dx : Addr} {ba : Addr} {dv : Addr} {arr : Array UInt8} {v1 : Value} {v7 : Value} {v9 : Option Value} {hd1 : Int} {ma : Int} {t1 : Tok} {t2 : Tok} {fin : Bool} {nest : Bool} (hz : arr.size ≤ 2048) (P : Part h₀ L s.heap [(b, BO dx ba v1 fin hd1 t1 ma t2 nest v7 v9 dv), (dx, dictOf [] 0), (ba, AO arr)] rest)
    (hret : ∀ (h' : Heap) (tk' : Nat) (ba' : Addr) (arr' : Array UInt8), Has arr' ((arr'.size : Int) - arr.size) arr.toList → arr.size < arr'.size → arr'.size ≤ 2 * arr.size + 1 → Fr h₀ L h' m → News h₀ L h' ([(b, BO dx ba' v1 fin hd1 t1 ma t2 nest v7 v9 dv), (dx, dictOf [] 0), (ba', AO arr')] ++ rest) → AllNes [(b, BO dx ba' v1 fin hd1 t1 ma t2 nest v7 v9 dv), (dx, dictOf [] 0), (ba', AO arr')] rest → Q .none { s with heap := h', toks := tk' }),
    wpC (model _root_.PySem.Challenge.rw_bp0005_01.row.prog w) (ktrTop dp un (some []) cn cs L a ccd cl outer) (call (.ref 390) [.ref b] ) Q E s := by
  refine @Mine.hush _ (by
  k_fill
  intro w mean mg mb dp un cn cs a ccd cl outer A₀ base h₀ L m s Q E rest B F X T hk hd hu b dx ba dv arr v1 v7 v9 hd1 ma t1 t2 fin nest hz P hret
  have N := P.news
  have hdis := P.dis
  obtain ⟨n1, n2, n3⟩ := news3B N
  refine c_call ?_
  k_dflt (refine' defC ?k1 ?k2 ?k3 ?k4 ?kd ?k5 ?kA ?kF ?kK ?k6 ?k7 ?k8 ?k9 ?kB ?_ ?c2 ?c3 ?c4 ?c5; (case kA => exact rfl); (case kF => exact rfl); (case kK => assumption); (case k1 => k_asm); (case k2 => k_asm); (case k3 => k_asm); (case k4 => k_asm); (case kd => k_asm); (case k5 => k_asm); (case k6 => k_is); (case k7 => k_is); (case k8 => ktr_room); (case k9 => exact BindsTo.of_eq rfl); (case c5 => decide); (case kB => exact locs rfl); (case c2 => exact rfl); (case c3 => exact rfl); (case c4 => exact rfl); k_whole; intro g' L' h' FG' F' N' B' X' T' l0 ; (try dsimp only); (try k_fold))
  k_steps
  all_goals (dsimp only [wants]; rename_i ar hH hs hh FF NN kF kN kD; rw [Array.size_replicate] at hs; refine hret _ _ _ ar ?_ ?_ ?_ kF (news_sub kN (sub3 (by k_mem) (by k_mem) (by k_mem))) (allNes_of (dis_sub kD (sub3 (by k_mem) (by k_mem) (by k_mem)))))
  all_goals (have hlt : ¬ ((2147483648 : Int) < (arr.size : Int) * 2) := by omega)
  all_goals simp only [if_neg hlt] at *
  all_goals first | omega | (split at * <;> omega) | (refine cast (congrArg (fun z => Has ar z arr.toList) ?_) hH; first | omega | (split at * <;> omega))) ?_
  intro q f
  simpa using Mine.hushed f 5 fun n i => i
-- KB

@[reducible] def PrepMap (hv : Int) (th : Tok) (bl : Int) (tb : Tok) (old : Option Value) (need : Int) (tn : Tok) (pad : Nat) (tp : Tok) (b : Addr) (m₀ : Str → Option Value) : Str → Option Value := fun y =>
  if y = Str.ofString "head" then some (.int hv th) else if y = Str.ofString "buf_len" then some (.int bl tb) else if y = Str.ofString "oldBufSize" then old else
    if y = Str.ofString "needed" then some (.int need tn) else if y = Str.ofString "alignSize" then some (.int pad tp) else if y = Str.ofString "self" then some (.ref b) else m₀ y
theorem prepMap_self {hv : Int} {th : Tok} {bl : Int} {tb : Tok} {need : Int} {tn : Tok} {pad : Nat} {tp : Tok} {b : Addr} {m₀ : Str → Option Value} (f1 : m₀ (Str.ofString "head") = some (.int hv th)) (f2 : m₀ (Str.ofString "buf_len") = some (.int bl tb))
    (f3 : m₀ (Str.ofString "needed") = some (.int need tn)) (f4 : m₀ (Str.ofString "alignSize") = some (.int pad tp)) (f5 : m₀ (Str.ofString "self") = some (.ref b)) : PrepMap hv th bl tb (m₀ (Str.ofString "oldBufSize")) need tn pad tp b m₀ = m₀ := by
  funext y
  unfold PrepMap
  split
  · rename_i e; rw [e, f1]
  split
  · rename_i e; rw [e, f2]
  split
  · rename_i e; rw [e]
  split
  · rename_i e; rw [e, f3]
  split
  · rename_i e; rw [e, f4]
  split
  · rename_i e; rw [e, f5]
  rfl
theorem prepMap_again {hv hv' : Int} {th th' : Tok} {bl bl' : Int} {tb tb' : Tok} {old old' : Option Value} {need : Int} {tn : Tok} {pad : Nat} {tp : Tok} {b : Addr} {m₀ : Str → Option Value} :
    (fun y => if y = Str.ofString "head" then some (.int hv' th') else if y = Str.ofString "buf_len" then some (.int bl' tb') else if y = Str.ofString "oldBufSize" then old' else PrepMap hv th bl tb old need tn pad tp b m₀ y) = PrepMap hv' th' bl' tb' old' need tn pad tp b m₀ := by
  funext y
  unfold PrepMap
  split
  · rfl
  split
  · rfl
  split
  · rfl
  rfl
/-- the loop of Prep: what is so ahead of each turn -/
def PrepI (s : Shared) (g : Heap) (L : Addr) (m₀ : Str → Option Value) (b dx dv : Addr) (v1 v7 : Value) (v9 : Option Value) (fin nest : Bool) (hd1 : Int) (t1 : Tok) (ma1 : Int) (tm1 : Tok) (need : Int) (pad : Nat) (tn tp : Tok) (out : List UInt8) (z0 : Nat) (n : Nat) (s' : Shared) : Prop :=
  ∃ (h' : Heap) (tk : Nat) (hv : Int) (th : Tok) (ba' : Addr) (arr' : Array UInt8) (tb : Tok) (old : Option Value), s' = { s with heap := h', toks := tk } ∧ Fr g L h' (PrepMap hv th arr'.size tb old need tn pad tp b m₀) ∧
    News g L h' [(b, BO dx ba' v1 fin hd1 t1 ma1 tm1 nest v7 v9 dv), (dx, dictOf [] 0), (ba', AO arr')] ∧ Has arr' hv out ∧ (arr'.size ≤ 2048 ∧ z0 ≤ arr'.size) ∧ n = (need - hv).toNat
section
variable {s : Shared} {g h' : Heap} {L : Addr} {m₀ : Str → Option Value} {b dx dv ba' : Addr} {v1 v7 : Value} {v9 : Option Value} {fin nest : Bool} {hd1 : Int} {t1 : Tok} {ma1 : Int} {tm1 : Tok} {need hv hv' bl : Int} {pad tk z0 : Nat} {tn tp th th' tb tb' : Tok} {out : List UInt8} {arr' : Array UInt8} {old old' : Option Value}
theorem PrepI.intro (F : Fr g L h' (PrepMap hv th arr'.size tb old need tn pad tp b m₀)) (N : News g L h' [(b, BO dx ba' v1 fin hd1 t1 ma1 tm1 nest v7 v9 dv), (dx, dictOf [] 0), (ba', AO arr')]) (H : Has arr' hv out) (z : arr'.size ≤ 2048 ∧ z0 ≤ arr'.size) :
    PrepI s g L m₀ b dx dv v1 v7 v9 fin nest hd1 t1 ma1 tm1 need pad tn tp out z0 (need - hv).toNat { s with heap := h', toks := tk } := ⟨_, _, _, _, _, _, _, _, rfl, F, N, H, z, rfl⟩
theorem PrepI.again (F : Fr g L h' (fun y => if y = Str.ofString "head" then some (.int hv' th') else if y = Str.ofString "buf_len" then some (.int arr'.size tb') else if y = Str.ofString "oldBufSize" then old' else PrepMap hv th bl tb old need tn pad tp b m₀ y))
    (N : News g L h' [(b, BO dx ba' v1 fin hd1 t1 ma1 tm1 nest v7 v9 dv), (dx, dictOf [] 0), (ba', AO arr')]) (H : Has arr' hv' out) (z : arr'.size ≤ 2048 ∧ z0 ≤ arr'.size) :
    PrepI s g L m₀ b dx dv v1 v7 v9 fin nest hd1 t1 ma1 tm1 need pad tn tp out z0 (need - hv').toNat { s with heap := h', toks := tk } := PrepI.intro (prepMap_again ▸ F) N H z
end

theorem setup_KB_1 : True := by
  k_with_none
  k_with "wpC" => ((k_here; (with_reducible show wpC _ _ _ _ _ _); (fail_if_success (with_reducible show wpC _ _ (setItem _ _ (Value.bytes _ _)) _ _ _)); (fail_if_success (with_reducible show wpC _ _ (call (Value.ref _) _ _) _ _ _)); (fail_if_success (with_reducible show wpC _ _ (callWith _ (Value.type _) _ _ _) _ _ _)); (fail_if_success (with_reducible show wpC _ _ (call (Value.type _) _ _) _ _ _)); (refine of_any ?_)))
  k_with "wpC" => ((k_here; (with_reducible show wpC _ _ (call (Value.ref _) _ _) _ _ _); (refine' of_anyD ?qqd ?_; (case qqd => (walk_at "dirty")))))
  k_with "wpC" => ((k_here; (with_reducible show wpC _ _ (exec (Stmt.While _ _ _ _) _) _ _ _); (refine c_While ?_)))
  k_with "wpC" => ((k_here; (with_reducible show wpC _ _ (exec (Stmt.If _ _ _ _) _) _ _ _); (refine c_If ?_)))
  k_with "wpC" => ((k_here; (with_reducible show wpC _ _ (exec (Stmt.Assign [Expr.Subscript _ (Expr.Slice _ _ _ _) _] _ _) _) _ _ _); k_dflt (refine c_Assign_Subscript ?_)))
  k_with "wpC" => ((k_here; (with_reducible show wpC _ _ (exec (Stmt.Expr (Expr.Call (Expr.Attribute _ _ _) _ _ _) _) _) _ _ _); k_dflt (refine' c_ExprD ?qqd ?_; (case qqd => (walk_at "dirty")))))
  k_with "wpC" => ((k_here; (with_reducible show wpC _ _ (exec (Stmt.Return (some (Expr.Call (Expr.Attribute _ _ _) _ _ _)) _) _) _ _ _); k_dflt (refine' c_ReturnD ?qqd ?_; (case qqd => (walk_at "dirty")))))
  k_with "wpC" => ((k_here; (with_reducible show wpC _ _ (exec (Stmt.Assign [Expr.Name _ _] (Expr.Call (Expr.Attribute _ _ _) _ _ _) _) _) _ _ _); k_dflt (refine' c_AssignD ?qqd ?_; (case qqd => (walk_at "dirty")))))
  k_with "wpC" => ((k_here; (with_reducible show wpC _ _ (eval (Expr.Call (Expr.Attribute _ _ _) _ _ _) _) _ _ _); k_dflt (refine' c_MethodCallSD ?qqd ?_; (case qqd => (walk_at "dirty")))))
  k_with "wpC" => ((k_here; (with_reducible show wpC _ _ (eval (Expr.Call (Expr.Attribute _ _ _) _ _ _) _) _ _ _); k_dflt (refine' c_MethodCallD ?qqd ?_; (case qqd => (walk_at "dirty")))))
  k_with "wpC" => ((k_here; (with_reducible show wpC _ _ (exec (Stmt.Assign [Expr.Name _ _] (Expr.Call (Expr.Name (PySem.Str.ofString "Builder") _) _ _ _) _) _) _ _ _); k_dflt (refine c_Assign_Name ?_)))
  k_with "wpC" => ((k_here; (with_reducible show wpC _ _ (eval (Expr.Call (Expr.Name (PySem.Str.ofString "Builder") _) _ _ _) _) _ _ _); k_dflt (refine c_Call ?_)))
  k_with "wpC" => ((k_here; (with_reducible show wpC _ _ (exec (Stmt.Assign [Expr.Name _ _] (Expr.Call (Expr.Name (PySem.Str.ofString "_law_made") _) _ _ _) _) _) _ _ _); k_dflt (refine c_Assign_Name ?_)))
  k_with "wpC" => ((k_here; (with_reducible show wpC _ _ (eval (Expr.Call (Expr.Name (PySem.Str.ofString "_law_made") _) _ _ _) _) _ _ _); k_dflt (refine c_Call ?_)))
  k_with "wpC" => ((k_here; (with_reducible show wpC _ _ (exec (Stmt.Assign [Expr.Attribute _ _ _] (Expr.Call (Expr.Name (PySem.Str.ofString "bytearray") _) _ _ _) _) _) _ _ _); k_dflt (refine c_Assign_Attr ?_)))
  k_with "wpC" => ((k_here; (with_reducible show wpC _ _ (exec (Stmt.Assign [Expr.Name _ _] (Expr.Call (Expr.Name (PySem.Str.ofString "bytearray") _) _ _ _) _) _) _ _ _); k_dflt (refine c_Assign_Name ?_)))
  k_with "wpC" => ((k_here; (with_reducible show wpC _ _ (eval (Expr.Call (Expr.Name (PySem.Str.ofString "bytearray") _) _ _ _) _) _ _ _); k_dflt (refine c_Call ?_)))
  k_with "wpC" => ((k_here; (with_reducible show wpC _ _ (execs [] _) _ _ _); (refine c_execs_nil ?_)))
  k_with "wpC" => ((k_here; (with_reducible show wpC _ _ (execs (_ :: _) _) _ _ _); (refine c_execs_cons ?_)))
  k_with "wpC" => ((k_here; (with_reducible show wpC _ _ (callWith _ (Value.ref _) _ _ _) _ _ _); k_dflt (first | refine' c_callWith_K ?qqk1 ?qqk2 ?_; (case qqk1 => k_asm); (case qqk2 => k_is); k_whole | refine' c_callWith_S ?qqk1 ?qqk2 ?_; (case qqk1 => k_asm); (case qqk2 => k_is); k_whole | refine' c_callWith_MS ?qqk1 ?qqk2 ?qqk3 ?qqk4 ?_; (case qqk1 => k_asm); (case qqk2 => k_asm); (case qqk3 => k_mem); (case qqk4 => k_is); k_whole | refine' c_callWith_K0 ?qqk1 ?qqk2 ?_; (case qqk1 => k_in); (case qqk2 => k_is); k_whole | refine' c_callWith_KW ?qqk1 ?qqk2 ?qqk3 ?_; (case qqk1 => k_asm); (case qqk2 => k_is); (case qqk3 => exact rfl); k_whole)))
  k_with "wpC" => ((k_here; (with_reducible show wpC _ _ (callWith _ (Value.type _) _ _ _) _ _ _); k_dflt (refine' c_callWith_T ?_)))
  k_with "wpC" => ((k_here; (with_reducible show wpC _ _ (setItem (Value.ref _) (Value.ref _) (Value.bytes _ _)) _ _ _); k_dflt (refine' c_setN (s := ⟨_, _, _, _, _⟩) ?qqg ?qqF ?qqN ?qqU ?qqh ?qqej ?qqh0 ?qqhs ?qqz ?_; (case qqF => k_asm); (case qqN => k_asm); (case qqU => k_updF); (case qqh => k_asm); (case qqg => exact rfl); (case qqej => (walk_at "cl"; omega)); (case qqh0 => (walk_at "cl"; omega)); (case qqhs => ((walk_at "cl"); first | omega | (simp only [List.length_append, List.length_replicate, Array.size_replicate, lay_length, List.length_nil] at *; omega))); (case qqz => (walk_at "cl"; omega)); k_whole); intro _ _ _ _ _ _; (try k_sweep)))
  k_with "wpC" => ((k_here; (with_reducible show wpC _ _ (call (Value.type _) [Value.int _ _]) _ _ _); k_dflt (refine' c_new_int ?qqg ?qqF ?qqN ?qqh0 ?qqhz ?_; (case qqg => exact rfl); (case qqF => k_asm); (case qqN => k_asm); (case qqh0 => (walk_at "cl"; omega)); (case qqhz => (walk_at "cl"; omega)); k_whole); intro _ _ _ _ _; (try (walk_at "lt1")); (try k_sweep)))
  k_with "wpC" => ((k_here; (with_reducible show wpC _ _ (call (Value.type _) [Value.bytes _ _]) _ _ _); k_dflt (refine' c_new_bytes ?qqg ?qqF ?qqN ?qqhz ?_; (case qqg => exact rfl); (case qqF => k_asm); (case qqN => k_asm); (case qqhz => (walk_at "cl"; omega)); k_whole); intro _ _ _ _ _; (try (walk_at "lt1")); (try k_sweep)))
  k_with "LeaveM" => ((k_dflt (refine' leaveM_ ?qqk1 ?qqk2 ?_; (case qqk1 => k_asm); (case qqk2 => k_asm); k_whole); intro _ _ _; (try dsimp only [InitBack, CmpBack, LenBack, StrBack, BoolBack]); (try refine ⟨rfl, ?_⟩)))
  k_with "getMethod str" => ((k_here; (with_reducible show wpAny _ _ (getMethod (Value.str _ _) (PySem.Str.ofString "encode") _) _ _ _); k_dflt (refine' str_encode_get ?_; k_whole)))
  k_with "call builtin:str.encode" => ((k_here; k_dflt (refine' str_encode ?qqh ?qqz ?_; (case qqh => k_asm); (case qqz => (walk_at "cl"; omega)); k_whole); intro _ _))
  k_with "getAttr ref" => ((k_here; k_dflt (refine' kbm_boundS ?qqk1 ?qqk2 ?qqk3 ?qqk4 ?qqk5 ?qqk6 ?qqk6b ?qqk7 ?qqk8 ?qqk9 ?qqk10 ?qqk11 ?_; (case qqk4 => k_inst); (case qqk1 => k_asm); (case qqk2 => k_asm); (case qqk7 => k_is); (case qqk3 => k_asm); (case qqk5 => k_is); (case qqk6 => k_is); (case qqk6b => k_is); (case qqk8 => k_is); (case qqk9 => k_is); (case qqk10 => k_is); (case qqk11 => decide +kernel); k_whole); intro _ _ _ _ _; (try (walk_at "lt1")); (try k_sweep)))
  k_with "eval Name" => ((k_here; (with_reducible show wpAny _ _ (eval (Expr.Name (PySem.Str.ofString "bytearray") _) _) _ _ _); with_unfolding_all refine guard_global (by rfl) ?_; k_dflt (refine' name_B ?qqkF ?qqk1 ?qqk2 ?qqk3 ?qqk4 ?qqk5 ?_; (case qqkF => with_reducible assumption); (case qqk1 => with_reducible assumption); (case qqk2 => k_asm); (case qqk3 => k_is); (case qqk4 => boot_by_name); (case qqk5 => decide); k_whole)))
  k_with "getAttr ref" => ((k_here; (with_reducible show wpAny _ _ (getAttr (Value.ref _) _ _) _ _ _); k_dflt (refine' get_slot ?qqk1 ?qqk2 ?qqk3 ?qqk4 ?qqk5 ?qqk6 ?qqk7 ?qqk8 ?qqk9 ?qqk10 ?qqk11 ?_; (case qqk1 => with_reducible assumption); (case qqk2 => with_reducible assumption); (case qqk3 => k_inst); (case qqk4 => k_is); (case qqk5 => k_is); (case qqk6 => k_is); (case qqk7 => k_is); (case qqk8 => k_is); (case qqk9 => k_is); (case qqk10 => k_slotget); (case qqk11 => k_handed); k_whole)))
  k_with "ite" => ((k_here; k_openite; k_dflt (first | (refine ite_pos (by ((walk_at "cl"); (try simp only [decide_eq_true_eq, beq_iff_eq, bne_iff_ne, ne_eq]); omega)) ?_) | (refine ite_neg (by ((walk_at "cl"); (try simp only [decide_eq_true_eq, beq_iff_eq, bne_iff_ne, ne_eq]); omega)) ?_)); walk_say "PRUNED here"))
  k_with "binaryOp Mult bytes int" => ((k_here; k_dflt (refine' zeros_mul ?qqh0 ?qqhn ?_; (case qqh0 => (walk_at "cl"; omega)); (case qqhn => (walk_at "cl"; omega)); k_whole); intro _ _))
  k_with "call builtin:len" => ((k_here; (with_reducible show wpAny _ _ (call (Value.builtin "len") [Value.ref _]) _ _ _); k_dflt (refine' ba_lenN ?qqN ?qqm ?qqz ?_; (case qqN => k_asm); (case qqm => k_mem); (case qqz => (walk_at "cl"; omega)); k_whole)))
  k_with "setItem ref ref" => ((k_here; (with_reducible show wpAny _ _ (setItem (Value.ref _) (Value.ref _) (Value.ref _)) _ _ _); k_dflt (refine' ba_setN (s := ⟨_, _, _, _, _⟩) ?qqF ?qqN ?qqU ?qqm ?qqne ?qqh0 ?qqhs ?qqhz ?_; (case qqF => k_asm); (case qqN => k_asm); (case qqU => k_updF); (case qqm => k_mem); (case qqne => k_ne); (case qqh0 => (walk_at "cl"; omega)); (case qqhs => ((walk_at "cl"); first | omega | (simp only [List.length_append, List.length_replicate, Array.size_replicate, lay_length, List.length_nil] at *; omega))); (case qqhz => ((walk_at "cl"); first | omega | (simp only [List.length_append, List.length_replicate, Array.size_replicate, lay_length, List.length_nil] at *; omega))); k_whole); intro _ _ _ _ _ _; (try k_sweep)))
  k_with "getMethod ref" => ((k_here; (with_reducible show wpAny _ _ (getMethod (Value.ref _) (PySem.Str.ofString "unpack_from") _) _ _ _); k_dflt (refine' so_fromK ?qqX ?qqh ?_; (case qqX => k_in); (case qqh => exact rfl); k_whole)))
  k_with "getMethod ref" => ((k_here; (with_reducible show wpAny _ _ (getMethod (Value.ref _) (PySem.Str.ofString "pack_into") _) _ _ _); k_dflt (refine' so_intoK ?qqX ?qqh ?_; (case qqX => k_in); (case qqh => exact rfl); k_whole)))
  k_with "call builtin:_struct.Struct.unpack_from" => ((k_here; k_dflt (refine' so_fromN ?qqX ?qqF ?qqN ?qqh ?qqf ?qqb ?qqh0 ?qqh1 ?qqhz ?_; (case qqX => k_in); (case qqF => k_asm); (case qqN => k_asm); (case qqh => exact rfl); (case qqf => constructor); (case qqb => first | exact .inl ⟨_, rfl⟩ | exact .inr ⟨_, rfl, by k_mem⟩); (case qqh0 => (walk_at "cl"; omega)); (case qqh1 => (walk_at "cl"; omega)); (case qqhz => (walk_at "cl"; omega)); k_whole); intro _ _ _ _ _ _ _; (try (walk_at "lt1")); (try k_sweep)))
  k_with "call builtin:_struct.Struct.unpack_from" => ((k_here; k_dflt (refine' so_fromB ?qqX ?qqF ?qqN ?qqh ?qqf ?qqb ?qqh0 ?qqh1 ?qqhz ?_; (case qqX => k_in); (case qqF => k_asm); (case qqN => k_asm); (case qqh => exact rfl); (case qqf => constructor); (case qqb => exact BufIn.keep (by assumption) (by k_asm)); (case qqh0 => (walk_at "cl"; omega)); (case qqh1 => (walk_at "cl"; omega)); (case qqhz => (walk_at "cl"; omega)); k_whole); intro _ _ _ _ _ _ _; (try (walk_at "lt1")); (try k_sweep)))
  k_with "call builtin:_struct.Struct.pack_into" => ((k_here; k_dflt (refine' so_intoN ?qqX ?qqF ?qqN ?qqU ?qqh ?qqf ?qqh0 ?qqh1 ?qqhz ?qqlo ?qqhi ?_; (case qqX => k_in); (case qqF => k_asm); (case qqN => k_asm); (case qqU => k_updF); (case qqh => exact rfl); (case qqf => constructor); (case qqh0 => (walk_at "cl"; omega)); (case qqh1 => (walk_at "cl"; omega)); (case qqhz => (walk_at "cl"; omega)); (case qqlo => ((first | rw [if_neg (by decide)] | rw [if_pos (by decide)]); (try simp only [Nat.reduceMul, Nat.reduceSub, Int.reducePow, Int.reduceNeg]); walk_at "cl"; omega)); (case qqhi => ((first | rw [if_neg (by decide)] | rw [if_pos (by decide)]); (try simp only [Nat.reduceMul, Nat.reduceSub, Int.reducePow, Int.reduceNeg]); walk_at "cl"; omega)); k_whole); intro _ _ _; (try k_sweep)))
  k_with "wpC" => ((k_here; (with_reducible show wpC _ _ (call (Value.ref _) _ _) _ _ _); (walk_at "wpCc")))
  k_with "wpCc" => ((k_here; (with_reducible show wpC _ _ (call (Value.ref 411) _ _) _ _ _); k_dflt (refine' pad_k ?qqB ?qqF ?qqX ?qqT ?qqhk ?qqhd ?qqhu ?qqf0 ?qqf1 ?qqf2 ?qqf3 (part_of ?qqN (sub3 ?qqm0 ?qqm1 ?qqm2) ?qqS) ?_; (case qqB => k_asm); (case qqF => k_asm); (case qqX => k_asm); (case qqT => k_asm); (case qqhk => first | exact rfl | assumption); (case qqN => k_asm); (case qqm0 => k_mem); (case qqm1 => k_mem); (case qqm2 => k_mem); (case qqhd => (walk_at "room")); (case qqhu => (walk_at "units")); (case qqf0 => (walk_at "ft")); (case qqf1 => (walk_at "ft")); (case qqf2 => (walk_at "ft")); (case qqf3 => (walk_at "ft")); (case qqS => (walk_at "sel"))); (walk_at "cl1"); intro _ _ _ _ _ _ _ _ _; (walk_at "fin93")))
  k_with "wpCc" => ((k_here; (with_reducible show wpC _ _ (call (Value.ref 390) _ _) _ _ _); k_dflt (refine' grow_k ?qqB ?qqF ?qqX ?qqT ?qqhk ?qqhd ?qqhu ?qqf0 (part_of ?qqN (sub3 ?qqm0 ?qqm1 ?qqm2) ?qqS) ?_; (case qqB => k_asm); (case qqF => k_asm); (case qqX => k_asm); (case qqT => k_asm); (case qqhk => first | exact rfl | assumption); (case qqN => k_asm); (case qqm0 => k_mem); (case qqm1 => k_mem); (case qqm2 => k_mem); (case qqhd => (walk_at "room")); (case qqhu => (walk_at "units")); (case qqf0 => (walk_at "ft")); (case qqS => (walk_at "sel"))); (walk_at "cl1"); intro _ _ _ _ _ _ _ _ _ _; (walk_at "fin93")))
  trivial

theorem prep_k : ∀ {w : World} {mean : ExcName → Option Value} {mg mb : Str → Option Value} {dp un : Nat} {cn : Str} {cs : Scope} {a : Addr} {ccd : Value} {cl : List (Str × Addr)} {outer : List Env} {A₀ : Around} {base h₀ : Heap} {L : Addr} {m : Str → Option Value} {s : Shared}
    {Q E : Value → Shared → Prop} {rest : List (Addr × Obj)} (B : Below A₀ base outer h₀) (F : Fr h₀ L s.heap m) (X : (Mine.hd.heap_39 w.params).In h₀) (T : Top Mine.hd.view_39 LO mean mg mb h₀) (hk : cs.kind = .function) (hd : dp + 4 < recursionLimit) (hu : un + 32 < cLine) {b : Addr} {dx : Addr} {ba : Addr} {dv : Addr} {arr : Array UInt8} {v1 : Value} {v7 : Value} {v9 : Option Value} {hd1 : Int} {ma : Int} {t1 : Tok} {t2 : Tok} {fin : Bool} {nest : Bool} {sz : Int} {ts : Tok} {add : Int} {ta : Tok} {out : List UInt8} (hH : Has arr hd1 out) (hz : arr.size ≤ 2048) (hs : sz = 2 ∨ sz = 4) (ha : 0 ≤ add) (ho : out.length + add ≤ 1000) (P : Part h₀ L s.heap [(b, BO dx ba v1 fin hd1 t1 ma t2 nest v7 v9 dv), (dx, dictOf [] 0), (ba, AO arr)] rest)
    (hret : ∀ (h' : Heap) (tk' : Nat) (ba' : Addr) (arr' : Array UInt8) (hd' : Int) (ma' : Int) (t1' : Tok) (t2' : Tok), Has arr' hd' (pd sz add out) → (out.length : Int) ≤ (pd sz add out).length → ((pd sz add out).length : Int) < out.length + sz → arr'.size ≤ 2048 → arr.size ≤ arr'.size → sz + add ≤ hd' → ma' = max ma sz → Fr h₀ L h' m → News h₀ L h' ([(b, BO dx ba' v1 fin hd' t1' ma' t2' nest v7 v9 dv), (dx, dictOf [] 0), (ba', AO arr')] ++ rest) → AllNes [(b, BO dx ba' v1 fin hd' t1' ma' t2' nest v7 v9 dv), (dx, dictOf [] 0), (ba', AO arr')] rest → Q .none { s with heap := h', toks := tk' }),
    wpC (model _root_.PySem.Challenge.rw_bp0005_01.row.prog w) (ktrTop dp un (some []) cn cs L a ccd cl outer) (call (.ref 418) [.ref b, .int sz ts, .int add ta] ) Q E s := by
  refine @Mine.hush _ (by
  k_fill
  intro w mean mg mb dp un cn cs a ccd cl outer A₀ base h₀ L m s Q E rest B F X T hk hd hu b dx ba dv arr v1 v7 v9 hd1 ma t1 t2 fin nest sz ts add ta out hH hz hs ha ho P hret
  have N := P.news
  have hdis := P.dis
  obtain ⟨n1, n2, n3⟩ := news3B N
  refine c_call ?_
  k_dflt (refine' defC ?k1 ?k2 ?k3 ?k4 ?kd ?k5 ?kA ?kF ?kK ?k6 ?k7 ?k8 ?k9 ?kB ?_ ?c2 ?c3 ?c4 ?c5; (case kA => exact rfl); (case kF => exact rfl); (case kK => assumption); (case k1 => k_asm); (case k2 => k_asm); (case k3 => k_asm); (case k4 => k_asm); (case kd => k_asm); (case k5 => k_asm); (case k6 => k_is); (case k7 => k_is); (case k8 => ktr_room); (case k9 => exact BindsTo.of_eq rfl); (case c5 => decide); (case kB => exact locs rfl); (case c2 => exact rfl); (case c3 => exact rfl); (case c4 => exact rfl); k_whole; intro g' L' h' FG' F' N' B' X' T' l0 ; (try dsimp only); (try k_fold))
  have hH0 := hH.1
  have hH1 := hH.2.1
  have hlen := hH.len
  obtain ⟨pad, hp⟩ : ∃ pad : Nat, pad = padOf sz (out.length + add) := ⟨_, rfl⟩
  have hpad : Builtin.bitAnd (Builtin.bitNot (arr.size - hd1 + add) + 1) (sz - 1) = (pad : Nat) := by rw [hp, hlen]; exact padOf_and hs
  have hpl : (pad : Int) < sz := by rw [hp]; exact padOf_lt (by omega)
  k_steps
  all_goals
    rename_i FF NN
    dsimp only
    dsimp only at FF
    simp only [hpad] at FF
    obtain ⟨ma1, tm1, hm, NN⟩ : ∃ ma1 tm1, ma1 = max ma sz ∧ News g' L' _ [(b, BO dx ba v1 fin hd1 t1 ma1 tm1 nest v7 v9 dv), (dx, dictOf [] 0), (ba, AO arr)] := ⟨_, _, by omega, NN⟩
    obtain ⟨m₀, ⟨th0, f1⟩, ⟨tb0, f2⟩, ⟨tn, f3⟩, ⟨tp, f4⟩, f5, FF⟩ : ∃ m₀ : Str → Option Value, (∃ t, m₀ (Str.ofString "head") = some (.int hd1 t)) ∧ (∃ t, m₀ (Str.ofString "buf_len") = some (.int arr.size t)) ∧ (∃ t, m₀ (Str.ofString "needed") = some (.int (pad + sz + add) t)) ∧
        (∃ t, m₀ (Str.ofString "alignSize") = some (.int pad t)) ∧ m₀ (Str.ofString "self") = some (.ref b) ∧ Fr g' L' _ m₀ := by
      refine ⟨_, ?_, ?_, ?_, ?_, ?_, FF⟩ <;> first | exact ⟨_, rfl⟩ | rfl
    refine c_while_ind (I := PrepI s g' L' m₀ b dx dv v1 v7 v9 fin nest hd1 t1 ma1 tm1 (pad + sz + add) pad tn tp out arr.size) ?_ _ _ (PrepI.intro (th := th0) (tb := tb0) (old := m₀ (Str.ofString "oldBufSize")) ?_ NN hH ⟨hz, Nat.le_refl _⟩)
    · intro n s' hI
      obtain ⟨h1, tk1, hv, th, ba1, arr1, tb, old, rfl, F1, N1, H1, ⟨z1, z2⟩, rfl⟩ := hI
      obtain ⟨d1, d2, d3⟩ := news3 (rest := []) N1 (by intro e; cases e) (by intro e; cases e) (by intro e; exact absurd (Value.type.inj e) (by decide))
      have H10 := H1.1
      have H11 := H1.2.1
      have H12 := H1.len
      by_cases hlt : hv < pad + sz + add
      · k_steps
        rename_i h9 k9 ba9 ar9 hg9 g1 g2 _ _ _ _ _ FF NN
        exact ⟨_, by omega, PrepI.again FF NN (has_grow hg9 H1) ⟨by omega, by omega⟩⟩
      · k_steps
        dsimp only [wants]
        rename_i h9 k9 ar9 t9 hg9 g1 _ NN _ _ _ kF kN kD
        rw [Int.toNat_natCast, hp] at hg9
        exact hret _ _ ba1 ar9 (hv - pad) ma1 t9 tm1 (by rw [hp]; exact hg9) (pd_len (by omega)).1 (pd_len (by omega)).2 (by omega) (by omega) (by omega) hm kF (news_sub kN (sub3 (by k_mem) (by k_mem) (by k_mem))) (allNes_of (dis_sub kD (sub3 (by k_mem) (by k_mem) (by k_mem))))
    · refine cast (congrArg (Fr g' L' _) ?_) FF
      exact (prepMap_self f1 f2 f3 f4 f5).symm) ?_
  intro q f
  simpa using Mine.hushed f 5 fun n i => i
-- KC

theorem setup_KC_1 : True := by
  k_with_none
  k_with "wpC" => ((k_here; (with_reducible show wpC _ _ _ _ _ _); (fail_if_success (with_reducible show wpC _ _ (setItem _ _ (Value.bytes _ _)) _ _ _)); (fail_if_success (with_reducible show wpC _ _ (call (Value.ref _) _ _) _ _ _)); (fail_if_success (with_reducible show wpC _ _ (callWith _ (Value.type _) _ _ _) _ _ _)); (fail_if_success (with_reducible show wpC _ _ (call (Value.type _) _ _) _ _ _)); (refine of_any ?_)))
  k_with "wpC" => ((k_here; (with_reducible show wpC _ _ (call (Value.ref _) _ _) _ _ _); (refine' of_anyD ?qqd ?_; (case qqd => (walk_at "dirty")))))
  k_with "wpC" => ((k_here; (with_reducible show wpC _ _ (exec (Stmt.While _ _ _ _) _) _ _ _); (refine c_While ?_)))
  k_with "wpC" => ((k_here; (with_reducible show wpC _ _ (exec (Stmt.If _ _ _ _) _) _ _ _); (refine c_If ?_)))
  k_with "wpC" => ((k_here; (with_reducible show wpC _ _ (exec (Stmt.Assign [Expr.Subscript _ (Expr.Slice _ _ _ _) _] _ _) _) _ _ _); k_dflt (refine c_Assign_Subscript ?_)))
  k_with "wpC" => ((k_here; (with_reducible show wpC _ _ (exec (Stmt.Expr (Expr.Call (Expr.Attribute _ _ _) _ _ _) _) _) _ _ _); k_dflt (refine' c_ExprD ?qqd ?_; (case qqd => (walk_at "dirty")))))
  k_with "wpC" => ((k_here; (with_reducible show wpC _ _ (exec (Stmt.Return (some (Expr.Call (Expr.Attribute _ _ _) _ _ _)) _) _) _ _ _); k_dflt (refine' c_ReturnD ?qqd ?_; (case qqd => (walk_at "dirty")))))
  k_with "wpC" => ((k_here; (with_reducible show wpC _ _ (exec (Stmt.Assign [Expr.Name _ _] (Expr.Call (Expr.Attribute _ _ _) _ _ _) _) _) _ _ _); k_dflt (refine' c_AssignD ?qqd ?_; (case qqd => (walk_at "dirty")))))
  k_with "wpC" => ((k_here; (with_reducible show wpC _ _ (eval (Expr.Call (Expr.Attribute _ _ _) _ _ _) _) _ _ _); k_dflt (refine' c_MethodCallSD ?qqd ?_; (case qqd => (walk_at "dirty")))))
  k_with "wpC" => ((k_here; (with_reducible show wpC _ _ (eval (Expr.Call (Expr.Attribute _ _ _) _ _ _) _) _ _ _); k_dflt (refine' c_MethodCallD ?qqd ?_; (case qqd => (walk_at "dirty")))))
  k_with "wpC" => ((k_here; (with_reducible show wpC _ _ (exec (Stmt.Assign [Expr.Name _ _] (Expr.Call (Expr.Name (PySem.Str.ofString "Builder") _) _ _ _) _) _) _ _ _); k_dflt (refine c_Assign_Name ?_)))
  k_with "wpC" => ((k_here; (with_reducible show wpC _ _ (eval (Expr.Call (Expr.Name (PySem.Str.ofString "Builder") _) _ _ _) _) _ _ _); k_dflt (refine c_Call ?_)))
  k_with "wpC" => ((k_here; (with_reducible show wpC _ _ (exec (Stmt.Assign [Expr.Name _ _] (Expr.Call (Expr.Name (PySem.Str.ofString "_law_made") _) _ _ _) _) _) _ _ _); k_dflt (refine c_Assign_Name ?_)))
  k_with "wpC" => ((k_here; (with_reducible show wpC _ _ (eval (Expr.Call (Expr.Name (PySem.Str.ofString "_law_made") _) _ _ _) _) _ _ _); k_dflt (refine c_Call ?_)))
  k_with "wpC" => ((k_here; (with_reducible show wpC _ _ (exec (Stmt.Assign [Expr.Attribute _ _ _] (Expr.Call (Expr.Name (PySem.Str.ofString "bytearray") _) _ _ _) _) _) _ _ _); k_dflt (refine c_Assign_Attr ?_)))
  k_with "wpC" => ((k_here; (with_reducible show wpC _ _ (exec (Stmt.Assign [Expr.Name _ _] (Expr.Call (Expr.Name (PySem.Str.ofString "bytearray") _) _ _ _) _) _) _ _ _); k_dflt (refine c_Assign_Name ?_)))
  k_with "wpC" => ((k_here; (with_reducible show wpC _ _ (eval (Expr.Call (Expr.Name (PySem.Str.ofString "bytearray") _) _ _ _) _) _ _ _); k_dflt (refine c_Call ?_)))
  k_with "wpC" => ((k_here; (with_reducible show wpC _ _ (execs [] _) _ _ _); (refine c_execs_nil ?_)))
  k_with "wpC" => ((k_here; (with_reducible show wpC _ _ (execs (_ :: _) _) _ _ _); (refine c_execs_cons ?_)))
  k_with "wpC" => ((k_here; (with_reducible show wpC _ _ (callWith _ (Value.ref _) _ _ _) _ _ _); k_dflt (first | refine' c_callWith_K ?qqk1 ?qqk2 ?_; (case qqk1 => k_asm); (case qqk2 => k_is); k_whole | refine' c_callWith_S ?qqk1 ?qqk2 ?_; (case qqk1 => k_asm); (case qqk2 => k_is); k_whole | refine' c_callWith_MS ?qqk1 ?qqk2 ?qqk3 ?qqk4 ?_; (case qqk1 => k_asm); (case qqk2 => k_asm); (case qqk3 => k_mem); (case qqk4 => k_is); k_whole | refine' c_callWith_K0 ?qqk1 ?qqk2 ?_; (case qqk1 => k_in); (case qqk2 => k_is); k_whole | refine' c_callWith_KW ?qqk1 ?qqk2 ?qqk3 ?_; (case qqk1 => k_asm); (case qqk2 => k_is); (case qqk3 => exact rfl); k_whole)))
  k_with "wpC" => ((k_here; (with_reducible show wpC _ _ (callWith _ (Value.type _) _ _ _) _ _ _); k_dflt (refine' c_callWith_T ?_)))
  k_with "wpC" => ((k_here; (with_reducible show wpC _ _ (setItem (Value.ref _) (Value.ref _) (Value.bytes _ _)) _ _ _); k_dflt (refine' c_setN (s := ⟨_, _, _, _, _⟩) ?qqg ?qqF ?qqN ?qqU ?qqh ?qqej ?qqh0 ?qqhs ?qqz ?_; (case qqF => k_asm); (case qqN => k_asm); (case qqU => k_updF); (case qqh => k_asm); (case qqg => exact rfl); (case qqej => (walk_at "cl"; omega)); (case qqh0 => (walk_at "cl"; omega)); (case qqhs => ((walk_at "cl"); first | omega | (simp only [List.length_append, List.length_replicate, Array.size_replicate, lay_length, List.length_nil] at *; omega))); (case qqz => (walk_at "cl"; omega)); k_whole); intro _ _ _ _ _ _; (try k_sweep)))
  k_with "wpC" => ((k_here; (with_reducible show wpC _ _ (call (Value.type _) [Value.int _ _]) _ _ _); k_dflt (refine' c_new_int ?qqg ?qqF ?qqN ?qqh0 ?qqhz ?_; (case qqg => exact rfl); (case qqF => k_asm); (case qqN => k_asm); (case qqh0 => (walk_at "cl"; omega)); (case qqhz => (walk_at "cl"; omega)); k_whole); intro _ _ _ _ _; (try (walk_at "lt1")); (try k_sweep)))
  k_with "wpC" => ((k_here; (with_reducible show wpC _ _ (call (Value.type _) [Value.bytes _ _]) _ _ _); k_dflt (refine' c_new_bytes ?qqg ?qqF ?qqN ?qqhz ?_; (case qqg => exact rfl); (case qqF => k_asm); (case qqN => k_asm); (case qqhz => (walk_at "cl"; omega)); k_whole); intro _ _ _ _ _; (try (walk_at "lt1")); (try k_sweep)))
  k_with "LeaveM" => ((k_dflt (refine' leaveM_ ?qqk1 ?qqk2 ?_; (case qqk1 => k_asm); (case qqk2 => k_asm); k_whole); intro _ _ _; (try dsimp only [InitBack, CmpBack, LenBack, StrBack, BoolBack]); (try refine ⟨rfl, ?_⟩)))
  k_with "getMethod str" => ((k_here; (with_reducible show wpAny _ _ (getMethod (Value.str _ _) (PySem.Str.ofString "encode") _) _ _ _); k_dflt (refine' str_encode_get ?_; k_whole)))
  k_with "call builtin:str.encode" => ((k_here; k_dflt (refine' str_encode ?qqh ?qqz ?_; (case qqh => k_asm); (case qqz => (walk_at "cl"; omega)); k_whole); intro _ _))
  k_with "getAttr ref" => ((k_here; k_dflt (refine' kbm_boundS ?qqk1 ?qqk2 ?qqk3 ?qqk4 ?qqk5 ?qqk6 ?qqk6b ?qqk7 ?qqk8 ?qqk9 ?qqk10 ?qqk11 ?_; (case qqk4 => k_inst); (case qqk1 => k_asm); (case qqk2 => k_asm); (case qqk7 => k_is); (case qqk3 => k_asm); (case qqk5 => k_is); (case qqk6 => k_is); (case qqk6b => k_is); (case qqk8 => k_is); (case qqk9 => k_is); (case qqk10 => k_is); (case qqk11 => decide +kernel); k_whole); intro _ _ _ _ _; (try (walk_at "lt1")); (try k_sweep)))
  k_with "eval Name" => ((k_here; (with_reducible show wpAny _ _ (eval (Expr.Name (PySem.Str.ofString "bytearray") _) _) _ _ _); with_unfolding_all refine guard_global (by rfl) ?_; k_dflt (refine' name_B ?qqkF ?qqk1 ?qqk2 ?qqk3 ?qqk4 ?qqk5 ?_; (case qqkF => with_reducible assumption); (case qqk1 => with_reducible assumption); (case qqk2 => k_asm); (case qqk3 => k_is); (case qqk4 => boot_by_name); (case qqk5 => decide); k_whole)))
  k_with "getAttr ref" => ((k_here; (with_reducible show wpAny _ _ (getAttr (Value.ref _) _ _) _ _ _); k_dflt (refine' get_slot ?qqk1 ?qqk2 ?qqk3 ?qqk4 ?qqk5 ?qqk6 ?qqk7 ?qqk8 ?qqk9 ?qqk10 ?qqk11 ?_; (case qqk1 => with_reducible assumption); (case qqk2 => with_reducible assumption); (case qqk3 => k_inst); (case qqk4 => k_is); (case qqk5 => k_is); (case qqk6 => k_is); (case qqk7 => k_is); (case qqk8 => k_is); (case qqk9 => k_is); (case qqk10 => k_slotget); (case qqk11 => k_handed); k_whole)))
  k_with "ite" => ((k_here; k_openite; k_dflt (first | (refine ite_pos (by ((walk_at "cl"); (try simp only [decide_eq_true_eq, beq_iff_eq, bne_iff_ne, ne_eq]); omega)) ?_) | (refine ite_neg (by ((walk_at "cl"); (try simp only [decide_eq_true_eq, beq_iff_eq, bne_iff_ne, ne_eq]); omega)) ?_)); walk_say "PRUNED here"))
  k_with "binaryOp Mult bytes int" => ((k_here; k_dflt (refine' zeros_mul ?qqh0 ?qqhn ?_; (case qqh0 => (walk_at "cl"; omega)); (case qqhn => (walk_at "cl"; omega)); k_whole); intro _ _))
  k_with "call builtin:len" => ((k_here; (with_reducible show wpAny _ _ (call (Value.builtin "len") [Value.ref _]) _ _ _); k_dflt (refine' ba_lenN ?qqN ?qqm ?qqz ?_; (case qqN => k_asm); (case qqm => k_mem); (case qqz => (walk_at "cl"; omega)); k_whole)))
  k_with "setItem ref ref" => ((k_here; (with_reducible show wpAny _ _ (setItem (Value.ref _) (Value.ref _) (Value.ref _)) _ _ _); k_dflt (refine' ba_setN (s := ⟨_, _, _, _, _⟩) ?qqF ?qqN ?qqU ?qqm ?qqne ?qqh0 ?qqhs ?qqhz ?_; (case qqF => k_asm); (case qqN => k_asm); (case qqU => k_updF); (case qqm => k_mem); (case qqne => k_ne); (case qqh0 => (walk_at "cl"; omega)); (case qqhs => ((walk_at "cl"); first | omega | (simp only [List.length_append, List.length_replicate, Array.size_replicate, lay_length, List.length_nil] at *; omega))); (case qqhz => ((walk_at "cl"); first | omega | (simp only [List.length_append, List.length_replicate, Array.size_replicate, lay_length, List.length_nil] at *; omega))); k_whole); intro _ _ _ _ _ _; (try k_sweep)))
  k_with "getMethod ref" => ((k_here; (with_reducible show wpAny _ _ (getMethod (Value.ref _) (PySem.Str.ofString "unpack_from") _) _ _ _); k_dflt (refine' so_fromK ?qqX ?qqh ?_; (case qqX => k_in); (case qqh => exact rfl); k_whole)))
  k_with "getMethod ref" => ((k_here; (with_reducible show wpAny _ _ (getMethod (Value.ref _) (PySem.Str.ofString "pack_into") _) _ _ _); k_dflt (refine' so_intoK ?qqX ?qqh ?_; (case qqX => k_in); (case qqh => exact rfl); k_whole)))
  k_with "call builtin:_struct.Struct.unpack_from" => ((k_here; k_dflt (refine' so_fromN ?qqX ?qqF ?qqN ?qqh ?qqf ?qqb ?qqh0 ?qqh1 ?qqhz ?_; (case qqX => k_in); (case qqF => k_asm); (case qqN => k_asm); (case qqh => exact rfl); (case qqf => constructor); (case qqb => first | exact .inl ⟨_, rfl⟩ | exact .inr ⟨_, rfl, by k_mem⟩); (case qqh0 => (walk_at "cl"; omega)); (case qqh1 => (walk_at "cl"; omega)); (case qqhz => (walk_at "cl"; omega)); k_whole); intro _ _ _ _ _ _ _; (try (walk_at "lt1")); (try k_sweep)))
  k_with "call builtin:_struct.Struct.unpack_from" => ((k_here; k_dflt (refine' so_fromB ?qqX ?qqF ?qqN ?qqh ?qqf ?qqb ?qqh0 ?qqh1 ?qqhz ?_; (case qqX => k_in); (case qqF => k_asm); (case qqN => k_asm); (case qqh => exact rfl); (case qqf => constructor); (case qqb => exact BufIn.keep (by assumption) (by k_asm)); (case qqh0 => (walk_at "cl"; omega)); (case qqh1 => (walk_at "cl"; omega)); (case qqhz => (walk_at "cl"; omega)); k_whole); intro _ _ _ _ _ _ _; (try (walk_at "lt1")); (try k_sweep)))
  k_with "call builtin:_struct.Struct.pack_into" => ((k_here; k_dflt (refine' so_intoN ?qqX ?qqF ?qqN ?qqU ?qqh ?qqf ?qqh0 ?qqh1 ?qqhz ?qqlo ?qqhi ?_; (case qqX => k_in); (case qqF => k_asm); (case qqN => k_asm); (case qqU => k_updF); (case qqh => exact rfl); (case qqf => constructor); (case qqh0 => (walk_at "cl"; omega)); (case qqh1 => (walk_at "cl"; omega)); (case qqhz => (walk_at "cl"; omega)); (case qqlo => ((first | rw [if_neg (by decide)] | rw [if_pos (by decide)]); (try simp only [Nat.reduceMul, Nat.reduceSub, Int.reducePow, Int.reduceNeg]); walk_at "cl"; omega)); (case qqhi => ((first | rw [if_neg (by decide)] | rw [if_pos (by decide)]); (try simp only [Nat.reduceMul, Nat.reduceSub, Int.reducePow, Int.reduceNeg]); walk_at "cl"; omega)); k_whole); intro _ _ _; (try k_sweep)))
  k_with "wpC" => ((k_here; (with_reducible show wpC _ _ (call (Value.ref _) _ _) _ _ _); (walk_at "wpCc")))
  trivial

theorem enf63_k : ∀ {w : World} {mean : ExcName → Option Value} {mg mb : Str → Option Value} {dp un : Nat} {cn : Str} {cs : Scope} {a : Addr} {ccd : Value} {cl : List (Str × Addr)} {outer : List Env} {A₀ : Around} {base h₀ : Heap} {L : Addr} {m : Str → Option Value} {s : Shared}
    {Q E : Value → Shared → Prop} {rest : List (Addr × Obj)} (B : Below A₀ base outer h₀) (F : Fr h₀ L s.heap m) (X : (Mine.hd.heap_39 w.params).In h₀) (T : Top Mine.hd.view_39 LO mean mg mb h₀) (hk : cs.kind = .function) (hd : dp + 1 < recursionLimit) (hu : un + 8 < cLine) {n : Int} {t : Tok} (r0 : 0 ≤ n) (r1 : n ≤ 255) (P : Part h₀ L s.heap [] rest)
    (hret : ∀ (h' : Heap) (tk' : Nat) , Fr h₀ L h' m → News h₀ L h' ([] ++ rest) → AllNes [] rest → Q .none { s with heap := h', toks := tk' }),
    wpAny (model _root_.PySem.Challenge.rw_bp0005_01.row.prog w) (ktrTop dp un (some []) cn cs L a ccd cl outer) (call (.ref 152) [.int n t, .ref 63] ) Q E s := by
  refine @Mine.hush _ (by
  k_fill
  intro w mean mg mb dp un cn cs a ccd cl outer A₀ base h₀ L m s Q E rest B F X T hk hd hu n t r0 r1 P hret
  have N := P.news
  have hdis := P.dis
  refine wpAny_call ?_
  k_dflt (refine' defA ?k1 ?k2 ?k3 ?k4 ?kd ?k5 ?kA ?kF ?kK ?k6 ?k7 ?k8 ?k9 ?kB ?_ ?c2 ?c3 ?c4 ?c5; (case kA => exact rfl); (case kF => exact rfl); (case kK => assumption); (case k1 => k_asm); (case k2 => k_asm); (case k3 => k_asm); (case k4 => k_asm); (case kd => k_asm); (case k5 => k_asm); (case k6 => k_is); (case k7 => k_is); (case k8 => ktr_room); (case k9 => exact BindsTo.of_eq rfl); (case c5 => decide); (case kB => exact locs rfl); (case c2 => exact rfl); (case c3 => exact rfl); (case c4 => exact rfl); k_whole; intro g' L' h' FG' F' N' B' X' T' l0 G; (try dsimp only); (try k_fold))
  k_steps
  all_goals dsimp only [wants]
  all_goals (rename_i kF kN kD; exact hret _ _ kF (news_sub kN sub0) trivial)) ?_
  intro q f
  simpa using Mine.hushed f 5 fun n i => i
theorem setup_KC_2 : True := by
  k_with "call ref" => ((k_here; (with_reducible show wpAny _ _ (call (Value.ref 152) [_, Value.ref 63] _) _ _ _); k_dflt (refine' enf63_k ?qqB ?qqF ?qqX ?qqT ?qqhk ?qqhd ?qqhu ?qqf0 ?qqf1 (part_of ?qqN (sub0 ) ?qqS) ?_; (case qqB => k_asm); (case qqF => k_asm); (case qqX => k_asm); (case qqT => k_asm); (case qqhk => first | exact rfl | assumption); (case qqN => k_asm); (case qqhd => (walk_at "room")); (case qqhu => (walk_at "units")); (case qqf0 => (walk_at "ft")); (case qqf1 => (walk_at "ft")); (case qqS => (walk_at "sel"))); intro _ _  _ _ _; (walk_at "fin9")))
  trivial

theorem enf77_k : ∀ {w : World} {mean : ExcName → Option Value} {mg mb : Str → Option Value} {dp un : Nat} {cn : Str} {cs : Scope} {a : Addr} {ccd : Value} {cl : List (Str × Addr)} {outer : List Env} {A₀ : Around} {base h₀ : Heap} {L : Addr} {m : Str → Option Value} {s : Shared}
    {Q E : Value → Shared → Prop} {rest : List (Addr × Obj)} (B : Below A₀ base outer h₀) (F : Fr h₀ L s.heap m) (X : (Mine.hd.heap_39 w.params).In h₀) (T : Top Mine.hd.view_39 LO mean mg mb h₀) (hk : cs.kind = .function) (hd : dp + 1 < recursionLimit) (hu : un + 8 < cLine) {n : Int} {t : Tok} (r0 : 0 ≤ n) (r1 : n ≤ 65535) (P : Part h₀ L s.heap [] rest)
    (hret : ∀ (h' : Heap) (tk' : Nat) , Fr h₀ L h' m → News h₀ L h' ([] ++ rest) → AllNes [] rest → Q .none { s with heap := h', toks := tk' }),
    wpAny (model _root_.PySem.Challenge.rw_bp0005_01.row.prog w) (ktrTop dp un (some []) cn cs L a ccd cl outer) (call (.ref 152) [.int n t, .ref 77] ) Q E s := by
  refine @Mine.hush _ (by
  k_fill
  intro w mean mg mb dp un cn cs a ccd cl outer A₀ base h₀ L m s Q E rest B F X T hk hd hu n t r0 r1 P hret
  have N := P.news
  have hdis := P.dis
  refine wpAny_call ?_
  k_dflt (refine' defA ?k1 ?k2 ?k3 ?k4 ?kd ?k5 ?kA ?kF ?kK ?k6 ?k7 ?k8 ?k9 ?kB ?_ ?c2 ?c3 ?c4 ?c5; (case kA => exact rfl); (case kF => exact rfl); (case kK => assumption); (case k1 => k_asm); (case k2 => k_asm); (case k3 => k_asm); (case k4 => k_asm); (case kd => k_asm); (case k5 => k_asm); (case k6 => k_is); (case k7 => k_is); (case k8 => ktr_room); (case k9 => exact BindsTo.of_eq rfl); (case c5 => decide); (case kB => exact locs rfl); (case c2 => exact rfl); (case c3 => exact rfl); (case c4 => exact rfl); k_whole; intro g' L' h' FG' F' N' B' X' T' l0 G; (try dsimp only); (try k_fold))
  k_steps
  all_goals dsimp only [wants]
  all_goals (rename_i kF kN kD; exact hret _ _ kF (news_sub kN sub0) trivial)) ?_
  intro q f
  simpa using Mine.hushed f 5 fun n i => i
theorem setup_KC_3 : True := by
  k_with "call ref" => ((k_here; (with_reducible show wpAny _ _ (call (Value.ref 152) [_, Value.ref 77] _) _ _ _); k_dflt (refine' enf77_k ?qqB ?qqF ?qqX ?qqT ?qqhk ?qqhd ?qqhu ?qqf0 ?qqf1 (part_of ?qqN (sub0 ) ?qqS) ?_; (case qqB => k_asm); (case qqF => k_asm); (case qqX => k_asm); (case qqT => k_asm); (case qqhk => first | exact rfl | assumption); (case qqN => k_asm); (case qqhd => (walk_at "room")); (case qqhu => (walk_at "units")); (case qqf0 => (walk_at "ft")); (case qqf1 => (walk_at "ft")); (case qqS => (walk_at "sel"))); intro _ _  _ _ _; (walk_at "fin9")))
  trivial

theorem enf91_k : ∀ {w : World} {mean : ExcName → Option Value} {mg mb : Str → Option Value} {dp un : Nat} {cn : Str} {cs : Scope} {a : Addr} {ccd : Value} {cl : List (Str × Addr)} {outer : List Env} {A₀ : Around} {base h₀ : Heap} {L : Addr} {m : Str → Option Value} {s : Shared}
    {Q E : Value → Shared → Prop} {rest : List (Addr × Obj)} (B : Below A₀ base outer h₀) (F : Fr h₀ L s.heap m) (X : (Mine.hd.heap_39 w.params).In h₀) (T : Top Mine.hd.view_39 LO mean mg mb h₀) (hk : cs.kind = .function) (hd : dp + 1 < recursionLimit) (hu : un + 8 < cLine) {n : Int} {t : Tok} (r0 : 0 ≤ n) (r1 : n ≤ 4294967295) (P : Part h₀ L s.heap [] rest)
    (hret : ∀ (h' : Heap) (tk' : Nat) , Fr h₀ L h' m → News h₀ L h' ([] ++ rest) → AllNes [] rest → Q .none { s with heap := h', toks := tk' }),
    wpAny (model _root_.PySem.Challenge.rw_bp0005_01.row.prog w) (ktrTop dp un (some []) cn cs L a ccd cl outer) (call (.ref 152) [.int n t, .ref 91] ) Q E s := by
  refine @Mine.hush _ (by
  k_fill
  intro w mean mg mb dp un cn cs a ccd cl outer A₀ base h₀ L m s Q E rest B F X T hk hd hu n t r0 r1 P hret
  have N := P.news
  have hdis := P.dis
  refine wpAny_call ?_
  k_dflt (refine' defA ?k1 ?k2 ?k3 ?k4 ?kd ?k5 ?kA ?kF ?kK ?k6 ?k7 ?k8 ?k9 ?kB ?_ ?c2 ?c3 ?c4 ?c5; (case kA => exact rfl); (case kF => exact rfl); (case kK => assumption); (case k1 => k_asm); (case k2 => k_asm); (case k3 => k_asm); (case k4 => k_asm); (case kd => k_asm); (case k5 => k_asm); (case k6 => k_is); (case k7 => k_is); (case k8 => ktr_room); (case k9 => exact BindsTo.of_eq rfl); (case c5 => decide); (case kB => exact locs rfl); (case c2 => exact rfl); (case c3 => exact rfl); (case c4 => exact rfl); k_whole; intro g' L' h' FG' F' N' B' X' T' l0 G; (try dsimp only); (try k_fold))
  k_steps
  all_goals dsimp only [wants]
  all_goals (rename_i kF kN kD; exact hret _ _ kF (news_sub kN sub0) trivial)) ?_
  intro q f
  simpa using Mine.hushed f 5 fun n i => i
theorem setup_KC_4 : True := by
  k_with "call ref" => ((k_here; (with_reducible show wpAny _ _ (call (Value.ref 152) [_, Value.ref 91] _) _ _ _); k_dflt (refine' enf91_k ?qqB ?qqF ?qqX ?qqT ?qqhk ?qqhd ?qqhu ?qqf0 ?qqf1 (part_of ?qqN (sub0 ) ?qqS) ?_; (case qqB => k_asm); (case qqF => k_asm); (case qqX => k_asm); (case qqT => k_asm); (case qqhk => first | exact rfl | assumption); (case qqN => k_asm); (case qqhd => (walk_at "room")); (case qqhu => (walk_at "units")); (case qqf0 => (walk_at "ft")); (case qqf1 => (walk_at "ft")); (case qqS => (walk_at "sel"))); intro _ _  _ _ _; (walk_at "fin9")))
  trivial

theorem enf105_k : ∀ {w : World} {mean : ExcName → Option Value} {mg mb : Str → Option Value} {dp un : Nat} {cn : Str} {cs : Scope} {a : Addr} {ccd : Value} {cl : List (Str × Addr)} {outer : List Env} {A₀ : Around} {base h₀ : Heap} {L : Addr} {m : Str → Option Value} {s : Shared}
    {Q E : Value → Shared → Prop} {rest : List (Addr × Obj)} (B : Below A₀ base outer h₀) (F : Fr h₀ L s.heap m) (X : (Mine.hd.heap_39 w.params).In h₀) (T : Top Mine.hd.view_39 LO mean mg mb h₀) (hk : cs.kind = .function) (hd : dp + 1 < recursionLimit) (hu : un + 8 < cLine) {n : Int} {t : Tok} (r0 : -2147483648 ≤ n) (r1 : n ≤ 2147483647) (P : Part h₀ L s.heap [] rest)
    (hret : ∀ (h' : Heap) (tk' : Nat) , Fr h₀ L h' m → News h₀ L h' ([] ++ rest) → AllNes [] rest → Q .none { s with heap := h', toks := tk' }),
    wpAny (model _root_.PySem.Challenge.rw_bp0005_01.row.prog w) (ktrTop dp un (some []) cn cs L a ccd cl outer) (call (.ref 152) [.int n t, .ref 105] ) Q E s := by
  refine @Mine.hush _ (by
  k_fill
  intro w mean mg mb dp un cn cs a ccd cl outer A₀ base h₀ L m s Q E rest B F X T hk hd hu n t r0 r1 P hret
  have N := P.news
  have hdis := P.dis
  refine wpAny_call ?_
  k_dflt (refine' defA ?k1 ?k2 ?k3 ?k4 ?kd ?k5 ?kA ?kF ?kK ?k6 ?k7 ?k8 ?k9 ?kB ?_ ?c2 ?c3 ?c4 ?c5; (case kA => exact rfl); (case kF => exact rfl); (case kK => assumption); (case k1 => k_asm); (case k2 => k_asm); (case k3 => k_asm); (case k4 => k_asm); (case kd => k_asm); (case k5 => k_asm); (case k6 => k_is); (case k7 => k_is); (case k8 => ktr_room); (case k9 => exact BindsTo.of_eq rfl); (case c5 => decide); (case kB => exact locs rfl); (case c2 => exact rfl); (case c3 => exact rfl); (case c4 => exact rfl); k_whole; intro g' L' h' FG' F' N' B' X' T' l0 G; (try dsimp only); (try k_fold))
  k_steps
  all_goals dsimp only [wants]
  all_goals (rename_i kF kN kD; exact hret _ _ kF (news_sub kN sub0) trivial)) ?_
  intro q f
  simpa using Mine.hushed f 5 fun n i => i
theorem setup_KC_5 : True := by
  k_with "call ref" => ((k_here; (with_reducible show wpAny _ _ (call (Value.ref 152) [_, Value.ref 105] _) _ _ _); k_dflt (refine' enf105_k ?qqB ?qqF ?qqX ?qqT ?qqhk ?qqhd ?qqhu ?qqf0 ?qqf1 (part_of ?qqN (sub0 ) ?qqS) ?_; (case qqB => k_asm); (case qqF => k_asm); (case qqX => k_asm); (case qqT => k_asm); (case qqhk => first | exact rfl | assumption); (case qqN => k_asm); (case qqhd => (walk_at "room")); (case qqhu => (walk_at "units")); (case qqf0 => (walk_at "ft")); (case qqf1 => (walk_at "ft")); (case qqS => (walk_at "sel"))); intro _ _  _ _ _; (walk_at "fin9")))
  trivial

theorem enf119_k : ∀ {w : World} {mean : ExcName → Option Value} {mg mb : Str → Option Value} {dp un : Nat} {cn : Str} {cs : Scope} {a : Addr} {ccd : Value} {cl : List (Str × Addr)} {outer : List Env} {A₀ : Around} {base h₀ : Heap} {L : Addr} {m : Str → Option Value} {s : Shared}
    {Q E : Value → Shared → Prop} {rest : List (Addr × Obj)} (B : Below A₀ base outer h₀) (F : Fr h₀ L s.heap m) (X : (Mine.hd.heap_39 w.params).In h₀) (T : Top Mine.hd.view_39 LO mean mg mb h₀) (hk : cs.kind = .function) (hd : dp + 1 < recursionLimit) (hu : un + 8 < cLine) {n : Int} {t : Tok} (r0 : -2147483648 ≤ n) (r1 : n ≤ 2147483647) (P : Part h₀ L s.heap [] rest)
    (hret : ∀ (h' : Heap) (tk' : Nat) , Fr h₀ L h' m → News h₀ L h' ([] ++ rest) → AllNes [] rest → Q .none { s with heap := h', toks := tk' }),
    wpAny (model _root_.PySem.Challenge.rw_bp0005_01.row.prog w) (ktrTop dp un (some []) cn cs L a ccd cl outer) (call (.ref 152) [.int n t, .ref 119] ) Q E s := by
  refine @Mine.hush _ (by
  k_fill
  intro w mean mg mb dp un cn cs a ccd cl outer A₀ base h₀ L m s Q E rest B F X T hk hd hu n t r0 r1 P hret
  have N := P.news
  have hdis := P.dis
  refine wpAny_call ?_
  k_dflt (refine' defA ?k1 ?k2 ?k3 ?k4 ?kd ?k5 ?kA ?kF ?kK ?k6 ?k7 ?k8 ?k9 ?kB ?_ ?c2 ?c3 ?c4 ?c5; (case kA => exact rfl); (case kF => exact rfl); (case kK => assumption); (case k1 => k_asm); (case k2 => k_asm); (case k3 => k_asm); (case k4 => k_asm); (case kd => k_asm); (case k5 => k_asm); (case k6 => k_is); (case k7 => k_is); (case k8 => ktr_room); (case k9 => exact BindsTo.of_eq rfl); (case c5 => decide); (case kB => exact locs rfl); (case c2 => exact rfl); (case c3 => exact rfl); (case c4 => exact rfl); k_whole; intro g' L' h' FG' F' N' B' X' T' l0 G; (try dsimp only); (try k_fold))
  k_steps
  all_goals dsimp only [wants]
  all_goals (rename_i kF kN kD; exact hret _ _ kF (news_sub kN sub0) trivial)) ?_
  intro q f
  simpa using Mine.hushed f 5 fun n i => i
theorem setup_KC_6 : True := by
  k_with "call ref" => ((k_here; (with_reducible show wpAny _ _ (call (Value.ref 152) [_, Value.ref 119] _) _ _ _); k_dflt (refine' enf119_k ?qqB ?qqF ?qqX ?qqT ?qqhk ?qqhd ?qqhu ?qqf0 ?qqf1 (part_of ?qqN (sub0 ) ?qqS) ?_; (case qqB => k_asm); (case qqF => k_asm); (case qqX => k_asm); (case qqT => k_asm); (case qqhk => first | exact rfl | assumption); (case qqN => k_asm); (case qqhd => (walk_at "room")); (case qqhu => (walk_at "units")); (case qqf0 => (walk_at "ft")); (case qqf1 => (walk_at "ft")); (case qqS => (walk_at "sel"))); intro _ _  _ _ _; (walk_at "fin9")))
  trivial

theorem enf131_k : ∀ {w : World} {mean : ExcName → Option Value} {mg mb : Str → Option Value} {dp un : Nat} {cn : Str} {cs : Scope} {a : Addr} {ccd : Value} {cl : List (Str × Addr)} {outer : List Env} {A₀ : Around} {base h₀ : Heap} {L : Addr} {m : Str → Option Value} {s : Shared}
    {Q E : Value → Shared → Prop} {rest : List (Addr × Obj)} (B : Below A₀ base outer h₀) (F : Fr h₀ L s.heap m) (X : (Mine.hd.heap_39 w.params).In h₀) (T : Top Mine.hd.view_39 LO mean mg mb h₀) (hk : cs.kind = .function) (hd : dp + 1 < recursionLimit) (hu : un + 8 < cLine) {n : Int} {t : Tok} (r0 : 0 ≤ n) (r1 : n ≤ 4294967295) (P : Part h₀ L s.heap [] rest)
    (hret : ∀ (h' : Heap) (tk' : Nat) , Fr h₀ L h' m → News h₀ L h' ([] ++ rest) → AllNes [] rest → Q .none { s with heap := h', toks := tk' }),
    wpAny (model _root_.PySem.Challenge.rw_bp0005_01.row.prog w) (ktrTop dp un (some []) cn cs L a ccd cl outer) (call (.ref 152) [.int n t, .ref 131] ) Q E s := by
  refine @Mine.hush _ (by
  k_fill
  intro w mean mg mb dp un cn cs a ccd cl outer A₀ base h₀ L m s Q E rest B F X T hk hd hu n t r0 r1 P hret
  have N := P.news
  have hdis := P.dis
  refine wpAny_call ?_
  k_dflt (refine' defA ?k1 ?k2 ?k3 ?k4 ?kd ?k5 ?kA ?kF ?kK ?k6 ?k7 ?k8 ?k9 ?kB ?_ ?c2 ?c3 ?c4 ?c5; (case kA => exact rfl); (case kF => exact rfl); (case kK => assumption); (case k1 => k_asm); (case k2 => k_asm); (case k3 => k_asm); (case k4 => k_asm); (case kd => k_asm); (case k5 => k_asm); (case k6 => k_is); (case k7 => k_is); (case k8 => ktr_room); (case k9 => exact BindsTo.of_eq rfl); (case c5 => decide); (case kB => exact locs rfl); (case c2 => exact rfl); (case c3 => exact rfl); (case c4 => exact rfl); k_whole; intro g' L' h' FG' F' N' B' X' T' l0 G; (try dsimp only); (try k_fold))
  k_steps
  all_goals dsimp only [wants]
  all_goals (rename_i kF kN kD; exact hret _ _ kF (news_sub kN sub0) trivial)) ?_
  intro q f
  simpa using Mine.hushed f 5 fun n i => i
theorem setup_KC_7 : True := by
  k_with "call ref" => ((k_here; (with_reducible show wpAny _ _ (call (Value.ref 152) [_, Value.ref 131] _) _ _ _); k_dflt (refine' enf131_k ?qqB ?qqF ?qqX ?qqT ?qqhk ?qqhd ?qqhu ?qqf0 ?qqf1 (part_of ?qqN (sub0 ) ?qqS) ?_; (case qqB => k_asm); (case qqF => k_asm); (case qqX => k_asm); (case qqT => k_asm); (case qqhk => first | exact rfl | assumption); (case qqN => k_asm); (case qqhd => (walk_at "room")); (case qqhu => (walk_at "units")); (case qqf0 => (walk_at "ft")); (case qqf1 => (walk_at "ft")); (case qqS => (walk_at "sel"))); intro _ _  _ _ _; (walk_at "fin9")))
  trivial

theorem enf143_k : ∀ {w : World} {mean : ExcName → Option Value} {mg mb : Str → Option Value} {dp un : Nat} {cn : Str} {cs : Scope} {a : Addr} {ccd : Value} {cl : List (Str × Addr)} {outer : List Env} {A₀ : Around} {base h₀ : Heap} {L : Addr} {m : Str → Option Value} {s : Shared}
    {Q E : Value → Shared → Prop} {rest : List (Addr × Obj)} (B : Below A₀ base outer h₀) (F : Fr h₀ L s.heap m) (X : (Mine.hd.heap_39 w.params).In h₀) (T : Top Mine.hd.view_39 LO mean mg mb h₀) (hk : cs.kind = .function) (hd : dp + 1 < recursionLimit) (hu : un + 8 < cLine) {n : Int} {t : Tok} (r0 : 0 ≤ n) (r1 : n ≤ 65535) (P : Part h₀ L s.heap [] rest)
    (hret : ∀ (h' : Heap) (tk' : Nat) , Fr h₀ L h' m → News h₀ L h' ([] ++ rest) → AllNes [] rest → Q .none { s with heap := h', toks := tk' }),
    wpAny (model _root_.PySem.Challenge.rw_bp0005_01.row.prog w) (ktrTop dp un (some []) cn cs L a ccd cl outer) (call (.ref 152) [.int n t, .ref 143] ) Q E s := by
  refine @Mine.hush _ (by
  k_fill
  intro w mean mg mb dp un cn cs a ccd cl outer A₀ base h₀ L m s Q E rest B F X T hk hd hu n t r0 r1 P hret
  have N := P.news
  have hdis := P.dis
  refine wpAny_call ?_
  k_dflt (refine' defA ?k1 ?k2 ?k3 ?k4 ?kd ?k5 ?kA ?kF ?kK ?k6 ?k7 ?k8 ?k9 ?kB ?_ ?c2 ?c3 ?c4 ?c5; (case kA => exact rfl); (case kF => exact rfl); (case kK => assumption); (case k1 => k_asm); (case k2 => k_asm); (case k3 => k_asm); (case k4 => k_asm); (case kd => k_asm); (case k5 => k_asm); (case k6 => k_is); (case k7 => k_is); (case k8 => ktr_room); (case k9 => exact BindsTo.of_eq rfl); (case c5 => decide); (case kB => exact locs rfl); (case c2 => exact rfl); (case c3 => exact rfl); (case c4 => exact rfl); k_whole; intro g' L' h' FG' F' N' B' X' T' l0 G; (try dsimp only); (try k_fold))
  k_steps
  all_goals dsimp only [wants]
  all_goals (rename_i kF kN kD; exact hret _ _ kF (news_sub kN sub0) trivial)) ?_
  intro q f
  simpa using Mine.hushed f 5 fun n i => i
theorem setup_KC_8 : True := by
  k_with "call ref" => ((k_here; (with_reducible show wpAny _ _ (call (Value.ref 152) [_, Value.ref 143] _) _ _ _); k_dflt (refine' enf143_k ?qqB ?qqF ?qqX ?qqT ?qqhk ?qqhd ?qqhu ?qqf0 ?qqf1 (part_of ?qqN (sub0 ) ?qqS) ?_; (case qqB => k_asm); (case qqF => k_asm); (case qqX => k_asm); (case qqT => k_asm); (case qqhk => first | exact rfl | assumption); (case qqN => k_asm); (case qqhd => (walk_at "room")); (case qqhu => (walk_at "units")); (case qqf0 => (walk_at "ft")); (case qqf1 => (walk_at "ft")); (case qqS => (walk_at "sel"))); intro _ _  _ _ _; (walk_at "fin9")))
  trivial

theorem get51_k : ∀ {w : World} {mean : ExcName → Option Value} {mg mb : Str → Option Value} {dp un : Nat} {cn : Str} {cs : Scope} {a : Addr} {ccd : Value} {cl : List (Str × Addr)} {outer : List Env} {A₀ : Around} {base h₀ : Heap} {L : Addr} {m : Str → Option Value} {s : Shared}
    {Q E : Value → Shared → Prop} {rest : List (Addr × Obj)} (B : Below A₀ base outer h₀) (F : Fr h₀ L s.heap m) (X : (Mine.hd.heap_39 w.params).In h₀) (T : Top Mine.hd.view_39 LO mean mg mb h₀) (hk : cs.kind = .function) (hd : dp + 1 < recursionLimit) (hu : un + 8 < cLine) {bv : Value} {arr : Array UInt8} {p : Int} {t : Tok} (HB : BufIn s.heap bv arr) (h0 : 0 ≤ p) (h1 : p + 2 ≤ arr.size) (hz : arr.size ≤ 16777216) (P : Part h₀ L s.heap [] rest)
    (hret : ∀ (h' : Heap) (tk' : Nat) (tk2 : Tok), Fr h₀ L h' m → News h₀ L h' ([] ++ rest) → AllNes [] rest → Q (.int (told 'H' 2 (arr.extract p.toNat (p.toNat + 2))) tk2) { s with heap := h', toks := tk' }),
    wpAny (model _root_.PySem.Challenge.rw_bp0005_01.row.prog w) (ktrTop dp un (some []) cn cs L a ccd cl outer) (call (.ref 159) [.ref 51, bv, .int p t] ) Q E s := by
  refine @Mine.hush _ (by
  k_fill
  intro w mean mg mb dp un cn cs a ccd cl outer A₀ base h₀ L m s Q E rest B F X T hk hd hu bv arr p t HB h0 h1 hz P hret
  have N := P.news
  have hdis := P.dis
  refine wpAny_call ?_
  k_dflt (refine' defA ?k1 ?k2 ?k3 ?k4 ?kd ?k5 ?kA ?kF ?kK ?k6 ?k7 ?k8 ?k9 ?kB ?_ ?c2 ?c3 ?c4 ?c5; (case kA => exact rfl); (case kF => exact rfl); (case kK => assumption); (case k1 => k_asm); (case k2 => k_asm); (case k3 => k_asm); (case k4 => k_asm); (case kd => k_asm); (case k5 => k_asm); (case k6 => k_is); (case k7 => k_is); (case k8 => ktr_room); (case k9 => exact BindsTo.of_eq rfl); (case c5 => decide); (case kB => exact locs rfl); (case c2 => exact rfl); (case c3 => exact rfl); (case c4 => exact rfl); k_whole; intro g' L' h' FG' F' N' B' X' T' l0 G; (try dsimp only); (try k_fold))
  have HBg := HB.enter P.news G (fun _ h => nomatch h)
  k_steps
  all_goals dsimp only [wants]
  all_goals (rename_i kF kN kD; exact hret _ _ _ kF (news_sub kN sub0) trivial)) ?_
  intro q f
  simpa using Mine.hushed f 5 fun n i => i
theorem setup_KC_9 : True := by
  k_with "call ref" => ((k_here; (with_reducible show wpAny _ _ (call (Value.ref 159) [Value.ref 51, _, _] _) _ _ _); k_dflt (refine' get51_k ?qqB ?qqF ?qqX ?qqT ?qqhk ?qqhd ?qqhu ?qqf0 ?qqf1 ?qqf2 ?qqf3 (part_of ?qqN (sub0 ) ?qqS) ?_; (case qqB => k_asm); (case qqF => k_asm); (case qqX => k_asm); (case qqT => k_asm); (case qqhk => first | exact rfl | assumption); (case qqN => k_asm); (case qqhd => (walk_at "room")); (case qqhu => (walk_at "units")); (case qqf0 => (exact BufIn.keep (by assumption) (by k_asm))); (case qqf1 => (walk_at "ft")); (case qqf2 => (walk_at "ft")); (case qqf3 => (walk_at "ft")); (case qqS => (walk_at "sel"))); intro _ _ _ _ _ _; (walk_at "fin9")))
  trivial

theorem get52_k : ∀ {w : World} {mean : ExcName → Option Value} {mg mb : Str → Option Value} {dp un : Nat} {cn : Str} {cs : Scope} {a : Addr} {ccd : Value} {cl : List (Str × Addr)} {outer : List Env} {A₀ : Around} {base h₀ : Heap} {L : Addr} {m : Str → Option Value} {s : Shared}
    {Q E : Value → Shared → Prop} {rest : List (Addr × Obj)} (B : Below A₀ base outer h₀) (F : Fr h₀ L s.heap m) (X : (Mine.hd.heap_39 w.params).In h₀) (T : Top Mine.hd.view_39 LO mean mg mb h₀) (hk : cs.kind = .function) (hd : dp + 1 < recursionLimit) (hu : un + 8 < cLine) {bv : Value} {arr : Array UInt8} {p : Int} {t : Tok} (HB : BufIn s.heap bv arr) (h0 : 0 ≤ p) (h1 : p + 4 ≤ arr.size) (hz : arr.size ≤ 16777216) (P : Part h₀ L s.heap [] rest)
    (hret : ∀ (h' : Heap) (tk' : Nat) (tk2 : Tok), Fr h₀ L h' m → News h₀ L h' ([] ++ rest) → AllNes [] rest → Q (.int (told 'I' 4 (arr.extract p.toNat (p.toNat + 4))) tk2) { s with heap := h', toks := tk' }),
    wpAny (model _root_.PySem.Challenge.rw_bp0005_01.row.prog w) (ktrTop dp un (some []) cn cs L a ccd cl outer) (call (.ref 159) [.ref 52, bv, .int p t] ) Q E s := by
  refine @Mine.hush _ (by
  k_fill
  intro w mean mg mb dp un cn cs a ccd cl outer A₀ base h₀ L m s Q E rest B F X T hk hd hu bv arr p t HB h0 h1 hz P hret
  have N := P.news
  have hdis := P.dis
  refine wpAny_call ?_
  k_dflt (refine' defA ?k1 ?k2 ?k3 ?k4 ?kd ?k5 ?kA ?kF ?kK ?k6 ?k7 ?k8 ?k9 ?kB ?_ ?c2 ?c3 ?c4 ?c5; (case kA => exact rfl); (case kF => exact rfl); (case kK => assumption); (case k1 => k_asm); (case k2 => k_asm); (case k3 => k_asm); (case k4 => k_asm); (case kd => k_asm); (case k5 => k_asm); (case k6 => k_is); (case k7 => k_is); (case k8 => ktr_room); (case k9 => exact BindsTo.of_eq rfl); (case c5 => decide); (case kB => exact locs rfl); (case c2 => exact rfl); (case c3 => exact rfl); (case c4 => exact rfl); k_whole; intro g' L' h' FG' F' N' B' X' T' l0 G; (try dsimp only); (try k_fold))
  have HBg := HB.enter P.news G (fun _ h => nomatch h)
  k_steps
  all_goals dsimp only [wants]
  all_goals (rename_i kF kN kD; exact hret _ _ _ kF (news_sub kN sub0) trivial)) ?_
  intro q f
  simpa using Mine.hushed f 5 fun n i => i
theorem setup_KC_10 : True := by
  k_with "call ref" => ((k_here; (with_reducible show wpAny _ _ (call (Value.ref 159) [Value.ref 52, _, _] _) _ _ _); k_dflt (refine' get52_k ?qqB ?qqF ?qqX ?qqT ?qqhk ?qqhd ?qqhu ?qqf0 ?qqf1 ?qqf2 ?qqf3 (part_of ?qqN (sub0 ) ?qqS) ?_; (case qqB => k_asm); (case qqF => k_asm); (case qqX => k_asm); (case qqT => k_asm); (case qqhk => first | exact rfl | assumption); (case qqN => k_asm); (case qqhd => (walk_at "room")); (case qqhu => (walk_at "units")); (case qqf0 => (exact BufIn.keep (by assumption) (by k_asm))); (case qqf1 => (walk_at "ft")); (case qqf2 => (walk_at "ft")); (case qqf3 => (walk_at "ft")); (case qqS => (walk_at "sel"))); intro _ _ _ _ _ _; (walk_at "fin9")))
  trivial

theorem get53_k : ∀ {w : World} {mean : ExcName → Option Value} {mg mb : Str → Option Value} {dp un : Nat} {cn : Str} {cs : Scope} {a : Addr} {ccd : Value} {cl : List (Str × Addr)} {outer : List Env} {A₀ : Around} {base h₀ : Heap} {L : Addr} {m : Str → Option Value} {s : Shared}
    {Q E : Value → Shared → Prop} {rest : List (Addr × Obj)} (B : Below A₀ base outer h₀) (F : Fr h₀ L s.heap m) (X : (Mine.hd.heap_39 w.params).In h₀) (T : Top Mine.hd.view_39 LO mean mg mb h₀) (hk : cs.kind = .function) (hd : dp + 1 < recursionLimit) (hu : un + 8 < cLine) {bv : Value} {arr : Array UInt8} {p : Int} {t : Tok} (HB : BufIn s.heap bv arr) (h0 : 0 ≤ p) (h1 : p + 4 ≤ arr.size) (hz : arr.size ≤ 16777216) (P : Part h₀ L s.heap [] rest)
    (hret : ∀ (h' : Heap) (tk' : Nat) (tk2 : Tok), Fr h₀ L h' m → News h₀ L h' ([] ++ rest) → AllNes [] rest → Q (.int (told 'i' 4 (arr.extract p.toNat (p.toNat + 4))) tk2) { s with heap := h', toks := tk' }),
    wpAny (model _root_.PySem.Challenge.rw_bp0005_01.row.prog w) (ktrTop dp un (some []) cn cs L a ccd cl outer) (call (.ref 159) [.ref 53, bv, .int p t] ) Q E s := by
  refine @Mine.hush _ (by
  k_fill
  intro w mean mg mb dp un cn cs a ccd cl outer A₀ base h₀ L m s Q E rest B F X T hk hd hu bv arr p t HB h0 h1 hz P hret
  have N := P.news
  have hdis := P.dis
  refine wpAny_call ?_
  k_dflt (refine' defA ?k1 ?k2 ?k3 ?k4 ?kd ?k5 ?kA ?kF ?kK ?k6 ?k7 ?k8 ?k9 ?kB ?_ ?c2 ?c3 ?c4 ?c5; (case kA => exact rfl); (case kF => exact rfl); (case kK => assumption); (case k1 => k_asm); (case k2 => k_asm); (case k3 => k_asm); (case k4 => k_asm); (case kd => k_asm); (case k5 => k_asm); (case k6 => k_is); (case k7 => k_is); (case k8 => ktr_room); (case k9 => exact BindsTo.of_eq rfl); (case c5 => decide); (case kB => exact locs rfl); (case c2 => exact rfl); (case c3 => exact rfl); (case c4 => exact rfl); k_whole; intro g' L' h' FG' F' N' B' X' T' l0 G; (try dsimp only); (try k_fold))
  have HBg := HB.enter P.news G (fun _ h => nomatch h)
  k_steps
  all_goals dsimp only [wants]
  all_goals (rename_i kF kN kD; exact hret _ _ _ kF (news_sub kN sub0) trivial)) ?_
  intro q f
  simpa using Mine.hushed f 5 fun n i => i
-- KD

theorem setup_KD_1 : True := by
  k_with_none
  k_with "wpC" => ((k_here; (with_reducible show wpC _ _ _ _ _ _); (fail_if_success (with_reducible show wpC _ _ (setItem _ _ (Value.bytes _ _)) _ _ _)); (fail_if_success (with_reducible show wpC _ _ (call (Value.ref _) _ _) _ _ _)); (fail_if_success (with_reducible show wpC _ _ (callWith _ (Value.type _) _ _ _) _ _ _)); (fail_if_success (with_reducible show wpC _ _ (call (Value.type _) _ _) _ _ _)); (refine of_any ?_)))
  k_with "wpC" => ((k_here; (with_reducible show wpC _ _ (call (Value.ref _) _ _) _ _ _); (refine' of_anyD ?qqd ?_; (case qqd => (walk_at "dirty")))))
  k_with "wpC" => ((k_here; (with_reducible show wpC _ _ (exec (Stmt.While _ _ _ _) _) _ _ _); (refine c_While ?_)))
  k_with "wpC" => ((k_here; (with_reducible show wpC _ _ (exec (Stmt.If _ _ _ _) _) _ _ _); (refine c_If ?_)))
  k_with "wpC" => ((k_here; (with_reducible show wpC _ _ (exec (Stmt.Assign [Expr.Subscript _ (Expr.Slice _ _ _ _) _] _ _) _) _ _ _); k_dflt (refine c_Assign_Subscript ?_)))
  k_with "wpC" => ((k_here; (with_reducible show wpC _ _ (exec (Stmt.Expr (Expr.Call (Expr.Attribute _ _ _) _ _ _) _) _) _ _ _); k_dflt (refine' c_ExprD ?qqd ?_; (case qqd => (walk_at "dirty")))))
  k_with "wpC" => ((k_here; (with_reducible show wpC _ _ (exec (Stmt.Return (some (Expr.Call (Expr.Attribute _ _ _) _ _ _)) _) _) _ _ _); k_dflt (refine' c_ReturnD ?qqd ?_; (case qqd => (walk_at "dirty")))))
  k_with "wpC" => ((k_here; (with_reducible show wpC _ _ (exec (Stmt.Assign [Expr.Name _ _] (Expr.Call (Expr.Attribute _ _ _) _ _ _) _) _) _ _ _); k_dflt (refine' c_AssignD ?qqd ?_; (case qqd => (walk_at "dirty")))))
  k_with "wpC" => ((k_here; (with_reducible show wpC _ _ (eval (Expr.Call (Expr.Attribute _ _ _) _ _ _) _) _ _ _); k_dflt (refine' c_MethodCallSD ?qqd ?_; (case qqd => (walk_at "dirty")))))
  k_with "wpC" => ((k_here; (with_reducible show wpC _ _ (eval (Expr.Call (Expr.Attribute _ _ _) _ _ _) _) _ _ _); k_dflt (refine' c_MethodCallD ?qqd ?_; (case qqd => (walk_at "dirty")))))
  k_with "wpC" => ((k_here; (with_reducible show wpC _ _ (exec (Stmt.Assign [Expr.Name _ _] (Expr.Call (Expr.Name (PySem.Str.ofString "Builder") _) _ _ _) _) _) _ _ _); k_dflt (refine c_Assign_Name ?_)))
  k_with "wpC" => ((k_here; (with_reducible show wpC _ _ (eval (Expr.Call (Expr.Name (PySem.Str.ofString "Builder") _) _ _ _) _) _ _ _); k_dflt (refine c_Call ?_)))
  k_with "wpC" => ((k_here; (with_reducible show wpC _ _ (exec (Stmt.Assign [Expr.Name _ _] (Expr.Call (Expr.Name (PySem.Str.ofString "_law_made") _) _ _ _) _) _) _ _ _); k_dflt (refine c_Assign_Name ?_)))
  k_with "wpC" => ((k_here; (with_reducible show wpC _ _ (eval (Expr.Call (Expr.Name (PySem.Str.ofString "_law_made") _) _ _ _) _) _ _ _); k_dflt (refine c_Call ?_)))
  k_with "wpC" => ((k_here; (with_reducible show wpC _ _ (exec (Stmt.Assign [Expr.Attribute _ _ _] (Expr.Call (Expr.Name (PySem.Str.ofString "bytearray") _) _ _ _) _) _) _ _ _); k_dflt (refine c_Assign_Attr ?_)))
  k_with "wpC" => ((k_here; (with_reducible show wpC _ _ (exec (Stmt.Assign [Expr.Name _ _] (Expr.Call (Expr.Name (PySem.Str.ofString "bytearray") _) _ _ _) _) _) _ _ _); k_dflt (refine c_Assign_Name ?_)))
  k_with "wpC" => ((k_here; (with_reducible show wpC _ _ (eval (Expr.Call (Expr.Name (PySem.Str.ofString "bytearray") _) _ _ _) _) _ _ _); k_dflt (refine c_Call ?_)))
  k_with "wpC" => ((k_here; (with_reducible show wpC _ _ (execs [] _) _ _ _); (refine c_execs_nil ?_)))
  k_with "wpC" => ((k_here; (with_reducible show wpC _ _ (execs (_ :: _) _) _ _ _); (refine c_execs_cons ?_)))
  k_with "wpC" => ((k_here; (with_reducible show wpC _ _ (callWith _ (Value.ref _) _ _ _) _ _ _); k_dflt (first | refine' c_callWith_K ?qqk1 ?qqk2 ?_; (case qqk1 => k_asm); (case qqk2 => k_is); k_whole | refine' c_callWith_S ?qqk1 ?qqk2 ?_; (case qqk1 => k_asm); (case qqk2 => k_is); k_whole | refine' c_callWith_MS ?qqk1 ?qqk2 ?qqk3 ?qqk4 ?_; (case qqk1 => k_asm); (case qqk2 => k_asm); (case qqk3 => k_mem); (case qqk4 => k_is); k_whole | refine' c_callWith_K0 ?qqk1 ?qqk2 ?_; (case qqk1 => k_in); (case qqk2 => k_is); k_whole | refine' c_callWith_KW ?qqk1 ?qqk2 ?qqk3 ?_; (case qqk1 => k_asm); (case qqk2 => k_is); (case qqk3 => exact rfl); k_whole)))
  k_with "wpC" => ((k_here; (with_reducible show wpC _ _ (callWith _ (Value.type _) _ _ _) _ _ _); k_dflt (refine' c_callWith_T ?_)))
  k_with "wpC" => ((k_here; (with_reducible show wpC _ _ (setItem (Value.ref _) (Value.ref _) (Value.bytes _ _)) _ _ _); k_dflt (refine' c_setN (s := ⟨_, _, _, _, _⟩) ?qqg ?qqF ?qqN ?qqU ?qqh ?qqej ?qqh0 ?qqhs ?qqz ?_; (case qqF => k_asm); (case qqN => k_asm); (case qqU => k_updF); (case qqh => k_asm); (case qqg => exact rfl); (case qqej => (walk_at "cl"; omega)); (case qqh0 => (walk_at "cl"; omega)); (case qqhs => ((walk_at "cl"); first | omega | (simp only [List.length_append, List.length_replicate, Array.size_replicate, lay_length, List.length_nil] at *; omega))); (case qqz => (walk_at "cl"; omega)); k_whole); intro _ _ _ _ _ _; (try k_sweep)))
  k_with "wpC" => ((k_here; (with_reducible show wpC _ _ (call (Value.type _) [Value.int _ _]) _ _ _); k_dflt (refine' c_new_int ?qqg ?qqF ?qqN ?qqh0 ?qqhz ?_; (case qqg => exact rfl); (case qqF => k_asm); (case qqN => k_asm); (case qqh0 => (walk_at "cl"; omega)); (case qqhz => (walk_at "cl"; omega)); k_whole); intro _ _ _ _ _; (try (walk_at "lt1")); (try k_sweep)))
  k_with "wpC" => ((k_here; (with_reducible show wpC _ _ (call (Value.type _) [Value.bytes _ _]) _ _ _); k_dflt (refine' c_new_bytes ?qqg ?qqF ?qqN ?qqhz ?_; (case qqg => exact rfl); (case qqF => k_asm); (case qqN => k_asm); (case qqhz => (walk_at "cl"; omega)); k_whole); intro _ _ _ _ _; (try (walk_at "lt1")); (try k_sweep)))
  k_with "LeaveM" => ((k_dflt (refine' leaveM_ ?qqk1 ?qqk2 ?_; (case qqk1 => k_asm); (case qqk2 => k_asm); k_whole); intro _ _ _; (try dsimp only [InitBack, CmpBack, LenBack, StrBack, BoolBack]); (try refine ⟨rfl, ?_⟩)))
  k_with "getMethod str" => ((k_here; (with_reducible show wpAny _ _ (getMethod (Value.str _ _) (PySem.Str.ofString "encode") _) _ _ _); k_dflt (refine' str_encode_get ?_; k_whole)))
  k_with "call builtin:str.encode" => ((k_here; k_dflt (refine' str_encode ?qqh ?qqz ?_; (case qqh => k_asm); (case qqz => (walk_at "cl"; omega)); k_whole); intro _ _))
  k_with "getAttr ref" => ((k_here; k_dflt (refine' kbm_boundS ?qqk1 ?qqk2 ?qqk3 ?qqk4 ?qqk5 ?qqk6 ?qqk6b ?qqk7 ?qqk8 ?qqk9 ?qqk10 ?qqk11 ?_; (case qqk4 => k_inst); (case qqk1 => k_asm); (case qqk2 => k_asm); (case qqk7 => k_is); (case qqk3 => k_asm); (case qqk5 => k_is); (case qqk6 => k_is); (case qqk6b => k_is); (case qqk8 => k_is); (case qqk9 => k_is); (case qqk10 => k_is); (case qqk11 => decide +kernel); k_whole); intro _ _ _ _ _; (try (walk_at "lt1")); (try k_sweep)))
  k_with "eval Name" => ((k_here; (with_reducible show wpAny _ _ (eval (Expr.Name (PySem.Str.ofString "bytearray") _) _) _ _ _); with_unfolding_all refine guard_global (by rfl) ?_; k_dflt (refine' name_B ?qqkF ?qqk1 ?qqk2 ?qqk3 ?qqk4 ?qqk5 ?_; (case qqkF => with_reducible assumption); (case qqk1 => with_reducible assumption); (case qqk2 => k_asm); (case qqk3 => k_is); (case qqk4 => boot_by_name); (case qqk5 => decide); k_whole)))
  k_with "getAttr ref" => ((k_here; (with_reducible show wpAny _ _ (getAttr (Value.ref _) _ _) _ _ _); k_dflt (refine' get_slot ?qqk1 ?qqk2 ?qqk3 ?qqk4 ?qqk5 ?qqk6 ?qqk7 ?qqk8 ?qqk9 ?qqk10 ?qqk11 ?_; (case qqk1 => with_reducible assumption); (case qqk2 => with_reducible assumption); (case qqk3 => k_inst); (case qqk4 => k_is); (case qqk5 => k_is); (case qqk6 => k_is); (case qqk7 => k_is); (case qqk8 => k_is); (case qqk9 => k_is); (case qqk10 => k_slotget); (case qqk11 => k_handed); k_whole)))
  k_with "ite" => ((k_here; k_openite; k_dflt (first | (refine ite_pos (by ((walk_at "cl"); (try simp only [decide_eq_true_eq, beq_iff_eq, bne_iff_ne, ne_eq]); omega)) ?_) | (refine ite_neg (by ((walk_at "cl"); (try simp only [decide_eq_true_eq, beq_iff_eq, bne_iff_ne, ne_eq]); omega)) ?_)); walk_say "PRUNED here"))
  k_with "binaryOp Mult bytes int" => ((k_here; k_dflt (refine' zeros_mul ?qqh0 ?qqhn ?_; (case qqh0 => (walk_at "cl"; omega)); (case qqhn => (walk_at "cl"; omega)); k_whole); intro _ _))
  k_with "call builtin:len" => ((k_here; (with_reducible show wpAny _ _ (call (Value.builtin "len") [Value.ref _]) _ _ _); k_dflt (refine' ba_lenN ?qqN ?qqm ?qqz ?_; (case qqN => k_asm); (case qqm => k_mem); (case qqz => (walk_at "cl"; omega)); k_whole)))
  k_with "setItem ref ref" => ((k_here; (with_reducible show wpAny _ _ (setItem (Value.ref _) (Value.ref _) (Value.ref _)) _ _ _); k_dflt (refine' ba_setN (s := ⟨_, _, _, _, _⟩) ?qqF ?qqN ?qqU ?qqm ?qqne ?qqh0 ?qqhs ?qqhz ?_; (case qqF => k_asm); (case qqN => k_asm); (case qqU => k_updF); (case qqm => k_mem); (case qqne => k_ne); (case qqh0 => (walk_at "cl"; omega)); (case qqhs => ((walk_at "cl"); first | omega | (simp only [List.length_append, List.length_replicate, Array.size_replicate, lay_length, List.length_nil] at *; omega))); (case qqhz => ((walk_at "cl"); first | omega | (simp only [List.length_append, List.length_replicate, Array.size_replicate, lay_length, List.length_nil] at *; omega))); k_whole); intro _ _ _ _ _ _; (try k_sweep)))
  k_with "getMethod ref" => ((k_here; (with_reducible show wpAny _ _ (getMethod (Value.ref _) (PySem.Str.ofString "unpack_from") _) _ _ _); k_dflt (refine' so_fromK ?qqX ?qqh ?_; (case qqX => k_in); (case qqh => exact rfl); k_whole)))
  k_with "getMethod ref" => ((k_here; (with_reducible show wpAny _ _ (getMethod (Value.ref _) (PySem.Str.ofString "pack_into") _) _ _ _); k_dflt (refine' so_intoK ?qqX ?qqh ?_; (case qqX => k_in); (case qqh => exact rfl); k_whole)))
  k_with "call builtin:_struct.Struct.unpack_from" => ((k_here; k_dflt (refine' so_fromN ?qqX ?qqF ?qqN ?qqh ?qqf ?qqb ?qqh0 ?qqh1 ?qqhz ?_; (case qqX => k_in); (case qqF => k_asm); (case qqN => k_asm); (case qqh => exact rfl); (case qqf => constructor); (case qqb => first | exact .inl ⟨_, rfl⟩ | exact .inr ⟨_, rfl, by k_mem⟩); (case qqh0 => (walk_at "cl"; omega)); (case qqh1 => (walk_at "cl"; omega)); (case qqhz => (walk_at "cl"; omega)); k_whole); intro _ _ _ _ _ _ _; (try (walk_at "lt1")); (try k_sweep)))
  k_with "call builtin:_struct.Struct.unpack_from" => ((k_here; k_dflt (refine' so_fromB ?qqX ?qqF ?qqN ?qqh ?qqf ?qqb ?qqh0 ?qqh1 ?qqhz ?_; (case qqX => k_in); (case qqF => k_asm); (case qqN => k_asm); (case qqh => exact rfl); (case qqf => constructor); (case qqb => exact BufIn.keep (by assumption) (by k_asm)); (case qqh0 => (walk_at "cl"; omega)); (case qqh1 => (walk_at "cl"; omega)); (case qqhz => (walk_at "cl"; omega)); k_whole); intro _ _ _ _ _ _ _; (try (walk_at "lt1")); (try k_sweep)))
  k_with "call builtin:_struct.Struct.pack_into" => ((k_here; k_dflt (refine' so_intoN ?qqX ?qqF ?qqN ?qqU ?qqh ?qqf ?qqh0 ?qqh1 ?qqhz ?qqlo ?qqhi ?_; (case qqX => k_in); (case qqF => k_asm); (case qqN => k_asm); (case qqU => k_updF); (case qqh => exact rfl); (case qqf => constructor); (case qqh0 => (walk_at "cl"; omega)); (case qqh1 => (walk_at "cl"; omega)); (case qqhz => (walk_at "cl"; omega)); (case qqlo => ((first | rw [if_neg (by decide)] | rw [if_pos (by decide)]); (try simp only [Nat.reduceMul, Nat.reduceSub, Int.reducePow, Int.reduceNeg]); walk_at "cl"; omega)); (case qqhi => ((first | rw [if_neg (by decide)] | rw [if_pos (by decide)]); (try simp only [Nat.reduceMul, Nat.reduceSub, Int.reducePow, Int.reduceNeg]); walk_at "cl"; omega)); k_whole); intro _ _ _; (try k_sweep)))
  k_with "wpC" => ((k_here; (with_reducible show wpC _ _ (call (Value.ref _) _ _) _ _ _); (walk_at "wpCc")))
  k_with "call ref" => ((k_here; (with_reducible show wpAny _ _ (call (Value.ref 152) [_, Value.ref 63] _) _ _ _); k_dflt (refine' enf63_k ?qqB ?qqF ?qqX ?qqT ?qqhk ?qqhd ?qqhu ?qqf0 ?qqf1 (part_of ?qqN (sub0 ) ?qqS) ?_; (case qqB => k_asm); (case qqF => k_asm); (case qqX => k_asm); (case qqT => k_asm); (case qqhk => first | exact rfl | assumption); (case qqN => k_asm); (case qqhd => (walk_at "room")); (case qqhu => (walk_at "units")); (case qqf0 => (walk_at "ft")); (case qqf1 => (walk_at "ft")); (case qqS => (walk_at "sel"))); intro _ _  _ _ _; (walk_at "fin9")))
  k_with "call ref" => ((k_here; (with_reducible show wpAny _ _ (call (Value.ref 152) [_, Value.ref 77] _) _ _ _); k_dflt (refine' enf77_k ?qqB ?qqF ?qqX ?qqT ?qqhk ?qqhd ?qqhu ?qqf0 ?qqf1 (part_of ?qqN (sub0 ) ?qqS) ?_; (case qqB => k_asm); (case qqF => k_asm); (case qqX => k_asm); (case qqT => k_asm); (case qqhk => first | exact rfl | assumption); (case qqN => k_asm); (case qqhd => (walk_at "room")); (case qqhu => (walk_at "units")); (case qqf0 => (walk_at "ft")); (case qqf1 => (walk_at "ft")); (case qqS => (walk_at "sel"))); intro _ _  _ _ _; (walk_at "fin9")))
  k_with "call ref" => ((k_here; (with_reducible show wpAny _ _ (call (Value.ref 152) [_, Value.ref 91] _) _ _ _); k_dflt (refine' enf91_k ?qqB ?qqF ?qqX ?qqT ?qqhk ?qqhd ?qqhu ?qqf0 ?qqf1 (part_of ?qqN (sub0 ) ?qqS) ?_; (case qqB => k_asm); (case qqF => k_asm); (case qqX => k_asm); (case qqT => k_asm); (case qqhk => first | exact rfl | assumption); (case qqN => k_asm); (case qqhd => (walk_at "room")); (case qqhu => (walk_at "units")); (case qqf0 => (walk_at "ft")); (case qqf1 => (walk_at "ft")); (case qqS => (walk_at "sel"))); intro _ _  _ _ _; (walk_at "fin9")))
  k_with "call ref" => ((k_here; (with_reducible show wpAny _ _ (call (Value.ref 152) [_, Value.ref 105] _) _ _ _); k_dflt (refine' enf105_k ?qqB ?qqF ?qqX ?qqT ?qqhk ?qqhd ?qqhu ?qqf0 ?qqf1 (part_of ?qqN (sub0 ) ?qqS) ?_; (case qqB => k_asm); (case qqF => k_asm); (case qqX => k_asm); (case qqT => k_asm); (case qqhk => first | exact rfl | assumption); (case qqN => k_asm); (case qqhd => (walk_at "room")); (case qqhu => (walk_at "units")); (case qqf0 => (walk_at "ft")); (case qqf1 => (walk_at "ft")); (case qqS => (walk_at "sel"))); intro _ _  _ _ _; (walk_at "fin9")))
  k_with "call ref" => ((k_here; (with_reducible show wpAny _ _ (call (Value.ref 152) [_, Value.ref 119] _) _ _ _); k_dflt (refine' enf119_k ?qqB ?qqF ?qqX ?qqT ?qqhk ?qqhd ?qqhu ?qqf0 ?qqf1 (part_of ?qqN (sub0 ) ?qqS) ?_; (case qqB => k_asm); (case qqF => k_asm); (case qqX => k_asm); (case qqT => k_asm); (case qqhk => first | exact rfl | assumption); (case qqN => k_asm); (case qqhd => (walk_at "room")); (case qqhu => (walk_at "units")); (case qqf0 => (walk_at "ft")); (case qqf1 => (walk_at "ft")); (case qqS => (walk_at "sel"))); intro _ _  _ _ _; (walk_at "fin9")))
  k_with "call ref" => ((k_here; (with_reducible show wpAny _ _ (call (Value.ref 152) [_, Value.ref 131] _) _ _ _); k_dflt (refine' enf131_k ?qqB ?qqF ?qqX ?qqT ?qqhk ?qqhd ?qqhu ?qqf0 ?qqf1 (part_of ?qqN (sub0 ) ?qqS) ?_; (case qqB => k_asm); (case qqF => k_asm); (case qqX => k_asm); (case qqT => k_asm); (case qqhk => first | exact rfl | assumption); (case qqN => k_asm); (case qqhd => (walk_at "room")); (case qqhu => (walk_at "units")); (case qqf0 => (walk_at "ft")); (case qqf1 => (walk_at "ft")); (case qqS => (walk_at "sel"))); intro _ _  _ _ _; (walk_at "fin9")))
  k_with "call ref" => ((k_here; (with_reducible show wpAny _ _ (call (Value.ref 152) [_, Value.ref 143] _) _ _ _); k_dflt (refine' enf143_k ?qqB ?qqF ?qqX ?qqT ?qqhk ?qqhd ?qqhu ?qqf0 ?qqf1 (part_of ?qqN (sub0 ) ?qqS) ?_; (case qqB => k_asm); (case qqF => k_asm); (case qqX => k_asm); (case qqT => k_asm); (case qqhk => first | exact rfl | assumption); (case qqN => k_asm); (case qqhd => (walk_at "room")); (case qqhu => (walk_at "units")); (case qqf0 => (walk_at "ft")); (case qqf1 => (walk_at "ft")); (case qqS => (walk_at "sel"))); intro _ _  _ _ _; (walk_at "fin9")))
  trivial

theorem write50_k : ∀ {w : World} {mean : ExcName → Option Value} {mg mb : Str → Option Value} {dp un : Nat} {cn : Str} {cs : Scope} {a : Addr} {ccd : Value} {cl : List (Str × Addr)} {outer : List Env} {A₀ : Around} {base h₀ : Heap} {L : Addr} {m : Str → Option Value} {s : Shared}
    {Q E : Value → Shared → Prop} {rest : List (Addr × Obj)} (B : Below A₀ base outer h₀) (F : Fr h₀ L s.heap m) (X : (Mine.hd.heap_39 w.params).In h₀) (T : Top Mine.hd.view_39 LO mean mg mb h₀) (hk : cs.kind = .function) (hd : dp + 1 < recursionLimit) (hu : un + 8 < cLine) {ba : Addr} {arr : Array UInt8} {p : Int} {tp : Tok} {x : Int} {tx : Tok} (h0 : 0 ≤ p) (h1 : p + 1 ≤ arr.size) (hz : arr.size ≤ 4096) (r0 : 0 ≤ x) (r1 : x ≤ 255) (P : Part h₀ L s.heap [(ba, AO arr)] rest)
    (hret : ∀ (h' : Heap) (tk' : Nat) , Fr h₀ L h' m → News h₀ L h' ([(ba, AO (putAt arr p.toNat (Builtin.Struct.intBytes false 1 x)))] ++ rest) → AllNes [(ba, AO (putAt arr p.toNat (Builtin.Struct.intBytes false 1 x)))] rest → Q .none { s with heap := h', toks := tk' }),
    wpAny (model _root_.PySem.Challenge.rw_bp0005_01.row.prog w) (ktrTop dp un (some []) cn cs L a ccd cl outer) (call (.ref 166) [.ref 50, .ref ba, .int p tp, .int x tx] ) Q E s := by
  refine @Mine.hush _ (by
  k_fill
  intro w mean mg mb dp un cn cs a ccd cl outer A₀ base h₀ L m s Q E rest B F X T hk hd hu ba arr p tp x tx h0 h1 hz r0 r1 P hret
  have N := P.news
  have hdis := P.dis
  refine wpAny_call ?_
  k_dflt (refine' defA ?k1 ?k2 ?k3 ?k4 ?kd ?k5 ?kA ?kF ?kK ?k6 ?k7 ?k8 ?k9 ?kB ?_ ?c2 ?c3 ?c4 ?c5; (case kA => exact rfl); (case kF => exact rfl); (case kK => assumption); (case k1 => k_asm); (case k2 => k_asm); (case k3 => k_asm); (case k4 => k_asm); (case kd => k_asm); (case k5 => k_asm); (case k6 => k_is); (case k7 => k_is); (case k8 => ktr_room); (case k9 => exact BindsTo.of_eq rfl); (case c5 => decide); (case kB => exact locs rfl); (case c2 => exact rfl); (case c3 => exact rfl); (case c4 => exact rfl); k_whole; intro g' L' h' FG' F' N' B' X' T' l0 G; (try dsimp only); (try k_fold))
  k_steps
  all_goals dsimp only [wants]
  all_goals (rename_i kF kN kD; exact hret _ _ kF (news_sub kN (sub1 (by k_mem))) (allNes_of (dis_sub kD (sub1 (by k_mem)))))) ?_
  intro q f
  simpa using Mine.hushed f 5 fun n i => i
theorem setup_KD_2 : True := by
  k_with "call ref" => ((k_here; (with_reducible show wpAny _ _ (call (Value.ref 166) (Value.ref 50 :: _) _) _ _ _); k_dflt (refine' write50_k ?qqB ?qqF ?qqX ?qqT ?qqhk ?qqhd ?qqhu ?qqf0 ?qqf1 ?qqf2 ?qqf3 ?qqf4 (part_of ?qqN (sub1 ?qqm0) ?qqS) ?_; (case qqB => k_asm); (case qqF => k_asm); (case qqX => k_asm); (case qqT => k_asm); (case qqhk => first | exact rfl | assumption); (case qqN => k_asm); (case qqm0 => k_mem); (case qqhd => (walk_at "room")); (case qqhu => (walk_at "units")); (case qqf0 => (walk_at "ft")); (case qqf1 => (walk_at "ft")); (case qqf2 => (walk_at "ft")); (case qqf3 => (walk_at "ft")); (case qqf4 => (walk_at "ft")); (case qqS => (walk_at "sel"))); intro _ _  _ _ _; (walk_at "fin9")))
  trivial

theorem write51_k : ∀ {w : World} {mean : ExcName → Option Value} {mg mb : Str → Option Value} {dp un : Nat} {cn : Str} {cs : Scope} {a : Addr} {ccd : Value} {cl : List (Str × Addr)} {outer : List Env} {A₀ : Around} {base h₀ : Heap} {L : Addr} {m : Str → Option Value} {s : Shared}
    {Q E : Value → Shared → Prop} {rest : List (Addr × Obj)} (B : Below A₀ base outer h₀) (F : Fr h₀ L s.heap m) (X : (Mine.hd.heap_39 w.params).In h₀) (T : Top Mine.hd.view_39 LO mean mg mb h₀) (hk : cs.kind = .function) (hd : dp + 1 < recursionLimit) (hu : un + 8 < cLine) {ba : Addr} {arr : Array UInt8} {p : Int} {tp : Tok} {x : Int} {tx : Tok} (h0 : 0 ≤ p) (h1 : p + 2 ≤ arr.size) (hz : arr.size ≤ 4096) (r0 : 0 ≤ x) (r1 : x ≤ 65535) (P : Part h₀ L s.heap [(ba, AO arr)] rest)
    (hret : ∀ (h' : Heap) (tk' : Nat) , Fr h₀ L h' m → News h₀ L h' ([(ba, AO (putAt arr p.toNat (Builtin.Struct.intBytes false 2 x)))] ++ rest) → AllNes [(ba, AO (putAt arr p.toNat (Builtin.Struct.intBytes false 2 x)))] rest → Q .none { s with heap := h', toks := tk' }),
    wpAny (model _root_.PySem.Challenge.rw_bp0005_01.row.prog w) (ktrTop dp un (some []) cn cs L a ccd cl outer) (call (.ref 166) [.ref 51, .ref ba, .int p tp, .int x tx] ) Q E s := by
  refine @Mine.hush _ (by
  k_fill
  intro w mean mg mb dp un cn cs a ccd cl outer A₀ base h₀ L m s Q E rest B F X T hk hd hu ba arr p tp x tx h0 h1 hz r0 r1 P hret
  have N := P.news
  have hdis := P.dis
  refine wpAny_call ?_
  k_dflt (refine' defA ?k1 ?k2 ?k3 ?k4 ?kd ?k5 ?kA ?kF ?kK ?k6 ?k7 ?k8 ?k9 ?kB ?_ ?c2 ?c3 ?c4 ?c5; (case kA => exact rfl); (case kF => exact rfl); (case kK => assumption); (case k1 => k_asm); (case k2 => k_asm); (case k3 => k_asm); (case k4 => k_asm); (case kd => k_asm); (case k5 => k_asm); (case k6 => k_is); (case k7 => k_is); (case k8 => ktr_room); (case k9 => exact BindsTo.of_eq rfl); (case c5 => decide); (case kB => exact locs rfl); (case c2 => exact rfl); (case c3 => exact rfl); (case c4 => exact rfl); k_whole; intro g' L' h' FG' F' N' B' X' T' l0 G; (try dsimp only); (try k_fold))
  k_steps
  all_goals dsimp only [wants]
  all_goals (rename_i kF kN kD; exact hret _ _ kF (news_sub kN (sub1 (by k_mem))) (allNes_of (dis_sub kD (sub1 (by k_mem)))))) ?_
  intro q f
  simpa using Mine.hushed f 5 fun n i => i
theorem setup_KD_3 : True := by
  k_with "call ref" => ((k_here; (with_reducible show wpAny _ _ (call (Value.ref 166) (Value.ref 51 :: _) _) _ _ _); k_dflt (refine' write51_k ?qqB ?qqF ?qqX ?qqT ?qqhk ?qqhd ?qqhu ?qqf0 ?qqf1 ?qqf2 ?qqf3 ?qqf4 (part_of ?qqN (sub1 ?qqm0) ?qqS) ?_; (case qqB => k_asm); (case qqF => k_asm); (case qqX => k_asm); (case qqT => k_asm); (case qqhk => first | exact rfl | assumption); (case qqN => k_asm); (case qqm0 => k_mem); (case qqhd => (walk_at "room")); (case qqhu => (walk_at "units")); (case qqf0 => (walk_at "ft")); (case qqf1 => (walk_at "ft")); (case qqf2 => (walk_at "ft")); (case qqf3 => (walk_at "ft")); (case qqf4 => (walk_at "ft")); (case qqS => (walk_at "sel"))); intro _ _  _ _ _; (walk_at "fin9")))
  trivial

theorem write52_k : ∀ {w : World} {mean : ExcName → Option Value} {mg mb : Str → Option Value} {dp un : Nat} {cn : Str} {cs : Scope} {a : Addr} {ccd : Value} {cl : List (Str × Addr)} {outer : List Env} {A₀ : Around} {base h₀ : Heap} {L : Addr} {m : Str → Option Value} {s : Shared}
    {Q E : Value → Shared → Prop} {rest : List (Addr × Obj)} (B : Below A₀ base outer h₀) (F : Fr h₀ L s.heap m) (X : (Mine.hd.heap_39 w.params).In h₀) (T : Top Mine.hd.view_39 LO mean mg mb h₀) (hk : cs.kind = .function) (hd : dp + 1 < recursionLimit) (hu : un + 8 < cLine) {ba : Addr} {arr : Array UInt8} {p : Int} {tp : Tok} {x : Int} {tx : Tok} (h0 : 0 ≤ p) (h1 : p + 4 ≤ arr.size) (hz : arr.size ≤ 4096) (r0 : 0 ≤ x) (r1 : x ≤ 4294967295) (P : Part h₀ L s.heap [(ba, AO arr)] rest)
    (hret : ∀ (h' : Heap) (tk' : Nat) , Fr h₀ L h' m → News h₀ L h' ([(ba, AO (putAt arr p.toNat (Builtin.Struct.intBytes false 4 x)))] ++ rest) → AllNes [(ba, AO (putAt arr p.toNat (Builtin.Struct.intBytes false 4 x)))] rest → Q .none { s with heap := h', toks := tk' }),
    wpAny (model _root_.PySem.Challenge.rw_bp0005_01.row.prog w) (ktrTop dp un (some []) cn cs L a ccd cl outer) (call (.ref 166) [.ref 52, .ref ba, .int p tp, .int x tx] ) Q E s := by
  refine @Mine.hush _ (by
  k_fill
  intro w mean mg mb dp un cn cs a ccd cl outer A₀ base h₀ L m s Q E rest B F X T hk hd hu ba arr p tp x tx h0 h1 hz r0 r1 P hret
  have N := P.news
  have hdis := P.dis
  refine wpAny_call ?_
  k_dflt (refine' defA ?k1 ?k2 ?k3 ?k4 ?kd ?k5 ?kA ?kF ?kK ?k6 ?k7 ?k8 ?k9 ?kB ?_ ?c2 ?c3 ?c4 ?c5; (case kA => exact rfl); (case kF => exact rfl); (case kK => assumption); (case k1 => k_asm); (case k2 => k_asm); (case k3 => k_asm); (case k4 => k_asm); (case kd => k_asm); (case k5 => k_asm); (case k6 => k_is); (case k7 => k_is); (case k8 => ktr_room); (case k9 => exact BindsTo.of_eq rfl); (case c5 => decide); (case kB => exact locs rfl); (case c2 => exact rfl); (case c3 => exact rfl); (case c4 => exact rfl); k_whole; intro g' L' h' FG' F' N' B' X' T' l0 G; (try dsimp only); (try k_fold))
  k_steps
  all_goals dsimp only [wants]
  all_goals (rename_i kF kN kD; exact hret _ _ kF (news_sub kN (sub1 (by k_mem))) (allNes_of (dis_sub kD (sub1 (by k_mem)))))) ?_
  intro q f
  simpa using Mine.hushed f 5 fun n i => i
theorem setup_KD_4 : True := by
  k_with "call ref" => ((k_here; (with_reducible show wpAny _ _ (call (Value.ref 166) (Value.ref 52 :: _) _) _ _ _); k_dflt (refine' write52_k ?qqB ?qqF ?qqX ?qqT ?qqhk ?qqhd ?qqhu ?qqf0 ?qqf1 ?qqf2 ?qqf3 ?qqf4 (part_of ?qqN (sub1 ?qqm0) ?qqS) ?_; (case qqB => k_asm); (case qqF => k_asm); (case qqX => k_asm); (case qqT => k_asm); (case qqhk => first | exact rfl | assumption); (case qqN => k_asm); (case qqm0 => k_mem); (case qqhd => (walk_at "room")); (case qqhu => (walk_at "units")); (case qqf0 => (walk_at "ft")); (case qqf1 => (walk_at "ft")); (case qqf2 => (walk_at "ft")); (case qqf3 => (walk_at "ft")); (case qqf4 => (walk_at "ft")); (case qqS => (walk_at "sel"))); intro _ _  _ _ _; (walk_at "fin9")))
  trivial

theorem write53_k : ∀ {w : World} {mean : ExcName → Option Value} {mg mb : Str → Option Value} {dp un : Nat} {cn : Str} {cs : Scope} {a : Addr} {ccd : Value} {cl : List (Str × Addr)} {outer : List Env} {A₀ : Around} {base h₀ : Heap} {L : Addr} {m : Str → Option Value} {s : Shared}
    {Q E : Value → Shared → Prop} {rest : List (Addr × Obj)} (B : Below A₀ base outer h₀) (F : Fr h₀ L s.heap m) (X : (Mine.hd.heap_39 w.params).In h₀) (T : Top Mine.hd.view_39 LO mean mg mb h₀) (hk : cs.kind = .function) (hd : dp + 1 < recursionLimit) (hu : un + 8 < cLine) {ba : Addr} {arr : Array UInt8} {p : Int} {tp : Tok} {x : Int} {tx : Tok} (h0 : 0 ≤ p) (h1 : p + 4 ≤ arr.size) (hz : arr.size ≤ 4096) (r0 : -2147483648 ≤ x) (r1 : x ≤ 2147483647) (P : Part h₀ L s.heap [(ba, AO arr)] rest)
    (hret : ∀ (h' : Heap) (tk' : Nat) , Fr h₀ L h' m → News h₀ L h' ([(ba, AO (putAt arr p.toNat (Builtin.Struct.intBytes false 4 x)))] ++ rest) → AllNes [(ba, AO (putAt arr p.toNat (Builtin.Struct.intBytes false 4 x)))] rest → Q .none { s with heap := h', toks := tk' }),
    wpAny (model _root_.PySem.Challenge.rw_bp0005_01.row.prog w) (ktrTop dp un (some []) cn cs L a ccd cl outer) (call (.ref 166) [.ref 53, .ref ba, .int p tp, .int x tx] ) Q E s := by
  refine @Mine.hush _ (by
  k_fill
  intro w mean mg mb dp un cn cs a ccd cl outer A₀ base h₀ L m s Q E rest B F X T hk hd hu ba arr p tp x tx h0 h1 hz r0 r1 P hret
  have N := P.news
  have hdis := P.dis
  refine wpAny_call ?_
  k_dflt (refine' defA ?k1 ?k2 ?k3 ?k4 ?kd ?k5 ?kA ?kF ?kK ?k6 ?k7 ?k8 ?k9 ?kB ?_ ?c2 ?c3 ?c4 ?c5; (case kA => exact rfl); (case kF => exact rfl); (case kK => assumption); (case k1 => k_asm); (case k2 => k_asm); (case k3 => k_asm); (case k4 => k_asm); (case kd => k_asm); (case k5 => k_asm); (case k6 => k_is); (case k7 => k_is); (case k8 => ktr_room); (case k9 => exact BindsTo.of_eq rfl); (case c5 => decide); (case kB => exact locs rfl); (case c2 => exact rfl); (case c3 => exact rfl); (case c4 => exact rfl); k_whole; intro g' L' h' FG' F' N' B' X' T' l0 G; (try dsimp only); (try k_fold))
  k_steps
  all_goals dsimp only [wants]
  all_goals (rename_i kF kN kD; exact hret _ _ kF (news_sub kN (sub1 (by k_mem))) (allNes_of (dis_sub kD (sub1 (by k_mem)))))) ?_
  intro q f
  simpa using Mine.hushed f 5 fun n i => i
theorem setup_KD_5 : True := by
  k_with "call ref" => ((k_here; (with_reducible show wpAny _ _ (call (Value.ref 166) (Value.ref 53 :: _) _) _ _ _); k_dflt (refine' write53_k ?qqB ?qqF ?qqX ?qqT ?qqhk ?qqhd ?qqhu ?qqf0 ?qqf1 ?qqf2 ?qqf3 ?qqf4 (part_of ?qqN (sub1 ?qqm0) ?qqS) ?_; (case qqB => k_asm); (case qqF => k_asm); (case qqX => k_asm); (case qqT => k_asm); (case qqhk => first | exact rfl | assumption); (case qqN => k_asm); (case qqm0 => k_mem); (case qqhd => (walk_at "room")); (case qqhu => (walk_at "units")); (case qqf0 => (walk_at "ft")); (case qqf1 => (walk_at "ft")); (case qqf2 => (walk_at "ft")); (case qqf3 => (walk_at "ft")); (case qqf4 => (walk_at "ft")); (case qqS => (walk_at "sel"))); intro _ _  _ _ _; (walk_at "fin9")))
  trivial

theorem place63_k : ∀ {w : World} {mean : ExcName → Option Value} {mg mb : Str → Option Value} {dp un : Nat} {cn : Str} {cs : Scope} {a : Addr} {ccd : Value} {cl : List (Str × Addr)} {outer : List Env} {A₀ : Around} {base h₀ : Heap} {L : Addr} {m : Str → Option Value} {s : Shared}
    {Q E : Value → Shared → Prop} {rest : List (Addr × Obj)} (B : Below A₀ base outer h₀) (F : Fr h₀ L s.heap m) (X : (Mine.hd.heap_39 w.params).In h₀) (T : Top Mine.hd.view_39 LO mean mg mb h₀) (hk : cs.kind = .function) (hd : dp + 2 < recursionLimit) (hu : un + 16 < cLine) {b : Addr} {dx : Addr} {ba : Addr} {dv : Addr} {arr : Array UInt8} {v1 : Value} {v7 : Value} {v9 : Option Value} {hd1 : Int} {ma : Int} {t1 : Tok} {t2 : Tok} {fin : Bool} {nest : Bool} {out : List UInt8} {x : Int} {tx : Tok} (hH : Has arr hd1 out) (hz : arr.size ≤ 4096) (hn : 1 ≤ hd1) (r0 : 0 ≤ x) (r1 : x ≤ 255) (P : Part h₀ L s.heap [(b, BO dx ba v1 fin hd1 t1 ma t2 nest v7 v9 dv), (dx, dictOf [] 0), (ba, AO arr)] rest)
    (hret : ∀ (h' : Heap) (tk' : Nat) (arr' : Array UInt8) (t1' : Tok), Has arr' (hd1 - 1) (lay 1 x ++ out) → arr'.size = arr.size → Fr h₀ L h' m → News h₀ L h' ([(b, BO dx ba v1 fin (hd1 - 1) t1' ma t2 nest v7 v9 dv), (dx, dictOf [] 0), (ba, AO arr')] ++ rest) → AllNes [(b, BO dx ba v1 fin (hd1 - 1) t1' ma t2 nest v7 v9 dv), (dx, dictOf [] 0), (ba, AO arr')] rest → Q .none { s with heap := h', toks := tk' }),
    wpAny (model _root_.PySem.Challenge.rw_bp0005_01.row.prog w) (ktrTop dp un (some []) cn cs L a ccd cl outer) (call (.ref 709) [.ref b, .int x tx, .ref 63] ) Q E s := by
  refine @Mine.hush _ (by
  k_fill
  intro w mean mg mb dp un cn cs a ccd cl outer A₀ base h₀ L m s Q E rest B F X T hk hd hu b dx ba dv arr v1 v7 v9 hd1 ma t1 t2 fin nest out x tx hH hz hn r0 r1 P hret
  have N := P.news
  have hdis := P.dis
  obtain ⟨n1, n2, n3⟩ := news3B N
  refine wpAny_call ?_
  k_dflt (refine' defA ?k1 ?k2 ?k3 ?k4 ?kd ?k5 ?kA ?kF ?kK ?k6 ?k7 ?k8 ?k9 ?kB ?_ ?c2 ?c3 ?c4 ?c5; (case kA => exact rfl); (case kF => exact rfl); (case kK => assumption); (case k1 => k_asm); (case k2 => k_asm); (case k3 => k_asm); (case k4 => k_asm); (case kd => k_asm); (case k5 => k_asm); (case k6 => k_is); (case k7 => k_is); (case k8 => ktr_room); (case k9 => exact BindsTo.of_eq rfl); (case c5 => decide); (case kB => exact locs rfl); (case c2 => exact rfl); (case c3 => exact rfl); (case c4 => exact rfl); k_whole; intro g' L' h' FG' F' N' B' X' T' l0 G; (try dsimp only); (try k_fold))
  have hH0 := hH.1
  have hH1 := hH.2.1
  k_steps
  all_goals dsimp only [wants]
  all_goals (rename_i kF kN kD; exact hret _ _ _ _ (has_lay hH (by omega) (by omega)).1 (has_lay hH (by omega) (by omega)).2 kF (news_sub kN (sub3 (by k_mem) (by k_mem) (by k_mem))) (allNes_of (dis_sub kD (sub3 (by k_mem) (by k_mem) (by k_mem)))))) ?_
  intro q f
  simpa using Mine.hushed f 5 fun n i => i
theorem setup_KD_6 : True := by
  k_with "call ref" => ((k_here; (with_reducible show wpAny _ _ (call (Value.ref 709) [_, _, Value.ref 63] _) _ _ _); k_dflt (refine' place63_k ?qqB ?qqF ?qqX ?qqT ?qqhk ?qqhd ?qqhu ?qqf0 ?qqf1 ?qqf2 ?qqf3 ?qqf4 (part_of ?qqN (sub3 ?qqm0 ?qqm1 ?qqm2) ?qqS) ?_; (case qqB => k_asm); (case qqF => k_asm); (case qqX => k_asm); (case qqT => k_asm); (case qqhk => first | exact rfl | assumption); (case qqN => k_asm); (case qqm0 => k_mem); (case qqm1 => k_mem); (case qqm2 => k_mem); (case qqhd => (walk_at "room")); (case qqhu => (walk_at "units")); (case qqf0 => (walk_at "ft")); (case qqf1 => (walk_at "ft")); (case qqf2 => (walk_at "ft")); (case qqf3 => (walk_at "ft")); (case qqf4 => (walk_at "ft")); (case qqS => (walk_at "sel"))); (walk_at "cl1"); intro _ _ _ _ _ _ _ _ _; (walk_at "fin93")))
  trivial

theorem place77_k : ∀ {w : World} {mean : ExcName → Option Value} {mg mb : Str → Option Value} {dp un : Nat} {cn : Str} {cs : Scope} {a : Addr} {ccd : Value} {cl : List (Str × Addr)} {outer : List Env} {A₀ : Around} {base h₀ : Heap} {L : Addr} {m : Str → Option Value} {s : Shared}
    {Q E : Value → Shared → Prop} {rest : List (Addr × Obj)} (B : Below A₀ base outer h₀) (F : Fr h₀ L s.heap m) (X : (Mine.hd.heap_39 w.params).In h₀) (T : Top Mine.hd.view_39 LO mean mg mb h₀) (hk : cs.kind = .function) (hd : dp + 2 < recursionLimit) (hu : un + 16 < cLine) {b : Addr} {dx : Addr} {ba : Addr} {dv : Addr} {arr : Array UInt8} {v1 : Value} {v7 : Value} {v9 : Option Value} {hd1 : Int} {ma : Int} {t1 : Tok} {t2 : Tok} {fin : Bool} {nest : Bool} {out : List UInt8} {x : Int} {tx : Tok} (hH : Has arr hd1 out) (hz : arr.size ≤ 4096) (hn : 2 ≤ hd1) (r0 : 0 ≤ x) (r1 : x ≤ 65535) (P : Part h₀ L s.heap [(b, BO dx ba v1 fin hd1 t1 ma t2 nest v7 v9 dv), (dx, dictOf [] 0), (ba, AO arr)] rest)
    (hret : ∀ (h' : Heap) (tk' : Nat) (arr' : Array UInt8) (t1' : Tok), Has arr' (hd1 - 2) (lay 2 x ++ out) → arr'.size = arr.size → Fr h₀ L h' m → News h₀ L h' ([(b, BO dx ba v1 fin (hd1 - 2) t1' ma t2 nest v7 v9 dv), (dx, dictOf [] 0), (ba, AO arr')] ++ rest) → AllNes [(b, BO dx ba v1 fin (hd1 - 2) t1' ma t2 nest v7 v9 dv), (dx, dictOf [] 0), (ba, AO arr')] rest → Q .none { s with heap := h', toks := tk' }),
    wpAny (model _root_.PySem.Challenge.rw_bp0005_01.row.prog w) (ktrTop dp un (some []) cn cs L a ccd cl outer) (call (.ref 709) [.ref b, .int x tx, .ref 77] ) Q E s := by
  refine @Mine.hush _ (by
  k_fill
  intro w mean mg mb dp un cn cs a ccd cl outer A₀ base h₀ L m s Q E rest B F X T hk hd hu b dx ba dv arr v1 v7 v9 hd1 ma t1 t2 fin nest out x tx hH hz hn r0 r1 P hret
  have N := P.news
  have hdis := P.dis
  obtain ⟨n1, n2, n3⟩ := news3B N
  refine wpAny_call ?_
  k_dflt (refine' defA ?k1 ?k2 ?k3 ?k4 ?kd ?k5 ?kA ?kF ?kK ?k6 ?k7 ?k8 ?k9 ?kB ?_ ?c2 ?c3 ?c4 ?c5; (case kA => exact rfl); (case kF => exact rfl); (case kK => assumption); (case k1 => k_asm); (case k2 => k_asm); (case k3 => k_asm); (case k4 => k_asm); (case kd => k_asm); (case k5 => k_asm); (case k6 => k_is); (case k7 => k_is); (case k8 => ktr_room); (case k9 => exact BindsTo.of_eq rfl); (case c5 => decide); (case kB => exact locs rfl); (case c2 => exact rfl); (case c3 => exact rfl); (case c4 => exact rfl); k_whole; intro g' L' h' FG' F' N' B' X' T' l0 G; (try dsimp only); (try k_fold))
  have hH0 := hH.1
  have hH1 := hH.2.1
  k_steps
  all_goals dsimp only [wants]
  all_goals (rename_i kF kN kD; exact hret _ _ _ _ (has_lay hH (by omega) (by omega)).1 (has_lay hH (by omega) (by omega)).2 kF (news_sub kN (sub3 (by k_mem) (by k_mem) (by k_mem))) (allNes_of (dis_sub kD (sub3 (by k_mem) (by k_mem) (by k_mem)))))) ?_
  intro q f
  simpa using Mine.hushed f 5 fun n i => i
theorem setup_KD_7 : True := by
  k_with "call ref" => ((k_here; (with_reducible show wpAny _ _ (call (Value.ref 709) [_, _, Value.ref 77] _) _ _ _); k_dflt (refine' place77_k ?qqB ?qqF ?qqX ?qqT ?qqhk ?qqhd ?qqhu ?qqf0 ?qqf1 ?qqf2 ?qqf3 ?qqf4 (part_of ?qqN (sub3 ?qqm0 ?qqm1 ?qqm2) ?qqS) ?_; (case qqB => k_asm); (case qqF => k_asm); (case qqX => k_asm); (case qqT => k_asm); (case qqhk => first | exact rfl | assumption); (case qqN => k_asm); (case qqm0 => k_mem); (case qqm1 => k_mem); (case qqm2 => k_mem); (case qqhd => (walk_at "room")); (case qqhu => (walk_at "units")); (case qqf0 => (walk_at "ft")); (case qqf1 => (walk_at "ft")); (case qqf2 => (walk_at "ft")); (case qqf3 => (walk_at "ft")); (case qqf4 => (walk_at "ft")); (case qqS => (walk_at "sel"))); (walk_at "cl1"); intro _ _ _ _ _ _ _ _ _; (walk_at "fin93")))
  trivial

theorem place91_k : ∀ {w : World} {mean : ExcName → Option Value} {mg mb : Str → Option Value} {dp un : Nat} {cn : Str} {cs : Scope} {a : Addr} {ccd : Value} {cl : List (Str × Addr)} {outer : List Env} {A₀ : Around} {base h₀ : Heap} {L : Addr} {m : Str → Option Value} {s : Shared}
    {Q E : Value → Shared → Prop} {rest : List (Addr × Obj)} (B : Below A₀ base outer h₀) (F : Fr h₀ L s.heap m) (X : (Mine.hd.heap_39 w.params).In h₀) (T : Top Mine.hd.view_39 LO mean mg mb h₀) (hk : cs.kind = .function) (hd : dp + 2 < recursionLimit) (hu : un + 16 < cLine) {b : Addr} {dx : Addr} {ba : Addr} {dv : Addr} {arr : Array UInt8} {v1 : Value} {v7 : Value} {v9 : Option Value} {hd1 : Int} {ma : Int} {t1 : Tok} {t2 : Tok} {fin : Bool} {nest : Bool} {out : List UInt8} {x : Int} {tx : Tok} (hH : Has arr hd1 out) (hz : arr.size ≤ 4096) (hn : 4 ≤ hd1) (r0 : 0 ≤ x) (r1 : x ≤ 4294967295) (P : Part h₀ L s.heap [(b, BO dx ba v1 fin hd1 t1 ma t2 nest v7 v9 dv), (dx, dictOf [] 0), (ba, AO arr)] rest)
    (hret : ∀ (h' : Heap) (tk' : Nat) (arr' : Array UInt8) (t1' : Tok), Has arr' (hd1 - 4) (lay 4 x ++ out) → arr'.size = arr.size → Fr h₀ L h' m → News h₀ L h' ([(b, BO dx ba v1 fin (hd1 - 4) t1' ma t2 nest v7 v9 dv), (dx, dictOf [] 0), (ba, AO arr')] ++ rest) → AllNes [(b, BO dx ba v1 fin (hd1 - 4) t1' ma t2 nest v7 v9 dv), (dx, dictOf [] 0), (ba, AO arr')] rest → Q .none { s with heap := h', toks := tk' }),
    wpAny (model _root_.PySem.Challenge.rw_bp0005_01.row.prog w) (ktrTop dp un (some []) cn cs L a ccd cl outer) (call (.ref 709) [.ref b, .int x tx, .ref 91] ) Q E s := by
  refine @Mine.hush _ (by
  k_fill
  intro w mean mg mb dp un cn cs a ccd cl outer A₀ base h₀ L m s Q E rest B F X T hk hd hu b dx ba dv arr v1 v7 v9 hd1 ma t1 t2 fin nest out x tx hH hz hn r0 r1 P hret
  have N := P.news
  have hdis := P.dis
  obtain ⟨n1, n2, n3⟩ := news3B N
  refine wpAny_call ?_
  k_dflt (refine' defA ?k1 ?k2 ?k3 ?k4 ?kd ?k5 ?kA ?kF ?kK ?k6 ?k7 ?k8 ?k9 ?kB ?_ ?c2 ?c3 ?c4 ?c5; (case kA => exact rfl); (case kF => exact rfl); (case kK => assumption); (case k1 => k_asm); (case k2 => k_asm); (case k3 => k_asm); (case k4 => k_asm); (case kd => k_asm); (case k5 => k_asm); (case k6 => k_is); (case k7 => k_is); (case k8 => ktr_room); (case k9 => exact BindsTo.of_eq rfl); (case c5 => decide); (case kB => exact locs rfl); (case c2 => exact rfl); (case c3 => exact rfl); (case c4 => exact rfl); k_whole; intro g' L' h' FG' F' N' B' X' T' l0 G; (try dsimp only); (try k_fold))
  have hH0 := hH.1
  have hH1 := hH.2.1
  k_steps
  all_goals dsimp only [wants]
  all_goals (rename_i kF kN kD; exact hret _ _ _ _ (has_lay hH (by omega) (by omega)).1 (has_lay hH (by omega) (by omega)).2 kF (news_sub kN (sub3 (by k_mem) (by k_mem) (by k_mem))) (allNes_of (dis_sub kD (sub3 (by k_mem) (by k_mem) (by k_mem)))))) ?_
  intro q f
  simpa using Mine.hushed f 5 fun n i => i
theorem setup_KD_8 : True := by
  k_with "call ref" => ((k_here; (with_reducible show wpAny _ _ (call (Value.ref 709) [_, _, Value.ref 91] _) _ _ _); k_dflt (refine' place91_k ?qqB ?qqF ?qqX ?qqT ?qqhk ?qqhd ?qqhu ?qqf0 ?qqf1 ?qqf2 ?qqf3 ?qqf4 (part_of ?qqN (sub3 ?qqm0 ?qqm1 ?qqm2) ?qqS) ?_; (case qqB => k_asm); (case qqF => k_asm); (case qqX => k_asm); (case qqT => k_asm); (case qqhk => first | exact rfl | assumption); (case qqN => k_asm); (case qqm0 => k_mem); (case qqm1 => k_mem); (case qqm2 => k_mem); (case qqhd => (walk_at "room")); (case qqhu => (walk_at "units")); (case qqf0 => (walk_at "ft")); (case qqf1 => (walk_at "ft")); (case qqf2 => (walk_at "ft")); (case qqf3 => (walk_at "ft")); (case qqf4 => (walk_at "ft")); (case qqS => (walk_at "sel"))); (walk_at "cl1"); intro _ _ _ _ _ _ _ _ _; (walk_at "fin93")))
  trivial

theorem place105_k : ∀ {w : World} {mean : ExcName → Option Value} {mg mb : Str → Option Value} {dp un : Nat} {cn : Str} {cs : Scope} {a : Addr} {ccd : Value} {cl : List (Str × Addr)} {outer : List Env} {A₀ : Around} {base h₀ : Heap} {L : Addr} {m : Str → Option Value} {s : Shared}
    {Q E : Value → Shared → Prop} {rest : List (Addr × Obj)} (B : Below A₀ base outer h₀) (F : Fr h₀ L s.heap m) (X : (Mine.hd.heap_39 w.params).In h₀) (T : Top Mine.hd.view_39 LO mean mg mb h₀) (hk : cs.kind = .function) (hd : dp + 2 < recursionLimit) (hu : un + 16 < cLine) {b : Addr} {dx : Addr} {ba : Addr} {dv : Addr} {arr : Array UInt8} {v1 : Value} {v7 : Value} {v9 : Option Value} {hd1 : Int} {ma : Int} {t1 : Tok} {t2 : Tok} {fin : Bool} {nest : Bool} {out : List UInt8} {x : Int} {tx : Tok} (hH : Has arr hd1 out) (hz : arr.size ≤ 4096) (hn : 4 ≤ hd1) (r0 : -2147483648 ≤ x) (r1 : x ≤ 2147483647) (P : Part h₀ L s.heap [(b, BO dx ba v1 fin hd1 t1 ma t2 nest v7 v9 dv), (dx, dictOf [] 0), (ba, AO arr)] rest)
    (hret : ∀ (h' : Heap) (tk' : Nat) (arr' : Array UInt8) (t1' : Tok), Has arr' (hd1 - 4) (lay 4 x ++ out) → arr'.size = arr.size → Fr h₀ L h' m → News h₀ L h' ([(b, BO dx ba v1 fin (hd1 - 4) t1' ma t2 nest v7 v9 dv), (dx, dictOf [] 0), (ba, AO arr')] ++ rest) → AllNes [(b, BO dx ba v1 fin (hd1 - 4) t1' ma t2 nest v7 v9 dv), (dx, dictOf [] 0), (ba, AO arr')] rest → Q .none { s with heap := h', toks := tk' }),
    wpAny (model _root_.PySem.Challenge.rw_bp0005_01.row.prog w) (ktrTop dp un (some []) cn cs L a ccd cl outer) (call (.ref 709) [.ref b, .int x tx, .ref 105] ) Q E s := by
  refine @Mine.hush _ (by
  k_fill
  intro w mean mg mb dp un cn cs a ccd cl outer A₀ base h₀ L m s Q E rest B F X T hk hd hu b dx ba dv arr v1 v7 v9 hd1 ma t1 t2 fin nest out x tx hH hz hn r0 r1 P hret
  have N := P.news
  have hdis := P.dis
  obtain ⟨n1, n2, n3⟩ := news3B N
  refine wpAny_call ?_
  k_dflt (refine' defA ?k1 ?k2 ?k3 ?k4 ?kd ?k5 ?kA ?kF ?kK ?k6 ?k7 ?k8 ?k9 ?kB ?_ ?c2 ?c3 ?c4 ?c5; (case kA => exact rfl); (case kF => exact rfl); (case kK => assumption); (case k1 => k_asm); (case k2 => k_asm); (case k3 => k_asm); (case k4 => k_asm); (case kd => k_asm); (case k5 => k_asm); (case k6 => k_is); (case k7 => k_is); (case k8 => ktr_room); (case k9 => exact BindsTo.of_eq rfl); (case c5 => decide); (case kB => exact locs rfl); (case c2 => exact rfl); (case c3 => exact rfl); (case c4 => exact rfl); k_whole; intro g' L' h' FG' F' N' B' X' T' l0 G; (try dsimp only); (try k_fold))
  have hH0 := hH.1
  have hH1 := hH.2.1
  k_steps
  all_goals dsimp only [wants]
  all_goals (rename_i kF kN kD; exact hret _ _ _ _ (has_lay hH (by omega) (by omega)).1 (has_lay hH (by omega) (by omega)).2 kF (news_sub kN (sub3 (by k_mem) (by k_mem) (by k_mem))) (allNes_of (dis_sub kD (sub3 (by k_mem) (by k_mem) (by k_mem)))))) ?_
  intro q f
  simpa using Mine.hushed f 5 fun n i => i
theorem setup_KD_9 : True := by
  k_with "call ref" => ((k_here; (with_reducible show wpAny _ _ (call (Value.ref 709) [_, _, Value.ref 105] _) _ _ _); k_dflt (refine' place105_k ?qqB ?qqF ?qqX ?qqT ?qqhk ?qqhd ?qqhu ?qqf0 ?qqf1 ?qqf2 ?qqf3 ?qqf4 (part_of ?qqN (sub3 ?qqm0 ?qqm1 ?qqm2) ?qqS) ?_; (case qqB => k_asm); (case qqF => k_asm); (case qqX => k_asm); (case qqT => k_asm); (case qqhk => first | exact rfl | assumption); (case qqN => k_asm); (case qqm0 => k_mem); (case qqm1 => k_mem); (case qqm2 => k_mem); (case qqhd => (walk_at "room")); (case qqhu => (walk_at "units")); (case qqf0 => (walk_at "ft")); (case qqf1 => (walk_at "ft")); (case qqf2 => (walk_at "ft")); (case qqf3 => (walk_at "ft")); (case qqf4 => (walk_at "ft")); (case qqS => (walk_at "sel"))); (walk_at "cl1"); intro _ _ _ _ _ _ _ _ _; (walk_at "fin93")))
  trivial

theorem place143_k : ∀ {w : World} {mean : ExcName → Option Value} {mg mb : Str → Option Value} {dp un : Nat} {cn : Str} {cs : Scope} {a : Addr} {ccd : Value} {cl : List (Str × Addr)} {outer : List Env} {A₀ : Around} {base h₀ : Heap} {L : Addr} {m : Str → Option Value} {s : Shared}
    {Q E : Value → Shared → Prop} {rest : List (Addr × Obj)} (B : Below A₀ base outer h₀) (F : Fr h₀ L s.heap m) (X : (Mine.hd.heap_39 w.params).In h₀) (T : Top Mine.hd.view_39 LO mean mg mb h₀) (hk : cs.kind = .function) (hd : dp + 2 < recursionLimit) (hu : un + 16 < cLine) {b : Addr} {dx : Addr} {ba : Addr} {dv : Addr} {arr : Array UInt8} {v1 : Value} {v7 : Value} {v9 : Option Value} {hd1 : Int} {ma : Int} {t1 : Tok} {t2 : Tok} {fin : Bool} {nest : Bool} {out : List UInt8} {x : Int} {tx : Tok} (hH : Has arr hd1 out) (hz : arr.size ≤ 4096) (hn : 2 ≤ hd1) (r0 : 0 ≤ x) (r1 : x ≤ 65535) (P : Part h₀ L s.heap [(b, BO dx ba v1 fin hd1 t1 ma t2 nest v7 v9 dv), (dx, dictOf [] 0), (ba, AO arr)] rest)
    (hret : ∀ (h' : Heap) (tk' : Nat) (arr' : Array UInt8) (t1' : Tok), Has arr' (hd1 - 2) (lay 2 x ++ out) → arr'.size = arr.size → Fr h₀ L h' m → News h₀ L h' ([(b, BO dx ba v1 fin (hd1 - 2) t1' ma t2 nest v7 v9 dv), (dx, dictOf [] 0), (ba, AO arr')] ++ rest) → AllNes [(b, BO dx ba v1 fin (hd1 - 2) t1' ma t2 nest v7 v9 dv), (dx, dictOf [] 0), (ba, AO arr')] rest → Q .none { s with heap := h', toks := tk' }),
    wpAny (model _root_.PySem.Challenge.rw_bp0005_01.row.prog w) (ktrTop dp un (some []) cn cs L a ccd cl outer) (call (.ref 709) [.ref b, .int x tx, .ref 143] ) Q E s := by
  refine @Mine.hush _ (by
  k_fill
  intro w mean mg mb dp un cn cs a ccd cl outer A₀ base h₀ L m s Q E rest B F X T hk hd hu b dx ba dv arr v1 v7 v9 hd1 ma t1 t2 fin nest out x tx hH hz hn r0 r1 P hret
  have N := P.news
  have hdis := P.dis
  obtain ⟨n1, n2, n3⟩ := news3B N
  refine wpAny_call ?_
  k_dflt (refine' defA ?k1 ?k2 ?k3 ?k4 ?kd ?k5 ?kA ?kF ?kK ?k6 ?k7 ?k8 ?k9 ?kB ?_ ?c2 ?c3 ?c4 ?c5; (case kA => exact rfl); (case kF => exact rfl); (case kK => assumption); (case k1 => k_asm); (case k2 => k_asm); (case k3 => k_asm); (case k4 => k_asm); (case kd => k_asm); (case k5 => k_asm); (case k6 => k_is); (case k7 => k_is); (case k8 => ktr_room); (case k9 => exact BindsTo.of_eq rfl); (case c5 => decide); (case kB => exact locs rfl); (case c2 => exact rfl); (case c3 => exact rfl); (case c4 => exact rfl); k_whole; intro g' L' h' FG' F' N' B' X' T' l0 G; (try dsimp only); (try k_fold))
  have hH0 := hH.1
  have hH1 := hH.2.1
  k_steps
  all_goals dsimp only [wants]
  all_goals (rename_i kF kN kD; exact hret _ _ _ _ (has_lay hH (by omega) (by omega)).1 (has_lay hH (by omega) (by omega)).2 kF (news_sub kN (sub3 (by k_mem) (by k_mem) (by k_mem))) (allNes_of (dis_sub kD (sub3 (by k_mem) (by k_mem) (by k_mem)))))) ?_
  intro q f
  simpa using Mine.hushed f 5 fun n i => i
theorem setup_KD_10 : True := by
  k_with "call ref" => ((k_here; (with_reducible show wpAny _ _ (call (Value.ref 709) [_, _, Value.ref 143] _) _ _ _); k_dflt (refine' place143_k ?qqB ?qqF ?qqX ?qqT ?qqhk ?qqhd ?qqhu ?qqf0 ?qqf1 ?qqf2 ?qqf3 ?qqf4 (part_of ?qqN (sub3 ?qqm0 ?qqm1 ?qqm2) ?qqS) ?_; (case qqB => k_asm); (case qqF => k_asm); (case qqX => k_asm); (case qqT => k_asm); (case qqhk => first | exact rfl | assumption); (case qqN => k_asm); (case qqm0 => k_mem); (case qqm1 => k_mem); (case qqm2 => k_mem); (case qqhd => (walk_at "room")); (case qqhu => (walk_at "units")); (case qqf0 => (walk_at "ft")); (case qqf1 => (walk_at "ft")); (case qqf2 => (walk_at "ft")); (case qqf3 => (walk_at "ft")); (case qqf4 => (walk_at "ft")); (case qqS => (walk_at "sel"))); (walk_at "cl1"); intro _ _ _ _ _ _ _ _ _; (walk_at "fin93")))
  trivial

theorem placeS_k : ∀ {w : World} {mean : ExcName → Option Value} {mg mb : Str → Option Value} {dp un : Nat} {cn : Str} {cs : Scope} {a : Addr} {ccd : Value} {cl : List (Str × Addr)} {outer : List Env} {A₀ : Around} {base h₀ : Heap} {L : Addr} {m : Str → Option Value} {s : Shared}
    {Q E : Value → Shared → Prop} {rest : List (Addr × Obj)} (B : Below A₀ base outer h₀) (F : Fr h₀ L s.heap m) (X : (Mine.hd.heap_39 w.params).In h₀) (T : Top Mine.hd.view_39 LO mean mg mb h₀) (hk : cs.kind = .function) (hd : dp + 2 < recursionLimit) (hu : un + 16 < cLine) {b : Addr} {dx : Addr} {ba : Addr} {dv : Addr} {arr : Array UInt8} {v1 : Value} {v7 : Value} {v9 : Option Value} {hd1 : Int} {ma : Int} {t1 : Tok} {t2 : Tok} {fin : Bool} {nest : Bool} {out : List UInt8} {x : Int} {tx : Tok} (hH : Has arr hd1 out) (hz : arr.size ≤ 4096) (hn : 4 ≤ hd1) (r0 : -2147483648 ≤ x) (r1 : x ≤ 2147483647) (P : Part h₀ L s.heap [(b, BO dx ba v1 fin hd1 t1 ma t2 nest v7 v9 dv), (dx, dictOf [] 0), (ba, AO arr)] rest)
    (hret : ∀ (h' : Heap) (tk' : Nat) (arr' : Array UInt8) (t1' : Tok), Has arr' (hd1 - 4) (lay 4 x ++ out) → arr'.size = arr.size → Fr h₀ L h' m → News h₀ L h' ([(b, BO dx ba v1 fin (hd1 - 4) t1' ma t2 nest v7 v9 dv), (dx, dictOf [] 0), (ba, AO arr')] ++ rest) → AllNes [(b, BO dx ba v1 fin (hd1 - 4) t1' ma t2 nest v7 v9 dv), (dx, dictOf [] 0), (ba, AO arr')] rest → Q .none { s with heap := h', toks := tk' }),
    wpAny (model _root_.PySem.Challenge.rw_bp0005_01.row.prog w) (ktrTop dp un (some []) cn cs L a ccd cl outer) (call (.ref 723) [.ref b, .int x tx] ) Q E s := by
  refine @Mine.hush _ (by
  k_fill
  intro w mean mg mb dp un cn cs a ccd cl outer A₀ base h₀ L m s Q E rest B F X T hk hd hu b dx ba dv arr v1 v7 v9 hd1 ma t1 t2 fin nest out x tx hH hz hn r0 r1 P hret
  have N := P.news
  have hdis := P.dis
  obtain ⟨n1, n2, n3⟩ := news3B N
  refine wpAny_call ?_
  k_dflt (refine' defA ?k1 ?k2 ?k3 ?k4 ?kd ?k5 ?kA ?kF ?kK ?k6 ?k7 ?k8 ?k9 ?kB ?_ ?c2 ?c3 ?c4 ?c5; (case kA => exact rfl); (case kF => exact rfl); (case kK => assumption); (case k1 => k_asm); (case k2 => k_asm); (case k3 => k_asm); (case k4 => k_asm); (case kd => k_asm); (case k5 => k_asm); (case k6 => k_is); (case k7 => k_is); (case k8 => ktr_room); (case k9 => exact BindsTo.of_eq rfl); (case c5 => decide); (case kB => exact locs rfl); (case c2 => exact rfl); (case c3 => exact rfl); (case c4 => exact rfl); k_whole; intro g' L' h' FG' F' N' B' X' T' l0 G; (try dsimp only); (try k_fold))
  have hH0 := hH.1
  have hH1 := hH.2.1
  k_steps
  all_goals dsimp only [wants]
  all_goals (rename_i kF kN kD; exact hret _ _ _ _ (has_lay hH (by omega) (by omega)).1 (has_lay hH (by omega) (by omega)).2 kF (news_sub kN (sub3 (by k_mem) (by k_mem) (by k_mem))) (allNes_of (dis_sub kD (sub3 (by k_mem) (by k_mem) (by k_mem)))))) ?_
  intro q f
  simpa using Mine.hushed f 5 fun n i => i
theorem setup_KD_11 : True := by
  k_with "call ref" => ((k_here; (with_reducible show wpAny _ _ (call (Value.ref 723) _ _) _ _ _); k_dflt (refine' placeS_k ?qqB ?qqF ?qqX ?qqT ?qqhk ?qqhd ?qqhu ?qqf0 ?qqf1 ?qqf2 ?qqf3 ?qqf4 (part_of ?qqN (sub3 ?qqm0 ?qqm1 ?qqm2) ?qqS) ?_; (case qqB => k_asm); (case qqF => k_asm); (case qqX => k_asm); (case qqT => k_asm); (case qqhk => first | exact rfl | assumption); (case qqN => k_asm); (case qqm0 => k_mem); (case qqm1 => k_mem); (case qqm2 => k_mem); (case qqhd => (walk_at "room")); (case qqhu => (walk_at "units")); (case qqf0 => (walk_at "ft")); (case qqf1 => (walk_at "ft")); (case qqf2 => (walk_at "ft")); (case qqf3 => (walk_at "ft")); (case qqf4 => (walk_at "ft")); (case qqS => (walk_at "sel"))); (walk_at "cl1"); intro _ _ _ _ _ _ _ _ _; (walk_at "fin93")))
  trivial

theorem placeU_k : ∀ {w : World} {mean : ExcName → Option Value} {mg mb : Str → Option Value} {dp un : Nat} {cn : Str} {cs : Scope} {a : Addr} {ccd : Value} {cl : List (Str × Addr)} {outer : List Env} {A₀ : Around} {base h₀ : Heap} {L : Addr} {m : Str → Option Value} {s : Shared}
    {Q E : Value → Shared → Prop} {rest : List (Addr × Obj)} (B : Below A₀ base outer h₀) (F : Fr h₀ L s.heap m) (X : (Mine.hd.heap_39 w.params).In h₀) (T : Top Mine.hd.view_39 LO mean mg mb h₀) (hk : cs.kind = .function) (hd : dp + 2 < recursionLimit) (hu : un + 16 < cLine) {b : Addr} {dx : Addr} {ba : Addr} {dv : Addr} {arr : Array UInt8} {v1 : Value} {v7 : Value} {v9 : Option Value} {hd1 : Int} {ma : Int} {t1 : Tok} {t2 : Tok} {fin : Bool} {nest : Bool} {out : List UInt8} {x : Int} {tx : Tok} (hH : Has arr hd1 out) (hz : arr.size ≤ 4096) (hn : 4 ≤ hd1) (r0 : 0 ≤ x) (r1 : x ≤ 4294967295) (P : Part h₀ L s.heap [(b, BO dx ba v1 fin hd1 t1 ma t2 nest v7 v9 dv), (dx, dictOf [] 0), (ba, AO arr)] rest)
    (hret : ∀ (h' : Heap) (tk' : Nat) (arr' : Array UInt8) (t1' : Tok), Has arr' (hd1 - 4) (lay 4 x ++ out) → arr'.size = arr.size → Fr h₀ L h' m → News h₀ L h' ([(b, BO dx ba v1 fin (hd1 - 4) t1' ma t2 nest v7 v9 dv), (dx, dictOf [] 0), (ba, AO arr')] ++ rest) → AllNes [(b, BO dx ba v1 fin (hd1 - 4) t1' ma t2 nest v7 v9 dv), (dx, dictOf [] 0), (ba, AO arr')] rest → Q .none { s with heap := h', toks := tk' }),
    wpAny (model _root_.PySem.Challenge.rw_bp0005_01.row.prog w) (ktrTop dp un (some []) cn cs L a ccd cl outer) (call (.ref 730) [.ref b, .int x tx] ) Q E s := by
  refine @Mine.hush _ (by
  k_fill
  intro w mean mg mb dp un cn cs a ccd cl outer A₀ base h₀ L m s Q E rest B F X T hk hd hu b dx ba dv arr v1 v7 v9 hd1 ma t1 t2 fin nest out x tx hH hz hn r0 r1 P hret
  have N := P.news
  have hdis := P.dis
  obtain ⟨n1, n2, n3⟩ := news3B N
  refine wpAny_call ?_
  k_dflt (refine' defA ?k1 ?k2 ?k3 ?k4 ?kd ?k5 ?kA ?kF ?kK ?k6 ?k7 ?k8 ?k9 ?kB ?_ ?c2 ?c3 ?c4 ?c5; (case kA => exact rfl); (case kF => exact rfl); (case kK => assumption); (case k1 => k_asm); (case k2 => k_asm); (case k3 => k_asm); (case k4 => k_asm); (case kd => k_asm); (case k5 => k_asm); (case k6 => k_is); (case k7 => k_is); (case k8 => ktr_room); (case k9 => exact BindsTo.of_eq rfl); (case c5 => decide); (case kB => exact locs rfl); (case c2 => exact rfl); (case c3 => exact rfl); (case c4 => exact rfl); k_whole; intro g' L' h' FG' F' N' B' X' T' l0 G; (try dsimp only); (try k_fold))
  have hH0 := hH.1
  have hH1 := hH.2.1
  k_steps
  all_goals dsimp only [wants]
  all_goals (rename_i kF kN kD; exact hret _ _ _ _ (has_lay hH (by omega) (by omega)).1 (has_lay hH (by omega) (by omega)).2 kF (news_sub kN (sub3 (by k_mem) (by k_mem) (by k_mem))) (allNes_of (dis_sub kD (sub3 (by k_mem) (by k_mem) (by k_mem)))))) ?_
  intro q f
  simpa using Mine.hushed f 5 fun n i => i
theorem setup_KD_12 : True := by
  k_with "call ref" => ((k_here; (with_reducible show wpAny _ _ (call (Value.ref 730) _ _) _ _ _); k_dflt (refine' placeU_k ?qqB ?qqF ?qqX ?qqT ?qqhk ?qqhd ?qqhu ?qqf0 ?qqf1 ?qqf2 ?qqf3 ?qqf4 (part_of ?qqN (sub3 ?qqm0 ?qqm1 ?qqm2) ?qqS) ?_; (case qqB => k_asm); (case qqF => k_asm); (case qqX => k_asm); (case qqT => k_asm); (case qqhk => first | exact rfl | assumption); (case qqN => k_asm); (case qqm0 => k_mem); (case qqm1 => k_mem); (case qqm2 => k_mem); (case qqhd => (walk_at "room")); (case qqhu => (walk_at "units")); (case qqf0 => (walk_at "ft")); (case qqf1 => (walk_at "ft")); (case qqf2 => (walk_at "ft")); (case qqf3 => (walk_at "ft")); (case qqf4 => (walk_at "ft")); (case qqS => (walk_at "sel"))); (walk_at "cl1"); intro _ _ _ _ _ _ _ _ _; (walk_at "fin93")))
  trivial

theorem offset_k : ∀ {w : World} {mean : ExcName → Option Value} {mg mb : Str → Option Value} {dp un : Nat} {cn : Str} {cs : Scope} {a : Addr} {ccd : Value} {cl : List (Str × Addr)} {outer : List Env} {A₀ : Around} {base h₀ : Heap} {L : Addr} {m : Str → Option Value} {s : Shared}
    {Q E : Value → Shared → Prop} {rest : List (Addr × Obj)} (B : Below A₀ base outer h₀) (F : Fr h₀ L s.heap m) (X : (Mine.hd.heap_39 w.params).In h₀) (T : Top Mine.hd.view_39 LO mean mg mb h₀) (hk : cs.kind = .function) (hd : dp + 1 < recursionLimit) (hu : un + 8 < cLine) {b : Addr} {dx : Addr} {ba : Addr} {dv : Addr} {arr : Array UInt8} {v1 : Value} {v7 : Value} {v9 : Option Value} {hd1 : Int} {ma : Int} {t1 : Tok} {t2 : Tok} {fin : Bool} {nest : Bool} {out : List UInt8} (hH : Has arr hd1 out) (hz : arr.size ≤ 4096) (P : Part h₀ L s.heap [(b, BO dx ba v1 fin hd1 t1 ma t2 nest v7 v9 dv), (dx, dictOf [] 0), (ba, AO arr)] rest)
    (hret : ∀ (h' : Heap) (tk' : Nat) (tk2 : Tok), Fr h₀ L h' m → News h₀ L h' ([(b, BO dx ba v1 fin hd1 t1 ma t2 nest v7 v9 dv), (dx, dictOf [] 0), (ba, AO arr)] ++ rest) → AllNes [(b, BO dx ba v1 fin hd1 t1 ma t2 nest v7 v9 dv), (dx, dictOf [] 0), (ba, AO arr)] rest → Q (.int (out.length : Int) tk2) { s with heap := h', toks := tk' }),
    wpAny (model _root_.PySem.Challenge.rw_bp0005_01.row.prog w) (ktrTop dp un (some []) cn cs L a ccd cl outer) (call (.ref 404) [.ref b] ) Q E s := by
  refine @Mine.hush _ (by
  k_fill
  intro w mean mg mb dp un cn cs a ccd cl outer A₀ base h₀ L m s Q E rest B F X T hk hd hu b dx ba dv arr v1 v7 v9 hd1 ma t1 t2 fin nest out hH hz P hret
  have N := P.news
  have hdis := P.dis
  obtain ⟨n1, n2, n3⟩ := news3B N
  refine wpAny_call ?_
  k_dflt (refine' defA ?k1 ?k2 ?k3 ?k4 ?kd ?k5 ?kA ?kF ?kK ?k6 ?k7 ?k8 ?k9 ?kB ?_ ?c2 ?c3 ?c4 ?c5; (case kA => exact rfl); (case kF => exact rfl); (case kK => assumption); (case k1 => k_asm); (case k2 => k_asm); (case k3 => k_asm); (case k4 => k_asm); (case kd => k_asm); (case k5 => k_asm); (case k6 => k_is); (case k7 => k_is); (case k8 => ktr_room); (case k9 => exact BindsTo.of_eq rfl); (case c5 => decide); (case kB => exact locs rfl); (case c2 => exact rfl); (case c3 => exact rfl); (case c4 => exact rfl); k_whole; intro g' L' h' FG' F' N' B' X' T' l0 G; (try dsimp only); (try k_fold))
  k_steps
  all_goals dsimp only [wants]
  all_goals (rename_i kF kN kD; rw [← hH.len]; exact hret _ _ _ kF (news_sub kN (sub3 (by k_mem) (by k_mem) (by k_mem))) (allNes_of (dis_sub kD (sub3 (by k_mem) (by k_mem) (by k_mem)))))) ?_
  intro q f
  simpa using Mine.hushed f 5 fun n i => i
-- KE1

theorem setup_KE1_1 : True := by
  k_with_none
  k_with "wpC" => ((k_here; (with_reducible show wpC _ _ _ _ _ _); (fail_if_success (with_reducible show wpC _ _ (setItem _ _ (Value.bytes _ _)) _ _ _)); (fail_if_success (with_reducible show wpC _ _ (call (Value.ref _) _ _) _ _ _)); (fail_if_success (with_reducible show wpC _ _ (callWith _ (Value.type _) _ _ _) _ _ _)); (fail_if_success (with_reducible show wpC _ _ (call (Value.type _) _ _) _ _ _)); (refine of_any ?_)))
  k_with "wpC" => ((k_here; (with_reducible show wpC _ _ (call (Value.ref _) _ _) _ _ _); (refine' of_anyD ?qqd ?_; (case qqd => (walk_at "dirty")))))
  k_with "wpC" => ((k_here; (with_reducible show wpC _ _ (exec (Stmt.While _ _ _ _) _) _ _ _); (refine c_While ?_)))
  k_with "wpC" => ((k_here; (with_reducible show wpC _ _ (exec (Stmt.If _ _ _ _) _) _ _ _); (refine c_If ?_)))
  k_with "wpC" => ((k_here; (with_reducible show wpC _ _ (exec (Stmt.Assign [Expr.Subscript _ (Expr.Slice _ _ _ _) _] _ _) _) _ _ _); k_dflt (refine c_Assign_Subscript ?_)))
  k_with "wpC" => ((k_here; (with_reducible show wpC _ _ (exec (Stmt.Expr (Expr.Call (Expr.Attribute _ _ _) _ _ _) _) _) _ _ _); k_dflt (refine' c_ExprD ?qqd ?_; (case qqd => (walk_at "dirty")))))
  k_with "wpC" => ((k_here; (with_reducible show wpC _ _ (exec (Stmt.Return (some (Expr.Call (Expr.Attribute _ _ _) _ _ _)) _) _) _ _ _); k_dflt (refine' c_ReturnD ?qqd ?_; (case qqd => (walk_at "dirty")))))
  k_with "wpC" => ((k_here; (with_reducible show wpC _ _ (exec (Stmt.Assign [Expr.Name _ _] (Expr.Call (Expr.Attribute _ _ _) _ _ _) _) _) _ _ _); k_dflt (refine' c_AssignD ?qqd ?_; (case qqd => (walk_at "dirty")))))
  k_with "wpC" => ((k_here; (with_reducible show wpC _ _ (eval (Expr.Call (Expr.Attribute _ _ _) _ _ _) _) _ _ _); k_dflt (refine' c_MethodCallSD ?qqd ?_; (case qqd => (walk_at "dirty")))))
  k_with "wpC" => ((k_here; (with_reducible show wpC _ _ (eval (Expr.Call (Expr.Attribute _ _ _) _ _ _) _) _ _ _); k_dflt (refine' c_MethodCallD ?qqd ?_; (case qqd => (walk_at "dirty")))))
  k_with "wpC" => ((k_here; (with_reducible show wpC _ _ (exec (Stmt.Assign [Expr.Name _ _] (Expr.Call (Expr.Name (PySem.Str.ofString "Builder") _) _ _ _) _) _) _ _ _); k_dflt (refine c_Assign_Name ?_)))
  k_with "wpC" => ((k_here; (with_reducible show wpC _ _ (eval (Expr.Call (Expr.Name (PySem.Str.ofString "Builder") _) _ _ _) _) _ _ _); k_dflt (refine c_Call ?_)))
  k_with "wpC" => ((k_here; (with_reducible show wpC _ _ (exec (Stmt.Assign [Expr.Name _ _] (Expr.Call (Expr.Name (PySem.Str.ofString "_law_made") _) _ _ _) _) _) _ _ _); k_dflt (refine c_Assign_Name ?_)))
  k_with "wpC" => ((k_here; (with_reducible show wpC _ _ (eval (Expr.Call (Expr.Name (PySem.Str.ofString "_law_made") _) _ _ _) _) _ _ _); k_dflt (refine c_Call ?_)))
  k_with "wpC" => ((k_here; (with_reducible show wpC _ _ (exec (Stmt.Assign [Expr.Attribute _ _ _] (Expr.Call (Expr.Name (PySem.Str.ofString "bytearray") _) _ _ _) _) _) _ _ _); k_dflt (refine c_Assign_Attr ?_)))
  k_with "wpC" => ((k_here; (with_reducible show wpC _ _ (exec (Stmt.Assign [Expr.Name _ _] (Expr.Call (Expr.Name (PySem.Str.ofString "bytearray") _) _ _ _) _) _) _ _ _); k_dflt (refine c_Assign_Name ?_)))
  k_with "wpC" => ((k_here; (with_reducible show wpC _ _ (eval (Expr.Call (Expr.Name (PySem.Str.ofString "bytearray") _) _ _ _) _) _ _ _); k_dflt (refine c_Call ?_)))
  k_with "wpC" => ((k_here; (with_reducible show wpC _ _ (execs [] _) _ _ _); (refine c_execs_nil ?_)))
  k_with "wpC" => ((k_here; (with_reducible show wpC _ _ (execs (_ :: _) _) _ _ _); (refine c_execs_cons ?_)))
  k_with "wpC" => ((k_here; (with_reducible show wpC _ _ (callWith _ (Value.ref _) _ _ _) _ _ _); k_dflt (first | refine' c_callWith_K ?qqk1 ?qqk2 ?_; (case qqk1 => k_asm); (case qqk2 => k_is); k_whole | refine' c_callWith_S ?qqk1 ?qqk2 ?_; (case qqk1 => k_asm); (case qqk2 => k_is); k_whole | refine' c_callWith_MS ?qqk1 ?qqk2 ?qqk3 ?qqk4 ?_; (case qqk1 => k_asm); (case qqk2 => k_asm); (case qqk3 => k_mem); (case qqk4 => k_is); k_whole | refine' c_callWith_K0 ?qqk1 ?qqk2 ?_; (case qqk1 => k_in); (case qqk2 => k_is); k_whole | refine' c_callWith_KW ?qqk1 ?qqk2 ?qqk3 ?_; (case qqk1 => k_asm); (case qqk2 => k_is); (case qqk3 => exact rfl); k_whole)))
  k_with "wpC" => ((k_here; (with_reducible show wpC _ _ (callWith _ (Value.type _) _ _ _) _ _ _); k_dflt (refine' c_callWith_T ?_)))
  k_with "wpC" => ((k_here; (with_reducible show wpC _ _ (setItem (Value.ref _) (Value.ref _) (Value.bytes _ _)) _ _ _); k_dflt (refine' c_setN (s := ⟨_, _, _, _, _⟩) ?qqg ?qqF ?qqN ?qqU ?qqh ?qqej ?qqh0 ?qqhs ?qqz ?_; (case qqF => k_asm); (case qqN => k_asm); (case qqU => k_updF); (case qqh => k_asm); (case qqg => exact rfl); (case qqej => (walk_at "cl"; omega)); (case qqh0 => (walk_at "cl"; omega)); (case qqhs => ((walk_at "cl"); first | omega | (simp only [List.length_append, List.length_replicate, Array.size_replicate, lay_length, List.length_nil] at *; omega))); (case qqz => (walk_at "cl"; omega)); k_whole); intro _ _ _ _ _ _; (try k_sweep)))
  k_with "wpC" => ((k_here; (with_reducible show wpC _ _ (call (Value.type _) [Value.int _ _]) _ _ _); k_dflt (refine' c_new_int ?qqg ?qqF ?qqN ?qqh0 ?qqhz ?_; (case qqg => exact rfl); (case qqF => k_asm); (case qqN => k_asm); (case qqh0 => (walk_at "cl"; omega)); (case qqhz => (walk_at "cl"; omega)); k_whole); intro _ _ _ _ _; (try (walk_at "lt1")); (try k_sweep)))
  k_with "wpC" => ((k_here; (with_reducible show wpC _ _ (call (Value.type _) [Value.bytes _ _]) _ _ _); k_dflt (refine' c_new_bytes ?qqg ?qqF ?qqN ?qqhz ?_; (case qqg => exact rfl); (case qqF => k_asm); (case qqN => k_asm); (case qqhz => (walk_at "cl"; omega)); k_whole); intro _ _ _ _ _; (try (walk_at "lt1")); (try k_sweep)))
  k_with "LeaveM" => ((k_dflt (refine' leaveM_ ?qqk1 ?qqk2 ?_; (case qqk1 => k_asm); (case qqk2 => k_asm); k_whole); intro _ _ _; (try dsimp only [InitBack, CmpBack, LenBack, StrBack, BoolBack]); (try refine ⟨rfl, ?_⟩)))
  k_with "getMethod str" => ((k_here; (with_reducible show wpAny _ _ (getMethod (Value.str _ _) (PySem.Str.ofString "encode") _) _ _ _); k_dflt (refine' str_encode_get ?_; k_whole)))
  k_with "call builtin:str.encode" => ((k_here; k_dflt (refine' str_encode ?qqh ?qqz ?_; (case qqh => k_asm); (case qqz => (walk_at "cl"; omega)); k_whole); intro _ _))
  k_with "getAttr ref" => ((k_here; k_dflt (refine' kbm_boundS ?qqk1 ?qqk2 ?qqk3 ?qqk4 ?qqk5 ?qqk6 ?qqk6b ?qqk7 ?qqk8 ?qqk9 ?qqk10 ?qqk11 ?_; (case qqk4 => k_inst); (case qqk1 => k_asm); (case qqk2 => k_asm); (case qqk7 => k_is); (case qqk3 => k_asm); (case qqk5 => k_is); (case qqk6 => k_is); (case qqk6b => k_is); (case qqk8 => k_is); (case qqk9 => k_is); (case qqk10 => k_is); (case qqk11 => decide +kernel); k_whole); intro _ _ _ _ _; (try (walk_at "lt1")); (try k_sweep)))
  k_with "eval Name" => ((k_here; (with_reducible show wpAny _ _ (eval (Expr.Name (PySem.Str.ofString "bytearray") _) _) _ _ _); with_unfolding_all refine guard_global (by rfl) ?_; k_dflt (refine' name_B ?qqkF ?qqk1 ?qqk2 ?qqk3 ?qqk4 ?qqk5 ?_; (case qqkF => with_reducible assumption); (case qqk1 => with_reducible assumption); (case qqk2 => k_asm); (case qqk3 => k_is); (case qqk4 => boot_by_name); (case qqk5 => decide); k_whole)))
  k_with "getAttr ref" => ((k_here; (with_reducible show wpAny _ _ (getAttr (Value.ref _) _ _) _ _ _); k_dflt (refine' get_slot ?qqk1 ?qqk2 ?qqk3 ?qqk4 ?qqk5 ?qqk6 ?qqk7 ?qqk8 ?qqk9 ?qqk10 ?qqk11 ?_; (case qqk1 => with_reducible assumption); (case qqk2 => with_reducible assumption); (case qqk3 => k_inst); (case qqk4 => k_is); (case qqk5 => k_is); (case qqk6 => k_is); (case qqk7 => k_is); (case qqk8 => k_is); (case qqk9 => k_is); (case qqk10 => k_slotget); (case qqk11 => k_handed); k_whole)))
  k_with "ite" => ((k_here; k_openite; k_dflt (first | (refine ite_pos (by ((walk_at "cl"); (try simp only [decide_eq_true_eq, beq_iff_eq, bne_iff_ne, ne_eq]); omega)) ?_) | (refine ite_neg (by ((walk_at "cl"); (try simp only [decide_eq_true_eq, beq_iff_eq, bne_iff_ne, ne_eq]); omega)) ?_)); walk_say "PRUNED here"))
  k_with "binaryOp Mult bytes int" => ((k_here; k_dflt (refine' zeros_mul ?qqh0 ?qqhn ?_; (case qqh0 => (walk_at "cl"; omega)); (case qqhn => (walk_at "cl"; omega)); k_whole); intro _ _))
  k_with "call builtin:len" => ((k_here; (with_reducible show wpAny _ _ (call (Value.builtin "len") [Value.ref _]) _ _ _); k_dflt (refine' ba_lenN ?qqN ?qqm ?qqz ?_; (case qqN => k_asm); (case qqm => k_mem); (case qqz => (walk_at "cl"; omega)); k_whole)))
  k_with "setItem ref ref" => ((k_here; (with_reducible show wpAny _ _ (setItem (Value.ref _) (Value.ref _) (Value.ref _)) _ _ _); k_dflt (refine' ba_setN (s := ⟨_, _, _, _, _⟩) ?qqF ?qqN ?qqU ?qqm ?qqne ?qqh0 ?qqhs ?qqhz ?_; (case qqF => k_asm); (case qqN => k_asm); (case qqU => k_updF); (case qqm => k_mem); (case qqne => k_ne); (case qqh0 => (walk_at "cl"; omega)); (case qqhs => ((walk_at "cl"); first | omega | (simp only [List.length_append, List.length_replicate, Array.size_replicate, lay_length, List.length_nil] at *; omega))); (case qqhz => ((walk_at "cl"); first | omega | (simp only [List.length_append, List.length_replicate, Array.size_replicate, lay_length, List.length_nil] at *; omega))); k_whole); intro _ _ _ _ _ _; (try k_sweep)))
  k_with "getMethod ref" => ((k_here; (with_reducible show wpAny _ _ (getMethod (Value.ref _) (PySem.Str.ofString "unpack_from") _) _ _ _); k_dflt (refine' so_fromK ?qqX ?qqh ?_; (case qqX => k_in); (case qqh => exact rfl); k_whole)))
  k_with "getMethod ref" => ((k_here; (with_reducible show wpAny _ _ (getMethod (Value.ref _) (PySem.Str.ofString "pack_into") _) _ _ _); k_dflt (refine' so_intoK ?qqX ?qqh ?_; (case qqX => k_in); (case qqh => exact rfl); k_whole)))
  k_with "call builtin:_struct.Struct.unpack_from" => ((k_here; k_dflt (refine' so_fromN ?qqX ?qqF ?qqN ?qqh ?qqf ?qqb ?qqh0 ?qqh1 ?qqhz ?_; (case qqX => k_in); (case qqF => k_asm); (case qqN => k_asm); (case qqh => exact rfl); (case qqf => constructor); (case qqb => first | exact .inl ⟨_, rfl⟩ | exact .inr ⟨_, rfl, by k_mem⟩); (case qqh0 => (walk_at "cl"; omega)); (case qqh1 => (walk_at "cl"; omega)); (case qqhz => (walk_at "cl"; omega)); k_whole); intro _ _ _ _ _ _ _; (try (walk_at "lt1")); (try k_sweep)))
  k_with "call builtin:_struct.Struct.unpack_from" => ((k_here; k_dflt (refine' so_fromB ?qqX ?qqF ?qqN ?qqh ?qqf ?qqb ?qqh0 ?qqh1 ?qqhz ?_; (case qqX => k_in); (case qqF => k_asm); (case qqN => k_asm); (case qqh => exact rfl); (case qqf => constructor); (case qqb => exact BufIn.keep (by assumption) (by k_asm)); (case qqh0 => (walk_at "cl"; omega)); (case qqh1 => (walk_at "cl"; omega)); (case qqhz => (walk_at "cl"; omega)); k_whole); intro _ _ _ _ _ _ _; (try (walk_at "lt1")); (try k_sweep)))
  k_with "call builtin:_struct.Struct.pack_into" => ((k_here; k_dflt (refine' so_intoN ?qqX ?qqF ?qqN ?qqU ?qqh ?qqf ?qqh0 ?qqh1 ?qqhz ?qqlo ?qqhi ?_; (case qqX => k_in); (case qqF => k_asm); (case qqN => k_asm); (case qqU => k_updF); (case qqh => exact rfl); (case qqf => constructor); (case qqh0 => (walk_at "cl"; omega)); (case qqh1 => (walk_at "cl"; omega)); (case qqhz => (walk_at "cl"; omega)); (case qqlo => ((first | rw [if_neg (by decide)] | rw [if_pos (by decide)]); (try simp only [Nat.reduceMul, Nat.reduceSub, Int.reducePow, Int.reduceNeg]); walk_at "cl"; omega)); (case qqhi => ((first | rw [if_neg (by decide)] | rw [if_pos (by decide)]); (try simp only [Nat.reduceMul, Nat.reduceSub, Int.reducePow, Int.reduceNeg]); walk_at "cl"; omega)); k_whole); intro _ _ _; (try k_sweep)))
  k_with "wpC" => ((k_here; (with_reducible show wpC _ _ (call (Value.ref _) _ _) _ _ _); (walk_at "wpCc")))
  k_with "call ref" => ((k_here; (with_reducible show wpAny _ _ (call (Value.ref 730) _ _) _ _ _); k_dflt (refine' placeU_k ?qqB ?qqF ?qqX ?qqT ?qqhk ?qqhd ?qqhu ?qqf0 ?qqf1 ?qqf2 ?qqf3 ?qqf4 (part_of ?qqN (sub3 ?qqm0 ?qqm1 ?qqm2) ?qqS) ?_; (case qqB => k_asm); (case qqF => k_asm); (case qqX => k_asm); (case qqT => k_asm); (case qqhk => first | exact rfl | assumption); (case qqN => k_asm); (case qqm0 => k_mem); (case qqm1 => k_mem); (case qqm2 => k_mem); (case qqhd => (walk_at "room")); (case qqhu => (walk_at "units")); (case qqf0 => (walk_at "ft")); (case qqf1 => (walk_at "ft")); (case qqf2 => (walk_at "ft")); (case qqf3 => (walk_at "ft")); (case qqf4 => (walk_at "ft")); (case qqS => (walk_at "sel"))); (walk_at "cl1"); intro _ _ _ _ _ _ _ _ _; (walk_at "fin93")))
  k_with "call ref" => ((k_here; (with_reducible show wpAny _ _ (call (Value.ref 404) _ _) _ _ _); k_dflt (refine' offset_k ?qqB ?qqF ?qqX ?qqT ?qqhk ?qqhd ?qqhu ?qqf0 ?qqf1 (part_of ?qqN (sub3 ?qqm0 ?qqm1 ?qqm2) ?qqS) ?_; (case qqB => k_asm); (case qqF => k_asm); (case qqX => k_asm); (case qqT => k_asm); (case qqhk => first | exact rfl | assumption); (case qqN => k_asm); (case qqm0 => k_mem); (case qqm1 => k_mem); (case qqm2 => k_mem); (case qqhd => (walk_at "room")); (case qqhu => (walk_at "units")); (case qqf0 => (walk_at "ft")); (case qqf1 => (walk_at "ft")); (case qqS => (walk_at "sel"))); (walk_at "cl1"); intro _ _ _ _ _ _; (walk_at "fin93")))
  trivial

theorem notnested_k : ∀ {w : World} {mean : ExcName → Option Value} {mg mb : Str → Option Value} {dp un : Nat} {cn : Str} {cs : Scope} {a : Addr} {ccd : Value} {cl : List (Str × Addr)} {outer : List Env} {A₀ : Around} {base h₀ : Heap} {L : Addr} {m : Str → Option Value} {s : Shared}
    {Q E : Value → Shared → Prop} {rest : List (Addr × Obj)} (B : Below A₀ base outer h₀) (F : Fr h₀ L s.heap m) (X : (Mine.hd.heap_39 w.params).In h₀) (T : Top Mine.hd.view_39 LO mean mg mb h₀) (hk : cs.kind = .function) (hd : dp + 1 < recursionLimit) (hu : un + 8 < cLine) {b : Addr} {dx : Addr} {ba : Addr} {dv : Addr} {arr : Array UInt8} {v1 : Value} {v7 : Value} {v9 : Option Value} {hd1 : Int} {ma : Int} {t1 : Tok} {t2 : Tok} {fin : Bool} (P : Part h₀ L s.heap [(b, BO dx ba v1 fin hd1 t1 ma t2 false v7 v9 dv), (dx, dictOf [] 0), (ba, AO arr)] rest)
    (hret : ∀ (h' : Heap) (tk' : Nat) , Fr h₀ L h' m → News h₀ L h' ([(b, BO dx ba v1 fin hd1 t1 ma t2 false v7 v9 dv), (dx, dictOf [] 0), (ba, AO arr)] ++ rest) → AllNes [(b, BO dx ba v1 fin hd1 t1 ma t2 false v7 v9 dv), (dx, dictOf [] 0), (ba, AO arr)] rest → Q .none { s with heap := h', toks := tk' }),
    wpAny (model _root_.PySem.Challenge.rw_bp0005_01.row.prog w) (ktrTop dp un (some []) cn cs L a ccd cl outer) (call (.ref 482) [.ref b] ) Q E s := by
  refine @Mine.hush _ (by
  k_fill
  intro w mean mg mb dp un cn cs a ccd cl outer A₀ base h₀ L m s Q E rest B F X T hk hd hu b dx ba dv arr v1 v7 v9 hd1 ma t1 t2 fin P hret
  have N := P.news
  have hdis := P.dis
  obtain ⟨n1, n2, n3⟩ := news3B N
  refine wpAny_call ?_
  k_dflt (refine' defA ?k1 ?k2 ?k3 ?k4 ?kd ?k5 ?kA ?kF ?kK ?k6 ?k7 ?k8 ?k9 ?kB ?_ ?c2 ?c3 ?c4 ?c5; (case kA => exact rfl); (case kF => exact rfl); (case kK => assumption); (case k1 => k_asm); (case k2 => k_asm); (case k3 => k_asm); (case k4 => k_asm); (case kd => k_asm); (case k5 => k_asm); (case k6 => k_is); (case k7 => k_is); (case k8 => ktr_room); (case k9 => exact BindsTo.of_eq rfl); (case c5 => decide); (case kB => exact locs rfl); (case c2 => exact rfl); (case c3 => exact rfl); (case c4 => exact rfl); k_whole; intro g' L' h' FG' F' N' B' X' T' l0 G; (try dsimp only); (try k_fold))
  k_steps
  all_goals dsimp only [wants]
  all_goals (rename_i kF kN kD; exact hret _ _ kF (news_sub kN (sub3 (by k_mem) (by k_mem) (by k_mem))) (allNes_of (dis_sub kD (sub3 (by k_mem) (by k_mem) (by k_mem)))))) ?_
  intro q f
  simpa using Mine.hushed f 5 fun n i => i
theorem setup_KE1_2 : True := by
  k_with "call ref" => ((k_here; (with_reducible show wpAny _ _ (call (Value.ref 482) _ _) _ _ _); k_dflt (refine' notnested_k ?qqB ?qqF ?qqX ?qqT ?qqhk ?qqhd ?qqhu  (part_of ?qqN (sub3 ?qqm0 ?qqm1 ?qqm2) ?qqS) ?_; (case qqB => k_asm); (case qqF => k_asm); (case qqX => k_asm); (case qqT => k_asm); (case qqhk => first | exact rfl | assumption); (case qqN => k_asm); (case qqm0 => k_mem); (case qqm1 => k_mem); (case qqm2 => k_mem); (case qqhd => (walk_at "room")); (case qqhu => (walk_at "units")); (case qqS => (walk_at "sel"))); (walk_at "cl1"); intro _ _  _ _ _; (walk_at "fin93")))
  trivial

theorem nested_k : ∀ {w : World} {mean : ExcName → Option Value} {mg mb : Str → Option Value} {dp un : Nat} {cn : Str} {cs : Scope} {a : Addr} {ccd : Value} {cl : List (Str × Addr)} {outer : List Env} {A₀ : Around} {base h₀ : Heap} {L : Addr} {m : Str → Option Value} {s : Shared}
    {Q E : Value → Shared → Prop} {rest : List (Addr × Obj)} (B : Below A₀ base outer h₀) (F : Fr h₀ L s.heap m) (X : (Mine.hd.heap_39 w.params).In h₀) (T : Top Mine.hd.view_39 LO mean mg mb h₀) (hk : cs.kind = .function) (hd : dp + 1 < recursionLimit) (hu : un + 8 < cLine) {b : Addr} {dx : Addr} {ba : Addr} {dv : Addr} {arr : Array UInt8} {v1 : Value} {v7 : Value} {v9 : Option Value} {hd1 : Int} {ma : Int} {t1 : Tok} {t2 : Tok} {fin : Bool} (P : Part h₀ L s.heap [(b, BO dx ba v1 fin hd1 t1 ma t2 true v7 v9 dv), (dx, dictOf [] 0), (ba, AO arr)] rest)
    (hret : ∀ (h' : Heap) (tk' : Nat) , Fr h₀ L h' m → News h₀ L h' ([(b, BO dx ba v1 fin hd1 t1 ma t2 true v7 v9 dv), (dx, dictOf [] 0), (ba, AO arr)] ++ rest) → AllNes [(b, BO dx ba v1 fin hd1 t1 ma t2 true v7 v9 dv), (dx, dictOf [] 0), (ba, AO arr)] rest → Q .none { s with heap := h', toks := tk' }),
    wpAny (model _root_.PySem.Challenge.rw_bp0005_01.row.prog w) (ktrTop dp un (some []) cn cs L a ccd cl outer) (call (.ref 475) [.ref b] ) Q E s := by
  refine @Mine.hush _ (by
  k_fill
  intro w mean mg mb dp un cn cs a ccd cl outer A₀ base h₀ L m s Q E rest B F X T hk hd hu b dx ba dv arr v1 v7 v9 hd1 ma t1 t2 fin P hret
  have N := P.news
  have hdis := P.dis
  obtain ⟨n1, n2, n3⟩ := news3B N
  refine wpAny_call ?_
  k_dflt (refine' defA ?k1 ?k2 ?k3 ?k4 ?kd ?k5 ?kA ?kF ?kK ?k6 ?k7 ?k8 ?k9 ?kB ?_ ?c2 ?c3 ?c4 ?c5; (case kA => exact rfl); (case kF => exact rfl); (case kK => assumption); (case k1 => k_asm); (case k2 => k_asm); (case k3 => k_asm); (case k4 => k_asm); (case kd => k_asm); (case k5 => k_asm); (case k6 => k_is); (case k7 => k_is); (case k8 => ktr_room); (case k9 => exact BindsTo.of_eq rfl); (case c5 => decide); (case kB => exact locs rfl); (case c2 => exact rfl); (case c3 => exact rfl); (case c4 => exact rfl); k_whole; intro g' L' h' FG' F' N' B' X' T' l0 G; (try dsimp only); (try k_fold))
  k_steps
  all_goals dsimp only [wants]
  all_goals (rename_i kF kN kD; exact hret _ _ kF (news_sub kN (sub3 (by k_mem) (by k_mem) (by k_mem))) (allNes_of (dis_sub kD (sub3 (by k_mem) (by k_mem) (by k_mem)))))) ?_
  intro q f
  simpa using Mine.hushed f 5 fun n i => i
theorem setup_KE1_3 : True := by
  k_with "call ref" => ((k_here; (with_reducible show wpAny _ _ (call (Value.ref 475) _ _) _ _ _); k_dflt (refine' nested_k ?qqB ?qqF ?qqX ?qqT ?qqhk ?qqhd ?qqhu  (part_of ?qqN (sub3 ?qqm0 ?qqm1 ?qqm2) ?qqS) ?_; (case qqB => k_asm); (case qqF => k_asm); (case qqX => k_asm); (case qqT => k_asm); (case qqhk => first | exact rfl | assumption); (case qqN => k_asm); (case qqm0 => k_mem); (case qqm1 => k_mem); (case qqm2 => k_mem); (case qqhd => (walk_at "room")); (case qqhu => (walk_at "units")); (case qqS => (walk_at "sel"))); (walk_at "cl1"); intro _ _  _ _ _; (walk_at "fin93")))
  trivial

theorem endvec_k : ∀ {w : World} {mean : ExcName → Option Value} {mg mb : Str → Option Value} {dp un : Nat} {cn : Str} {cs : Scope} {a : Addr} {ccd : Value} {cl : List (Str × Addr)} {outer : List Env} {A₀ : Around} {base h₀ : Heap} {L : Addr} {m : Str → Option Value} {s : Shared}
    {Q E : Value → Shared → Prop} {rest : List (Addr × Obj)} (B : Below A₀ base outer h₀) (F : Fr h₀ L s.heap m) (X : (Mine.hd.heap_39 w.params).In h₀) (T : Top Mine.hd.view_39 LO mean mg mb h₀) (hk : cs.kind = .function) (hd : dp + 3 < recursionLimit) (hu : un + 24 < cLine) {b : Addr} {dx : Addr} {ba : Addr} {dv : Addr} {arr : Array UInt8} {v1 : Value} {v7 : Value} {hd1 : Int} {ma : Int} {t1 : Tok} {t2 : Tok} {fin : Bool} {out : List UInt8} {ne : Int} {te : Tok} (hH : Has arr hd1 out) (hz : arr.size ≤ 4096) (hn : 4 ≤ hd1) (r0 : 0 ≤ ne) (r1 : ne ≤ 4294967295) (P : Part h₀ L s.heap [(b, BO dx ba v1 fin hd1 t1 ma t2 true v7 (some (.int ne te)) dv), (dx, dictOf [] 0), (ba, AO arr)] rest)
    (hret : ∀ (h' : Heap) (tk' : Nat) (arr' : Array UInt8) (t1' : Tok) (tk2 : Tok), Has arr' (hd1 - 4) (lay 4 ne ++ out) → arr'.size = arr.size → Fr h₀ L h' m → News h₀ L h' ([(b, BO dx ba v1 fin (hd1 - 4) t1' ma t2 false v7 (some .none) dv), (dx, dictOf [] 0), (ba, AO arr')] ++ rest) → AllNes [(b, BO dx ba v1 fin (hd1 - 4) t1' ma t2 false v7 (some .none) dv), (dx, dictOf [] 0), (ba, AO arr')] rest → Q (.int ((out.length : Int) + 4) tk2) { s with heap := h', toks := tk' }),
    wpAny (model _root_.PySem.Challenge.rw_bp0005_01.row.prog w) (ktrTop dp un (some []) cn cs L a ccd cl outer) (call (.ref 447) [.ref b] ) Q E s := by
  refine @Mine.hush _ (by
  k_fill
  intro w mean mg mb dp un cn cs a ccd cl outer A₀ base h₀ L m s Q E rest B F X T hk hd hu b dx ba dv arr v1 v7 hd1 ma t1 t2 fin out ne te hH hz hn r0 r1 P hret
  have N := P.news
  have hdis := P.dis
  obtain ⟨n1, n2, n3⟩ := news3B N
  refine wpAny_call ?_
  k_dflt (refine' defA ?k1 ?k2 ?k3 ?k4 ?kd ?k5 ?kA ?kF ?kK ?k6 ?k7 ?k8 ?k9 ?kB ?_ ?c2 ?c3 ?c4 ?c5; (case kA => exact rfl); (case kF => exact rfl); (case kK => assumption); (case k1 => k_asm); (case k2 => k_asm); (case k3 => k_asm); (case k4 => k_asm); (case kd => k_asm); (case k5 => k_asm); (case k6 => k_is); (case k7 => k_is); (case k8 => ktr_room); (case k9 => exact binds_K (by k_in) rfl (by k_is) rfl rfl rfl); (case c5 => decide); (case kB => exact locs rfl); (case c2 => exact rfl); (case c3 => exact rfl); (case c4 => exact rfl); k_whole; intro g' L' h' FG' F' N' B' X' T' l0 G; (try dsimp only); (try k_fold))
  k_steps
  all_goals dsimp only [wants]
  all_goals (rename_i kF kN kD; rw [lay_app]; exact hret _ _ _ _ _ (by assumption) (by omega) kF (news_sub kN (sub3 (by k_mem) (by k_mem) (by k_mem))) (allNes_of (dis_sub kD (sub3 (by k_mem) (by k_mem) (by k_mem)))))) ?_
  intro q f
  simpa using Mine.hushed f 5 fun n i => i
-- KF

theorem setup_KF_1 : True := by
  k_with_none
  k_with "wpC" => ((k_here; (with_reducible show wpC _ _ _ _ _ _); (fail_if_success (with_reducible show wpC _ _ (setItem _ _ (Value.bytes _ _)) _ _ _)); (fail_if_success (with_reducible show wpC _ _ (call (Value.ref _) _ _) _ _ _)); (fail_if_success (with_reducible show wpC _ _ (callWith _ (Value.type _) _ _ _) _ _ _)); (fail_if_success (with_reducible show wpC _ _ (call (Value.type _) _ _) _ _ _)); (refine of_any ?_)))
  k_with "wpC" => ((k_here; (with_reducible show wpC _ _ (call (Value.ref _) _ _) _ _ _); (refine' of_anyD ?qqd ?_; (case qqd => (walk_at "dirty")))))
  k_with "wpC" => ((k_here; (with_reducible show wpC _ _ (exec (Stmt.While _ _ _ _) _) _ _ _); (refine c_While ?_)))
  k_with "wpC" => ((k_here; (with_reducible show wpC _ _ (exec (Stmt.If _ _ _ _) _) _ _ _); (refine c_If ?_)))
  k_with "wpC" => ((k_here; (with_reducible show wpC _ _ (exec (Stmt.Assign [Expr.Subscript _ (Expr.Slice _ _ _ _) _] _ _) _) _ _ _); k_dflt (refine c_Assign_Subscript ?_)))
  k_with "wpC" => ((k_here; (with_reducible show wpC _ _ (exec (Stmt.Expr (Expr.Call (Expr.Attribute _ _ _) _ _ _) _) _) _ _ _); k_dflt (refine' c_ExprD ?qqd ?_; (case qqd => (walk_at "dirty")))))
  k_with "wpC" => ((k_here; (with_reducible show wpC _ _ (exec (Stmt.Return (some (Expr.Call (Expr.Attribute _ _ _) _ _ _)) _) _) _ _ _); k_dflt (refine' c_ReturnD ?qqd ?_; (case qqd => (walk_at "dirty")))))
  k_with "wpC" => ((k_here; (with_reducible show wpC _ _ (exec (Stmt.Assign [Expr.Name _ _] (Expr.Call (Expr.Attribute _ _ _) _ _ _) _) _) _ _ _); k_dflt (refine' c_AssignD ?qqd ?_; (case qqd => (walk_at "dirty")))))
  k_with "wpC" => ((k_here; (with_reducible show wpC _ _ (eval (Expr.Call (Expr.Attribute _ _ _) _ _ _) _) _ _ _); k_dflt (refine' c_MethodCallSD ?qqd ?_; (case qqd => (walk_at "dirty")))))
  k_with "wpC" => ((k_here; (with_reducible show wpC _ _ (eval (Expr.Call (Expr.Attribute _ _ _) _ _ _) _) _ _ _); k_dflt (refine' c_MethodCallD ?qqd ?_; (case qqd => (walk_at "dirty")))))
  k_with "wpC" => ((k_here; (with_reducible show wpC _ _ (exec (Stmt.Assign [Expr.Name _ _] (Expr.Call (Expr.Name (PySem.Str.ofString "Builder") _) _ _ _) _) _) _ _ _); k_dflt (refine c_Assign_Name ?_)))
  k_with "wpC" => ((k_here; (with_reducible show wpC _ _ (eval (Expr.Call (Expr.Name (PySem.Str.ofString "Builder") _) _ _ _) _) _ _ _); k_dflt (refine c_Call ?_)))
  k_with "wpC" => ((k_here; (with_reducible show wpC _ _ (exec (Stmt.Assign [Expr.Name _ _] (Expr.Call (Expr.Name (PySem.Str.ofString "_law_made") _) _ _ _) _) _) _ _ _); k_dflt (refine c_Assign_Name ?_)))
  k_with "wpC" => ((k_here; (with_reducible show wpC _ _ (eval (Expr.Call (Expr.Name (PySem.Str.ofString "_law_made") _) _ _ _) _) _ _ _); k_dflt (refine c_Call ?_)))
  k_with "wpC" => ((k_here; (with_reducible show wpC _ _ (exec (Stmt.Assign [Expr.Attribute _ _ _] (Expr.Call (Expr.Name (PySem.Str.ofString "bytearray") _) _ _ _) _) _) _ _ _); k_dflt (refine c_Assign_Attr ?_)))
  k_with "wpC" => ((k_here; (with_reducible show wpC _ _ (exec (Stmt.Assign [Expr.Name _ _] (Expr.Call (Expr.Name (PySem.Str.ofString "bytearray") _) _ _ _) _) _) _ _ _); k_dflt (refine c_Assign_Name ?_)))
  k_with "wpC" => ((k_here; (with_reducible show wpC _ _ (eval (Expr.Call (Expr.Name (PySem.Str.ofString "bytearray") _) _ _ _) _) _ _ _); k_dflt (refine c_Call ?_)))
  k_with "wpC" => ((k_here; (with_reducible show wpC _ _ (execs [] _) _ _ _); (refine c_execs_nil ?_)))
  k_with "wpC" => ((k_here; (with_reducible show wpC _ _ (execs (_ :: _) _) _ _ _); (refine c_execs_cons ?_)))
  k_with "wpC" => ((k_here; (with_reducible show wpC _ _ (callWith _ (Value.ref _) _ _ _) _ _ _); k_dflt (first | refine' c_callWith_K ?qqk1 ?qqk2 ?_; (case qqk1 => k_asm); (case qqk2 => k_is); k_whole | refine' c_callWith_S ?qqk1 ?qqk2 ?_; (case qqk1 => k_asm); (case qqk2 => k_is); k_whole | refine' c_callWith_MS ?qqk1 ?qqk2 ?qqk3 ?qqk4 ?_; (case qqk1 => k_asm); (case qqk2 => k_asm); (case qqk3 => k_mem); (case qqk4 => k_is); k_whole | refine' c_callWith_K0 ?qqk1 ?qqk2 ?_; (case qqk1 => k_in); (case qqk2 => k_is); k_whole | refine' c_callWith_KW ?qqk1 ?qqk2 ?qqk3 ?_; (case qqk1 => k_asm); (case qqk2 => k_is); (case qqk3 => exact rfl); k_whole)))
  k_with "wpC" => ((k_here; (with_reducible show wpC _ _ (callWith _ (Value.type _) _ _ _) _ _ _); k_dflt (refine' c_callWith_T ?_)))
  k_with "wpC" => ((k_here; (with_reducible show wpC _ _ (setItem (Value.ref _) (Value.ref _) (Value.bytes _ _)) _ _ _); k_dflt (refine' c_setN (s := ⟨_, _, _, _, _⟩) ?qqg ?qqF ?qqN ?qqU ?qqh ?qqej ?qqh0 ?qqhs ?qqz ?_; (case qqF => k_asm); (case qqN => k_asm); (case qqU => k_updF); (case qqh => k_asm); (case qqg => exact rfl); (case qqej => (walk_at "cl"; omega)); (case qqh0 => (walk_at "cl"; omega)); (case qqhs => ((walk_at "cl"); first | omega | (simp only [List.length_append, List.length_replicate, Array.size_replicate, lay_length, List.length_nil] at *; omega))); (case qqz => (walk_at "cl"; omega)); k_whole); intro _ _ _ _ _ _; (try k_sweep)))
  k_with "wpC" => ((k_here; (with_reducible show wpC _ _ (call (Value.type _) [Value.int _ _]) _ _ _); k_dflt (refine' c_new_int ?qqg ?qqF ?qqN ?qqh0 ?qqhz ?_; (case qqg => exact rfl); (case qqF => k_asm); (case qqN => k_asm); (case qqh0 => (walk_at "cl"; omega)); (case qqhz => (walk_at "cl"; omega)); k_whole); intro _ _ _ _ _; (try (walk_at "lt1")); (try k_sweep)))
  k_with "wpC" => ((k_here; (with_reducible show wpC _ _ (call (Value.type _) [Value.bytes _ _]) _ _ _); k_dflt (refine' c_new_bytes ?qqg ?qqF ?qqN ?qqhz ?_; (case qqg => exact rfl); (case qqF => k_asm); (case qqN => k_asm); (case qqhz => (walk_at "cl"; omega)); k_whole); intro _ _ _ _ _; (try (walk_at "lt1")); (try k_sweep)))
  k_with "LeaveM" => ((k_dflt (refine' leaveM_ ?qqk1 ?qqk2 ?_; (case qqk1 => k_asm); (case qqk2 => k_asm); k_whole); intro _ _ _; (try dsimp only [InitBack, CmpBack, LenBack, StrBack, BoolBack]); (try refine ⟨rfl, ?_⟩)))
  k_with "getMethod str" => ((k_here; (with_reducible show wpAny _ _ (getMethod (Value.str _ _) (PySem.Str.ofString "encode") _) _ _ _); k_dflt (refine' str_encode_get ?_; k_whole)))
  k_with "call builtin:str.encode" => ((k_here; k_dflt (refine' str_encode ?qqh ?qqz ?_; (case qqh => k_asm); (case qqz => (walk_at "cl"; omega)); k_whole); intro _ _))
  k_with "getAttr ref" => ((k_here; k_dflt (refine' kbm_boundS ?qqk1 ?qqk2 ?qqk3 ?qqk4 ?qqk5 ?qqk6 ?qqk6b ?qqk7 ?qqk8 ?qqk9 ?qqk10 ?qqk11 ?_; (case qqk4 => k_inst); (case qqk1 => k_asm); (case qqk2 => k_asm); (case qqk7 => k_is); (case qqk3 => k_asm); (case qqk5 => k_is); (case qqk6 => k_is); (case qqk6b => k_is); (case qqk8 => k_is); (case qqk9 => k_is); (case qqk10 => k_is); (case qqk11 => decide +kernel); k_whole); intro _ _ _ _ _; (try (walk_at "lt1")); (try k_sweep)))
  k_with "eval Name" => ((k_here; (with_reducible show wpAny _ _ (eval (Expr.Name (PySem.Str.ofString "bytearray") _) _) _ _ _); with_unfolding_all refine guard_global (by rfl) ?_; k_dflt (refine' name_B ?qqkF ?qqk1 ?qqk2 ?qqk3 ?qqk4 ?qqk5 ?_; (case qqkF => with_reducible assumption); (case qqk1 => with_reducible assumption); (case qqk2 => k_asm); (case qqk3 => k_is); (case qqk4 => boot_by_name); (case qqk5 => decide); k_whole)))
  k_with "getAttr ref" => ((k_here; (with_reducible show wpAny _ _ (getAttr (Value.ref _) _ _) _ _ _); k_dflt (refine' get_slot ?qqk1 ?qqk2 ?qqk3 ?qqk4 ?qqk5 ?qqk6 ?qqk7 ?qqk8 ?qqk9 ?qqk10 ?qqk11 ?_; (case qqk1 => with_reducible assumption); (case qqk2 => with_reducible assumption); (case qqk3 => k_inst); (case qqk4 => k_is); (case qqk5 => k_is); (case qqk6 => k_is); (case qqk7 => k_is); (case qqk8 => k_is); (case qqk9 => k_is); (case qqk10 => k_slotget); (case qqk11 => k_handed); k_whole)))
  k_with "ite" => ((k_here; k_openite; k_dflt (first | (refine ite_pos (by ((walk_at "cl"); (try simp only [decide_eq_true_eq, beq_iff_eq, bne_iff_ne, ne_eq]); omega)) ?_) | (refine ite_neg (by ((walk_at "cl"); (try simp only [decide_eq_true_eq, beq_iff_eq, bne_iff_ne, ne_eq]); omega)) ?_)); walk_say "PRUNED here"))
  k_with "binaryOp Mult bytes int" => ((k_here; k_dflt (refine' zeros_mul ?qqh0 ?qqhn ?_; (case qqh0 => (walk_at "cl"; omega)); (case qqhn => (walk_at "cl"; omega)); k_whole); intro _ _))
  k_with "call builtin:len" => ((k_here; (with_reducible show wpAny _ _ (call (Value.builtin "len") [Value.ref _]) _ _ _); k_dflt (refine' ba_lenN ?qqN ?qqm ?qqz ?_; (case qqN => k_asm); (case qqm => k_mem); (case qqz => (walk_at "cl"; omega)); k_whole)))
  k_with "setItem ref ref" => ((k_here; (with_reducible show wpAny _ _ (setItem (Value.ref _) (Value.ref _) (Value.ref _)) _ _ _); k_dflt (refine' ba_setN (s := ⟨_, _, _, _, _⟩) ?qqF ?qqN ?qqU ?qqm ?qqne ?qqh0 ?qqhs ?qqhz ?_; (case qqF => k_asm); (case qqN => k_asm); (case qqU => k_updF); (case qqm => k_mem); (case qqne => k_ne); (case qqh0 => (walk_at "cl"; omega)); (case qqhs => ((walk_at "cl"); first | omega | (simp only [List.length_append, List.length_replicate, Array.size_replicate, lay_length, List.length_nil] at *; omega))); (case qqhz => ((walk_at "cl"); first | omega | (simp only [List.length_append, List.length_replicate, Array.size_replicate, lay_length, List.length_nil] at *; omega))); k_whole); intro _ _ _ _ _ _; (try k_sweep)))
  k_with "getMethod ref" => ((k_here; (with_reducible show wpAny _ _ (getMethod (Value.ref _) (PySem.Str.ofString "unpack_from") _) _ _ _); k_dflt (refine' so_fromK ?qqX ?qqh ?_; (case qqX => k_in); (case qqh => exact rfl); k_whole)))
  k_with "getMethod ref" => ((k_here; (with_reducible show wpAny _ _ (getMethod (Value.ref _) (PySem.Str.ofString "pack_into") _) _ _ _); k_dflt (refine' so_intoK ?qqX ?qqh ?_; (case qqX => k_in); (case qqh => exact rfl); k_whole)))
  k_with "call builtin:_struct.Struct.unpack_from" => ((k_here; k_dflt (refine' so_fromN ?qqX ?qqF ?qqN ?qqh ?qqf ?qqb ?qqh0 ?qqh1 ?qqhz ?_; (case qqX => k_in); (case qqF => k_asm); (case qqN => k_asm); (case qqh => exact rfl); (case qqf => constructor); (case qqb => first | exact .inl ⟨_, rfl⟩ | exact .inr ⟨_, rfl, by k_mem⟩); (case qqh0 => (walk_at "cl"; omega)); (case qqh1 => (walk_at "cl"; omega)); (case qqhz => (walk_at "cl"; omega)); k_whole); intro _ _ _ _ _ _ _; (try (walk_at "lt1")); (try k_sweep)))
  k_with "call builtin:_struct.Struct.unpack_from" => ((k_here; k_dflt (refine' so_fromB ?qqX ?qqF ?qqN ?qqh ?qqf ?qqb ?qqh0 ?qqh1 ?qqhz ?_; (case qqX => k_in); (case qqF => k_asm); (case qqN => k_asm); (case qqh => exact rfl); (case qqf => constructor); (case qqb => exact BufIn.keep (by assumption) (by k_asm)); (case qqh0 => (walk_at "cl"; omega)); (case qqh1 => (walk_at "cl"; omega)); (case qqhz => (walk_at "cl"; omega)); k_whole); intro _ _ _ _ _ _ _; (try (walk_at "lt1")); (try k_sweep)))
  k_with "call builtin:_struct.Struct.pack_into" => ((k_here; k_dflt (refine' so_intoN ?qqX ?qqF ?qqN ?qqU ?qqh ?qqf ?qqh0 ?qqh1 ?qqhz ?qqlo ?qqhi ?_; (case qqX => k_in); (case qqF => k_asm); (case qqN => k_asm); (case qqU => k_updF); (case qqh => exact rfl); (case qqf => constructor); (case qqh0 => (walk_at "cl"; omega)); (case qqh1 => (walk_at "cl"; omega)); (case qqhz => (walk_at "cl"; omega)); (case qqlo => ((first | rw [if_neg (by decide)] | rw [if_pos (by decide)]); (try simp only [Nat.reduceMul, Nat.reduceSub, Int.reducePow, Int.reduceNeg]); walk_at "cl"; omega)); (case qqhi => ((first | rw [if_neg (by decide)] | rw [if_pos (by decide)]); (try simp only [Nat.reduceMul, Nat.reduceSub, Int.reducePow, Int.reduceNeg]); walk_at "cl"; omega)); k_whole); intro _ _ _; (try k_sweep)))
  k_with "wpC" => ((k_here; (with_reducible show wpC _ _ (call (Value.ref _) _ _) _ _ _); (walk_at "wpCc")))
  k_with "wpCc" => ((k_here; (with_reducible show wpC _ _ (call (Value.ref 418) _ _) _ _ _); k_dflt (refine' prep_k ?qqB ?qqF ?qqX ?qqT ?qqhk ?qqhd ?qqhu ?qqf0 ?qqf1 ?qqf2 ?qqf3 ?qqf4 (part_of ?qqN (sub3 ?qqm0 ?qqm1 ?qqm2) ?qqS) ?_; (case qqB => k_asm); (case qqF => k_asm); (case qqX => k_asm); (case qqT => k_asm); (case qqhk => first | exact rfl | assumption); (case qqN => k_asm); (case qqm0 => k_mem); (case qqm1 => k_mem); (case qqm2 => k_mem); (case qqhd => (walk_at "room")); (case qqhu => (walk_at "units")); (case qqf0 => (walk_at "ft")); (case qqf1 => (walk_at "ft")); (case qqf2 => (walk_at "ft")); (case qqf3 => (walk_at "ft")); (case qqf4 => (walk_at "ft")); (case qqS => (walk_at "sel"))); (walk_at "cl1"); intro _ _ _ _ _ _ _ _ _ _ _ _ _ _ _ _ _ _; (walk_at "fin93")))
  k_with "call ref" => ((k_here; (with_reducible show wpAny _ _ (call (Value.ref 709) [_, _, Value.ref 63] _) _ _ _); k_dflt (refine' place63_k ?qqB ?qqF ?qqX ?qqT ?qqhk ?qqhd ?qqhu ?qqf0 ?qqf1 ?qqf2 ?qqf3 ?qqf4 (part_of ?qqN (sub3 ?qqm0 ?qqm1 ?qqm2) ?qqS) ?_; (case qqB => k_asm); (case qqF => k_asm); (case qqX => k_asm); (case qqT => k_asm); (case qqhk => first | exact rfl | assumption); (case qqN => k_asm); (case qqm0 => k_mem); (case qqm1 => k_mem); (case qqm2 => k_mem); (case qqhd => (walk_at "room")); (case qqhu => (walk_at "units")); (case qqf0 => (walk_at "ft")); (case qqf1 => (walk_at "ft")); (case qqf2 => (walk_at "ft")); (case qqf3 => (walk_at "ft")); (case qqf4 => (walk_at "ft")); (case qqS => (walk_at "sel"))); (walk_at "cl1"); intro _ _ _ _ _ _ _ _ _; (walk_at "fin93")))
  k_with "call ref" => ((k_here; (with_reducible show wpAny _ _ (call (Value.ref 709) [_, _, Value.ref 77] _) _ _ _); k_dflt (refine' place77_k ?qqB ?qqF ?qqX ?qqT ?qqhk ?qqhd ?qqhu ?qqf0 ?qqf1 ?qqf2 ?qqf3 ?qqf4 (part_of ?qqN (sub3 ?qqm0 ?qqm1 ?qqm2) ?qqS) ?_; (case qqB => k_asm); (case qqF => k_asm); (case qqX => k_asm); (case qqT => k_asm); (case qqhk => first | exact rfl | assumption); (case qqN => k_asm); (case qqm0 => k_mem); (case qqm1 => k_mem); (case qqm2 => k_mem); (case qqhd => (walk_at "room")); (case qqhu => (walk_at "units")); (case qqf0 => (walk_at "ft")); (case qqf1 => (walk_at "ft")); (case qqf2 => (walk_at "ft")); (case qqf3 => (walk_at "ft")); (case qqf4 => (walk_at "ft")); (case qqS => (walk_at "sel"))); (walk_at "cl1"); intro _ _ _ _ _ _ _ _ _; (walk_at "fin93")))
  k_with "call ref" => ((k_here; (with_reducible show wpAny _ _ (call (Value.ref 709) [_, _, Value.ref 91] _) _ _ _); k_dflt (refine' place91_k ?qqB ?qqF ?qqX ?qqT ?qqhk ?qqhd ?qqhu ?qqf0 ?qqf1 ?qqf2 ?qqf3 ?qqf4 (part_of ?qqN (sub3 ?qqm0 ?qqm1 ?qqm2) ?qqS) ?_; (case qqB => k_asm); (case qqF => k_asm); (case qqX => k_asm); (case qqT => k_asm); (case qqhk => first | exact rfl | assumption); (case qqN => k_asm); (case qqm0 => k_mem); (case qqm1 => k_mem); (case qqm2 => k_mem); (case qqhd => (walk_at "room")); (case qqhu => (walk_at "units")); (case qqf0 => (walk_at "ft")); (case qqf1 => (walk_at "ft")); (case qqf2 => (walk_at "ft")); (case qqf3 => (walk_at "ft")); (case qqf4 => (walk_at "ft")); (case qqS => (walk_at "sel"))); (walk_at "cl1"); intro _ _ _ _ _ _ _ _ _; (walk_at "fin93")))
  k_with "call ref" => ((k_here; (with_reducible show wpAny _ _ (call (Value.ref 709) [_, _, Value.ref 105] _) _ _ _); k_dflt (refine' place105_k ?qqB ?qqF ?qqX ?qqT ?qqhk ?qqhd ?qqhu ?qqf0 ?qqf1 ?qqf2 ?qqf3 ?qqf4 (part_of ?qqN (sub3 ?qqm0 ?qqm1 ?qqm2) ?qqS) ?_; (case qqB => k_asm); (case qqF => k_asm); (case qqX => k_asm); (case qqT => k_asm); (case qqhk => first | exact rfl | assumption); (case qqN => k_asm); (case qqm0 => k_mem); (case qqm1 => k_mem); (case qqm2 => k_mem); (case qqhd => (walk_at "room")); (case qqhu => (walk_at "units")); (case qqf0 => (walk_at "ft")); (case qqf1 => (walk_at "ft")); (case qqf2 => (walk_at "ft")); (case qqf3 => (walk_at "ft")); (case qqf4 => (walk_at "ft")); (case qqS => (walk_at "sel"))); (walk_at "cl1"); intro _ _ _ _ _ _ _ _ _; (walk_at "fin93")))
  k_with "call ref" => ((k_here; (with_reducible show wpAny _ _ (call (Value.ref 709) [_, _, Value.ref 143] _) _ _ _); k_dflt (refine' place143_k ?qqB ?qqF ?qqX ?qqT ?qqhk ?qqhd ?qqhu ?qqf0 ?qqf1 ?qqf2 ?qqf3 ?qqf4 (part_of ?qqN (sub3 ?qqm0 ?qqm1 ?qqm2) ?qqS) ?_; (case qqB => k_asm); (case qqF => k_asm); (case qqX => k_asm); (case qqT => k_asm); (case qqhk => first | exact rfl | assumption); (case qqN => k_asm); (case qqm0 => k_mem); (case qqm1 => k_mem); (case qqm2 => k_mem); (case qqhd => (walk_at "room")); (case qqhu => (walk_at "units")); (case qqf0 => (walk_at "ft")); (case qqf1 => (walk_at "ft")); (case qqf2 => (walk_at "ft")); (case qqf3 => (walk_at "ft")); (case qqf4 => (walk_at "ft")); (case qqS => (walk_at "sel"))); (walk_at "cl1"); intro _ _ _ _ _ _ _ _ _; (walk_at "fin93")))
  k_with "call ref" => ((k_here; (with_reducible show wpAny _ _ (call (Value.ref 723) _ _) _ _ _); k_dflt (refine' placeS_k ?qqB ?qqF ?qqX ?qqT ?qqhk ?qqhd ?qqhu ?qqf0 ?qqf1 ?qqf2 ?qqf3 ?qqf4 (part_of ?qqN (sub3 ?qqm0 ?qqm1 ?qqm2) ?qqS) ?_; (case qqB => k_asm); (case qqF => k_asm); (case qqX => k_asm); (case qqT => k_asm); (case qqhk => first | exact rfl | assumption); (case qqN => k_asm); (case qqm0 => k_mem); (case qqm1 => k_mem); (case qqm2 => k_mem); (case qqhd => (walk_at "room")); (case qqhu => (walk_at "units")); (case qqf0 => (walk_at "ft")); (case qqf1 => (walk_at "ft")); (case qqf2 => (walk_at "ft")); (case qqf3 => (walk_at "ft")); (case qqf4 => (walk_at "ft")); (case qqS => (walk_at "sel"))); (walk_at "cl1"); intro _ _ _ _ _ _ _ _ _; (walk_at "fin93")))
  k_with "call ref" => ((k_here; (with_reducible show wpAny _ _ (call (Value.ref 730) _ _) _ _ _); k_dflt (refine' placeU_k ?qqB ?qqF ?qqX ?qqT ?qqhk ?qqhd ?qqhu ?qqf0 ?qqf1 ?qqf2 ?qqf3 ?qqf4 (part_of ?qqN (sub3 ?qqm0 ?qqm1 ?qqm2) ?qqS) ?_; (case qqB => k_asm); (case qqF => k_asm); (case qqX => k_asm); (case qqT => k_asm); (case qqhk => first | exact rfl | assumption); (case qqN => k_asm); (case qqm0 => k_mem); (case qqm1 => k_mem); (case qqm2 => k_mem); (case qqhd => (walk_at "room")); (case qqhu => (walk_at "units")); (case qqf0 => (walk_at "ft")); (case qqf1 => (walk_at "ft")); (case qqf2 => (walk_at "ft")); (case qqf3 => (walk_at "ft")); (case qqf4 => (walk_at "ft")); (case qqS => (walk_at "sel"))); (walk_at "cl1"); intro _ _ _ _ _ _ _ _ _; (walk_at "fin93")))
  k_with "call ref" => ((k_here; (with_reducible show wpAny _ _ (call (Value.ref 404) _ _) _ _ _); k_dflt (refine' offset_k ?qqB ?qqF ?qqX ?qqT ?qqhk ?qqhd ?qqhu ?qqf0 ?qqf1 (part_of ?qqN (sub3 ?qqm0 ?qqm1 ?qqm2) ?qqS) ?_; (case qqB => k_asm); (case qqF => k_asm); (case qqX => k_asm); (case qqT => k_asm); (case qqhk => first | exact rfl | assumption); (case qqN => k_asm); (case qqm0 => k_mem); (case qqm1 => k_mem); (case qqm2 => k_mem); (case qqhd => (walk_at "room")); (case qqhu => (walk_at "units")); (case qqf0 => (walk_at "ft")); (case qqf1 => (walk_at "ft")); (case qqS => (walk_at "sel"))); (walk_at "cl1"); intro _ _ _ _ _ _; (walk_at "fin93")))
  trivial

theorem prependS_k : ∀ {w : World} {mean : ExcName → Option Value} {mg mb : Str → Option Value} {dp un : Nat} {cn : Str} {cs : Scope} {a : Addr} {ccd : Value} {cl : List (Str × Addr)} {outer : List Env} {A₀ : Around} {base h₀ : Heap} {L : Addr} {m : Str → Option Value} {s : Shared}
    {Q E : Value → Shared → Prop} {rest : List (Addr × Obj)} (B : Below A₀ base outer h₀) (F : Fr h₀ L s.heap m) (X : (Mine.hd.heap_39 w.params).In h₀) (T : Top Mine.hd.view_39 LO mean mg mb h₀) (hk : cs.kind = .function) (hd : dp + 5 < recursionLimit) (hu : un + 40 < cLine) {b : Addr} {dx : Addr} {ba : Addr} {dv : Addr} {arr : Array UInt8} {v1 : Value} {v7 : Value} {v9 : Option Value} {hd1 : Int} {ma : Int} {t1 : Tok} {t2 : Tok} {fin : Bool} {nest : Bool} {out : List UInt8} {off : Int} {to : Tok} (hH : Has arr hd1 out) (hz : arr.size ≤ 2048) (h0 : 0 ≤ off) (h1 : off ≤ out.length) (ho : out.length ≤ 900) (P : Part h₀ L s.heap [(b, BO dx ba v1 fin hd1 t1 ma t2 nest v7 v9 dv), (dx, dictOf [] 0), (ba, AO arr)] rest)
    (hret : ∀ (h' : Heap) (tk' : Nat) (ba' : Addr) (arr' : Array UInt8) (hd' : Int) (ma' : Int) (t1' : Tok) (t2' : Tok), Has arr' hd' (lay 4 ((pd 4 0 out).length - off + 4) ++ pd 4 0 out) → arr'.size ≤ 2048 → arr.size ≤ arr'.size → ma' = max ma 4 → Fr h₀ L h' m → News h₀ L h' ([(b, BO dx ba' v1 fin hd' t1' ma' t2' nest v7 v9 dv), (dx, dictOf [] 0), (ba', AO arr')] ++ rest) → AllNes [(b, BO dx ba' v1 fin hd' t1' ma' t2' nest v7 v9 dv), (dx, dictOf [] 0), (ba', AO arr')] rest → Q .none { s with heap := h', toks := tk' }),
    wpC (model _root_.PySem.Challenge.rw_bp0005_01.row.prog w) (ktrTop dp un (some []) cn cs L a ccd cl outer) (call (.ref 425) [.ref b, .int off to] ) Q E s := by
  refine @Mine.hush _ (by
  k_fill
  intro w mean mg mb dp un cn cs a ccd cl outer A₀ base h₀ L m s Q E rest B F X T hk hd hu b dx ba dv arr v1 v7 v9 hd1 ma t1 t2 fin nest out off to hH hz h0 h1 ho P hret
  have N := P.news
  have hdis := P.dis
  obtain ⟨n1, n2, n3⟩ := news3B N
  refine c_call ?_
  k_dflt (refine' defC ?k1 ?k2 ?k3 ?k4 ?kd ?k5 ?kA ?kF ?kK ?k6 ?k7 ?k8 ?k9 ?kB ?_ ?c2 ?c3 ?c4 ?c5; (case kA => exact rfl); (case kF => exact rfl); (case kK => assumption); (case k1 => k_asm); (case k2 => k_asm); (case k3 => k_asm); (case k4 => k_asm); (case kd => k_asm); (case k5 => k_asm); (case k6 => k_is); (case k7 => k_is); (case k8 => ktr_room); (case k9 => exact BindsTo.of_eq rfl); (case c5 => decide); (case kB => exact locs rfl); (case c2 => exact rfl); (case c3 => exact rfl); (case c4 => exact rfl); k_whole; intro g' L' h' FG' F' N' B' X' T' l0 ; (try dsimp only); (try k_fold))
  have hH0 := hH.1
  have hH1 := hH.2.1
  k_steps
  all_goals dsimp only [wants]
  all_goals (rename_i kF kN kD; exact hret _ _ _ _ _ _ _ _ (by first | assumption | omega) (by first | assumption | omega) (by first | assumption | omega) (by first | assumption | omega) kF (news_sub kN (sub3 (by k_mem) (by k_mem) (by k_mem))) (allNes_of (dis_sub kD (sub3 (by k_mem) (by k_mem) (by k_mem)))))) ?_
  intro q f
  simpa using Mine.hushed f 5 fun n i => i
theorem setup_KF_2 : True := by
  k_with "wpCc" => ((k_here; (with_reducible show wpC _ _ (call (Value.ref 425) _ _) _ _ _); k_dflt (refine' prependS_k ?qqB ?qqF ?qqX ?qqT ?qqhk ?qqhd ?qqhu ?qqf0 ?qqf1 ?qqf2 ?qqf3 ?qqf4 (part_of ?qqN (sub3 ?qqm0 ?qqm1 ?qqm2) ?qqS) ?_; (case qqB => k_asm); (case qqF => k_asm); (case qqX => k_asm); (case qqT => k_asm); (case qqhk => first | exact rfl | assumption); (case qqN => k_asm); (case qqm0 => k_mem); (case qqm1 => k_mem); (case qqm2 => k_mem); (case qqhd => (walk_at "room")); (case qqhu => (walk_at "units")); (case qqf0 => (walk_at "ft")); (case qqf1 => (walk_at "ft")); (case qqf2 => (walk_at "ft")); (case qqf3 => (walk_at "ft")); (case qqf4 => (walk_at "ft")); (case qqS => (walk_at "sel"))); (walk_at "cl1"); intro _ _ _ _ _ _ _ _ _ _ _ _ _ _ _; (walk_at "fin93")))
  trivial

theorem prependU_k : ∀ {w : World} {mean : ExcName → Option Value} {mg mb : Str → Option Value} {dp un : Nat} {cn : Str} {cs : Scope} {a : Addr} {ccd : Value} {cl : List (Str × Addr)} {outer : List Env} {A₀ : Around} {base h₀ : Heap} {L : Addr} {m : Str → Option Value} {s : Shared}
    {Q E : Value → Shared → Prop} {rest : List (Addr × Obj)} (B : Below A₀ base outer h₀) (F : Fr h₀ L s.heap m) (X : (Mine.hd.heap_39 w.params).In h₀) (T : Top Mine.hd.view_39 LO mean mg mb h₀) (hk : cs.kind = .function) (hd : dp + 5 < recursionLimit) (hu : un + 40 < cLine) {b : Addr} {dx : Addr} {ba : Addr} {dv : Addr} {arr : Array UInt8} {v1 : Value} {v7 : Value} {v9 : Option Value} {hd1 : Int} {ma : Int} {t1 : Tok} {t2 : Tok} {fin : Bool} {nest : Bool} {out : List UInt8} {off : Int} {to : Tok} (hH : Has arr hd1 out) (hz : arr.size ≤ 2048) (h0 : 0 ≤ off) (h1 : off ≤ out.length) (ho : out.length ≤ 900) (P : Part h₀ L s.heap [(b, BO dx ba v1 fin hd1 t1 ma t2 nest v7 v9 dv), (dx, dictOf [] 0), (ba, AO arr)] rest)
    (hret : ∀ (h' : Heap) (tk' : Nat) (ba' : Addr) (arr' : Array UInt8) (hd' : Int) (ma' : Int) (t1' : Tok) (t2' : Tok), Has arr' hd' (lay 4 ((pd 4 0 out).length - off + 4) ++ pd 4 0 out) → arr'.size ≤ 2048 → arr.size ≤ arr'.size → ma' = max ma 4 → Fr h₀ L h' m → News h₀ L h' ([(b, BO dx ba' v1 fin hd' t1' ma' t2' nest v7 v9 dv), (dx, dictOf [] 0), (ba', AO arr')] ++ rest) → AllNes [(b, BO dx ba' v1 fin hd' t1' ma' t2' nest v7 v9 dv), (dx, dictOf [] 0), (ba', AO arr')] rest → Q .none { s with heap := h', toks := tk' }),
    wpC (model _root_.PySem.Challenge.rw_bp0005_01.row.prog w) (ktrTop dp un (some []) cn cs L a ccd cl outer) (call (.ref 432) [.ref b, .int off to] ) Q E s := by
  refine @Mine.hush _ (by
  k_fill
  intro w mean mg mb dp un cn cs a ccd cl outer A₀ base h₀ L m s Q E rest B F X T hk hd hu b dx ba dv arr v1 v7 v9 hd1 ma t1 t2 fin nest out off to hH hz h0 h1 ho P hret
  have N := P.news
  have hdis := P.dis
  obtain ⟨n1, n2, n3⟩ := news3B N
  refine c_call ?_
  k_dflt (refine' defC ?k1 ?k2 ?k3 ?k4 ?kd ?k5 ?kA ?kF ?kK ?k6 ?k7 ?k8 ?k9 ?kB ?_ ?c2 ?c3 ?c4 ?c5; (case kA => exact rfl); (case kF => exact rfl); (case kK => assumption); (case k1 => k_asm); (case k2 => k_asm); (case k3 => k_asm); (case k4 => k_asm); (case kd => k_asm); (case k5 => k_asm); (case k6 => k_is); (case k7 => k_is); (case k8 => ktr_room); (case k9 => exact BindsTo.of_eq rfl); (case c5 => decide); (case kB => exact locs rfl); (case c2 => exact rfl); (case c3 => exact rfl); (case c4 => exact rfl); k_whole; intro g' L' h' FG' F' N' B' X' T' l0 ; (try dsimp only); (try k_fold))
  have hH0 := hH.1
  have hH1 := hH.2.1
  k_steps
  all_goals dsimp only [wants]
  all_goals (rename_i kF kN kD; exact hret _ _ _ _ _ _ _ _ (by first | assumption | omega) (by first | assumption | omega) (by first | assumption | omega) (by first | assumption | omega) kF (news_sub kN (sub3 (by k_mem) (by k_mem) (by k_mem))) (allNes_of (dis_sub kD (sub3 (by k_mem) (by k_mem) (by k_mem)))))) ?_
  intro q f
  simpa using Mine.hushed f 5 fun n i => i
theorem setup_KF_3 : True := by
  k_with "wpCc" => ((k_here; (with_reducible show wpC _ _ (call (Value.ref 432) _ _) _ _ _); k_dflt (refine' prependU_k ?qqB ?qqF ?qqX ?qqT ?qqhk ?qqhd ?qqhu ?qqf0 ?qqf1 ?qqf2 ?qqf3 ?qqf4 (part_of ?qqN (sub3 ?qqm0 ?qqm1 ?qqm2) ?qqS) ?_; (case qqB => k_asm); (case qqF => k_asm); (case qqX => k_asm); (case qqT => k_asm); (case qqhk => first | exact rfl | assumption); (case qqN => k_asm); (case qqm0 => k_mem); (case qqm1 => k_mem); (case qqm2 => k_mem); (case qqhd => (walk_at "room")); (case qqhu => (walk_at "units")); (case qqf0 => (walk_at "ft")); (case qqf1 => (walk_at "ft")); (case qqf2 => (walk_at "ft")); (case qqf3 => (walk_at "ft")); (case qqf4 => (walk_at "ft")); (case qqS => (walk_at "sel"))); (walk_at "cl1"); intro _ _ _ _ _ _ _ _ _ _ _ _ _ _ _; (walk_at "fin93")))
  trivial

theorem prepend77_k : ∀ {w : World} {mean : ExcName → Option Value} {mg mb : Str → Option Value} {dp un : Nat} {cn : Str} {cs : Scope} {a : Addr} {ccd : Value} {cl : List (Str × Addr)} {outer : List Env} {A₀ : Around} {base h₀ : Heap} {L : Addr} {m : Str → Option Value} {s : Shared}
    {Q E : Value → Shared → Prop} {rest : List (Addr × Obj)} (B : Below A₀ base outer h₀) (F : Fr h₀ L s.heap m) (X : (Mine.hd.heap_39 w.params).In h₀) (T : Top Mine.hd.view_39 LO mean mg mb h₀) (hk : cs.kind = .function) (hd : dp + 5 < recursionLimit) (hu : un + 40 < cLine) {b : Addr} {dx : Addr} {ba : Addr} {dv : Addr} {arr : Array UInt8} {v1 : Value} {v7 : Value} {v9 : Option Value} {hd1 : Int} {ma : Int} {t1 : Tok} {t2 : Tok} {fin : Bool} {nest : Bool} {out : List UInt8} {x : Int} {tx : Tok} (hH : Has arr hd1 out) (hz : arr.size ≤ 2048) (ho : out.length ≤ 900) (r0 : 0 ≤ x) (r1 : x ≤ 65535) (P : Part h₀ L s.heap [(b, BO dx ba v1 fin hd1 t1 ma t2 nest v7 v9 dv), (dx, dictOf [] 0), (ba, AO arr)] rest)
    (hret : ∀ (h' : Heap) (tk' : Nat) (ba' : Addr) (arr' : Array UInt8) (hd' : Int) (ma' : Int) (t1' : Tok) (t2' : Tok), Has arr' hd' (lay 2 x ++ pd 2 0 out) → arr'.size ≤ 2048 → arr.size ≤ arr'.size → ma' = max ma 2 → Fr h₀ L h' m → News h₀ L h' ([(b, BO dx ba' v1 fin hd' t1' ma' t2' nest v7 v9 dv), (dx, dictOf [] 0), (ba', AO arr')] ++ rest) → AllNes [(b, BO dx ba' v1 fin hd' t1' ma' t2' nest v7 v9 dv), (dx, dictOf [] 0), (ba', AO arr')] rest → Q .none { s with heap := h', toks := tk' }),
    wpC (model _root_.PySem.Challenge.rw_bp0005_01.row.prog w) (ktrTop dp un (some []) cn cs L a ccd cl outer) (call (.ref 527) [.ref b, .ref 77, .int x tx] ) Q E s := by
  refine @Mine.hush _ (by
  k_fill
  intro w mean mg mb dp un cn cs a ccd cl outer A₀ base h₀ L m s Q E rest B F X T hk hd hu b dx ba dv arr v1 v7 v9 hd1 ma t1 t2 fin nest out x tx hH hz ho r0 r1 P hret
  have N := P.news
  have hdis := P.dis
  obtain ⟨n1, n2, n3⟩ := news3B N
  refine c_call ?_
  k_dflt (refine' defC ?k1 ?k2 ?k3 ?k4 ?kd ?k5 ?kA ?kF ?kK ?k6 ?k7 ?k8 ?k9 ?kB ?_ ?c2 ?c3 ?c4 ?c5; (case kA => exact rfl); (case kF => exact rfl); (case kK => assumption); (case k1 => k_asm); (case k2 => k_asm); (case k3 => k_asm); (case k4 => k_asm); (case kd => k_asm); (case k5 => k_asm); (case k6 => k_is); (case k7 => k_is); (case k8 => ktr_room); (case k9 => exact BindsTo.of_eq rfl); (case c5 => decide); (case kB => exact locs rfl); (case c2 => exact rfl); (case c3 => exact rfl); (case c4 => exact rfl); k_whole; intro g' L' h' FG' F' N' B' X' T' l0 ; (try dsimp only); (try k_fold))
  have hH0 := hH.1
  have hH1 := hH.2.1
  k_steps
  all_goals dsimp only [wants]
  all_goals (rename_i kF kN kD; exact hret _ _ _ _ _ _ _ _ (by first | assumption | omega) (by first | assumption | omega) (by first | assumption | omega) (by first | assumption | omega) kF (news_sub kN (sub3 (by k_mem) (by k_mem) (by k_mem))) (allNes_of (dis_sub kD (sub3 (by k_mem) (by k_mem) (by k_mem)))))) ?_
  intro q f
  simpa using Mine.hushed f 5 fun n i => i
theorem setup_KF_4 : True := by
  k_with "wpCc" => ((k_here; (with_reducible show wpC _ _ (call (Value.ref 527) [_, Value.ref 77, _] _) _ _ _); k_dflt (refine' prepend77_k ?qqB ?qqF ?qqX ?qqT ?qqhk ?qqhd ?qqhu ?qqf0 ?qqf1 ?qqf2 ?qqf3 ?qqf4 (part_of ?qqN (sub3 ?qqm0 ?qqm1 ?qqm2) ?qqS) ?_; (case qqB => k_asm); (case qqF => k_asm); (case qqX => k_asm); (case qqT => k_asm); (case qqhk => first | exact rfl | assumption); (case qqN => k_asm); (case qqm0 => k_mem); (case qqm1 => k_mem); (case qqm2 => k_mem); (case qqhd => (walk_at "room")); (case qqhu => (walk_at "units")); (case qqf0 => (walk_at "ft")); (case qqf1 => (walk_at "ft")); (case qqf2 => (walk_at "ft")); (case qqf3 => (walk_at "ft")); (case qqf4 => (walk_at "ft")); (case qqS => (walk_at "sel"))); (walk_at "cl1"); intro _ _ _ _ _ _ _ _ _ _ _ _ _ _ _; (walk_at "fin93")))
  trivial

theorem prepend91_k : ∀ {w : World} {mean : ExcName → Option Value} {mg mb : Str → Option Value} {dp un : Nat} {cn : Str} {cs : Scope} {a : Addr} {ccd : Value} {cl : List (Str × Addr)} {outer : List Env} {A₀ : Around} {base h₀ : Heap} {L : Addr} {m : Str → Option Value} {s : Shared}
    {Q E : Value → Shared → Prop} {rest : List (Addr × Obj)} (B : Below A₀ base outer h₀) (F : Fr h₀ L s.heap m) (X : (Mine.hd.heap_39 w.params).In h₀) (T : Top Mine.hd.view_39 LO mean mg mb h₀) (hk : cs.kind = .function) (hd : dp + 5 < recursionLimit) (hu : un + 40 < cLine) {b : Addr} {dx : Addr} {ba : Addr} {dv : Addr} {arr : Array UInt8} {v1 : Value} {v7 : Value} {v9 : Option Value} {hd1 : Int} {ma : Int} {t1 : Tok} {t2 : Tok} {fin : Bool} {nest : Bool} {out : List UInt8} {x : Int} {tx : Tok} (hH : Has arr hd1 out) (hz : arr.size ≤ 2048) (ho : out.length ≤ 900) (r0 : 0 ≤ x) (r1 : x ≤ 4294967295) (P : Part h₀ L s.heap [(b, BO dx ba v1 fin hd1 t1 ma t2 nest v7 v9 dv), (dx, dictOf [] 0), (ba, AO arr)] rest)
    (hret : ∀ (h' : Heap) (tk' : Nat) (ba' : Addr) (arr' : Array UInt8) (hd' : Int) (ma' : Int) (t1' : Tok) (t2' : Tok), Has arr' hd' (lay 4 x ++ pd 4 0 out) → arr'.size ≤ 2048 → arr.size ≤ arr'.size → ma' = max ma 4 → Fr h₀ L h' m → News h₀ L h' ([(b, BO dx ba' v1 fin hd' t1' ma' t2' nest v7 v9 dv), (dx, dictOf [] 0), (ba', AO arr')] ++ rest) → AllNes [(b, BO dx ba' v1 fin hd' t1' ma' t2' nest v7 v9 dv), (dx, dictOf [] 0), (ba', AO arr')] rest → Q .none { s with heap := h', toks := tk' }),
    wpC (model _root_.PySem.Challenge.rw_bp0005_01.row.prog w) (ktrTop dp un (some []) cn cs L a ccd cl outer) (call (.ref 527) [.ref b, .ref 91, .int x tx] ) Q E s := by
  refine @Mine.hush _ (by
  k_fill
  intro w mean mg mb dp un cn cs a ccd cl outer A₀ base h₀ L m s Q E rest B F X T hk hd hu b dx ba dv arr v1 v7 v9 hd1 ma t1 t2 fin nest out x tx hH hz ho r0 r1 P hret
  have N := P.news
  have hdis := P.dis
  obtain ⟨n1, n2, n3⟩ := news3B N
  refine c_call ?_
  k_dflt (refine' defC ?k1 ?k2 ?k3 ?k4 ?kd ?k5 ?kA ?kF ?kK ?k6 ?k7 ?k8 ?k9 ?kB ?_ ?c2 ?c3 ?c4 ?c5; (case kA => exact rfl); (case kF => exact rfl); (case kK => assumption); (case k1 => k_asm); (case k2 => k_asm); (case k3 => k_asm); (case k4 => k_asm); (case kd => k_asm); (case k5 => k_asm); (case k6 => k_is); (case k7 => k_is); (case k8 => ktr_room); (case k9 => exact BindsTo.of_eq rfl); (case c5 => decide); (case kB => exact locs rfl); (case c2 => exact rfl); (case c3 => exact rfl); (case c4 => exact rfl); k_whole; intro g' L' h' FG' F' N' B' X' T' l0 ; (try dsimp only); (try k_fold))
  have hH0 := hH.1
  have hH1 := hH.2.1
  k_steps
  all_goals dsimp only [wants]
  all_goals (rename_i kF kN kD; exact hret _ _ _ _ _ _ _ _ (by first | assumption | omega) (by first | assumption | omega) (by first | assumption | omega) (by first | assumption | omega) kF (news_sub kN (sub3 (by k_mem) (by k_mem) (by k_mem))) (allNes_of (dis_sub kD (sub3 (by k_mem) (by k_mem) (by k_mem)))))) ?_
  intro q f
  simpa using Mine.hushed f 5 fun n i => i
theorem setup_KF_5 : True := by
  k_with "wpCc" => ((k_here; (with_reducible show wpC _ _ (call (Value.ref 527) [_, Value.ref 91, _] _) _ _ _); k_dflt (refine' prepend91_k ?qqB ?qqF ?qqX ?qqT ?qqhk ?qqhd ?qqhu ?qqf0 ?qqf1 ?qqf2 ?qqf3 ?qqf4 (part_of ?qqN (sub3 ?qqm0 ?qqm1 ?qqm2) ?qqS) ?_; (case qqB => k_asm); (case qqF => k_asm); (case qqX => k_asm); (case qqT => k_asm); (case qqhk => first | exact rfl | assumption); (case qqN => k_asm); (case qqm0 => k_mem); (case qqm1 => k_mem); (case qqm2 => k_mem); (case qqhd => (walk_at "room")); (case qqhu => (walk_at "units")); (case qqf0 => (walk_at "ft")); (case qqf1 => (walk_at "ft")); (case qqf2 => (walk_at "ft")); (case qqf3 => (walk_at "ft")); (case qqf4 => (walk_at "ft")); (case qqS => (walk_at "sel"))); (walk_at "cl1"); intro _ _ _ _ _ _ _ _ _ _ _ _ _ _ _; (walk_at "fin93")))
  trivial

theorem prepend105_k : ∀ {w : World} {mean : ExcName → Option Value} {mg mb : Str → Option Value} {dp un : Nat} {cn : Str} {cs : Scope} {a : Addr} {ccd : Value} {cl : List (Str × Addr)} {outer : List Env} {A₀ : Around} {base h₀ : Heap} {L : Addr} {m : Str → Option Value} {s : Shared}
    {Q E : Value → Shared → Prop} {rest : List (Addr × Obj)} (B : Below A₀ base outer h₀) (F : Fr h₀ L s.heap m) (X : (Mine.hd.heap_39 w.params).In h₀) (T : Top Mine.hd.view_39 LO mean mg mb h₀) (hk : cs.kind = .function) (hd : dp + 5 < recursionLimit) (hu : un + 40 < cLine) {b : Addr} {dx : Addr} {ba : Addr} {dv : Addr} {arr : Array UInt8} {v1 : Value} {v7 : Value} {v9 : Option Value} {hd1 : Int} {ma : Int} {t1 : Tok} {t2 : Tok} {fin : Bool} {nest : Bool} {out : List UInt8} {x : Int} {tx : Tok} (hH : Has arr hd1 out) (hz : arr.size ≤ 2048) (ho : out.length ≤ 900) (r0 : -2147483648 ≤ x) (r1 : x ≤ 2147483647) (P : Part h₀ L s.heap [(b, BO dx ba v1 fin hd1 t1 ma t2 nest v7 v9 dv), (dx, dictOf [] 0), (ba, AO arr)] rest)
    (hret : ∀ (h' : Heap) (tk' : Nat) (ba' : Addr) (arr' : Array UInt8) (hd' : Int) (ma' : Int) (t1' : Tok) (t2' : Tok), Has arr' hd' (lay 4 x ++ pd 4 0 out) → arr'.size ≤ 2048 → arr.size ≤ arr'.size → ma' = max ma 4 → Fr h₀ L h' m → News h₀ L h' ([(b, BO dx ba' v1 fin hd' t1' ma' t2' nest v7 v9 dv), (dx, dictOf [] 0), (ba', AO arr')] ++ rest) → AllNes [(b, BO dx ba' v1 fin hd' t1' ma' t2' nest v7 v9 dv), (dx, dictOf [] 0), (ba', AO arr')] rest → Q .none { s with heap := h', toks := tk' }),
    wpC (model _root_.PySem.Challenge.rw_bp0005_01.row.prog w) (ktrTop dp un (some []) cn cs L a ccd cl outer) (call (.ref 527) [.ref b, .ref 105, .int x tx] ) Q E s := by
  refine @Mine.hush _ (by
  k_fill
  intro w mean mg mb dp un cn cs a ccd cl outer A₀ base h₀ L m s Q E rest B F X T hk hd hu b dx ba dv arr v1 v7 v9 hd1 ma t1 t2 fin nest out x tx hH hz ho r0 r1 P hret
  have N := P.news
  have hdis := P.dis
  obtain ⟨n1, n2, n3⟩ := news3B N
  refine c_call ?_
  k_dflt (refine' defC ?k1 ?k2 ?k3 ?k4 ?kd ?k5 ?kA ?kF ?kK ?k6 ?k7 ?k8 ?k9 ?kB ?_ ?c2 ?c3 ?c4 ?c5; (case kA => exact rfl); (case kF => exact rfl); (case kK => assumption); (case k1 => k_asm); (case k2 => k_asm); (case k3 => k_asm); (case k4 => k_asm); (case kd => k_asm); (case k5 => k_asm); (case k6 => k_is); (case k7 => k_is); (case k8 => ktr_room); (case k9 => exact BindsTo.of_eq rfl); (case c5 => decide); (case kB => exact locs rfl); (case c2 => exact rfl); (case c3 => exact rfl); (case c4 => exact rfl); k_whole; intro g' L' h' FG' F' N' B' X' T' l0 ; (try dsimp only); (try k_fold))
  have hH0 := hH.1
  have hH1 := hH.2.1
  k_steps
  all_goals dsimp only [wants]
  all_goals (rename_i kF kN kD; exact hret _ _ _ _ _ _ _ _ (by first | assumption | omega) (by first | assumption | omega) (by first | assumption | omega) (by first | assumption | omega) kF (news_sub kN (sub3 (by k_mem) (by k_mem) (by k_mem))) (allNes_of (dis_sub kD (sub3 (by k_mem) (by k_mem) (by k_mem)))))) ?_
  intro q f
  simpa using Mine.hushed f 5 fun n i => i
theorem setup_KF_6 : True := by
  k_with "wpCc" => ((k_here; (with_reducible show wpC _ _ (call (Value.ref 527) [_, Value.ref 105, _] _) _ _ _); k_dflt (refine' prepend105_k ?qqB ?qqF ?qqX ?qqT ?qqhk ?qqhd ?qqhu ?qqf0 ?qqf1 ?qqf2 ?qqf3 ?qqf4 (part_of ?qqN (sub3 ?qqm0 ?qqm1 ?qqm2) ?qqS) ?_; (case qqB => k_asm); (case qqF => k_asm); (case qqX => k_asm); (case qqT => k_asm); (case qqhk => first | exact rfl | assumption); (case qqN => k_asm); (case qqm0 => k_mem); (case qqm1 => k_mem); (case qqm2 => k_mem); (case qqhd => (walk_at "room")); (case qqhu => (walk_at "units")); (case qqf0 => (walk_at "ft")); (case qqf1 => (walk_at "ft")); (case qqf2 => (walk_at "ft")); (case qqf3 => (walk_at "ft")); (case qqf4 => (walk_at "ft")); (case qqS => (walk_at "sel"))); (walk_at "cl1"); intro _ _ _ _ _ _ _ _ _ _ _ _ _ _ _; (walk_at "fin93")))
  trivial

theorem prepend143_k : ∀ {w : World} {mean : ExcName → Option Value} {mg mb : Str → Option Value} {dp un : Nat} {cn : Str} {cs : Scope} {a : Addr} {ccd : Value} {cl : List (Str × Addr)} {outer : List Env} {A₀ : Around} {base h₀ : Heap} {L : Addr} {m : Str → Option Value} {s : Shared}
    {Q E : Value → Shared → Prop} {rest : List (Addr × Obj)} (B : Below A₀ base outer h₀) (F : Fr h₀ L s.heap m) (X : (Mine.hd.heap_39 w.params).In h₀) (T : Top Mine.hd.view_39 LO mean mg mb h₀) (hk : cs.kind = .function) (hd : dp + 5 < recursionLimit) (hu : un + 40 < cLine) {b : Addr} {dx : Addr} {ba : Addr} {dv : Addr} {arr : Array UInt8} {v1 : Value} {v7 : Value} {v9 : Option Value} {hd1 : Int} {ma : Int} {t1 : Tok} {t2 : Tok} {fin : Bool} {nest : Bool} {out : List UInt8} {x : Int} {tx : Tok} (hH : Has arr hd1 out) (hz : arr.size ≤ 2048) (ho : out.length ≤ 900) (r0 : 0 ≤ x) (r1 : x ≤ 65535) (P : Part h₀ L s.heap [(b, BO dx ba v1 fin hd1 t1 ma t2 nest v7 v9 dv), (dx, dictOf [] 0), (ba, AO arr)] rest)
    (hret : ∀ (h' : Heap) (tk' : Nat) (ba' : Addr) (arr' : Array UInt8) (hd' : Int) (ma' : Int) (t1' : Tok) (t2' : Tok), Has arr' hd' (lay 2 x ++ pd 2 0 out) → arr'.size ≤ 2048 → arr.size ≤ arr'.size → ma' = max ma 2 → Fr h₀ L h' m → News h₀ L h' ([(b, BO dx ba' v1 fin hd' t1' ma' t2' nest v7 v9 dv), (dx, dictOf [] 0), (ba', AO arr')] ++ rest) → AllNes [(b, BO dx ba' v1 fin hd' t1' ma' t2' nest v7 v9 dv), (dx, dictOf [] 0), (ba', AO arr')] rest → Q .none { s with heap := h', toks := tk' }),
    wpC (model _root_.PySem.Challenge.rw_bp0005_01.row.prog w) (ktrTop dp un (some []) cn cs L a ccd cl outer) (call (.ref 527) [.ref b, .ref 143, .int x tx] ) Q E s := by
  refine @Mine.hush _ (by
  k_fill
  intro w mean mg mb dp un cn cs a ccd cl outer A₀ base h₀ L m s Q E rest B F X T hk hd hu b dx ba dv arr v1 v7 v9 hd1 ma t1 t2 fin nest out x tx hH hz ho r0 r1 P hret
  have N := P.news
  have hdis := P.dis
  obtain ⟨n1, n2, n3⟩ := news3B N
  refine c_call ?_
  k_dflt (refine' defC ?k1 ?k2 ?k3 ?k4 ?kd ?k5 ?kA ?kF ?kK ?k6 ?k7 ?k8 ?k9 ?kB ?_ ?c2 ?c3 ?c4 ?c5; (case kA => exact rfl); (case kF => exact rfl); (case kK => assumption); (case k1 => k_asm); (case k2 => k_asm); (case k3 => k_asm); (case k4 => k_asm); (case kd => k_asm); (case k5 => k_asm); (case k6 => k_is); (case k7 => k_is); (case k8 => ktr_room); (case k9 => exact BindsTo.of_eq rfl); (case c5 => decide); (case kB => exact locs rfl); (case c2 => exact rfl); (case c3 => exact rfl); (case c4 => exact rfl); k_whole; intro g' L' h' FG' F' N' B' X' T' l0 ; (try dsimp only); (try k_fold))
  have hH0 := hH.1
  have hH1 := hH.2.1
  k_steps
  all_goals dsimp only [wants]
  all_goals (rename_i kF kN kD; exact hret _ _ _ _ _ _ _ _ (by first | assumption | omega) (by first | assumption | omega) (by first | assumption | omega) (by first | assumption | omega) kF (news_sub kN (sub3 (by k_mem) (by k_mem) (by k_mem))) (allNes_of (dis_sub kD (sub3 (by k_mem) (by k_mem) (by k_mem)))))) ?_
  intro q f
  simpa using Mine.hushed f 5 fun n i => i
theorem setup_KF_7 : True := by
  k_with "wpCc" => ((k_here; (with_reducible show wpC _ _ (call (Value.ref 527) [_, Value.ref 143, _] _) _ _ _); k_dflt (refine' prepend143_k ?qqB ?qqF ?qqX ?qqT ?qqhk ?qqhd ?qqhu ?qqf0 ?qqf1 ?qqf2 ?qqf3 ?qqf4 (part_of ?qqN (sub3 ?qqm0 ?qqm1 ?qqm2) ?qqS) ?_; (case qqB => k_asm); (case qqF => k_asm); (case qqX => k_asm); (case qqT => k_asm); (case qqhk => first | exact rfl | assumption); (case qqN => k_asm); (case qqm0 => k_mem); (case qqm1 => k_mem); (case qqm2 => k_mem); (case qqhd => (walk_at "room")); (case qqhu => (walk_at "units")); (case qqf0 => (walk_at "ft")); (case qqf1 => (walk_at "ft")); (case qqf2 => (walk_at "ft")); (case qqf3 => (walk_at "ft")); (case qqf4 => (walk_at "ft")); (case qqS => (walk_at "sel"))); (walk_at "cl1"); intro _ _ _ _ _ _ _ _ _ _ _ _ _ _ _; (walk_at "fin93")))
  trivial

theorem pU16_k : ∀ {w : World} {mean : ExcName → Option Value} {mg mb : Str → Option Value} {dp un : Nat} {cn : Str} {cs : Scope} {a : Addr} {ccd : Value} {cl : List (Str × Addr)} {outer : List Env} {A₀ : Around} {base h₀ : Heap} {L : Addr} {m : Str → Option Value} {s : Shared}
    {Q E : Value → Shared → Prop} {rest : List (Addr × Obj)} (B : Below A₀ base outer h₀) (F : Fr h₀ L s.heap m) (X : (Mine.hd.heap_39 w.params).In h₀) (T : Top Mine.hd.view_39 LO mean mg mb h₀) (hk : cs.kind = .function) (hd : dp + 6 < recursionLimit) (hu : un + 48 < cLine) {b : Addr} {dx : Addr} {ba : Addr} {dv : Addr} {arr : Array UInt8} {v1 : Value} {v7 : Value} {v9 : Option Value} {hd1 : Int} {ma : Int} {t1 : Tok} {t2 : Tok} {fin : Bool} {nest : Bool} {out : List UInt8} {x : Int} {tx : Tok} (hH : Has arr hd1 out) (hz : arr.size ≤ 2048) (ho : out.length ≤ 900) (r0 : 0 ≤ x) (r1 : x ≤ 65535) (P : Part h₀ L s.heap [(b, BO dx ba v1 fin hd1 t1 ma t2 nest v7 v9 dv), (dx, dictOf [] 0), (ba, AO arr)] rest)
    (hret : ∀ (h' : Heap) (tk' : Nat) (ba' : Addr) (arr' : Array UInt8) (hd' : Int) (ma' : Int) (t1' : Tok) (t2' : Tok), Has arr' hd' (lay 2 x ++ pd 2 0 out) → arr'.size ≤ 2048 → arr.size ≤ arr'.size → ma' = max ma 2 → Fr h₀ L h' m → News h₀ L h' ([(b, BO dx ba' v1 fin hd' t1' ma' t2' nest v7 v9 dv), (dx, dictOf [] 0), (ba', AO arr')] ++ rest) → AllNes [(b, BO dx ba' v1 fin hd' t1' ma' t2' nest v7 v9 dv), (dx, dictOf [] 0), (ba', AO arr')] rest → Q .none { s with heap := h', toks := tk' }),
    wpC (model _root_.PySem.Challenge.rw_bp0005_01.row.prog w) (ktrTop dp un (some []) cn cs L a ccd cl outer) (call (.ref 646) [.ref b, .int x tx] ) Q E s := by
  refine @Mine.hush _ (by
  k_fill
  intro w mean mg mb dp un cn cs a ccd cl outer A₀ base h₀ L m s Q E rest B F X T hk hd hu b dx ba dv arr v1 v7 v9 hd1 ma t1 t2 fin nest out x tx hH hz ho r0 r1 P hret
  have N := P.news
  have hdis := P.dis
  obtain ⟨n1, n2, n3⟩ := news3B N
  refine c_call ?_
  k_dflt (refine' defC ?k1 ?k2 ?k3 ?k4 ?kd ?k5 ?kA ?kF ?kK ?k6 ?k7 ?k8 ?k9 ?kB ?_ ?c2 ?c3 ?c4 ?c5; (case kA => exact rfl); (case kF => exact rfl); (case kK => assumption); (case k1 => k_asm); (case k2 => k_asm); (case k3 => k_asm); (case k4 => k_asm); (case kd => k_asm); (case k5 => k_asm); (case k6 => k_is); (case k7 => k_is); (case k8 => ktr_room); (case k9 => exact BindsTo.of_eq rfl); (case c5 => decide); (case kB => exact locs rfl); (case c2 => exact rfl); (case c3 => exact rfl); (case c4 => exact rfl); k_whole; intro g' L' h' FG' F' N' B' X' T' l0 ; (try dsimp only); (try k_fold))
  have hH0 := hH.1
  have hH1 := hH.2.1
  k_steps
  all_goals dsimp only [wants]
  all_goals (rename_i kF kN kD; exact hret _ _ _ _ _ _ _ _ (by first | assumption | omega) (by first | assumption | omega) (by first | assumption | omega) (by first | assumption | omega) kF (news_sub kN (sub3 (by k_mem) (by k_mem) (by k_mem))) (allNes_of (dis_sub kD (sub3 (by k_mem) (by k_mem) (by k_mem)))))) ?_
  intro q f
  simpa using Mine.hushed f 5 fun n i => i
theorem setup_KF_8 : True := by
  k_with "wpCc" => ((k_here; (with_reducible show wpC _ _ (call (Value.ref 646) _ _) _ _ _); k_dflt (refine' pU16_k ?qqB ?qqF ?qqX ?qqT ?qqhk ?qqhd ?qqhu ?qqf0 ?qqf1 ?qqf2 ?qqf3 ?qqf4 (part_of ?qqN (sub3 ?qqm0 ?qqm1 ?qqm2) ?qqS) ?_; (case qqB => k_asm); (case qqF => k_asm); (case qqX => k_asm); (case qqT => k_asm); (case qqhk => first | exact rfl | assumption); (case qqN => k_asm); (case qqm0 => k_mem); (case qqm1 => k_mem); (case qqm2 => k_mem); (case qqhd => (walk_at "room")); (case qqhu => (walk_at "units")); (case qqf0 => (walk_at "ft")); (case qqf1 => (walk_at "ft")); (case qqf2 => (walk_at "ft")); (case qqf3 => (walk_at "ft")); (case qqf4 => (walk_at "ft")); (case qqS => (walk_at "sel"))); (walk_at "cl1"); intro _ _ _ _ _ _ _ _ _ _ _ _ _ _ _; (walk_at "fin93")))
  trivial

theorem pI32_k : ∀ {w : World} {mean : ExcName → Option Value} {mg mb : Str → Option Value} {dp un : Nat} {cn : Str} {cs : Scope} {a : Addr} {ccd : Value} {cl : List (Str × Addr)} {outer : List Env} {A₀ : Around} {base h₀ : Heap} {L : Addr} {m : Str → Option Value} {s : Shared}
    {Q E : Value → Shared → Prop} {rest : List (Addr × Obj)} (B : Below A₀ base outer h₀) (F : Fr h₀ L s.heap m) (X : (Mine.hd.heap_39 w.params).In h₀) (T : Top Mine.hd.view_39 LO mean mg mb h₀) (hk : cs.kind = .function) (hd : dp + 6 < recursionLimit) (hu : un + 48 < cLine) {b : Addr} {dx : Addr} {ba : Addr} {dv : Addr} {arr : Array UInt8} {v1 : Value} {v7 : Value} {v9 : Option Value} {hd1 : Int} {ma : Int} {t1 : Tok} {t2 : Tok} {fin : Bool} {nest : Bool} {out : List UInt8} {x : Int} {tx : Tok} (hH : Has arr hd1 out) (hz : arr.size ≤ 2048) (ho : out.length ≤ 900) (r0 : -2147483648 ≤ x) (r1 : x ≤ 2147483647) (P : Part h₀ L s.heap [(b, BO dx ba v1 fin hd1 t1 ma t2 nest v7 v9 dv), (dx, dictOf [] 0), (ba, AO arr)] rest)
    (hret : ∀ (h' : Heap) (tk' : Nat) (ba' : Addr) (arr' : Array UInt8) (hd' : Int) (ma' : Int) (t1' : Tok) (t2' : Tok), Has arr' hd' (lay 4 x ++ pd 4 0 out) → arr'.size ≤ 2048 → arr.size ≤ arr'.size → ma' = max ma 4 → Fr h₀ L h' m → News h₀ L h' ([(b, BO dx ba' v1 fin hd' t1' ma' t2' nest v7 v9 dv), (dx, dictOf [] 0), (ba', AO arr')] ++ rest) → AllNes [(b, BO dx ba' v1 fin hd' t1' ma' t2' nest v7 v9 dv), (dx, dictOf [] 0), (ba', AO arr')] rest → Q .none { s with heap := h', toks := tk' }),
    wpC (model _root_.PySem.Challenge.rw_bp0005_01.row.prog w) (ktrTop dp un (some []) cn cs L a ccd cl outer) (call (.ref 681) [.ref b, .int x tx] ) Q E s := by
  refine @Mine.hush _ (by
  k_fill
  intro w mean mg mb dp un cn cs a ccd cl outer A₀ base h₀ L m s Q E rest B F X T hk hd hu b dx ba dv arr v1 v7 v9 hd1 ma t1 t2 fin nest out x tx hH hz ho r0 r1 P hret
  have N := P.news
  have hdis := P.dis
  obtain ⟨n1, n2, n3⟩ := news3B N
  refine c_call ?_
  k_dflt (refine' defC ?k1 ?k2 ?k3 ?k4 ?kd ?k5 ?kA ?kF ?kK ?k6 ?k7 ?k8 ?k9 ?kB ?_ ?c2 ?c3 ?c4 ?c5; (case kA => exact rfl); (case kF => exact rfl); (case kK => assumption); (case k1 => k_asm); (case k2 => k_asm); (case k3 => k_asm); (case k4 => k_asm); (case kd => k_asm); (case k5 => k_asm); (case k6 => k_is); (case k7 => k_is); (case k8 => ktr_room); (case k9 => exact BindsTo.of_eq rfl); (case c5 => decide); (case kB => exact locs rfl); (case c2 => exact rfl); (case c3 => exact rfl); (case c4 => exact rfl); k_whole; intro g' L' h' FG' F' N' B' X' T' l0 ; (try dsimp only); (try k_fold))
  have hH0 := hH.1
  have hH1 := hH.2.1
  k_steps
  all_goals dsimp only [wants]
  all_goals (rename_i kF kN kD; exact hret _ _ _ _ _ _ _ _ (by first | assumption | omega) (by first | assumption | omega) (by first | assumption | omega) (by first | assumption | omega) kF (news_sub kN (sub3 (by k_mem) (by k_mem) (by k_mem))) (allNes_of (dis_sub kD (sub3 (by k_mem) (by k_mem) (by k_mem)))))) ?_
  intro q f
  simpa using Mine.hushed f 5 fun n i => i
theorem setup_KF_9 : True := by
  k_with "wpCc" => ((k_here; (with_reducible show wpC _ _ (call (Value.ref 681) _ _) _ _ _); k_dflt (refine' pI32_k ?qqB ?qqF ?qqX ?qqT ?qqhk ?qqhd ?qqhu ?qqf0 ?qqf1 ?qqf2 ?qqf3 ?qqf4 (part_of ?qqN (sub3 ?qqm0 ?qqm1 ?qqm2) ?qqS) ?_; (case qqB => k_asm); (case qqF => k_asm); (case qqX => k_asm); (case qqT => k_asm); (case qqhk => first | exact rfl | assumption); (case qqN => k_asm); (case qqm0 => k_mem); (case qqm1 => k_mem); (case qqm2 => k_mem); (case qqhd => (walk_at "room")); (case qqhu => (walk_at "units")); (case qqf0 => (walk_at "ft")); (case qqf1 => (walk_at "ft")); (case qqf2 => (walk_at "ft")); (case qqf3 => (walk_at "ft")); (case qqf4 => (walk_at "ft")); (case qqS => (walk_at "sel"))); (walk_at "cl1"); intro _ _ _ _ _ _ _ _ _ _ _ _ _ _ _; (walk_at "fin93")))
  trivial

theorem pV_k : ∀ {w : World} {mean : ExcName → Option Value} {mg mb : Str → Option Value} {dp un : Nat} {cn : Str} {cs : Scope} {a : Addr} {ccd : Value} {cl : List (Str × Addr)} {outer : List Env} {A₀ : Around} {base h₀ : Heap} {L : Addr} {m : Str → Option Value} {s : Shared}
    {Q E : Value → Shared → Prop} {rest : List (Addr × Obj)} (B : Below A₀ base outer h₀) (F : Fr h₀ L s.heap m) (X : (Mine.hd.heap_39 w.params).In h₀) (T : Top Mine.hd.view_39 LO mean mg mb h₀) (hk : cs.kind = .function) (hd : dp + 6 < recursionLimit) (hu : un + 48 < cLine) {b : Addr} {dx : Addr} {ba : Addr} {dv : Addr} {arr : Array UInt8} {v1 : Value} {v7 : Value} {v9 : Option Value} {hd1 : Int} {ma : Int} {t1 : Tok} {t2 : Tok} {fin : Bool} {nest : Bool} {out : List UInt8} {x : Int} {tx : Tok} (hH : Has arr hd1 out) (hz : arr.size ≤ 2048) (ho : out.length ≤ 900) (r0 : 0 ≤ x) (r1 : x ≤ 65535) (P : Part h₀ L s.heap [(b, BO dx ba v1 fin hd1 t1 ma t2 nest v7 v9 dv), (dx, dictOf [] 0), (ba, AO arr)] rest)
    (hret : ∀ (h' : Heap) (tk' : Nat) (ba' : Addr) (arr' : Array UInt8) (hd' : Int) (ma' : Int) (t1' : Tok) (t2' : Tok), Has arr' hd' (lay 2 x ++ pd 2 0 out) → arr'.size ≤ 2048 → arr.size ≤ arr'.size → ma' = max ma 2 → Fr h₀ L h' m → News h₀ L h' ([(b, BO dx ba' v1 fin hd' t1' ma' t2' nest v7 v9 dv), (dx, dictOf [] 0), (ba', AO arr')] ++ rest) → AllNes [(b, BO dx ba' v1 fin hd' t1' ma' t2' nest v7 v9 dv), (dx, dictOf [] 0), (ba', AO arr')] rest → Q .none { s with heap := h', toks := tk' }),
    wpC (model _root_.PySem.Challenge.rw_bp0005_01.row.prog w) (ktrTop dp un (some []) cn cs L a ccd cl outer) (call (.ref 702) [.ref b, .int x tx] ) Q E s := by
  refine @Mine.hush _ (by
  k_fill
  intro w mean mg mb dp un cn cs a ccd cl outer A₀ base h₀ L m s Q E rest B F X T hk hd hu b dx ba dv arr v1 v7 v9 hd1 ma t1 t2 fin nest out x tx hH hz ho r0 r1 P hret
  have N := P.news
  have hdis := P.dis
  obtain ⟨n1, n2, n3⟩ := news3B N
  refine c_call ?_
  k_dflt (refine' defC ?k1 ?k2 ?k3 ?k4 ?kd ?k5 ?kA ?kF ?kK ?k6 ?k7 ?k8 ?k9 ?kB ?_ ?c2 ?c3 ?c4 ?c5; (case kA => exact rfl); (case kF => exact rfl); (case kK => assumption); (case k1 => k_asm); (case k2 => k_asm); (case k3 => k_asm); (case k4 => k_asm); (case kd => k_asm); (case k5 => k_asm); (case k6 => k_is); (case k7 => k_is); (case k8 => ktr_room); (case k9 => exact BindsTo.of_eq rfl); (case c5 => decide); (case kB => exact locs rfl); (case c2 => exact rfl); (case c3 => exact rfl); (case c4 => exact rfl); k_whole; intro g' L' h' FG' F' N' B' X' T' l0 ; (try dsimp only); (try k_fold))
  have hH0 := hH.1
  have hH1 := hH.2.1
  k_steps
  all_goals dsimp only [wants]
  all_goals (rename_i kF kN kD; exact hret _ _ _ _ _ _ _ _ (by first | assumption | omega) (by first | assumption | omega) (by first | assumption | omega) (by first | assumption | omega) kF (news_sub kN (sub3 (by k_mem) (by k_mem) (by k_mem))) (allNes_of (dis_sub kD (sub3 (by k_mem) (by k_mem) (by k_mem)))))) ?_
  intro q f
  simpa using Mine.hushed f 5 fun n i => i
-- KG

theorem setup_KG_1 : True := by
  k_with_none
  k_with "wpC" => ((k_here; (with_reducible show wpC _ _ _ _ _ _); (fail_if_success (with_reducible show wpC _ _ (setItem _ _ (Value.bytes _ _)) _ _ _)); (fail_if_success (with_reducible show wpC _ _ (call (Value.ref _) _ _) _ _ _)); (fail_if_success (with_reducible show wpC _ _ (callWith _ (Value.type _) _ _ _) _ _ _)); (fail_if_success (with_reducible show wpC _ _ (call (Value.type _) _ _) _ _ _)); (refine of_any ?_)))
  k_with "wpC" => ((k_here; (with_reducible show wpC _ _ (call (Value.ref _) _ _) _ _ _); (refine' of_anyD ?qqd ?_; (case qqd => (walk_at "dirty")))))
  k_with "wpC" => ((k_here; (with_reducible show wpC _ _ (exec (Stmt.While _ _ _ _) _) _ _ _); (refine c_While ?_)))
  k_with "wpC" => ((k_here; (with_reducible show wpC _ _ (exec (Stmt.If _ _ _ _) _) _ _ _); (refine c_If ?_)))
  k_with "wpC" => ((k_here; (with_reducible show wpC _ _ (exec (Stmt.Assign [Expr.Subscript _ (Expr.Slice _ _ _ _) _] _ _) _) _ _ _); k_dflt (refine c_Assign_Subscript ?_)))
  k_with "wpC" => ((k_here; (with_reducible show wpC _ _ (exec (Stmt.Expr (Expr.Call (Expr.Attribute _ _ _) _ _ _) _) _) _ _ _); k_dflt (refine' c_ExprD ?qqd ?_; (case qqd => (walk_at "dirty")))))
  k_with "wpC" => ((k_here; (with_reducible show wpC _ _ (exec (Stmt.Return (some (Expr.Call (Expr.Attribute _ _ _) _ _ _)) _) _) _ _ _); k_dflt (refine' c_ReturnD ?qqd ?_; (case qqd => (walk_at "dirty")))))
  k_with "wpC" => ((k_here; (with_reducible show wpC _ _ (exec (Stmt.Assign [Expr.Name _ _] (Expr.Call (Expr.Attribute _ _ _) _ _ _) _) _) _ _ _); k_dflt (refine' c_AssignD ?qqd ?_; (case qqd => (walk_at "dirty")))))
  k_with "wpC" => ((k_here; (with_reducible show wpC _ _ (eval (Expr.Call (Expr.Attribute _ _ _) _ _ _) _) _ _ _); k_dflt (refine' c_MethodCallSD ?qqd ?_; (case qqd => (walk_at "dirty")))))
  k_with "wpC" => ((k_here; (with_reducible show wpC _ _ (eval (Expr.Call (Expr.Attribute _ _ _) _ _ _) _) _ _ _); k_dflt (refine' c_MethodCallD ?qqd ?_; (case qqd => (walk_at "dirty")))))
  k_with "wpC" => ((k_here; (with_reducible show wpC _ _ (exec (Stmt.Assign [Expr.Name _ _] (Expr.Call (Expr.Name (PySem.Str.ofString "Builder") _) _ _ _) _) _) _ _ _); k_dflt (refine c_Assign_Name ?_)))
  k_with "wpC" => ((k_here; (with_reducible show wpC _ _ (eval (Expr.Call (Expr.Name (PySem.Str.ofString "Builder") _) _ _ _) _) _ _ _); k_dflt (refine c_Call ?_)))
  k_with "wpC" => ((k_here; (with_reducible show wpC _ _ (exec (Stmt.Assign [Expr.Name _ _] (Expr.Call (Expr.Name (PySem.Str.ofString "_law_made") _) _ _ _) _) _) _ _ _); k_dflt (refine c_Assign_Name ?_)))
  k_with "wpC" => ((k_here; (with_reducible show wpC _ _ (eval (Expr.Call (Expr.Name (PySem.Str.ofString "_law_made") _) _ _ _) _) _ _ _); k_dflt (refine c_Call ?_)))
  k_with "wpC" => ((k_here; (with_reducible show wpC _ _ (exec (Stmt.Assign [Expr.Attribute _ _ _] (Expr.Call (Expr.Name (PySem.Str.ofString "bytearray") _) _ _ _) _) _) _ _ _); k_dflt (refine c_Assign_Attr ?_)))
  k_with "wpC" => ((k_here; (with_reducible show wpC _ _ (exec (Stmt.Assign [Expr.Name _ _] (Expr.Call (Expr.Name (PySem.Str.ofString "bytearray") _) _ _ _) _) _) _ _ _); k_dflt (refine c_Assign_Name ?_)))
  k_with "wpC" => ((k_here; (with_reducible show wpC _ _ (eval (Expr.Call (Expr.Name (PySem.Str.ofString "bytearray") _) _ _ _) _) _ _ _); k_dflt (refine c_Call ?_)))
  k_with "wpC" => ((k_here; (with_reducible show wpC _ _ (execs [] _) _ _ _); (refine c_execs_nil ?_)))
  k_with "wpC" => ((k_here; (with_reducible show wpC _ _ (execs (_ :: _) _) _ _ _); (refine c_execs_cons ?_)))
  k_with "wpC" => ((k_here; (with_reducible show wpC _ _ (callWith _ (Value.ref _) _ _ _) _ _ _); k_dflt (first | refine' c_callWith_K ?qqk1 ?qqk2 ?_; (case qqk1 => k_asm); (case qqk2 => k_is); k_whole | refine' c_callWith_S ?qqk1 ?qqk2 ?_; (case qqk1 => k_asm); (case qqk2 => k_is); k_whole | refine' c_callWith_MS ?qqk1 ?qqk2 ?qqk3 ?qqk4 ?_; (case qqk1 => k_asm); (case qqk2 => k_asm); (case qqk3 => k_mem); (case qqk4 => k_is); k_whole | refine' c_callWith_K0 ?qqk1 ?qqk2 ?_; (case qqk1 => k_in); (case qqk2 => k_is); k_whole | refine' c_callWith_KW ?qqk1 ?qqk2 ?qqk3 ?_; (case qqk1 => k_asm); (case qqk2 => k_is); (case qqk3 => exact rfl); k_whole)))
  k_with "wpC" => ((k_here; (with_reducible show wpC _ _ (callWith _ (Value.type _) _ _ _) _ _ _); k_dflt (refine' c_callWith_T ?_)))
  k_with "wpC" => ((k_here; (with_reducible show wpC _ _ (setItem (Value.ref _) (Value.ref _) (Value.bytes _ _)) _ _ _); k_dflt (refine' c_setN (s := ⟨_, _, _, _, _⟩) ?qqg ?qqF ?qqN ?qqU ?qqh ?qqej ?qqh0 ?qqhs ?qqz ?_; (case qqF => k_asm); (case qqN => k_asm); (case qqU => k_updF); (case qqh => k_asm); (case qqg => exact rfl); (case qqej => (walk_at "cl"; omega)); (case qqh0 => (walk_at "cl"; omega)); (case qqhs => ((walk_at "cl"); first | omega | (simp only [List.length_append, List.length_replicate, Array.size_replicate, lay_length, List.length_nil] at *; omega))); (case qqz => (walk_at "cl"; omega)); k_whole); intro _ _ _ _ _ _; (try k_sweep)))
  k_with "wpC" => ((k_here; (with_reducible show wpC _ _ (call (Value.type _) [Value.int _ _]) _ _ _); k_dflt (refine' c_new_int ?qqg ?qqF ?qqN ?qqh0 ?qqhz ?_; (case qqg => exact rfl); (case qqF => k_asm); (case qqN => k_asm); (case qqh0 => (walk_at "cl"; omega)); (case qqhz => (walk_at "cl"; omega)); k_whole); intro _ _ _ _ _; (try (walk_at "lt1")); (try k_sweep)))
  k_with "wpC" => ((k_here; (with_reducible show wpC _ _ (call (Value.type _) [Value.bytes _ _]) _ _ _); k_dflt (refine' c_new_bytes ?qqg ?qqF ?qqN ?qqhz ?_; (case qqg => exact rfl); (case qqF => k_asm); (case qqN => k_asm); (case qqhz => (walk_at "cl"; omega)); k_whole); intro _ _ _ _ _; (try (walk_at "lt1")); (try k_sweep)))
  k_with "LeaveM" => ((k_dflt (refine' leaveM_ ?qqk1 ?qqk2 ?_; (case qqk1 => k_asm); (case qqk2 => k_asm); k_whole); intro _ _ _; (try dsimp only [InitBack, CmpBack, LenBack, StrBack, BoolBack]); (try refine ⟨rfl, ?_⟩)))
  k_with "getMethod str" => ((k_here; (with_reducible show wpAny _ _ (getMethod (Value.str _ _) (PySem.Str.ofString "encode") _) _ _ _); k_dflt (refine' str_encode_get ?_; k_whole)))
  k_with "call builtin:str.encode" => ((k_here; k_dflt (refine' str_encode ?qqh ?qqz ?_; (case qqh => k_asm); (case qqz => (walk_at "cl"; omega)); k_whole); intro _ _))
  k_with "getAttr ref" => ((k_here; k_dflt (refine' kbm_boundS ?qqk1 ?qqk2 ?qqk3 ?qqk4 ?qqk5 ?qqk6 ?qqk6b ?qqk7 ?qqk8 ?qqk9 ?qqk10 ?qqk11 ?_; (case qqk4 => k_inst); (case qqk1 => k_asm); (case qqk2 => k_asm); (case qqk7 => k_is); (case qqk3 => k_asm); (case qqk5 => k_is); (case qqk6 => k_is); (case qqk6b => k_is); (case qqk8 => k_is); (case qqk9 => k_is); (case qqk10 => k_is); (case qqk11 => decide +kernel); k_whole); intro _ _ _ _ _; (try (walk_at "lt1")); (try k_sweep)))
  k_with "eval Name" => ((k_here; (with_reducible show wpAny _ _ (eval (Expr.Name (PySem.Str.ofString "bytearray") _) _) _ _ _); with_unfolding_all refine guard_global (by rfl) ?_; k_dflt (refine' name_B ?qqkF ?qqk1 ?qqk2 ?qqk3 ?qqk4 ?qqk5 ?_; (case qqkF => with_reducible assumption); (case qqk1 => with_reducible assumption); (case qqk2 => k_asm); (case qqk3 => k_is); (case qqk4 => boot_by_name); (case qqk5 => decide); k_whole)))
  k_with "getAttr ref" => ((k_here; (with_reducible show wpAny _ _ (getAttr (Value.ref _) _ _) _ _ _); k_dflt (refine' get_slot ?qqk1 ?qqk2 ?qqk3 ?qqk4 ?qqk5 ?qqk6 ?qqk7 ?qqk8 ?qqk9 ?qqk10 ?qqk11 ?_; (case qqk1 => with_reducible assumption); (case qqk2 => with_reducible assumption); (case qqk3 => k_inst); (case qqk4 => k_is); (case qqk5 => k_is); (case qqk6 => k_is); (case qqk7 => k_is); (case qqk8 => k_is); (case qqk9 => k_is); (case qqk10 => k_slotget); (case qqk11 => k_handed); k_whole)))
  k_with "ite" => ((k_here; k_openite; k_dflt (first | (refine ite_pos (by ((walk_at "cl"); (try simp only [decide_eq_true_eq, beq_iff_eq, bne_iff_ne, ne_eq]); omega)) ?_) | (refine ite_neg (by ((walk_at "cl"); (try simp only [decide_eq_true_eq, beq_iff_eq, bne_iff_ne, ne_eq]); omega)) ?_)); walk_say "PRUNED here"))
  k_with "binaryOp Mult bytes int" => ((k_here; k_dflt (refine' zeros_mul ?qqh0 ?qqhn ?_; (case qqh0 => (walk_at "cl"; omega)); (case qqhn => (walk_at "cl"; omega)); k_whole); intro _ _))
  k_with "call builtin:len" => ((k_here; (with_reducible show wpAny _ _ (call (Value.builtin "len") [Value.ref _]) _ _ _); k_dflt (refine' ba_lenN ?qqN ?qqm ?qqz ?_; (case qqN => k_asm); (case qqm => k_mem); (case qqz => (walk_at "cl"; omega)); k_whole)))
  k_with "setItem ref ref" => ((k_here; (with_reducible show wpAny _ _ (setItem (Value.ref _) (Value.ref _) (Value.ref _)) _ _ _); k_dflt (refine' ba_setN (s := ⟨_, _, _, _, _⟩) ?qqF ?qqN ?qqU ?qqm ?qqne ?qqh0 ?qqhs ?qqhz ?_; (case qqF => k_asm); (case qqN => k_asm); (case qqU => k_updF); (case qqm => k_mem); (case qqne => k_ne); (case qqh0 => (walk_at "cl"; omega)); (case qqhs => ((walk_at "cl"); first | omega | (simp only [List.length_append, List.length_replicate, Array.size_replicate, lay_length, List.length_nil] at *; omega))); (case qqhz => ((walk_at "cl"); first | omega | (simp only [List.length_append, List.length_replicate, Array.size_replicate, lay_length, List.length_nil] at *; omega))); k_whole); intro _ _ _ _ _ _; (try k_sweep)))
  k_with "getMethod ref" => ((k_here; (with_reducible show wpAny _ _ (getMethod (Value.ref _) (PySem.Str.ofString "unpack_from") _) _ _ _); k_dflt (refine' so_fromK ?qqX ?qqh ?_; (case qqX => k_in); (case qqh => exact rfl); k_whole)))
  k_with "getMethod ref" => ((k_here; (with_reducible show wpAny _ _ (getMethod (Value.ref _) (PySem.Str.ofString "pack_into") _) _ _ _); k_dflt (refine' so_intoK ?qqX ?qqh ?_; (case qqX => k_in); (case qqh => exact rfl); k_whole)))
  k_with "call builtin:_struct.Struct.unpack_from" => ((k_here; k_dflt (refine' so_fromN ?qqX ?qqF ?qqN ?qqh ?qqf ?qqb ?qqh0 ?qqh1 ?qqhz ?_; (case qqX => k_in); (case qqF => k_asm); (case qqN => k_asm); (case qqh => exact rfl); (case qqf => constructor); (case qqb => first | exact .inl ⟨_, rfl⟩ | exact .inr ⟨_, rfl, by k_mem⟩); (case qqh0 => (walk_at "cl"; omega)); (case qqh1 => (walk_at "cl"; omega)); (case qqhz => (walk_at "cl"; omega)); k_whole); intro _ _ _ _ _ _ _; (try (walk_at "lt1")); (try k_sweep)))
  k_with "call builtin:_struct.Struct.unpack_from" => ((k_here; k_dflt (refine' so_fromB ?qqX ?qqF ?qqN ?qqh ?qqf ?qqb ?qqh0 ?qqh1 ?qqhz ?_; (case qqX => k_in); (case qqF => k_asm); (case qqN => k_asm); (case qqh => exact rfl); (case qqf => constructor); (case qqb => exact BufIn.keep (by assumption) (by k_asm)); (case qqh0 => (walk_at "cl"; omega)); (case qqh1 => (walk_at "cl"; omega)); (case qqhz => (walk_at "cl"; omega)); k_whole); intro _ _ _ _ _ _ _; (try (walk_at "lt1")); (try k_sweep)))
  k_with "call builtin:_struct.Struct.pack_into" => ((k_here; k_dflt (refine' so_intoN ?qqX ?qqF ?qqN ?qqU ?qqh ?qqf ?qqh0 ?qqh1 ?qqhz ?qqlo ?qqhi ?_; (case qqX => k_in); (case qqF => k_asm); (case qqN => k_asm); (case qqU => k_updF); (case qqh => exact rfl); (case qqf => constructor); (case qqh0 => (walk_at "cl"; omega)); (case qqh1 => (walk_at "cl"; omega)); (case qqhz => (walk_at "cl"; omega)); (case qqlo => ((first | rw [if_neg (by decide)] | rw [if_pos (by decide)]); (try simp only [Nat.reduceMul, Nat.reduceSub, Int.reducePow, Int.reduceNeg]); walk_at "cl"; omega)); (case qqhi => ((first | rw [if_neg (by decide)] | rw [if_pos (by decide)]); (try simp only [Nat.reduceMul, Nat.reduceSub, Int.reducePow, Int.reduceNeg]); walk_at "cl"; omega)); k_whole); intro _ _ _; (try k_sweep)))
  k_with "wpC" => ((k_here; (with_reducible show wpC _ _ (call (Value.ref _) _ _) _ _ _); (walk_at "wpCc")))
  k_with "wpCc" => ((k_here; (with_reducible show wpC _ _ (call (Value.ref 418) _ _) _ _ _); k_dflt (refine' prep_k ?qqB ?qqF ?qqX ?qqT ?qqhk ?qqhd ?qqhu ?qqf0 ?qqf1 ?qqf2 ?qqf3 ?qqf4 (part_of ?qqN (sub3 ?qqm0 ?qqm1 ?qqm2) ?qqS) ?_; (case qqB => k_asm); (case qqF => k_asm); (case qqX => k_asm); (case qqT => k_asm); (case qqhk => first | exact rfl | assumption); (case qqN => k_asm); (case qqm0 => k_mem); (case qqm1 => k_mem); (case qqm2 => k_mem); (case qqhd => (walk_at "room")); (case qqhu => (walk_at "units")); (case qqf0 => (walk_at "ft")); (case qqf1 => (walk_at "ft")); (case qqf2 => (walk_at "ft")); (case qqf3 => (walk_at "ft")); (case qqf4 => (walk_at "ft")); (case qqS => (walk_at "sel"))); (walk_at "cl1"); intro _ _ _ _ _ _ _ _ _ _ _ _ _ _ _ _ _ _; (walk_at "fin93")))
  k_with "call ref" => ((k_here; (with_reducible show wpAny _ _ (call (Value.ref 482) _ _) _ _ _); k_dflt (refine' notnested_k ?qqB ?qqF ?qqX ?qqT ?qqhk ?qqhd ?qqhu  (part_of ?qqN (sub3 ?qqm0 ?qqm1 ?qqm2) ?qqS) ?_; (case qqB => k_asm); (case qqF => k_asm); (case qqX => k_asm); (case qqT => k_asm); (case qqhk => first | exact rfl | assumption); (case qqN => k_asm); (case qqm0 => k_mem); (case qqm1 => k_mem); (case qqm2 => k_mem); (case qqhd => (walk_at "room")); (case qqhu => (walk_at "units")); (case qqS => (walk_at "sel"))); (walk_at "cl1"); intro _ _  _ _ _; (walk_at "fin93")))
  k_with "call ref" => ((k_here; (with_reducible show wpAny _ _ (call (Value.ref 404) _ _) _ _ _); k_dflt (refine' offset_k ?qqB ?qqF ?qqX ?qqT ?qqhk ?qqhd ?qqhu ?qqf0 ?qqf1 (part_of ?qqN (sub3 ?qqm0 ?qqm1 ?qqm2) ?qqS) ?_; (case qqB => k_asm); (case qqF => k_asm); (case qqX => k_asm); (case qqT => k_asm); (case qqhk => first | exact rfl | assumption); (case qqN => k_asm); (case qqm0 => k_mem); (case qqm1 => k_mem); (case qqm2 => k_mem); (case qqhd => (walk_at "room")); (case qqhu => (walk_at "units")); (case qqf0 => (walk_at "ft")); (case qqf1 => (walk_at "ft")); (case qqS => (walk_at "sel"))); (walk_at "cl1"); intro _ _ _ _ _ _; (walk_at "fin93")))
  trivial

theorem startvec_k : ∀ {w : World} {mean : ExcName → Option Value} {mg mb : Str → Option Value} {dp un : Nat} {cn : Str} {cs : Scope} {a : Addr} {ccd : Value} {cl : List (Str × Addr)} {outer : List Env} {A₀ : Around} {base h₀ : Heap} {L : Addr} {m : Str → Option Value} {s : Shared}
    {Q E : Value → Shared → Prop} {rest : List (Addr × Obj)} (B : Below A₀ base outer h₀) (F : Fr h₀ L s.heap m) (X : (Mine.hd.heap_39 w.params).In h₀) (T : Top Mine.hd.view_39 LO mean mg mb h₀) (hk : cs.kind = .function) (hd : dp + 5 < recursionLimit) (hu : un + 40 < cLine) {b : Addr} {dx : Addr} {ba : Addr} {dv : Addr} {arr : Array UInt8} {v1 : Value} {v7 : Value} {v9 : Option Value} {hd1 : Int} {ma : Int} {t1 : Tok} {t2 : Tok} {fin : Bool} {out : List UInt8} {te : Tok} {ne : Int} {tn : Tok} {tl : Tok} (hH : Has arr hd1 out) (hz : arr.size ≤ 2048) (h0 : 0 ≤ ne) (ho : out.length + 2 * ne ≤ 900) (P : Part h₀ L s.heap [(b, BO dx ba v1 fin hd1 t1 ma t2 false v7 v9 dv), (dx, dictOf [] 0), (ba, AO arr)] rest)
    (hret : ∀ (h' : Heap) (tk' : Nat) (ba' : Addr) (arr' : Array UInt8) (hd' : Int) (ma' : Int) (t1' : Tok) (t2' : Tok) (tk2 : Tok), Has arr' hd' (pd 4 (2 * ne) out) → arr'.size ≤ 2048 → arr.size ≤ arr'.size → ma' = max ma 4 → (out.length : Int) ≤ (pd 4 (2 * ne) out).length → ((pd 4 (2 * ne) out).length : Int) < out.length + 4 → 4 + 2 * ne ≤ hd' → Fr h₀ L h' m → News h₀ L h' ([(b, BO dx ba' v1 fin hd' t1' ma' t2' true v7 (some (.int ne tn)) dv), (dx, dictOf [] 0), (ba', AO arr')] ++ rest) → AllNes [(b, BO dx ba' v1 fin hd' t1' ma' t2' true v7 (some (.int ne tn)) dv), (dx, dictOf [] 0), (ba', AO arr')] rest → Q (.int ((pd 4 (2 * ne) out).length : Int) tk2) { s with heap := h', toks := tk' }),
    wpC (model _root_.PySem.Challenge.rw_bp0005_01.row.prog w) (ktrTop dp un (some []) cn cs L a ccd cl outer) (call (.ref 439) [.ref b, .int 2 te, .int ne tn, .int 2 tl] ) Q E s := by
  refine @Mine.hush _ (by
  k_fill
  intro w mean mg mb dp un cn cs a ccd cl outer A₀ base h₀ L m s Q E rest B F X T hk hd hu b dx ba dv arr v1 v7 v9 hd1 ma t1 t2 fin out te ne tn tl hH hz h0 ho P hret
  have N := P.news
  have hdis := P.dis
  obtain ⟨n1, n2, n3⟩ := news3B N
  refine c_call ?_
  k_dflt (refine' defC ?k1 ?k2 ?k3 ?k4 ?kd ?k5 ?kA ?kF ?kK ?k6 ?k7 ?k8 ?k9 ?kB ?_ ?c2 ?c3 ?c4 ?c5; (case kA => exact rfl); (case kF => exact rfl); (case kK => assumption); (case k1 => k_asm); (case k2 => k_asm); (case k3 => k_asm); (case k4 => k_asm); (case kd => k_asm); (case k5 => k_asm); (case k6 => k_is); (case k7 => k_is); (case k8 => ktr_room); (case k9 => exact BindsTo.of_eq rfl); (case c5 => decide); (case kB => exact locs rfl); (case c2 => exact rfl); (case c3 => exact rfl); (case c4 => exact rfl); k_whole; intro g' L' h' FG' F' N' B' X' T' l0 ; (try dsimp only); (try k_fold))
  have hH0 := hH.1
  have hH1 := hH.2.1
  have epd := pd_pd (ne := ne) (out := out)
  k_steps
  all_goals dsimp only [wants]
  rename_i hHa hla hl2a hza hga hra hma hB kB baB arB hdB maB t1B t2B hHb hlb hl2b hzb hgb hrb hmb h9 k9 tk9 F9 N9 _ _ _ kF kN kD
  rw [epd] at hHb hlb hl2b ⊢
  have hA := hHa.len
  have hB := hHb.len
  exact hret _ _ baB arB hdB maB t1B t2B tk9 hHb (by omega) (by omega) (by omega) (by omega) (by omega) (by omega) kF (news_sub kN (sub3 (by k_mem) (by k_mem) (by k_mem))) (allNes_of (dis_sub kD (sub3 (by k_mem) (by k_mem) (by k_mem))))) ?_
  intro q f
  simpa using Mine.hushed f 5 fun n i => i
-- KH

theorem setup_KH_1 : True := by
  k_with_none
  k_with "wpC" => ((k_here; (with_reducible show wpC _ _ _ _ _ _); (fail_if_success (with_reducible show wpC _ _ (setItem _ _ (Value.bytes _ _)) _ _ _)); (fail_if_success (with_reducible show wpC _ _ (call (Value.ref _) _ _) _ _ _)); (fail_if_success (with_reducible show wpC _ _ (callWith _ (Value.type _) _ _ _) _ _ _)); (fail_if_success (with_reducible show wpC _ _ (call (Value.type _) _ _) _ _ _)); (refine of_any ?_)))
  k_with "wpC" => ((k_here; (with_reducible show wpC _ _ (call (Value.ref _) _ _) _ _ _); (refine' of_anyD ?qqd ?_; (case qqd => (walk_at "dirty")))))
  k_with "wpC" => ((k_here; (with_reducible show wpC _ _ (exec (Stmt.While _ _ _ _) _) _ _ _); (refine c_While ?_)))
  k_with "wpC" => ((k_here; (with_reducible show wpC _ _ (exec (Stmt.If _ _ _ _) _) _ _ _); (refine c_If ?_)))
  k_with "wpC" => ((k_here; (with_reducible show wpC _ _ (exec (Stmt.Assign [Expr.Subscript _ (Expr.Slice _ _ _ _) _] _ _) _) _ _ _); k_dflt (refine c_Assign_Subscript ?_)))
  k_with "wpC" => ((k_here; (with_reducible show wpC _ _ (exec (Stmt.Expr (Expr.Call (Expr.Attribute _ _ _) _ _ _) _) _) _ _ _); k_dflt (refine' c_ExprD ?qqd ?_; (case qqd => (walk_at "dirty")))))
  k_with "wpC" => ((k_here; (with_reducible show wpC _ _ (exec (Stmt.Return (some (Expr.Call (Expr.Attribute _ _ _) _ _ _)) _) _) _ _ _); k_dflt (refine' c_ReturnD ?qqd ?_; (case qqd => (walk_at "dirty")))))
  k_with "wpC" => ((k_here; (with_reducible show wpC _ _ (exec (Stmt.Assign [Expr.Name _ _] (Expr.Call (Expr.Attribute _ _ _) _ _ _) _) _) _ _ _); k_dflt (refine' c_AssignD ?qqd ?_; (case qqd => (walk_at "dirty")))))
  k_with "wpC" => ((k_here; (with_reducible show wpC _ _ (eval (Expr.Call (Expr.Attribute _ _ _) _ _ _) _) _ _ _); k_dflt (refine' c_MethodCallSD ?qqd ?_; (case qqd => (walk_at "dirty")))))
  k_with "wpC" => ((k_here; (with_reducible show wpC _ _ (eval (Expr.Call (Expr.Attribute _ _ _) _ _ _) _) _ _ _); k_dflt (refine' c_MethodCallD ?qqd ?_; (case qqd => (walk_at "dirty")))))
  k_with "wpC" => ((k_here; (with_reducible show wpC _ _ (exec (Stmt.Assign [Expr.Name _ _] (Expr.Call (Expr.Name (PySem.Str.ofString "Builder") _) _ _ _) _) _) _ _ _); k_dflt (refine c_Assign_Name ?_)))
  k_with "wpC" => ((k_here; (with_reducible show wpC _ _ (eval (Expr.Call (Expr.Name (PySem.Str.ofString "Builder") _) _ _ _) _) _ _ _); k_dflt (refine c_Call ?_)))
  k_with "wpC" => ((k_here; (with_reducible show wpC _ _ (exec (Stmt.Assign [Expr.Name _ _] (Expr.Call (Expr.Name (PySem.Str.ofString "_law_made") _) _ _ _) _) _) _ _ _); k_dflt (refine c_Assign_Name ?_)))
  k_with "wpC" => ((k_here; (with_reducible show wpC _ _ (eval (Expr.Call (Expr.Name (PySem.Str.ofString "_law_made") _) _ _ _) _) _ _ _); k_dflt (refine c_Call ?_)))
  k_with "wpC" => ((k_here; (with_reducible show wpC _ _ (exec (Stmt.Assign [Expr.Attribute _ _ _] (Expr.Call (Expr.Name (PySem.Str.ofString "bytearray") _) _ _ _) _) _) _ _ _); k_dflt (refine c_Assign_Attr ?_)))
  k_with "wpC" => ((k_here; (with_reducible show wpC _ _ (exec (Stmt.Assign [Expr.Name _ _] (Expr.Call (Expr.Name (PySem.Str.ofString "bytearray") _) _ _ _) _) _) _ _ _); k_dflt (refine c_Assign_Name ?_)))
  k_with "wpC" => ((k_here; (with_reducible show wpC _ _ (eval (Expr.Call (Expr.Name (PySem.Str.ofString "bytearray") _) _ _ _) _) _ _ _); k_dflt (refine c_Call ?_)))
  k_with "wpC" => ((k_here; (with_reducible show wpC _ _ (execs [] _) _ _ _); (refine c_execs_nil ?_)))
  k_with "wpC" => ((k_here; (with_reducible show wpC _ _ (execs (_ :: _) _) _ _ _); (refine c_execs_cons ?_)))
  k_with "wpC" => ((k_here; (with_reducible show wpC _ _ (callWith _ (Value.ref _) _ _ _) _ _ _); k_dflt (first | refine' c_callWith_K ?qqk1 ?qqk2 ?_; (case qqk1 => k_asm); (case qqk2 => k_is); k_whole | refine' c_callWith_S ?qqk1 ?qqk2 ?_; (case qqk1 => k_asm); (case qqk2 => k_is); k_whole | refine' c_callWith_MS ?qqk1 ?qqk2 ?qqk3 ?qqk4 ?_; (case qqk1 => k_asm); (case qqk2 => k_asm); (case qqk3 => k_mem); (case qqk4 => k_is); k_whole | refine' c_callWith_K0 ?qqk1 ?qqk2 ?_; (case qqk1 => k_in); (case qqk2 => k_is); k_whole | refine' c_callWith_KW ?qqk1 ?qqk2 ?qqk3 ?_; (case qqk1 => k_asm); (case qqk2 => k_is); (case qqk3 => exact rfl); k_whole)))
  k_with "wpC" => ((k_here; (with_reducible show wpC _ _ (callWith _ (Value.type _) _ _ _) _ _ _); k_dflt (refine' c_callWith_T ?_)))
  k_with "wpC" => ((k_here; (with_reducible show wpC _ _ (setItem (Value.ref _) (Value.ref _) (Value.bytes _ _)) _ _ _); k_dflt (refine' c_setN (s := ⟨_, _, _, _, _⟩) ?qqg ?qqF ?qqN ?qqU ?qqh ?qqej ?qqh0 ?qqhs ?qqz ?_; (case qqF => k_asm); (case qqN => k_asm); (case qqU => k_updF); (case qqh => k_asm); (case qqg => exact rfl); (case qqej => (walk_at "cl"; omega)); (case qqh0 => (walk_at "cl"; omega)); (case qqhs => ((walk_at "cl"); first | omega | (simp only [List.length_append, List.length_replicate, Array.size_replicate, lay_length, List.length_nil] at *; omega))); (case qqz => (walk_at "cl"; omega)); k_whole); intro _ _ _ _ _ _; (try k_sweep)))
  k_with "wpC" => ((k_here; (with_reducible show wpC _ _ (call (Value.type _) [Value.int _ _]) _ _ _); k_dflt (refine' c_new_int ?qqg ?qqF ?qqN ?qqh0 ?qqhz ?_; (case qqg => exact rfl); (case qqF => k_asm); (case qqN => k_asm); (case qqh0 => (walk_at "cl"; omega)); (case qqhz => (walk_at "cl"; omega)); k_whole); intro _ _ _ _ _; (try (walk_at "lt1")); (try k_sweep)))
  k_with "wpC" => ((k_here; (with_reducible show wpC _ _ (call (Value.type _) [Value.bytes _ _]) _ _ _); k_dflt (refine' c_new_bytes ?qqg ?qqF ?qqN ?qqhz ?_; (case qqg => exact rfl); (case qqF => k_asm); (case qqN => k_asm); (case qqhz => (walk_at "cl"; omega)); k_whole); intro _ _ _ _ _; (try (walk_at "lt1")); (try k_sweep)))
  k_with "LeaveM" => ((k_dflt (refine' leaveM_ ?qqk1 ?qqk2 ?_; (case qqk1 => k_asm); (case qqk2 => k_asm); k_whole); intro _ _ _; (try dsimp only [InitBack, CmpBack, LenBack, StrBack, BoolBack]); (try refine ⟨rfl, ?_⟩)))
  k_with "getMethod str" => ((k_here; (with_reducible show wpAny _ _ (getMethod (Value.str _ _) (PySem.Str.ofString "encode") _) _ _ _); k_dflt (refine' str_encode_get ?_; k_whole)))
  k_with "call builtin:str.encode" => ((k_here; k_dflt (refine' str_encode ?qqh ?qqz ?_; (case qqh => k_asm); (case qqz => (walk_at "cl"; omega)); k_whole); intro _ _))
  k_with "getAttr ref" => ((k_here; k_dflt (refine' kbm_boundS ?qqk1 ?qqk2 ?qqk3 ?qqk4 ?qqk5 ?qqk6 ?qqk6b ?qqk7 ?qqk8 ?qqk9 ?qqk10 ?qqk11 ?_; (case qqk4 => k_inst); (case qqk1 => k_asm); (case qqk2 => k_asm); (case qqk7 => k_is); (case qqk3 => k_asm); (case qqk5 => k_is); (case qqk6 => k_is); (case qqk6b => k_is); (case qqk8 => k_is); (case qqk9 => k_is); (case qqk10 => k_is); (case qqk11 => decide +kernel); k_whole); intro _ _ _ _ _; (try (walk_at "lt1")); (try k_sweep)))
  k_with "eval Name" => ((k_here; (with_reducible show wpAny _ _ (eval (Expr.Name (PySem.Str.ofString "bytearray") _) _) _ _ _); with_unfolding_all refine guard_global (by rfl) ?_; k_dflt (refine' name_B ?qqkF ?qqk1 ?qqk2 ?qqk3 ?qqk4 ?qqk5 ?_; (case qqkF => with_reducible assumption); (case qqk1 => with_reducible assumption); (case qqk2 => k_asm); (case qqk3 => k_is); (case qqk4 => boot_by_name); (case qqk5 => decide); k_whole)))
  k_with "getAttr ref" => ((k_here; (with_reducible show wpAny _ _ (getAttr (Value.ref _) _ _) _ _ _); k_dflt (refine' get_slot ?qqk1 ?qqk2 ?qqk3 ?qqk4 ?qqk5 ?qqk6 ?qqk7 ?qqk8 ?qqk9 ?qqk10 ?qqk11 ?_; (case qqk1 => with_reducible assumption); (case qqk2 => with_reducible assumption); (case qqk3 => k_inst); (case qqk4 => k_is); (case qqk5 => k_is); (case qqk6 => k_is); (case qqk7 => k_is); (case qqk8 => k_is); (case qqk9 => k_is); (case qqk10 => k_slotget); (case qqk11 => k_handed); k_whole)))
  k_with "ite" => ((k_here; k_openite; k_dflt (first | (refine ite_pos (by ((walk_at "cl"); (try simp only [decide_eq_true_eq, beq_iff_eq, bne_iff_ne, ne_eq]); omega)) ?_) | (refine ite_neg (by ((walk_at "cl"); (try simp only [decide_eq_true_eq, beq_iff_eq, bne_iff_ne, ne_eq]); omega)) ?_)); walk_say "PRUNED here"))
  k_with "binaryOp Mult bytes int" => ((k_here; k_dflt (refine' zeros_mul ?qqh0 ?qqhn ?_; (case qqh0 => (walk_at "cl"; omega)); (case qqhn => (walk_at "cl"; omega)); k_whole); intro _ _))
  k_with "call builtin:len" => ((k_here; (with_reducible show wpAny _ _ (call (Value.builtin "len") [Value.ref _]) _ _ _); k_dflt (refine' ba_lenN ?qqN ?qqm ?qqz ?_; (case qqN => k_asm); (case qqm => k_mem); (case qqz => (walk_at "cl"; omega)); k_whole)))
  k_with "setItem ref ref" => ((k_here; (with_reducible show wpAny _ _ (setItem (Value.ref _) (Value.ref _) (Value.ref _)) _ _ _); k_dflt (refine' ba_setN (s := ⟨_, _, _, _, _⟩) ?qqF ?qqN ?qqU ?qqm ?qqne ?qqh0 ?qqhs ?qqhz ?_; (case qqF => k_asm); (case qqN => k_asm); (case qqU => k_updF); (case qqm => k_mem); (case qqne => k_ne); (case qqh0 => (walk_at "cl"; omega)); (case qqhs => ((walk_at "cl"); first | omega | (simp only [List.length_append, List.length_replicate, Array.size_replicate, lay_length, List.length_nil] at *; omega))); (case qqhz => ((walk_at "cl"); first | omega | (simp only [List.length_append, List.length_replicate, Array.size_replicate, lay_length, List.length_nil] at *; omega))); k_whole); intro _ _ _ _ _ _; (try k_sweep)))
  k_with "getMethod ref" => ((k_here; (with_reducible show wpAny _ _ (getMethod (Value.ref _) (PySem.Str.ofString "unpack_from") _) _ _ _); k_dflt (refine' so_fromK ?qqX ?qqh ?_; (case qqX => k_in); (case qqh => exact rfl); k_whole)))
  k_with "getMethod ref" => ((k_here; (with_reducible show wpAny _ _ (getMethod (Value.ref _) (PySem.Str.ofString "pack_into") _) _ _ _); k_dflt (refine' so_intoK ?qqX ?qqh ?_; (case qqX => k_in); (case qqh => exact rfl); k_whole)))
  k_with "call builtin:_struct.Struct.unpack_from" => ((k_here; k_dflt (refine' so_fromN ?qqX ?qqF ?qqN ?qqh ?qqf ?qqb ?qqh0 ?qqh1 ?qqhz ?_; (case qqX => k_in); (case qqF => k_asm); (case qqN => k_asm); (case qqh => exact rfl); (case qqf => constructor); (case qqb => first | exact .inl ⟨_, rfl⟩ | exact .inr ⟨_, rfl, by k_mem⟩); (case qqh0 => (walk_at "cl"; omega)); (case qqh1 => (walk_at "cl"; omega)); (case qqhz => (walk_at "cl"; omega)); k_whole); intro _ _ _ _ _ _ _; (try (walk_at "lt1")); (try k_sweep)))
  k_with "call builtin:_struct.Struct.unpack_from" => ((k_here; k_dflt (refine' so_fromB ?qqX ?qqF ?qqN ?qqh ?qqf ?qqb ?qqh0 ?qqh1 ?qqhz ?_; (case qqX => k_in); (case qqF => k_asm); (case qqN => k_asm); (case qqh => exact rfl); (case qqf => constructor); (case qqb => exact BufIn.keep (by assumption) (by k_asm)); (case qqh0 => (walk_at "cl"; omega)); (case qqh1 => (walk_at "cl"; omega)); (case qqhz => (walk_at "cl"; omega)); k_whole); intro _ _ _ _ _ _ _; (try (walk_at "lt1")); (try k_sweep)))
  k_with "call builtin:_struct.Struct.pack_into" => ((k_here; k_dflt (refine' so_intoN ?qqX ?qqF ?qqN ?qqU ?qqh ?qqf ?qqh0 ?qqh1 ?qqhz ?qqlo ?qqhi ?_; (case qqX => k_in); (case qqF => k_asm); (case qqN => k_asm); (case qqU => k_updF); (case qqh => exact rfl); (case qqf => constructor); (case qqh0 => (walk_at "cl"; omega)); (case qqh1 => (walk_at "cl"; omega)); (case qqhz => (walk_at "cl"; omega)); (case qqlo => ((first | rw [if_neg (by decide)] | rw [if_pos (by decide)]); (try simp only [Nat.reduceMul, Nat.reduceSub, Int.reducePow, Int.reduceNeg]); walk_at "cl"; omega)); (case qqhi => ((first | rw [if_neg (by decide)] | rw [if_pos (by decide)]); (try simp only [Nat.reduceMul, Nat.reduceSub, Int.reducePow, Int.reduceNeg]); walk_at "cl"; omega)); k_whole); intro _ _ _; (try k_sweep)))
  k_with "wpC" => ((k_here; (with_reducible show wpC _ _ (call (Value.ref _) _ _) _ _ _); (walk_at "wpCc")))
  k_with "wpCc" => ((k_here; (with_reducible show wpC _ _ (call (Value.ref 418) _ _) _ _ _); k_dflt (refine' prep_k ?qqB ?qqF ?qqX ?qqT ?qqhk ?qqhd ?qqhu ?qqf0 ?qqf1 ?qqf2 ?qqf3 ?qqf4 (part_of ?qqN (sub3 ?qqm0 ?qqm1 ?qqm2) ?qqS) ?_; (case qqB => k_asm); (case qqF => k_asm); (case qqX => k_asm); (case qqT => k_asm); (case qqhk => first | exact rfl | assumption); (case qqN => k_asm); (case qqm0 => k_mem); (case qqm1 => k_mem); (case qqm2 => k_mem); (case qqhd => (walk_at "room")); (case qqhu => (walk_at "units")); (case qqf0 => (walk_at "ft")); (case qqf1 => (walk_at "ft")); (case qqf2 => (walk_at "ft")); (case qqf3 => (walk_at "ft")); (case qqf4 => (walk_at "ft")); (case qqS => (walk_at "sel"))); (walk_at "cl1"); intro _ _ _ _ _ _ _ _ _ _ _ _ _ _ _ _ _ _; (walk_at "fin93")))
  k_with "call ref" => ((k_here; (with_reducible show wpAny _ _ (call (Value.ref 709) [_, _, Value.ref 63] _) _ _ _); k_dflt (refine' place63_k ?qqB ?qqF ?qqX ?qqT ?qqhk ?qqhd ?qqhu ?qqf0 ?qqf1 ?qqf2 ?qqf3 ?qqf4 (part_of ?qqN (sub3 ?qqm0 ?qqm1 ?qqm2) ?qqS) ?_; (case qqB => k_asm); (case qqF => k_asm); (case qqX => k_asm); (case qqT => k_asm); (case qqhk => first | exact rfl | assumption); (case qqN => k_asm); (case qqm0 => k_mem); (case qqm1 => k_mem); (case qqm2 => k_mem); (case qqhd => (walk_at "room")); (case qqhu => (walk_at "units")); (case qqf0 => (walk_at "ft")); (case qqf1 => (walk_at "ft")); (case qqf2 => (walk_at "ft")); (case qqf3 => (walk_at "ft")); (case qqf4 => (walk_at "ft")); (case qqS => (walk_at "sel"))); (walk_at "cl1"); intro _ _ _ _ _ _ _ _ _; (walk_at "fin93")))
  k_with "call ref" => ((k_here; (with_reducible show wpAny _ _ (call (Value.ref 482) _ _) _ _ _); k_dflt (refine' notnested_k ?qqB ?qqF ?qqX ?qqT ?qqhk ?qqhd ?qqhu  (part_of ?qqN (sub3 ?qqm0 ?qqm1 ?qqm2) ?qqS) ?_; (case qqB => k_asm); (case qqF => k_asm); (case qqX => k_asm); (case qqT => k_asm); (case qqhk => first | exact rfl | assumption); (case qqN => k_asm); (case qqm0 => k_mem); (case qqm1 => k_mem); (case qqm2 => k_mem); (case qqhd => (walk_at "room")); (case qqhu => (walk_at "units")); (case qqS => (walk_at "sel"))); (walk_at "cl1"); intro _ _  _ _ _; (walk_at "fin93")))
  k_with "call ref" => ((k_here; (with_reducible show wpAny _ _ (call (Value.ref 404) _ _) _ _ _); k_dflt (refine' offset_k ?qqB ?qqF ?qqX ?qqT ?qqhk ?qqhd ?qqhu ?qqf0 ?qqf1 (part_of ?qqN (sub3 ?qqm0 ?qqm1 ?qqm2) ?qqS) ?_; (case qqB => k_asm); (case qqF => k_asm); (case qqX => k_asm); (case qqT => k_asm); (case qqhk => first | exact rfl | assumption); (case qqN => k_asm); (case qqm0 => k_mem); (case qqm1 => k_mem); (case qqm2 => k_mem); (case qqhd => (walk_at "room")); (case qqhu => (walk_at "units")); (case qqf0 => (walk_at "ft")); (case qqf1 => (walk_at "ft")); (case qqS => (walk_at "sel"))); (walk_at "cl1"); intro _ _ _ _ _ _; (walk_at "fin93")))
  k_with "call ref" => ((k_here; (with_reducible show wpAny _ _ (call (Value.ref 447) _ _) _ _ _); k_dflt (refine' endvec_k ?qqB ?qqF ?qqX ?qqT ?qqhk ?qqhd ?qqhu ?qqf0 ?qqf1 ?qqf2 ?qqf3 ?qqf4 (part_of ?qqN (sub3 ?qqm0 ?qqm1 ?qqm2) ?qqS) ?_; (case qqB => k_asm); (case qqF => k_asm); (case qqX => k_asm); (case qqT => k_asm); (case qqhk => first | exact rfl | assumption); (case qqN => k_asm); (case qqm0 => k_mem); (case qqm1 => k_mem); (case qqm2 => k_mem); (case qqhd => (walk_at "room")); (case qqhu => (walk_at "units")); (case qqf0 => (walk_at "ft")); (case qqf1 => (walk_at "ft")); (case qqf2 => (walk_at "ft")); (case qqf3 => (walk_at "ft")); (case qqf4 => (walk_at "ft")); (case qqS => (walk_at "sel"))); (walk_at "cl1"); intro _ _ _ _ _ _ _ _ _ _; (walk_at "fin93")))
  trivial

theorem cstring_k : ∀ {w : World} {mean : ExcName → Option Value} {mg mb : Str → Option Value} {dp un : Nat} {cn : Str} {cs : Scope} {a : Addr} {ccd : Value} {cl : List (Str × Addr)} {outer : List Env} {A₀ : Around} {base h₀ : Heap} {L : Addr} {m : Str → Option Value} {s : Shared}
    {Q E : Value → Shared → Prop} {rest : List (Addr × Obj)} (B : Below A₀ base outer h₀) (F : Fr h₀ L s.heap m) (X : (Mine.hd.heap_39 w.params).In h₀) (T : Top Mine.hd.view_39 LO mean mg mb h₀) (hk : cs.kind = .function) (hd : dp + 6 < recursionLimit) (hu : un + 48 < cLine) {b : Addr} {dx : Addr} {ba : Addr} {dv : Addr} {arr : Array UInt8} {v1 : Value} {v7 : Value} {v9 : Option Value} {hd1 : Int} {ma : Int} {t1 : Tok} {t2 : Tok} {fin : Bool} {out : List UInt8} {x : Str} {tx : Tok} (hH : Has arr hd1 out) (hz : arr.size ≤ 2048) (hx : ∀ c ∈ x.cps, Str.isSurrogate c = false) (hxz : (enc x).size ≤ 100) (ho : out.length ≤ 700) (P : Part h₀ L s.heap [(b, BO dx ba v1 fin hd1 t1 ma t2 false v7 v9 dv), (dx, dictOf [] 0), (ba, AO arr)] rest)
    (hret : ∀ (h' : Heap) (tk' : Nat) (ba' : Addr) (arr' : Array UInt8) (hd' : Int) (ma' : Int) (t1' : Tok) (t2' : Tok) (tk2 : Tok), Has arr' hd' (lay 4 (enc x).size ++ ((enc x).toList ++ (lay 1 0 ++ pd 4 ((enc x).size + 1) out))) → arr'.size ≤ 2048 → arr.size ≤ arr'.size → ma' = max ma 4 → Fr h₀ L h' m → News h₀ L h' ([(b, BO dx ba' v1 fin hd' t1' ma' t2' false v7 (some .none) dv), (dx, dictOf [] 0), (ba', AO arr')] ++ rest) → AllNes [(b, BO dx ba' v1 fin hd' t1' ma' t2' false v7 (some .none) dv), (dx, dictOf [] 0), (ba', AO arr')] rest → Q (.int (((enc x).toList ++ (lay 1 0 ++ pd 4 ((enc x).size + 1) out)).length + 4 : Int) tk2) { s with heap := h', toks := tk' }),
    wpC (model _root_.PySem.Challenge.rw_bp0005_01.row.prog w) (ktrTop dp un (some []) cn cs L a ccd cl outer) (call (.ref 461) [.ref b, .str x tx] ) Q E s := by
  refine @Mine.hush _ (by
  k_fill
  intro w mean mg mb dp un cn cs a ccd cl outer A₀ base h₀ L m s Q E rest B F X T hk hd hu b dx ba dv arr v1 v7 v9 hd1 ma t1 t2 fin out x tx hH hz hx hxz ho P hret
  have N := P.news
  have hdis := P.dis
  obtain ⟨n1, n2, n3⟩ := news3B N
  refine c_call ?_
  k_dflt (refine' defC ?k1 ?k2 ?k3 ?k4 ?kd ?k5 ?kA ?kF ?kK ?k6 ?k7 ?k8 ?k9 ?kB ?_ ?c2 ?c3 ?c4 ?c5; (case kA => exact rfl); (case kF => exact rfl); (case kK => assumption); (case k1 => k_asm); (case k2 => k_asm); (case k3 => k_asm); (case k4 => k_asm); (case kd => k_asm); (case k5 => k_asm); (case k6 => k_is); (case k7 => k_is); (case k8 => ktr_room); (case k9 => exact BindsTo.of_eq rfl); (case c5 => decide); (case kB => exact locs rfl); (case c2 => exact rfl); (case c3 => exact rfl); (case c4 => exact rfl); k_whole; intro g' L' h' FG' F' N' B' X' T' l0 ; (try dsimp only); (try k_fold))
  have hH0 := hH.1
  have hH1 := hH.2.1
  k_steps
  all_goals dsimp only [wants]
  all_goals (rename_i kF kN kD; simp only [Int.mul_one] at *; exact hret _ _ _ _ _ _ _ _ _ (by first | assumption | omega) (by first | assumption | omega) (by first | assumption | omega) (by first | assumption | omega) kF (news_sub kN (sub3 (by k_mem) (by k_mem) (by k_mem))) (allNes_of (dis_sub kD (sub3 (by k_mem) (by k_mem) (by k_mem)))))) ?_
  intro q f
  simpa using Mine.hushed f 5 fun n i => i
theorem setup_KH_2 : True := by
  k_with "wpCc" => ((k_here; (with_reducible show wpC _ _ (call (Value.ref 461) _ _) _ _ _); k_dflt (refine' cstring_k ?qqB ?qqF ?qqX ?qqT ?qqhk ?qqhd ?qqhu ?qqf0 ?qqf1 ?qqf2 ?qqf3 ?qqf4 (part_of ?qqN (sub3 ?qqm0 ?qqm1 ?qqm2) ?qqS) ?_; (case qqB => k_asm); (case qqF => k_asm); (case qqX => k_asm); (case qqT => k_asm); (case qqhk => first | exact rfl | assumption); (case qqN => k_asm); (case qqm0 => k_mem); (case qqm1 => k_mem); (case qqm2 => k_mem); (case qqhd => (walk_at "room")); (case qqhu => (walk_at "units")); (case qqf0 => (walk_at "ft")); (case qqf1 => (walk_at "ft")); (case qqf2 => (walk_at "ft")); (case qqf3 => (walk_at "ft")); (case qqf4 => (walk_at "ft")); (case qqS => (walk_at "sel"))); (walk_at "cl1"); intro _ _ _ _ _ _ _ _ _ _ _ _ _ _ _ _; (walk_at "fin93")))
  trivial

theorem cbytes_k : ∀ {w : World} {mean : ExcName → Option Value} {mg mb : Str → Option Value} {dp un : Nat} {cn : Str} {cs : Scope} {a : Addr} {ccd : Value} {cl : List (Str × Addr)} {outer : List Env} {A₀ : Around} {base h₀ : Heap} {L : Addr} {m : Str → Option Value} {s : Shared}
    {Q E : Value → Shared → Prop} {rest : List (Addr × Obj)} (B : Below A₀ base outer h₀) (F : Fr h₀ L s.heap m) (X : (Mine.hd.heap_39 w.params).In h₀) (T : Top Mine.hd.view_39 LO mean mg mb h₀) (hk : cs.kind = .function) (hd : dp + 6 < recursionLimit) (hu : un + 48 < cLine) {b : Addr} {dx : Addr} {ba : Addr} {dv : Addr} {arr : Array UInt8} {v1 : Value} {v7 : Value} {v9 : Option Value} {hd1 : Int} {ma : Int} {t1 : Tok} {t2 : Tok} {fin : Bool} {out : List UInt8} {x : Array UInt8} {tx : Tok} (hH : Has arr hd1 out) (hz : arr.size ≤ 2048) (hxz : x.size ≤ 700) (ho : out.length ≤ 100) (P : Part h₀ L s.heap [(b, BO dx ba v1 fin hd1 t1 ma t2 false v7 v9 dv), (dx, dictOf [] 0), (ba, AO arr)] rest)
    (hret : ∀ (h' : Heap) (tk' : Nat) (ba' : Addr) (arr' : Array UInt8) (hd' : Int) (ma' : Int) (t1' : Tok) (t2' : Tok) (tk2 : Tok), Has arr' hd' (lay 4 x.size ++ (x.toList ++ pd 4 x.size out)) → arr'.size ≤ 2048 → arr.size ≤ arr'.size → ma' = max ma 4 → Fr h₀ L h' m → News h₀ L h' ([(b, BO dx ba' v1 fin hd' t1' ma' t2' false v7 (some .none) dv), (dx, dictOf [] 0), (ba', AO arr')] ++ rest) → AllNes [(b, BO dx ba' v1 fin hd' t1' ma' t2' false v7 (some .none) dv), (dx, dictOf [] 0), (ba', AO arr')] rest → Q (.int ((x.toList ++ pd 4 x.size out).length + 4 : Int) tk2) { s with heap := h', toks := tk' }),
    wpC (model _root_.PySem.Challenge.rw_bp0005_01.row.prog w) (ktrTop dp un (some []) cn cs L a ccd cl outer) (call (.ref 468) [.ref b, .bytes x tx] ) Q E s := by
  refine @Mine.hush _ (by
  k_fill
  intro w mean mg mb dp un cn cs a ccd cl outer A₀ base h₀ L m s Q E rest B F X T hk hd hu b dx ba dv arr v1 v7 v9 hd1 ma t1 t2 fin out x tx hH hz hxz ho P hret
  have N := P.news
  have hdis := P.dis
  obtain ⟨n1, n2, n3⟩ := news3B N
  refine c_call ?_
  k_dflt (refine' defC ?k1 ?k2 ?k3 ?k4 ?kd ?k5 ?kA ?kF ?kK ?k6 ?k7 ?k8 ?k9 ?kB ?_ ?c2 ?c3 ?c4 ?c5; (case kA => exact rfl); (case kF => exact rfl); (case kK => assumption); (case k1 => k_asm); (case k2 => k_asm); (case k3 => k_asm); (case k4 => k_asm); (case kd => k_asm); (case k5 => k_asm); (case k6 => k_is); (case k7 => k_is); (case k8 => ktr_room); (case k9 => exact BindsTo.of_eq rfl); (case c5 => decide); (case kB => exact locs rfl); (case c2 => exact rfl); (case c3 => exact rfl); (case c4 => exact rfl); k_whole; intro g' L' h' FG' F' N' B' X' T' l0 ; (try dsimp only); (try k_fold))
  have hH0 := hH.1
  have hH1 := hH.2.1
  k_steps
  all_goals dsimp only [wants]
  all_goals (rename_i kF kN kD; simp only [Int.mul_one] at *; exact hret _ _ _ _ _ _ _ _ _ (by first | assumption | omega) (by first | assumption | omega) (by first | assumption | omega) (by first | assumption | omega) kF (news_sub kN (sub3 (by k_mem) (by k_mem) (by k_mem))) (allNes_of (dis_sub kD (sub3 (by k_mem) (by k_mem) (by k_mem)))))) ?_
  intro q f
  simpa using Mine.hushed f 5 fun n i => i
-- KI

theorem setup_KI_1 : True := by
  k_with_none
  k_with "wpC" => ((k_here; (with_reducible show wpC _ _ _ _ _ _); (fail_if_success (with_reducible show wpC _ _ (setItem _ _ (Value.bytes _ _)) _ _ _)); (fail_if_success (with_reducible show wpC _ _ (call (Value.ref _) _ _) _ _ _)); (fail_if_success (with_reducible show wpC _ _ (callWith _ (Value.type _) _ _ _) _ _ _)); (fail_if_success (with_reducible show wpC _ _ (call (Value.type _) _ _) _ _ _)); (refine of_any ?_)))
  k_with "wpC" => ((k_here; (with_reducible show wpC _ _ (call (Value.ref _) _ _) _ _ _); (refine' of_anyD ?qqd ?_; (case qqd => (walk_at "dirty")))))
  k_with "wpC" => ((k_here; (with_reducible show wpC _ _ (exec (Stmt.While _ _ _ _) _) _ _ _); (refine c_While ?_)))
  k_with "wpC" => ((k_here; (with_reducible show wpC _ _ (exec (Stmt.If _ _ _ _) _) _ _ _); (refine c_If ?_)))
  k_with "wpC" => ((k_here; (with_reducible show wpC _ _ (exec (Stmt.Assign [Expr.Subscript _ (Expr.Slice _ _ _ _) _] _ _) _) _ _ _); k_dflt (refine c_Assign_Subscript ?_)))
  k_with "wpC" => ((k_here; (with_reducible show wpC _ _ (exec (Stmt.Expr (Expr.Call (Expr.Attribute _ _ _) _ _ _) _) _) _ _ _); k_dflt (refine' c_ExprD ?qqd ?_; (case qqd => (walk_at "dirty")))))
  k_with "wpC" => ((k_here; (with_reducible show wpC _ _ (exec (Stmt.Return (some (Expr.Call (Expr.Attribute _ _ _) _ _ _)) _) _) _ _ _); k_dflt (refine' c_ReturnD ?qqd ?_; (case qqd => (walk_at "dirty")))))
  k_with "wpC" => ((k_here; (with_reducible show wpC _ _ (exec (Stmt.Assign [Expr.Name _ _] (Expr.Call (Expr.Attribute _ _ _) _ _ _) _) _) _ _ _); k_dflt (refine' c_AssignD ?qqd ?_; (case qqd => (walk_at "dirty")))))
  k_with "wpC" => ((k_here; (with_reducible show wpC _ _ (eval (Expr.Call (Expr.Attribute _ _ _) _ _ _) _) _ _ _); k_dflt (refine' c_MethodCallSD ?qqd ?_; (case qqd => (walk_at "dirty")))))
  k_with "wpC" => ((k_here; (with_reducible show wpC _ _ (eval (Expr.Call (Expr.Attribute _ _ _) _ _ _) _) _ _ _); k_dflt (refine' c_MethodCallD ?qqd ?_; (case qqd => (walk_at "dirty")))))
  k_with "wpC" => ((k_here; (with_reducible show wpC _ _ (exec (Stmt.Assign [Expr.Name _ _] (Expr.Call (Expr.Name (PySem.Str.ofString "Builder") _) _ _ _) _) _) _ _ _); k_dflt (refine c_Assign_Name ?_)))
  k_with "wpC" => ((k_here; (with_reducible show wpC _ _ (eval (Expr.Call (Expr.Name (PySem.Str.ofString "Builder") _) _ _ _) _) _ _ _); k_dflt (refine c_Call ?_)))
  k_with "wpC" => ((k_here; (with_reducible show wpC _ _ (exec (Stmt.Assign [Expr.Name _ _] (Expr.Call (Expr.Name (PySem.Str.ofString "_law_made") _) _ _ _) _) _) _ _ _); k_dflt (refine c_Assign_Name ?_)))
  k_with "wpC" => ((k_here; (with_reducible show wpC _ _ (eval (Expr.Call (Expr.Name (PySem.Str.ofString "_law_made") _) _ _ _) _) _ _ _); k_dflt (refine c_Call ?_)))
  k_with "wpC" => ((k_here; (with_reducible show wpC _ _ (exec (Stmt.Assign [Expr.Attribute _ _ _] (Expr.Call (Expr.Name (PySem.Str.ofString "bytearray") _) _ _ _) _) _) _ _ _); k_dflt (refine c_Assign_Attr ?_)))
  k_with "wpC" => ((k_here; (with_reducible show wpC _ _ (exec (Stmt.Assign [Expr.Name _ _] (Expr.Call (Expr.Name (PySem.Str.ofString "bytearray") _) _ _ _) _) _) _ _ _); k_dflt (refine c_Assign_Name ?_)))
  k_with "wpC" => ((k_here; (with_reducible show wpC _ _ (eval (Expr.Call (Expr.Name (PySem.Str.ofString "bytearray") _) _ _ _) _) _ _ _); k_dflt (refine c_Call ?_)))
  k_with "wpC" => ((k_here; (with_reducible show wpC _ _ (execs [] _) _ _ _); (refine c_execs_nil ?_)))
  k_with "wpC" => ((k_here; (with_reducible show wpC _ _ (execs (_ :: _) _) _ _ _); (refine c_execs_cons ?_)))
  k_with "wpC" => ((k_here; (with_reducible show wpC _ _ (callWith _ (Value.ref _) _ _ _) _ _ _); k_dflt (first | refine' c_callWith_K ?qqk1 ?qqk2 ?_; (case qqk1 => k_asm); (case qqk2 => k_is); k_whole | refine' c_callWith_S ?qqk1 ?qqk2 ?_; (case qqk1 => k_asm); (case qqk2 => k_is); k_whole | refine' c_callWith_MS ?qqk1 ?qqk2 ?qqk3 ?qqk4 ?_; (case qqk1 => k_asm); (case qqk2 => k_asm); (case qqk3 => k_mem); (case qqk4 => k_is); k_whole | refine' c_callWith_K0 ?qqk1 ?qqk2 ?_; (case qqk1 => k_in); (case qqk2 => k_is); k_whole | refine' c_callWith_KW ?qqk1 ?qqk2 ?qqk3 ?_; (case qqk1 => k_asm); (case qqk2 => k_is); (case qqk3 => exact rfl); k_whole)))
  k_with "wpC" => ((k_here; (with_reducible show wpC _ _ (callWith _ (Value.type _) _ _ _) _ _ _); k_dflt (refine' c_callWith_T ?_)))
  k_with "wpC" => ((k_here; (with_reducible show wpC _ _ (setItem (Value.ref _) (Value.ref _) (Value.bytes _ _)) _ _ _); k_dflt (refine' c_setN (s := ⟨_, _, _, _, _⟩) ?qqg ?qqF ?qqN ?qqU ?qqh ?qqej ?qqh0 ?qqhs ?qqz ?_; (case qqF => k_asm); (case qqN => k_asm); (case qqU => k_updF); (case qqh => k_asm); (case qqg => exact rfl); (case qqej => (walk_at "cl"; omega)); (case qqh0 => (walk_at "cl"; omega)); (case qqhs => ((walk_at "cl"); first | omega | (simp only [List.length_append, List.length_replicate, Array.size_replicate, lay_length, List.length_nil] at *; omega))); (case qqz => (walk_at "cl"; omega)); k_whole); intro _ _ _ _ _ _; (try k_sweep)))
  k_with "wpC" => ((k_here; (with_reducible show wpC _ _ (call (Value.type _) [Value.int _ _]) _ _ _); k_dflt (refine' c_new_int ?qqg ?qqF ?qqN ?qqh0 ?qqhz ?_; (case qqg => exact rfl); (case qqF => k_asm); (case qqN => k_asm); (case qqh0 => (walk_at "cl"; omega)); (case qqhz => (walk_at "cl"; omega)); k_whole); intro _ _ _ _ _; (try (walk_at "lt1")); (try k_sweep)))
  k_with "wpC" => ((k_here; (with_reducible show wpC _ _ (call (Value.type _) [Value.bytes _ _]) _ _ _); k_dflt (refine' c_new_bytes ?qqg ?qqF ?qqN ?qqhz ?_; (case qqg => exact rfl); (case qqF => k_asm); (case qqN => k_asm); (case qqhz => (walk_at "cl"; omega)); k_whole); intro _ _ _ _ _; (try (walk_at "lt1")); (try k_sweep)))
  k_with "LeaveM" => ((k_dflt (refine' leaveM_ ?qqk1 ?qqk2 ?_; (case qqk1 => k_asm); (case qqk2 => k_asm); k_whole); intro _ _ _; (try dsimp only [InitBack, CmpBack, LenBack, StrBack, BoolBack]); (try refine ⟨rfl, ?_⟩)))
  k_with "getMethod str" => ((k_here; (with_reducible show wpAny _ _ (getMethod (Value.str _ _) (PySem.Str.ofString "encode") _) _ _ _); k_dflt (refine' str_encode_get ?_; k_whole)))
  k_with "call builtin:str.encode" => ((k_here; k_dflt (refine' str_encode ?qqh ?qqz ?_; (case qqh => k_asm); (case qqz => (walk_at "cl"; omega)); k_whole); intro _ _))
  k_with "getAttr ref" => ((k_here; k_dflt (refine' kbm_boundS ?qqk1 ?qqk2 ?qqk3 ?qqk4 ?qqk5 ?qqk6 ?qqk6b ?qqk7 ?qqk8 ?qqk9 ?qqk10 ?qqk11 ?_; (case qqk4 => k_inst); (case qqk1 => k_asm); (case qqk2 => k_asm); (case qqk7 => k_is); (case qqk3 => k_asm); (case qqk5 => k_is); (case qqk6 => k_is); (case qqk6b => k_is); (case qqk8 => k_is); (case qqk9 => k_is); (case qqk10 => k_is); (case qqk11 => decide +kernel); k_whole); intro _ _ _ _ _; (try (walk_at "lt1")); (try k_sweep)))
  k_with "eval Name" => ((k_here; (with_reducible show wpAny _ _ (eval (Expr.Name (PySem.Str.ofString "bytearray") _) _) _ _ _); with_unfolding_all refine guard_global (by rfl) ?_; k_dflt (refine' name_B ?qqkF ?qqk1 ?qqk2 ?qqk3 ?qqk4 ?qqk5 ?_; (case qqkF => with_reducible assumption); (case qqk1 => with_reducible assumption); (case qqk2 => k_asm); (case qqk3 => k_is); (case qqk4 => boot_by_name); (case qqk5 => decide); k_whole)))
  k_with "getAttr ref" => ((k_here; (with_reducible show wpAny _ _ (getAttr (Value.ref _) _ _) _ _ _); k_dflt (refine' get_slot ?qqk1 ?qqk2 ?qqk3 ?qqk4 ?qqk5 ?qqk6 ?qqk7 ?qqk8 ?qqk9 ?qqk10 ?qqk11 ?_; (case qqk1 => with_reducible assumption); (case qqk2 => with_reducible assumption); (case qqk3 => k_inst); (case qqk4 => k_is); (case qqk5 => k_is); (case qqk6 => k_is); (case qqk7 => k_is); (case qqk8 => k_is); (case qqk9 => k_is); (case qqk10 => k_slotget); (case qqk11 => k_handed); k_whole)))
  k_with "ite" => ((k_here; k_openite; k_dflt (first | (refine ite_pos (by ((walk_at "cl"); (try simp only [decide_eq_true_eq, beq_iff_eq, bne_iff_ne, ne_eq]); omega)) ?_) | (refine ite_neg (by ((walk_at "cl"); (try simp only [decide_eq_true_eq, beq_iff_eq, bne_iff_ne, ne_eq]); omega)) ?_)); walk_say "PRUNED here"))
  k_with "binaryOp Mult bytes int" => ((k_here; k_dflt (refine' zeros_mul ?qqh0 ?qqhn ?_; (case qqh0 => (walk_at "cl"; omega)); (case qqhn => (walk_at "cl"; omega)); k_whole); intro _ _))
  k_with "call builtin:len" => ((k_here; (with_reducible show wpAny _ _ (call (Value.builtin "len") [Value.ref _]) _ _ _); k_dflt (refine' ba_lenN ?qqN ?qqm ?qqz ?_; (case qqN => k_asm); (case qqm => k_mem); (case qqz => (walk_at "cl"; omega)); k_whole)))
  k_with "setItem ref ref" => ((k_here; (with_reducible show wpAny _ _ (setItem (Value.ref _) (Value.ref _) (Value.ref _)) _ _ _); k_dflt (refine' ba_setN (s := ⟨_, _, _, _, _⟩) ?qqF ?qqN ?qqU ?qqm ?qqne ?qqh0 ?qqhs ?qqhz ?_; (case qqF => k_asm); (case qqN => k_asm); (case qqU => k_updF); (case qqm => k_mem); (case qqne => k_ne); (case qqh0 => (walk_at "cl"; omega)); (case qqhs => ((walk_at "cl"); first | omega | (simp only [List.length_append, List.length_replicate, Array.size_replicate, lay_length, List.length_nil] at *; omega))); (case qqhz => ((walk_at "cl"); first | omega | (simp only [List.length_append, List.length_replicate, Array.size_replicate, lay_length, List.length_nil] at *; omega))); k_whole); intro _ _ _ _ _ _; (try k_sweep)))
  k_with "getMethod ref" => ((k_here; (with_reducible show wpAny _ _ (getMethod (Value.ref _) (PySem.Str.ofString "unpack_from") _) _ _ _); k_dflt (refine' so_fromK ?qqX ?qqh ?_; (case qqX => k_in); (case qqh => exact rfl); k_whole)))
  k_with "getMethod ref" => ((k_here; (with_reducible show wpAny _ _ (getMethod (Value.ref _) (PySem.Str.ofString "pack_into") _) _ _ _); k_dflt (refine' so_intoK ?qqX ?qqh ?_; (case qqX => k_in); (case qqh => exact rfl); k_whole)))
  k_with "call builtin:_struct.Struct.unpack_from" => ((k_here; k_dflt (refine' so_fromN ?qqX ?qqF ?qqN ?qqh ?qqf ?qqb ?qqh0 ?qqh1 ?qqhz ?_; (case qqX => k_in); (case qqF => k_asm); (case qqN => k_asm); (case qqh => exact rfl); (case qqf => constructor); (case qqb => first | exact .inl ⟨_, rfl⟩ | exact .inr ⟨_, rfl, by k_mem⟩); (case qqh0 => (walk_at "cl"; omega)); (case qqh1 => (walk_at "cl"; omega)); (case qqhz => (walk_at "cl"; omega)); k_whole); intro _ _ _ _ _ _ _; (try (walk_at "lt1")); (try k_sweep)))
  k_with "call builtin:_struct.Struct.unpack_from" => ((k_here; k_dflt (refine' so_fromB ?qqX ?qqF ?qqN ?qqh ?qqf ?qqb ?qqh0 ?qqh1 ?qqhz ?_; (case qqX => k_in); (case qqF => k_asm); (case qqN => k_asm); (case qqh => exact rfl); (case qqf => constructor); (case qqb => exact BufIn.keep (by assumption) (by k_asm)); (case qqh0 => (walk_at "cl"; omega)); (case qqh1 => (walk_at "cl"; omega)); (case qqhz => (walk_at "cl"; omega)); k_whole); intro _ _ _ _ _ _ _; (try (walk_at "lt1")); (try k_sweep)))
  k_with "call builtin:_struct.Struct.pack_into" => ((k_here; k_dflt (refine' so_intoN ?qqX ?qqF ?qqN ?qqU ?qqh ?qqf ?qqh0 ?qqh1 ?qqhz ?qqlo ?qqhi ?_; (case qqX => k_in); (case qqF => k_asm); (case qqN => k_asm); (case qqU => k_updF); (case qqh => exact rfl); (case qqf => constructor); (case qqh0 => (walk_at "cl"; omega)); (case qqh1 => (walk_at "cl"; omega)); (case qqhz => (walk_at "cl"; omega)); (case qqlo => ((first | rw [if_neg (by decide)] | rw [if_pos (by decide)]); (try simp only [Nat.reduceMul, Nat.reduceSub, Int.reducePow, Int.reduceNeg]); walk_at "cl"; omega)); (case qqhi => ((first | rw [if_neg (by decide)] | rw [if_pos (by decide)]); (try simp only [Nat.reduceMul, Nat.reduceSub, Int.reducePow, Int.reduceNeg]); walk_at "cl"; omega)); k_whole); intro _ _ _; (try k_sweep)))
  k_with "wpC" => ((k_here; (with_reducible show wpC _ _ (call (Value.ref _) _ _) _ _ _); (walk_at "wpCc")))
  k_with "wpCc" => ((k_here; (with_reducible show wpC _ _ (call (Value.ref 432) _ _) _ _ _); k_dflt (refine' prependU_k ?qqB ?qqF ?qqX ?qqT ?qqhk ?qqhd ?qqhu ?qqf0 ?qqf1 ?qqf2 ?qqf3 ?qqf4 (part_of ?qqN (sub3 ?qqm0 ?qqm1 ?qqm2) ?qqS) ?_; (case qqB => k_asm); (case qqF => k_asm); (case qqX => k_asm); (case qqT => k_asm); (case qqhk => first | exact rfl | assumption); (case qqN => k_asm); (case qqm0 => k_mem); (case qqm1 => k_mem); (case qqm2 => k_mem); (case qqhd => (walk_at "room")); (case qqhu => (walk_at "units")); (case qqf0 => (walk_at "ft")); (case qqf1 => (walk_at "ft")); (case qqf2 => (walk_at "ft")); (case qqf3 => (walk_at "ft")); (case qqf4 => (walk_at "ft")); (case qqS => (walk_at "sel"))); (walk_at "cl1"); intro _ _ _ _ _ _ _ _ _ _ _ _ _ _ _; (walk_at "fin93")))
  k_with "call ref" => ((k_here; (with_reducible show wpAny _ _ (call (Value.ref 482) _ _) _ _ _); k_dflt (refine' notnested_k ?qqB ?qqF ?qqX ?qqT ?qqhk ?qqhd ?qqhu  (part_of ?qqN (sub3 ?qqm0 ?qqm1 ?qqm2) ?qqS) ?_; (case qqB => k_asm); (case qqF => k_asm); (case qqX => k_asm); (case qqT => k_asm); (case qqhk => first | exact rfl | assumption); (case qqN => k_asm); (case qqm0 => k_mem); (case qqm1 => k_mem); (case qqm2 => k_mem); (case qqhd => (walk_at "room")); (case qqhu => (walk_at "units")); (case qqS => (walk_at "sel"))); (walk_at "cl1"); intro _ _  _ _ _; (walk_at "fin93")))
  k_with "call ref" => ((k_here; (with_reducible show wpAny _ _ (call (Value.ref 475) _ _) _ _ _); k_dflt (refine' nested_k ?qqB ?qqF ?qqX ?qqT ?qqhk ?qqhd ?qqhu  (part_of ?qqN (sub3 ?qqm0 ?qqm1 ?qqm2) ?qqS) ?_; (case qqB => k_asm); (case qqF => k_asm); (case qqX => k_asm); (case qqT => k_asm); (case qqhk => first | exact rfl | assumption); (case qqN => k_asm); (case qqm0 => k_mem); (case qqm1 => k_mem); (case qqm2 => k_mem); (case qqhd => (walk_at "room")); (case qqhu => (walk_at "units")); (case qqS => (walk_at "sel"))); (walk_at "cl1"); intro _ _  _ _ _; (walk_at "fin93")))
  k_with "call ref" => ((k_here; (with_reducible show wpAny _ _ (call (Value.ref 404) _ _) _ _ _); k_dflt (refine' offset_k ?qqB ?qqF ?qqX ?qqT ?qqhk ?qqhd ?qqhu ?qqf0 ?qqf1 (part_of ?qqN (sub3 ?qqm0 ?qqm1 ?qqm2) ?qqS) ?_; (case qqB => k_asm); (case qqF => k_asm); (case qqX => k_asm); (case qqT => k_asm); (case qqhk => first | exact rfl | assumption); (case qqN => k_asm); (case qqm0 => k_mem); (case qqm1 => k_mem); (case qqm2 => k_mem); (case qqhd => (walk_at "room")); (case qqhu => (walk_at "units")); (case qqf0 => (walk_at "ft")); (case qqf1 => (walk_at "ft")); (case qqS => (walk_at "sel"))); (walk_at "cl1"); intro _ _ _ _ _ _; (walk_at "fin93")))
  trivial

theorem startobj_k : ∀ {w : World} {mean : ExcName → Option Value} {mg mb : Str → Option Value} {dp un : Nat} {cn : Str} {cs : Scope} {a : Addr} {ccd : Value} {cl : List (Str × Addr)} {outer : List Env} {A₀ : Around} {base h₀ : Heap} {L : Addr} {m : Str → Option Value} {s : Shared}
    {Q E : Value → Shared → Prop} {rest : List (Addr × Obj)} (B : Below A₀ base outer h₀) (F : Fr h₀ L s.heap m) (X : (Mine.hd.heap_39 w.params).In h₀) (T : Top Mine.hd.view_39 LO mean mg mb h₀) (hk : cs.kind = .function) (hd : dp + 3 < recursionLimit) (hu : un + 24 < cLine) {b : Addr} {dx : Addr} {ba : Addr} {dv : Addr} {arr : Array UInt8} {v1 : Value} {v7 : Value} {v9 : Option Value} {hd1 : Int} {ma : Int} {t1 : Tok} {t2 : Tok} {fin : Bool} {out : List UInt8} {tn : Tok} (hH : Has arr hd1 out) (hz : arr.size ≤ 2048) (P : Part h₀ L s.heap [(b, BO dx ba v1 fin hd1 t1 ma t2 false v7 v9 dv), (dx, dictOf [] 0), (ba, AO arr)] rest)
    (hret : ∀ (h' : Heap) (tk' : Nat) (cv : Addr) (tk2 : Tok) (t0 : Tok), Fr h₀ L h' m → News h₀ L h' ([(b, BO dx ba (.ref cv) fin hd1 t1 ma t2 true (.int out.length tk2) v9 dv), (dx, dictOf [] 0), (ba, AO arr), (cv, CV (.int 0 t0) (.int 0 t0) (.int 0 t0) (.int 0 t0))] ++ rest) → AllNes [(b, BO dx ba (.ref cv) fin hd1 t1 ma t2 true (.int out.length tk2) v9 dv), (dx, dictOf [] 0), (ba, AO arr), (cv, CV (.int 0 t0) (.int 0 t0) (.int 0 t0) (.int 0 t0))] rest → Q .none { s with heap := h', toks := tk' }),
    wpAny (model _root_.PySem.Challenge.rw_bp0005_01.row.prog w) (ktrTop dp un (some []) cn cs L a ccd cl outer) (call (.ref 369) [.ref b, .int 4 tn] ) Q E s := by
  refine @Mine.hush _ (by
  k_fill
  intro w mean mg mb dp un cn cs a ccd cl outer A₀ base h₀ L m s Q E rest B F X T hk hd hu b dx ba dv arr v1 v7 v9 hd1 ma t1 t2 fin out tn hH hz P hret
  have N := P.news
  have hdis := P.dis
  obtain ⟨n1, n2, n3⟩ := news3B N
  refine wpAny_call ?_
  k_dflt (refine' defA ?k1 ?k2 ?k3 ?k4 ?kd ?k5 ?kA ?kF ?kK ?k6 ?k7 ?k8 ?k9 ?kB ?_ ?c2 ?c3 ?c4 ?c5; (case kA => exact rfl); (case kF => exact rfl); (case kK => assumption); (case k1 => k_asm); (case k2 => k_asm); (case k3 => k_asm); (case k4 => k_asm); (case kd => k_asm); (case k5 => k_asm); (case k6 => k_is); (case k7 => k_is); (case k8 => ktr_room); (case k9 => exact BindsTo.of_eq rfl); (case c5 => decide); (case kB => exact locs rfl); (case c2 => exact rfl); (case c3 => exact rfl); (case c4 => exact rfl); k_whole; intro g' L' h' FG' F' N' B' X' T' l0 G; (try dsimp only); (try k_fold))
  have hH0 := hH.1
  have hH1 := hH.2.1
  k_steps
  all_goals dsimp only [wants]
  all_goals (rename_i kF kN kD; (have e4 : ∀ v : Value, (List.replicate (Int.toNat 4) [v]).flatten.toArray = #[v, v, v, v] := fun _ => rfl); rw [e4] at kN kD; exact hret _ _ _ _ _ kF (news_sub kN (sub4 (by k_mem) (by k_mem) (by k_mem) (by k_mem))) (allNes_of (dis_sub kD (sub4 (by k_mem) (by k_mem) (by k_mem) (by k_mem)))))) ?_
  intro q f
  simpa using Mine.hushed f 5 fun n i => i
theorem setup_KI_2 : True := by
  k_with "call ref" => ((k_here; (with_reducible show wpAny _ _ (call (Value.ref 369) _ _) _ _ _); k_dflt (refine' startobj_k ?qqB ?qqF ?qqX ?qqT ?qqhk ?qqhd ?qqhu ?qqf0 ?qqf1 (part_of ?qqN (sub3 ?qqm0 ?qqm1 ?qqm2) ?qqS) ?_; (case qqB => k_asm); (case qqF => k_asm); (case qqX => k_asm); (case qqT => k_asm); (case qqhk => first | exact rfl | assumption); (case qqN => k_asm); (case qqm0 => k_mem); (case qqm1 => k_mem); (case qqm2 => k_mem); (case qqhd => (walk_at "room")); (case qqhu => (walk_at "units")); (case qqf0 => (walk_at "ft")); (case qqf1 => (walk_at "ft")); (case qqS => (walk_at "sel"))); (walk_at "cl1"); intro _ _ _ _ _ _ _ _; (walk_at "fin94")))
  trivial

theorem slot0_k : ∀ {w : World} {mean : ExcName → Option Value} {mg mb : Str → Option Value} {dp un : Nat} {cn : Str} {cs : Scope} {a : Addr} {ccd : Value} {cl : List (Str × Addr)} {outer : List Env} {A₀ : Around} {base h₀ : Heap} {L : Addr} {m : Str → Option Value} {s : Shared}
    {Q E : Value → Shared → Prop} {rest : List (Addr × Obj)} (B : Below A₀ base outer h₀) (F : Fr h₀ L s.heap m) (X : (Mine.hd.heap_39 w.params).In h₀) (T : Top Mine.hd.view_39 LO mean mg mb h₀) (hk : cs.kind = .function) (hd : dp + 3 < recursionLimit) (hu : un + 24 < cLine) {b : Addr} {dx : Addr} {ba : Addr} {dv : Addr} {arr : Array UInt8} {v7 : Value} {v9 : Option Value} {hd1 : Int} {ma : Int} {t1 : Tok} {t2 : Tok} {fin : Bool} {out : List UInt8} {cv : Addr} {x0 : Value} {x1 : Value} {x2 : Value} {x3 : Value} {tn : Tok} (hH : Has arr hd1 out) (hz : arr.size ≤ 2048) (P : Part h₀ L s.heap [(b, BO dx ba (.ref cv) fin hd1 t1 ma t2 true v7 v9 dv), (dx, dictOf [] 0), (ba, AO arr), (cv, CV x0 x1 x2 x3)] rest)
    (hret : ∀ (h' : Heap) (tk' : Nat) (tk2 : Tok), Fr h₀ L h' m → News h₀ L h' ([(b, BO dx ba (.ref cv) fin hd1 t1 ma t2 true v7 v9 dv), (dx, dictOf [] 0), (ba, AO arr), (cv, CV (.int out.length tk2) x1 x2 x3)] ++ rest) → AllNes [(b, BO dx ba (.ref cv) fin hd1 t1 ma t2 true v7 v9 dv), (dx, dictOf [] 0), (ba, AO arr), (cv, CV (.int out.length tk2) x1 x2 x3)] rest → Q .none { s with heap := h', toks := tk' }),
    wpAny (model _root_.PySem.Challenge.rw_bp0005_01.row.prog w) (ktrTop dp un (some []) cn cs L a ccd cl outer) (call (.ref 496) [.ref b, .int 0 tn] ) Q E s := by
  refine @Mine.hush _ (by
  k_fill
  intro w mean mg mb dp un cn cs a ccd cl outer A₀ base h₀ L m s Q E rest B F X T hk hd hu b dx ba dv arr v7 v9 hd1 ma t1 t2 fin out cv x0 x1 x2 x3 tn hH hz P hret
  have N := P.news
  have hdis := P.dis
  obtain ⟨n1, n2, n3, n4, n5, n6⟩ := news4B N
  refine wpAny_call ?_
  k_dflt (refine' defA ?k1 ?k2 ?k3 ?k4 ?kd ?k5 ?kA ?kF ?kK ?k6 ?k7 ?k8 ?k9 ?kB ?_ ?c2 ?c3 ?c4 ?c5; (case kA => exact rfl); (case kF => exact rfl); (case kK => assumption); (case k1 => k_asm); (case k2 => k_asm); (case k3 => k_asm); (case k4 => k_asm); (case kd => k_asm); (case k5 => k_asm); (case k6 => k_is); (case k7 => k_is); (case k8 => ktr_room); (case k9 => exact BindsTo.of_eq rfl); (case c5 => decide); (case kB => exact locs rfl); (case c2 => exact rfl); (case c3 => exact rfl); (case c4 => exact rfl); k_whole; intro g' L' h' FG' F' N' B' X' T' l0 G; (try dsimp only); (try k_fold))
  have hH0 := hH.1
  have hH1 := hH.2.1
  k_steps
  all_goals dsimp only [wants]
  all_goals (rename_i kF kN kD; exact hret _ _ _ kF (news_sub kN (sub4 (by k_mem) (by k_mem) (by k_mem) (by k_mem))) (allNes_of (dis_sub kD (sub4 (by k_mem) (by k_mem) (by k_mem) (by k_mem)))))) ?_
  intro q f
  simpa using Mine.hushed f 5 fun n i => i
theorem setup_KI_3 : True := by
  k_with "call ref" => ((k_here; (with_reducible show wpAny _ _ (call (Value.ref 496) [_, Value.int 0 _] _) _ _ _); k_dflt (refine' slot0_k ?qqB ?qqF ?qqX ?qqT ?qqhk ?qqhd ?qqhu ?qqf0 ?qqf1 (part_of ?qqN (sub4 ?qqm0 ?qqm1 ?qqm2 ?qqm3) ?qqS) ?_; (case qqB => k_asm); (case qqF => k_asm); (case qqX => k_asm); (case qqT => k_asm); (case qqhk => first | exact rfl | assumption); (case qqN => k_asm); (case qqm0 => k_mem); (case qqm1 => k_mem); (case qqm2 => k_mem); (case qqm3 => k_mem); (case qqhd => (walk_at "room")); (case qqhu => (walk_at "units")); (case qqf0 => (walk_at "ft")); (case qqf1 => (walk_at "ft")); (case qqS => (walk_at "sel"))); (walk_at "cl1"); intro _ _ _ _ _ _; (walk_at "fin94")))
  trivial

theorem slot1_k : ∀ {w : World} {mean : ExcName → Option Value} {mg mb : Str → Option Value} {dp un : Nat} {cn : Str} {cs : Scope} {a : Addr} {ccd : Value} {cl : List (Str × Addr)} {outer : List Env} {A₀ : Around} {base h₀ : Heap} {L : Addr} {m : Str → Option Value} {s : Shared}
    {Q E : Value → Shared → Prop} {rest : List (Addr × Obj)} (B : Below A₀ base outer h₀) (F : Fr h₀ L s.heap m) (X : (Mine.hd.heap_39 w.params).In h₀) (T : Top Mine.hd.view_39 LO mean mg mb h₀) (hk : cs.kind = .function) (hd : dp + 3 < recursionLimit) (hu : un + 24 < cLine) {b : Addr} {dx : Addr} {ba : Addr} {dv : Addr} {arr : Array UInt8} {v7 : Value} {v9 : Option Value} {hd1 : Int} {ma : Int} {t1 : Tok} {t2 : Tok} {fin : Bool} {out : List UInt8} {cv : Addr} {x0 : Value} {x1 : Value} {x2 : Value} {x3 : Value} {tn : Tok} (hH : Has arr hd1 out) (hz : arr.size ≤ 2048) (P : Part h₀ L s.heap [(b, BO dx ba (.ref cv) fin hd1 t1 ma t2 true v7 v9 dv), (dx, dictOf [] 0), (ba, AO arr), (cv, CV x0 x1 x2 x3)] rest)
    (hret : ∀ (h' : Heap) (tk' : Nat) (tk2 : Tok), Fr h₀ L h' m → News h₀ L h' ([(b, BO dx ba (.ref cv) fin hd1 t1 ma t2 true v7 v9 dv), (dx, dictOf [] 0), (ba, AO arr), (cv, CV x0 (.int out.length tk2) x2 x3)] ++ rest) → AllNes [(b, BO dx ba (.ref cv) fin hd1 t1 ma t2 true v7 v9 dv), (dx, dictOf [] 0), (ba, AO arr), (cv, CV x0 (.int out.length tk2) x2 x3)] rest → Q .none { s with heap := h', toks := tk' }),
    wpAny (model _root_.PySem.Challenge.rw_bp0005_01.row.prog w) (ktrTop dp un (some []) cn cs L a ccd cl outer) (call (.ref 496) [.ref b, .int 1 tn] ) Q E s := by
  refine @Mine.hush _ (by
  k_fill
  intro w mean mg mb dp un cn cs a ccd cl outer A₀ base h₀ L m s Q E rest B F X T hk hd hu b dx ba dv arr v7 v9 hd1 ma t1 t2 fin out cv x0 x1 x2 x3 tn hH hz P hret
  have N := P.news
  have hdis := P.dis
  obtain ⟨n1, n2, n3, n4, n5, n6⟩ := news4B N
  refine wpAny_call ?_
  k_dflt (refine' defA ?k1 ?k2 ?k3 ?k4 ?kd ?k5 ?kA ?kF ?kK ?k6 ?k7 ?k8 ?k9 ?kB ?_ ?c2 ?c3 ?c4 ?c5; (case kA => exact rfl); (case kF => exact rfl); (case kK => assumption); (case k1 => k_asm); (case k2 => k_asm); (case k3 => k_asm); (case k4 => k_asm); (case kd => k_asm); (case k5 => k_asm); (case k6 => k_is); (case k7 => k_is); (case k8 => ktr_room); (case k9 => exact BindsTo.of_eq rfl); (case c5 => decide); (case kB => exact locs rfl); (case c2 => exact rfl); (case c3 => exact rfl); (case c4 => exact rfl); k_whole; intro g' L' h' FG' F' N' B' X' T' l0 G; (try dsimp only); (try k_fold))
  have hH0 := hH.1
  have hH1 := hH.2.1
  k_steps
  all_goals dsimp only [wants]
  all_goals (rename_i kF kN kD; exact hret _ _ _ kF (news_sub kN (sub4 (by k_mem) (by k_mem) (by k_mem) (by k_mem))) (allNes_of (dis_sub kD (sub4 (by k_mem) (by k_mem) (by k_mem) (by k_mem)))))) ?_
  intro q f
  simpa using Mine.hushed f 5 fun n i => i
theorem setup_KI_4 : True := by
  k_with "call ref" => ((k_here; (with_reducible show wpAny _ _ (call (Value.ref 496) [_, Value.int 1 _] _) _ _ _); k_dflt (refine' slot1_k ?qqB ?qqF ?qqX ?qqT ?qqhk ?qqhd ?qqhu ?qqf0 ?qqf1 (part_of ?qqN (sub4 ?qqm0 ?qqm1 ?qqm2 ?qqm3) ?qqS) ?_; (case qqB => k_asm); (case qqF => k_asm); (case qqX => k_asm); (case qqT => k_asm); (case qqhk => first | exact rfl | assumption); (case qqN => k_asm); (case qqm0 => k_mem); (case qqm1 => k_mem); (case qqm2 => k_mem); (case qqm3 => k_mem); (case qqhd => (walk_at "room")); (case qqhu => (walk_at "units")); (case qqf0 => (walk_at "ft")); (case qqf1 => (walk_at "ft")); (case qqS => (walk_at "sel"))); (walk_at "cl1"); intro _ _ _ _ _ _; (walk_at "fin94")))
  trivial

theorem slot2_k : ∀ {w : World} {mean : ExcName → Option Value} {mg mb : Str → Option Value} {dp un : Nat} {cn : Str} {cs : Scope} {a : Addr} {ccd : Value} {cl : List (Str × Addr)} {outer : List Env} {A₀ : Around} {base h₀ : Heap} {L : Addr} {m : Str → Option Value} {s : Shared}
    {Q E : Value → Shared → Prop} {rest : List (Addr × Obj)} (B : Below A₀ base outer h₀) (F : Fr h₀ L s.heap m) (X : (Mine.hd.heap_39 w.params).In h₀) (T : Top Mine.hd.view_39 LO mean mg mb h₀) (hk : cs.kind = .function) (hd : dp + 3 < recursionLimit) (hu : un + 24 < cLine) {b : Addr} {dx : Addr} {ba : Addr} {dv : Addr} {arr : Array UInt8} {v7 : Value} {v9 : Option Value} {hd1 : Int} {ma : Int} {t1 : Tok} {t2 : Tok} {fin : Bool} {out : List UInt8} {cv : Addr} {x0 : Value} {x1 : Value} {x2 : Value} {x3 : Value} {tn : Tok} (hH : Has arr hd1 out) (hz : arr.size ≤ 2048) (P : Part h₀ L s.heap [(b, BO dx ba (.ref cv) fin hd1 t1 ma t2 true v7 v9 dv), (dx, dictOf [] 0), (ba, AO arr), (cv, CV x0 x1 x2 x3)] rest)
    (hret : ∀ (h' : Heap) (tk' : Nat) (tk2 : Tok), Fr h₀ L h' m → News h₀ L h' ([(b, BO dx ba (.ref cv) fin hd1 t1 ma t2 true v7 v9 dv), (dx, dictOf [] 0), (ba, AO arr), (cv, CV x0 x1 (.int out.length tk2) x3)] ++ rest) → AllNes [(b, BO dx ba (.ref cv) fin hd1 t1 ma t2 true v7 v9 dv), (dx, dictOf [] 0), (ba, AO arr), (cv, CV x0 x1 (.int out.length tk2) x3)] rest → Q .none { s with heap := h', toks := tk' }),
    wpAny (model _root_.PySem.Challenge.rw_bp0005_01.row.prog w) (ktrTop dp un (some []) cn cs L a ccd cl outer) (call (.ref 496) [.ref b, .int 2 tn] ) Q E s := by
  refine @Mine.hush _ (by
  k_fill
  intro w mean mg mb dp un cn cs a ccd cl outer A₀ base h₀ L m s Q E rest B F X T hk hd hu b dx ba dv arr v7 v9 hd1 ma t1 t2 fin out cv x0 x1 x2 x3 tn hH hz P hret
  have N := P.news
  have hdis := P.dis
  obtain ⟨n1, n2, n3, n4, n5, n6⟩ := news4B N
  refine wpAny_call ?_
  k_dflt (refine' defA ?k1 ?k2 ?k3 ?k4 ?kd ?k5 ?kA ?kF ?kK ?k6 ?k7 ?k8 ?k9 ?kB ?_ ?c2 ?c3 ?c4 ?c5; (case kA => exact rfl); (case kF => exact rfl); (case kK => assumption); (case k1 => k_asm); (case k2 => k_asm); (case k3 => k_asm); (case k4 => k_asm); (case kd => k_asm); (case k5 => k_asm); (case k6 => k_is); (case k7 => k_is); (case k8 => ktr_room); (case k9 => exact BindsTo.of_eq rfl); (case c5 => decide); (case kB => exact locs rfl); (case c2 => exact rfl); (case c3 => exact rfl); (case c4 => exact rfl); k_whole; intro g' L' h' FG' F' N' B' X' T' l0 G; (try dsimp only); (try k_fold))
  have hH0 := hH.1
  have hH1 := hH.2.1
  k_steps
  all_goals dsimp only [wants]
  all_goals (rename_i kF kN kD; exact hret _ _ _ kF (news_sub kN (sub4 (by k_mem) (by k_mem) (by k_mem) (by k_mem))) (allNes_of (dis_sub kD (sub4 (by k_mem) (by k_mem) (by k_mem) (by k_mem)))))) ?_
  intro q f
  simpa using Mine.hushed f 5 fun n i => i
theorem setup_KI_5 : True := by
  k_with "call ref" => ((k_here; (with_reducible show wpAny _ _ (call (Value.ref 496) [_, Value.int 2 _] _) _ _ _); k_dflt (refine' slot2_k ?qqB ?qqF ?qqX ?qqT ?qqhk ?qqhd ?qqhu ?qqf0 ?qqf1 (part_of ?qqN (sub4 ?qqm0 ?qqm1 ?qqm2 ?qqm3) ?qqS) ?_; (case qqB => k_asm); (case qqF => k_asm); (case qqX => k_asm); (case qqT => k_asm); (case qqhk => first | exact rfl | assumption); (case qqN => k_asm); (case qqm0 => k_mem); (case qqm1 => k_mem); (case qqm2 => k_mem); (case qqm3 => k_mem); (case qqhd => (walk_at "room")); (case qqhu => (walk_at "units")); (case qqf0 => (walk_at "ft")); (case qqf1 => (walk_at "ft")); (case qqS => (walk_at "sel"))); (walk_at "cl1"); intro _ _ _ _ _ _; (walk_at "fin94")))
  trivial

theorem slot3_k : ∀ {w : World} {mean : ExcName → Option Value} {mg mb : Str → Option Value} {dp un : Nat} {cn : Str} {cs : Scope} {a : Addr} {ccd : Value} {cl : List (Str × Addr)} {outer : List Env} {A₀ : Around} {base h₀ : Heap} {L : Addr} {m : Str → Option Value} {s : Shared}
    {Q E : Value → Shared → Prop} {rest : List (Addr × Obj)} (B : Below A₀ base outer h₀) (F : Fr h₀ L s.heap m) (X : (Mine.hd.heap_39 w.params).In h₀) (T : Top Mine.hd.view_39 LO mean mg mb h₀) (hk : cs.kind = .function) (hd : dp + 3 < recursionLimit) (hu : un + 24 < cLine) {b : Addr} {dx : Addr} {ba : Addr} {dv : Addr} {arr : Array UInt8} {v7 : Value} {v9 : Option Value} {hd1 : Int} {ma : Int} {t1 : Tok} {t2 : Tok} {fin : Bool} {out : List UInt8} {cv : Addr} {x0 : Value} {x1 : Value} {x2 : Value} {x3 : Value} {tn : Tok} (hH : Has arr hd1 out) (hz : arr.size ≤ 2048) (P : Part h₀ L s.heap [(b, BO dx ba (.ref cv) fin hd1 t1 ma t2 true v7 v9 dv), (dx, dictOf [] 0), (ba, AO arr), (cv, CV x0 x1 x2 x3)] rest)
    (hret : ∀ (h' : Heap) (tk' : Nat) (tk2 : Tok), Fr h₀ L h' m → News h₀ L h' ([(b, BO dx ba (.ref cv) fin hd1 t1 ma t2 true v7 v9 dv), (dx, dictOf [] 0), (ba, AO arr), (cv, CV x0 x1 x2 (.int out.length tk2))] ++ rest) → AllNes [(b, BO dx ba (.ref cv) fin hd1 t1 ma t2 true v7 v9 dv), (dx, dictOf [] 0), (ba, AO arr), (cv, CV x0 x1 x2 (.int out.length tk2))] rest → Q .none { s with heap := h', toks := tk' }),
    wpAny (model _root_.PySem.Challenge.rw_bp0005_01.row.prog w) (ktrTop dp un (some []) cn cs L a ccd cl outer) (call (.ref 496) [.ref b, .int 3 tn] ) Q E s := by
  refine @Mine.hush _ (by
  k_fill
  intro w mean mg mb dp un cn cs a ccd cl outer A₀ base h₀ L m s Q E rest B F X T hk hd hu b dx ba dv arr v7 v9 hd1 ma t1 t2 fin out cv x0 x1 x2 x3 tn hH hz P hret
  have N := P.news
  have hdis := P.dis
  obtain ⟨n1, n2, n3, n4, n5, n6⟩ := news4B N
  refine wpAny_call ?_
  k_dflt (refine' defA ?k1 ?k2 ?k3 ?k4 ?kd ?k5 ?kA ?kF ?kK ?k6 ?k7 ?k8 ?k9 ?kB ?_ ?c2 ?c3 ?c4 ?c5; (case kA => exact rfl); (case kF => exact rfl); (case kK => assumption); (case k1 => k_asm); (case k2 => k_asm); (case k3 => k_asm); (case k4 => k_asm); (case kd => k_asm); (case k5 => k_asm); (case k6 => k_is); (case k7 => k_is); (case k8 => ktr_room); (case k9 => exact BindsTo.of_eq rfl); (case c5 => decide); (case kB => exact locs rfl); (case c2 => exact rfl); (case c3 => exact rfl); (case c4 => exact rfl); k_whole; intro g' L' h' FG' F' N' B' X' T' l0 G; (try dsimp only); (try k_fold))
  have hH0 := hH.1
  have hH1 := hH.2.1
  k_steps
  all_goals dsimp only [wants]
  all_goals (rename_i kF kN kD; exact hret _ _ _ kF (news_sub kN (sub4 (by k_mem) (by k_mem) (by k_mem) (by k_mem))) (allNes_of (dis_sub kD (sub4 (by k_mem) (by k_mem) (by k_mem) (by k_mem)))))) ?_
  intro q f
  simpa using Mine.hushed f 5 fun n i => i
theorem setup_KI_6 : True := by
  k_with "call ref" => ((k_here; (with_reducible show wpAny _ _ (call (Value.ref 496) [_, Value.int 3 _] _) _ _ _); k_dflt (refine' slot3_k ?qqB ?qqF ?qqX ?qqT ?qqhk ?qqhd ?qqhu ?qqf0 ?qqf1 (part_of ?qqN (sub4 ?qqm0 ?qqm1 ?qqm2 ?qqm3) ?qqS) ?_; (case qqB => k_asm); (case qqF => k_asm); (case qqX => k_asm); (case qqT => k_asm); (case qqhk => first | exact rfl | assumption); (case qqN => k_asm); (case qqm0 => k_mem); (case qqm1 => k_mem); (case qqm2 => k_mem); (case qqm3 => k_mem); (case qqhd => (walk_at "room")); (case qqhu => (walk_at "units")); (case qqf0 => (walk_at "ft")); (case qqf1 => (walk_at "ft")); (case qqS => (walk_at "sel"))); (walk_at "cl1"); intro _ _ _ _ _ _; (walk_at "fin94")))
  trivial

theorem pus1_k : ∀ {w : World} {mean : ExcName → Option Value} {mg mb : Str → Option Value} {dp un : Nat} {cn : Str} {cs : Scope} {a : Addr} {ccd : Value} {cl : List (Str × Addr)} {outer : List Env} {A₀ : Around} {base h₀ : Heap} {L : Addr} {m : Str → Option Value} {s : Shared}
    {Q E : Value → Shared → Prop} {rest : List (Addr × Obj)} (B : Below A₀ base outer h₀) (F : Fr h₀ L s.heap m) (X : (Mine.hd.heap_39 w.params).In h₀) (T : Top Mine.hd.view_39 LO mean mg mb h₀) (hk : cs.kind = .function) (hd : dp + 7 < recursionLimit) (hu : un + 56 < cLine) {b : Addr} {dx : Addr} {ba : Addr} {dv : Addr} {arr : Array UInt8} {v7 : Value} {v9 : Option Value} {hd1 : Int} {ma : Int} {t1 : Tok} {t2 : Tok} {fin : Bool} {out : List UInt8} {cv : Addr} {x0 : Value} {x2 : Value} {x3 : Value} {t0 : Tok} {tn : Tok} {x : Int} {tx : Tok} {td : Tok} (hH : Has arr hd1 out) (hz : arr.size ≤ 2048) (h0 : 0 ≤ x) (h1 : x ≤ out.length) (ho : out.length ≤ 900) (P : Part h₀ L s.heap [(b, BO dx ba (.ref cv) fin hd1 t1 ma t2 true v7 v9 dv), (dx, dictOf [] 0), (ba, AO arr), (cv, CV x0 (.int 0 t0) x2 x3)] rest)
    (hret : ∀ (h' : Heap) (tk' : Nat) (ba' : Addr) (arr' : Array UInt8) (hd' : Int) (ma' : Int) (t1' : Tok) (t2' : Tok) (tk2 : Tok), Has arr' hd' (if x = 0 then out else lay 4 ((pd 4 0 out).length - x + 4) ++ pd 4 0 out) → arr'.size ≤ 2048 → arr.size ≤ arr'.size → ma' = (if x = 0 then ma else max ma 4) → Fr h₀ L h' m → News h₀ L h' ([(b, BO dx ba' (.ref cv) fin hd' t1' ma' t2' true v7 v9 dv), (dx, dictOf [] 0), (ba', AO arr'), (cv, CV x0 (.int (if x = 0 then 0 else ((pd 4 0 out).length + 4 : Int)) tk2) x2 x3)] ++ rest) → AllNes [(b, BO dx ba' (.ref cv) fin hd' t1' ma' t2' true v7 v9 dv), (dx, dictOf [] 0), (ba', AO arr'), (cv, CV x0 (.int (if x = 0 then 0 else ((pd 4 0 out).length + 4 : Int)) tk2) x2 x3)] rest → Q .none { s with heap := h', toks := tk' }),
    wpC (model _root_.PySem.Challenge.rw_bp0005_01.row.prog w) (ktrTop dp un (some []) cn cs L a ccd cl outer) (call (.ref 611) [.ref b, .int 1 tn, .int x tx, .int 0 td] ) Q E s := by
  refine @Mine.hush _ (by
  k_fill
  intro w mean mg mb dp un cn cs a ccd cl outer A₀ base h₀ L m s Q E rest B F X T hk hd hu b dx ba dv arr v7 v9 hd1 ma t1 t2 fin out cv x0 x2 x3 t0 tn x tx td hH hz h0 h1 ho P hret
  have N := P.news
  have hdis := P.dis
  obtain ⟨n1, n2, n3, n4, n5, n6⟩ := news4B N
  refine c_call ?_
  k_dflt (refine' defC ?k1 ?k2 ?k3 ?k4 ?kd ?k5 ?kA ?kF ?kK ?k6 ?k7 ?k8 ?k9 ?kB ?_ ?c2 ?c3 ?c4 ?c5; (case kA => exact rfl); (case kF => exact rfl); (case kK => assumption); (case k1 => k_asm); (case k2 => k_asm); (case k3 => k_asm); (case k4 => k_asm); (case kd => k_asm); (case k5 => k_asm); (case k6 => k_is); (case k7 => k_is); (case k8 => ktr_room); (case k9 => exact BindsTo.of_eq rfl); (case c5 => decide); (case kB => exact locs rfl); (case c2 => exact rfl); (case c3 => exact rfl); (case c4 => exact rfl); k_whole; intro g' L' h' FG' F' N' B' X' T' l0 ; (try dsimp only); (try k_fold))
  have hH0 := hH.1
  have hH1 := hH.2.1
  by_cases hx : x = 0
  · k_steps
    all_goals dsimp only [wants]
    rename_i kF kN kD
    simp only [if_pos hx] at hret
    exact hret _ _ ba arr hd1 ma t1 t2 t0 hH hz (Nat.le_refl _) rfl kF (news_sub kN (sub4 (by k_mem) (by k_mem) (by k_mem) (by k_mem))) (allNes_of (dis_sub kD (sub4 (by k_mem) (by k_mem) (by k_mem) (by k_mem))))
  · k_steps
    all_goals dsimp only [wants]
    rename_i kF kN kD
    simp only [if_neg hx] at hret
    simp only [lay_app] at kN kD
    exact hret _ _ _ _ _ _ _ _ _ (by first | assumption | omega) (by first | assumption | omega) (by first | assumption | omega) (by first | assumption | omega) kF (news_sub kN (sub4 (by k_mem) (by k_mem) (by k_mem) (by k_mem))) (allNes_of (dis_sub kD (sub4 (by k_mem) (by k_mem) (by k_mem) (by k_mem))))) ?_
  intro q f
  simpa using Mine.hushed f 5 fun n i => i
theorem setup_KI_7 : True := by
  k_with "wpCc" => ((k_here; (with_reducible show wpC _ _ (call (Value.ref 611) [_, Value.int 1 _, _, _] _) _ _ _); k_dflt (refine' pus1_k ?qqB ?qqF ?qqX ?qqT ?qqhk ?qqhd ?qqhu ?qqf0 ?qqf1 ?qqf2 ?qqf3 ?qqf4 (part_of ?qqN (sub4 ?qqm0 ?qqm1 ?qqm2 ?qqm3) ?qqS) ?_; (case qqB => k_asm); (case qqF => k_asm); (case qqX => k_asm); (case qqT => k_asm); (case qqhk => first | exact rfl | assumption); (case qqN => k_asm); (case qqm0 => k_mem); (case qqm1 => k_mem); (case qqm2 => k_mem); (case qqm3 => k_mem); (case qqhd => (walk_at "room")); (case qqhu => (walk_at "units")); (case qqf0 => (walk_at "ft")); (case qqf1 => (walk_at "ft")); (case qqf2 => (walk_at "ft")); (case qqf3 => (walk_at "ft")); (case qqf4 => (walk_at "ft")); (case qqS => (walk_at "sel"))); (walk_at "cl1"); intro _ _ _ _ _ _ _ _ _ _ _ _ _ _ _ _; (walk_at "fin94")))
  trivial

theorem pus2_k : ∀ {w : World} {mean : ExcName → Option Value} {mg mb : Str → Option Value} {dp un : Nat} {cn : Str} {cs : Scope} {a : Addr} {ccd : Value} {cl : List (Str × Addr)} {outer : List Env} {A₀ : Around} {base h₀ : Heap} {L : Addr} {m : Str → Option Value} {s : Shared}
    {Q E : Value → Shared → Prop} {rest : List (Addr × Obj)} (B : Below A₀ base outer h₀) (F : Fr h₀ L s.heap m) (X : (Mine.hd.heap_39 w.params).In h₀) (T : Top Mine.hd.view_39 LO mean mg mb h₀) (hk : cs.kind = .function) (hd : dp + 7 < recursionLimit) (hu : un + 56 < cLine) {b : Addr} {dx : Addr} {ba : Addr} {dv : Addr} {arr : Array UInt8} {v7 : Value} {v9 : Option Value} {hd1 : Int} {ma : Int} {t1 : Tok} {t2 : Tok} {fin : Bool} {out : List UInt8} {cv : Addr} {x0 : Value} {x1 : Value} {x3 : Value} {t0 : Tok} {tn : Tok} {x : Int} {tx : Tok} {td : Tok} (hH : Has arr hd1 out) (hz : arr.size ≤ 2048) (h0 : 0 ≤ x) (h1 : x ≤ out.length) (ho : out.length ≤ 900) (P : Part h₀ L s.heap [(b, BO dx ba (.ref cv) fin hd1 t1 ma t2 true v7 v9 dv), (dx, dictOf [] 0), (ba, AO arr), (cv, CV x0 x1 (.int 0 t0) x3)] rest)
    (hret : ∀ (h' : Heap) (tk' : Nat) (ba' : Addr) (arr' : Array UInt8) (hd' : Int) (ma' : Int) (t1' : Tok) (t2' : Tok) (tk2 : Tok), Has arr' hd' (if x = 0 then out else lay 4 ((pd 4 0 out).length - x + 4) ++ pd 4 0 out) → arr'.size ≤ 2048 → arr.size ≤ arr'.size → ma' = (if x = 0 then ma else max ma 4) → Fr h₀ L h' m → News h₀ L h' ([(b, BO dx ba' (.ref cv) fin hd' t1' ma' t2' true v7 v9 dv), (dx, dictOf [] 0), (ba', AO arr'), (cv, CV x0 x1 (.int (if x = 0 then 0 else ((pd 4 0 out).length + 4 : Int)) tk2) x3)] ++ rest) → AllNes [(b, BO dx ba' (.ref cv) fin hd' t1' ma' t2' true v7 v9 dv), (dx, dictOf [] 0), (ba', AO arr'), (cv, CV x0 x1 (.int (if x = 0 then 0 else ((pd 4 0 out).length + 4 : Int)) tk2) x3)] rest → Q .none { s with heap := h', toks := tk' }),
    wpC (model _root_.PySem.Challenge.rw_bp0005_01.row.prog w) (ktrTop dp un (some []) cn cs L a ccd cl outer) (call (.ref 611) [.ref b, .int 2 tn, .int x tx, .int 0 td] ) Q E s := by
  refine @Mine.hush _ (by
  k_fill
  intro w mean mg mb dp un cn cs a ccd cl outer A₀ base h₀ L m s Q E rest B F X T hk hd hu b dx ba dv arr v7 v9 hd1 ma t1 t2 fin out cv x0 x1 x3 t0 tn x tx td hH hz h0 h1 ho P hret
  have N := P.news
  have hdis := P.dis
  obtain ⟨n1, n2, n3, n4, n5, n6⟩ := news4B N
  refine c_call ?_
  k_dflt (refine' defC ?k1 ?k2 ?k3 ?k4 ?kd ?k5 ?kA ?kF ?kK ?k6 ?k7 ?k8 ?k9 ?kB ?_ ?c2 ?c3 ?c4 ?c5; (case kA => exact rfl); (case kF => exact rfl); (case kK => assumption); (case k1 => k_asm); (case k2 => k_asm); (case k3 => k_asm); (case k4 => k_asm); (case kd => k_asm); (case k5 => k_asm); (case k6 => k_is); (case k7 => k_is); (case k8 => ktr_room); (case k9 => exact BindsTo.of_eq rfl); (case c5 => decide); (case kB => exact locs rfl); (case c2 => exact rfl); (case c3 => exact rfl); (case c4 => exact rfl); k_whole; intro g' L' h' FG' F' N' B' X' T' l0 ; (try dsimp only); (try k_fold))
  have hH0 := hH.1
  have hH1 := hH.2.1
  by_cases hx : x = 0
  · k_steps
    all_goals dsimp only [wants]
    rename_i kF kN kD
    simp only [if_pos hx] at hret
    exact hret _ _ ba arr hd1 ma t1 t2 t0 hH hz (Nat.le_refl _) rfl kF (news_sub kN (sub4 (by k_mem) (by k_mem) (by k_mem) (by k_mem))) (allNes_of (dis_sub kD (sub4 (by k_mem) (by k_mem) (by k_mem) (by k_mem))))
  · k_steps
    all_goals dsimp only [wants]
    rename_i kF kN kD
    simp only [if_neg hx] at hret
    simp only [lay_app] at kN kD
    exact hret _ _ _ _ _ _ _ _ _ (by first | assumption | omega) (by first | assumption | omega) (by first | assumption | omega) (by first | assumption | omega) kF (news_sub kN (sub4 (by k_mem) (by k_mem) (by k_mem) (by k_mem))) (allNes_of (dis_sub kD (sub4 (by k_mem) (by k_mem) (by k_mem) (by k_mem))))) ?_
  intro q f
  simpa using Mine.hushed f 5 fun n i => i
theorem setup_KI_8 : True := by
  k_with "wpCc" => ((k_here; (with_reducible show wpC _ _ (call (Value.ref 611) [_, Value.int 2 _, _, _] _) _ _ _); k_dflt (refine' pus2_k ?qqB ?qqF ?qqX ?qqT ?qqhk ?qqhd ?qqhu ?qqf0 ?qqf1 ?qqf2 ?qqf3 ?qqf4 (part_of ?qqN (sub4 ?qqm0 ?qqm1 ?qqm2 ?qqm3) ?qqS) ?_; (case qqB => k_asm); (case qqF => k_asm); (case qqX => k_asm); (case qqT => k_asm); (case qqhk => first | exact rfl | assumption); (case qqN => k_asm); (case qqm0 => k_mem); (case qqm1 => k_mem); (case qqm2 => k_mem); (case qqm3 => k_mem); (case qqhd => (walk_at "room")); (case qqhu => (walk_at "units")); (case qqf0 => (walk_at "ft")); (case qqf1 => (walk_at "ft")); (case qqf2 => (walk_at "ft")); (case qqf3 => (walk_at "ft")); (case qqf4 => (walk_at "ft")); (case qqS => (walk_at "sel"))); (walk_at "cl1"); intro _ _ _ _ _ _ _ _ _ _ _ _ _ _ _ _; (walk_at "fin94")))
  trivial

theorem pus3_k : ∀ {w : World} {mean : ExcName → Option Value} {mg mb : Str → Option Value} {dp un : Nat} {cn : Str} {cs : Scope} {a : Addr} {ccd : Value} {cl : List (Str × Addr)} {outer : List Env} {A₀ : Around} {base h₀ : Heap} {L : Addr} {m : Str → Option Value} {s : Shared}
    {Q E : Value → Shared → Prop} {rest : List (Addr × Obj)} (B : Below A₀ base outer h₀) (F : Fr h₀ L s.heap m) (X : (Mine.hd.heap_39 w.params).In h₀) (T : Top Mine.hd.view_39 LO mean mg mb h₀) (hk : cs.kind = .function) (hd : dp + 7 < recursionLimit) (hu : un + 56 < cLine) {b : Addr} {dx : Addr} {ba : Addr} {dv : Addr} {arr : Array UInt8} {v7 : Value} {v9 : Option Value} {hd1 : Int} {ma : Int} {t1 : Tok} {t2 : Tok} {fin : Bool} {out : List UInt8} {cv : Addr} {x0 : Value} {x1 : Value} {x2 : Value} {t0 : Tok} {tn : Tok} {x : Int} {tx : Tok} {td : Tok} (hH : Has arr hd1 out) (hz : arr.size ≤ 2048) (h0 : 0 ≤ x) (h1 : x ≤ out.length) (ho : out.length ≤ 900) (P : Part h₀ L s.heap [(b, BO dx ba (.ref cv) fin hd1 t1 ma t2 true v7 v9 dv), (dx, dictOf [] 0), (ba, AO arr), (cv, CV x0 x1 x2 (.int 0 t0))] rest)
    (hret : ∀ (h' : Heap) (tk' : Nat) (ba' : Addr) (arr' : Array UInt8) (hd' : Int) (ma' : Int) (t1' : Tok) (t2' : Tok) (tk2 : Tok), Has arr' hd' (if x = 0 then out else lay 4 ((pd 4 0 out).length - x + 4) ++ pd 4 0 out) → arr'.size ≤ 2048 → arr.size ≤ arr'.size → ma' = (if x = 0 then ma else max ma 4) → Fr h₀ L h' m → News h₀ L h' ([(b, BO dx ba' (.ref cv) fin hd' t1' ma' t2' true v7 v9 dv), (dx, dictOf [] 0), (ba', AO arr'), (cv, CV x0 x1 x2 (.int (if x = 0 then 0 else ((pd 4 0 out).length + 4 : Int)) tk2))] ++ rest) → AllNes [(b, BO dx ba' (.ref cv) fin hd' t1' ma' t2' true v7 v9 dv), (dx, dictOf [] 0), (ba', AO arr'), (cv, CV x0 x1 x2 (.int (if x = 0 then 0 else ((pd 4 0 out).length + 4 : Int)) tk2))] rest → Q .none { s with heap := h', toks := tk' }),
    wpC (model _root_.PySem.Challenge.rw_bp0005_01.row.prog w) (ktrTop dp un (some []) cn cs L a ccd cl outer) (call (.ref 611) [.ref b, .int 3 tn, .int x tx, .int 0 td] ) Q E s := by
  refine @Mine.hush _ (by
  k_fill
  intro w mean mg mb dp un cn cs a ccd cl outer A₀ base h₀ L m s Q E rest B F X T hk hd hu b dx ba dv arr v7 v9 hd1 ma t1 t2 fin out cv x0 x1 x2 t0 tn x tx td hH hz h0 h1 ho P hret
  have N := P.news
  have hdis := P.dis
  obtain ⟨n1, n2, n3, n4, n5, n6⟩ := news4B N
  refine c_call ?_
  k_dflt (refine' defC ?k1 ?k2 ?k3 ?k4 ?kd ?k5 ?kA ?kF ?kK ?k6 ?k7 ?k8 ?k9 ?kB ?_ ?c2 ?c3 ?c4 ?c5; (case kA => exact rfl); (case kF => exact rfl); (case kK => assumption); (case k1 => k_asm); (case k2 => k_asm); (case k3 => k_asm); (case k4 => k_asm); (case kd => k_asm); (case k5 => k_asm); (case k6 => k_is); (case k7 => k_is); (case k8 => ktr_room); (case k9 => exact BindsTo.of_eq rfl); (case c5 => decide); (case kB => exact locs rfl); (case c2 => exact rfl); (case c3 => exact rfl); (case c4 => exact rfl); k_whole; intro g' L' h' FG' F' N' B' X' T' l0 ; (try dsimp only); (try k_fold))
  have hH0 := hH.1
  have hH1 := hH.2.1
  by_cases hx : x = 0
  · k_steps
    all_goals dsimp only [wants]
    rename_i kF kN kD
    simp only [if_pos hx] at hret
    exact hret _ _ ba arr hd1 ma t1 t2 t0 hH hz (Nat.le_refl _) rfl kF (news_sub kN (sub4 (by k_mem) (by k_mem) (by k_mem) (by k_mem))) (allNes_of (dis_sub kD (sub4 (by k_mem) (by k_mem) (by k_mem) (by k_mem))))
  · k_steps
    all_goals dsimp only [wants]
    rename_i kF kN kD
    simp only [if_neg hx] at hret
    simp only [lay_app] at kN kD
    exact hret _ _ _ _ _ _ _ _ _ (by first | assumption | omega) (by first | assumption | omega) (by first | assumption | omega) (by first | assumption | omega) kF (news_sub kN (sub4 (by k_mem) (by k_mem) (by k_mem) (by k_mem))) (allNes_of (dis_sub kD (sub4 (by k_mem) (by k_mem) (by k_mem) (by k_mem))))) ?_
  intro q f
  simpa using Mine.hushed f 5 fun n i => i
-- KJ

theorem setup_KJ_1 : True := by
  k_with_none
  k_with "wpC" => ((k_here; (with_reducible show wpC _ _ _ _ _ _); (fail_if_success (with_reducible show wpC _ _ (setItem _ _ (Value.bytes _ _)) _ _ _)); (fail_if_success (with_reducible show wpC _ _ (call (Value.ref _) _ _) _ _ _)); (fail_if_success (with_reducible show wpC _ _ (callWith _ (Value.type _) _ _ _) _ _ _)); (fail_if_success (with_reducible show wpC _ _ (call (Value.type _) _ _) _ _ _)); (refine of_any ?_)))
  k_with "wpC" => ((k_here; (with_reducible show wpC _ _ (call (Value.ref _) _ _) _ _ _); (refine' of_anyD ?qqd ?_; (case qqd => (walk_at "dirty")))))
  k_with "wpC" => ((k_here; (with_reducible show wpC _ _ (exec (Stmt.While _ _ _ _) _) _ _ _); (refine c_While ?_)))
  k_with "wpC" => ((k_here; (with_reducible show wpC _ _ (exec (Stmt.If _ _ _ _) _) _ _ _); (refine c_If ?_)))
  k_with "wpC" => ((k_here; (with_reducible show wpC _ _ (exec (Stmt.Assign [Expr.Subscript _ (Expr.Slice _ _ _ _) _] _ _) _) _ _ _); k_dflt (refine c_Assign_Subscript ?_)))
  k_with "wpC" => ((k_here; (with_reducible show wpC _ _ (exec (Stmt.Expr (Expr.Call (Expr.Attribute _ _ _) _ _ _) _) _) _ _ _); k_dflt (refine' c_ExprD ?qqd ?_; (case qqd => (walk_at "dirty")))))
  k_with "wpC" => ((k_here; (with_reducible show wpC _ _ (exec (Stmt.Return (some (Expr.Call (Expr.Attribute _ _ _) _ _ _)) _) _) _ _ _); k_dflt (refine' c_ReturnD ?qqd ?_; (case qqd => (walk_at "dirty")))))
  k_with "wpC" => ((k_here; (with_reducible show wpC _ _ (exec (Stmt.Assign [Expr.Name _ _] (Expr.Call (Expr.Attribute _ _ _) _ _ _) _) _) _ _ _); k_dflt (refine' c_AssignD ?qqd ?_; (case qqd => (walk_at "dirty")))))
  k_with "wpC" => ((k_here; (with_reducible show wpC _ _ (eval (Expr.Call (Expr.Attribute _ _ _) _ _ _) _) _ _ _); k_dflt (refine' c_MethodCallSD ?qqd ?_; (case qqd => (walk_at "dirty")))))
  k_with "wpC" => ((k_here; (with_reducible show wpC _ _ (eval (Expr.Call (Expr.Attribute _ _ _) _ _ _) _) _ _ _); k_dflt (refine' c_MethodCallD ?qqd ?_; (case qqd => (walk_at "dirty")))))
  k_with "wpC" => ((k_here; (with_reducible show wpC _ _ (exec (Stmt.Assign [Expr.Name _ _] (Expr.Call (Expr.Name (PySem.Str.ofString "Builder") _) _ _ _) _) _) _ _ _); k_dflt (refine c_Assign_Name ?_)))
  k_with "wpC" => ((k_here; (with_reducible show wpC _ _ (eval (Expr.Call (Expr.Name (PySem.Str.ofString "Builder") _) _ _ _) _) _ _ _); k_dflt (refine c_Call ?_)))
  k_with "wpC" => ((k_here; (with_reducible show wpC _ _ (exec (Stmt.Assign [Expr.Name _ _] (Expr.Call (Expr.Name (PySem.Str.ofString "_law_made") _) _ _ _) _) _) _ _ _); k_dflt (refine c_Assign_Name ?_)))
  k_with "wpC" => ((k_here; (with_reducible show wpC _ _ (eval (Expr.Call (Expr.Name (PySem.Str.ofString "_law_made") _) _ _ _) _) _ _ _); k_dflt (refine c_Call ?_)))
  k_with "wpC" => ((k_here; (with_reducible show wpC _ _ (exec (Stmt.Assign [Expr.Attribute _ _ _] (Expr.Call (Expr.Name (PySem.Str.ofString "bytearray") _) _ _ _) _) _) _ _ _); k_dflt (refine c_Assign_Attr ?_)))
  k_with "wpC" => ((k_here; (with_reducible show wpC _ _ (exec (Stmt.Assign [Expr.Name _ _] (Expr.Call (Expr.Name (PySem.Str.ofString "bytearray") _) _ _ _) _) _) _ _ _); k_dflt (refine c_Assign_Name ?_)))
  k_with "wpC" => ((k_here; (with_reducible show wpC _ _ (eval (Expr.Call (Expr.Name (PySem.Str.ofString "bytearray") _) _ _ _) _) _ _ _); k_dflt (refine c_Call ?_)))
  k_with "wpC" => ((k_here; (with_reducible show wpC _ _ (execs [] _) _ _ _); (refine c_execs_nil ?_)))
  k_with "wpC" => ((k_here; (with_reducible show wpC _ _ (execs (_ :: _) _) _ _ _); (refine c_execs_cons ?_)))
  k_with "wpC" => ((k_here; (with_reducible show wpC _ _ (callWith _ (Value.ref _) _ _ _) _ _ _); k_dflt (first | refine' c_callWith_K ?qqk1 ?qqk2 ?_; (case qqk1 => k_asm); (case qqk2 => k_is); k_whole | refine' c_callWith_S ?qqk1 ?qqk2 ?_; (case qqk1 => k_asm); (case qqk2 => k_is); k_whole | refine' c_callWith_MS ?qqk1 ?qqk2 ?qqk3 ?qqk4 ?_; (case qqk1 => k_asm); (case qqk2 => k_asm); (case qqk3 => k_mem); (case qqk4 => k_is); k_whole | refine' c_callWith_K0 ?qqk1 ?qqk2 ?_; (case qqk1 => k_in); (case qqk2 => k_is); k_whole | refine' c_callWith_KW ?qqk1 ?qqk2 ?qqk3 ?_; (case qqk1 => k_asm); (case qqk2 => k_is); (case qqk3 => exact rfl); k_whole)))
  k_with "wpC" => ((k_here; (with_reducible show wpC _ _ (callWith _ (Value.type _) _ _ _) _ _ _); k_dflt (refine' c_callWith_T ?_)))
  k_with "wpC" => ((k_here; (with_reducible show wpC _ _ (setItem (Value.ref _) (Value.ref _) (Value.bytes _ _)) _ _ _); k_dflt (refine' c_setN (s := ⟨_, _, _, _, _⟩) ?qqg ?qqF ?qqN ?qqU ?qqh ?qqej ?qqh0 ?qqhs ?qqz ?_; (case qqF => k_asm); (case qqN => k_asm); (case qqU => k_updF); (case qqh => k_asm); (case qqg => exact rfl); (case qqej => (walk_at "cl"; omega)); (case qqh0 => (walk_at "cl"; omega)); (case qqhs => ((walk_at "cl"); first | omega | (simp only [List.length_append, List.length_replicate, Array.size_replicate, lay_length, List.length_nil] at *; omega))); (case qqz => (walk_at "cl"; omega)); k_whole); intro _ _ _ _ _ _; (try k_sweep)))
  k_with "wpC" => ((k_here; (with_reducible show wpC _ _ (call (Value.type _) [Value.int _ _]) _ _ _); k_dflt (refine' c_new_int ?qqg ?qqF ?qqN ?qqh0 ?qqhz ?_; (case qqg => exact rfl); (case qqF => k_asm); (case qqN => k_asm); (case qqh0 => (walk_at "cl"; omega)); (case qqhz => (walk_at "cl"; omega)); k_whole); intro _ _ _ _ _; (try (walk_at "lt1")); (try k_sweep)))
  k_with "wpC" => ((k_here; (with_reducible show wpC _ _ (call (Value.type _) [Value.bytes _ _]) _ _ _); k_dflt (refine' c_new_bytes ?qqg ?qqF ?qqN ?qqhz ?_; (case qqg => exact rfl); (case qqF => k_asm); (case qqN => k_asm); (case qqhz => (walk_at "cl"; omega)); k_whole); intro _ _ _ _ _; (try (walk_at "lt1")); (try k_sweep)))
  k_with "LeaveM" => ((k_dflt (refine' leaveM_ ?qqk1 ?qqk2 ?_; (case qqk1 => k_asm); (case qqk2 => k_asm); k_whole); intro _ _ _; (try dsimp only [InitBack, CmpBack, LenBack, StrBack, BoolBack]); (try refine ⟨rfl, ?_⟩)))
  k_with "getMethod str" => ((k_here; (with_reducible show wpAny _ _ (getMethod (Value.str _ _) (PySem.Str.ofString "encode") _) _ _ _); k_dflt (refine' str_encode_get ?_; k_whole)))
  k_with "call builtin:str.encode" => ((k_here; k_dflt (refine' str_encode ?qqh ?qqz ?_; (case qqh => k_asm); (case qqz => (walk_at "cl"; omega)); k_whole); intro _ _))
  k_with "getAttr ref" => ((k_here; k_dflt (refine' kbm_boundS ?qqk1 ?qqk2 ?qqk3 ?qqk4 ?qqk5 ?qqk6 ?qqk6b ?qqk7 ?qqk8 ?qqk9 ?qqk10 ?qqk11 ?_; (case qqk4 => k_inst); (case qqk1 => k_asm); (case qqk2 => k_asm); (case qqk7 => k_is); (case qqk3 => k_asm); (case qqk5 => k_is); (case qqk6 => k_is); (case qqk6b => k_is); (case qqk8 => k_is); (case qqk9 => k_is); (case qqk10 => k_is); (case qqk11 => decide +kernel); k_whole); intro _ _ _ _ _; (try (walk_at "lt1")); (try k_sweep)))
  k_with "eval Name" => ((k_here; (with_reducible show wpAny _ _ (eval (Expr.Name (PySem.Str.ofString "bytearray") _) _) _ _ _); with_unfolding_all refine guard_global (by rfl) ?_; k_dflt (refine' name_B ?qqkF ?qqk1 ?qqk2 ?qqk3 ?qqk4 ?qqk5 ?_; (case qqkF => with_reducible assumption); (case qqk1 => with_reducible assumption); (case qqk2 => k_asm); (case qqk3 => k_is); (case qqk4 => boot_by_name); (case qqk5 => decide); k_whole)))
  k_with "getAttr ref" => ((k_here; (with_reducible show wpAny _ _ (getAttr (Value.ref _) _ _) _ _ _); k_dflt (refine' get_slot ?qqk1 ?qqk2 ?qqk3 ?qqk4 ?qqk5 ?qqk6 ?qqk7 ?qqk8 ?qqk9 ?qqk10 ?qqk11 ?_; (case qqk1 => with_reducible assumption); (case qqk2 => with_reducible assumption); (case qqk3 => k_inst); (case qqk4 => k_is); (case qqk5 => k_is); (case qqk6 => k_is); (case qqk7 => k_is); (case qqk8 => k_is); (case qqk9 => k_is); (case qqk10 => k_slotget); (case qqk11 => k_handed); k_whole)))
  k_with "ite" => ((k_here; k_openite; k_dflt (first | (refine ite_pos (by ((walk_at "cl"); (try simp only [decide_eq_true_eq, beq_iff_eq, bne_iff_ne, ne_eq]); omega)) ?_) | (refine ite_neg (by ((walk_at "cl"); (try simp only [decide_eq_true_eq, beq_iff_eq, bne_iff_ne, ne_eq]); omega)) ?_)); walk_say "PRUNED here"))
  k_with "binaryOp Mult bytes int" => ((k_here; k_dflt (refine' zeros_mul ?qqh0 ?qqhn ?_; (case qqh0 => (walk_at "cl"; omega)); (case qqhn => (walk_at "cl"; omega)); k_whole); intro _ _))
  k_with "call builtin:len" => ((k_here; (with_reducible show wpAny _ _ (call (Value.builtin "len") [Value.ref _]) _ _ _); k_dflt (refine' ba_lenN ?qqN ?qqm ?qqz ?_; (case qqN => k_asm); (case qqm => k_mem); (case qqz => (walk_at "cl"; omega)); k_whole)))
  k_with "setItem ref ref" => ((k_here; (with_reducible show wpAny _ _ (setItem (Value.ref _) (Value.ref _) (Value.ref _)) _ _ _); k_dflt (refine' ba_setN (s := ⟨_, _, _, _, _⟩) ?qqF ?qqN ?qqU ?qqm ?qqne ?qqh0 ?qqhs ?qqhz ?_; (case qqF => k_asm); (case qqN => k_asm); (case qqU => k_updF); (case qqm => k_mem); (case qqne => k_ne); (case qqh0 => (walk_at "cl"; omega)); (case qqhs => ((walk_at "cl"); first | omega | (simp only [List.length_append, List.length_replicate, Array.size_replicate, lay_length, List.length_nil] at *; omega))); (case qqhz => ((walk_at "cl"); first | omega | (simp only [List.length_append, List.length_replicate, Array.size_replicate, lay_length, List.length_nil] at *; omega))); k_whole); intro _ _ _ _ _ _; (try k_sweep)))
  k_with "getMethod ref" => ((k_here; (with_reducible show wpAny _ _ (getMethod (Value.ref _) (PySem.Str.ofString "unpack_from") _) _ _ _); k_dflt (refine' so_fromK ?qqX ?qqh ?_; (case qqX => k_in); (case qqh => exact rfl); k_whole)))
  k_with "getMethod ref" => ((k_here; (with_reducible show wpAny _ _ (getMethod (Value.ref _) (PySem.Str.ofString "pack_into") _) _ _ _); k_dflt (refine' so_intoK ?qqX ?qqh ?_; (case qqX => k_in); (case qqh => exact rfl); k_whole)))
  k_with "call builtin:_struct.Struct.unpack_from" => ((k_here; k_dflt (refine' so_fromN ?qqX ?qqF ?qqN ?qqh ?qqf ?qqb ?qqh0 ?qqh1 ?qqhz ?_; (case qqX => k_in); (case qqF => k_asm); (case qqN => k_asm); (case qqh => exact rfl); (case qqf => constructor); (case qqb => first | exact .inl ⟨_, rfl⟩ | exact .inr ⟨_, rfl, by k_mem⟩); (case qqh0 => (walk_at "cl"; omega)); (case qqh1 => (walk_at "cl"; omega)); (case qqhz => (walk_at "cl"; omega)); k_whole); intro _ _ _ _ _ _ _; (try (walk_at "lt1")); (try k_sweep)))
  k_with "call builtin:_struct.Struct.unpack_from" => ((k_here; k_dflt (refine' so_fromB ?qqX ?qqF ?qqN ?qqh ?qqf ?qqb ?qqh0 ?qqh1 ?qqhz ?_; (case qqX => k_in); (case qqF => k_asm); (case qqN => k_asm); (case qqh => exact rfl); (case qqf => constructor); (case qqb => exact BufIn.keep (by assumption) (by k_asm)); (case qqh0 => (walk_at "cl"; omega)); (case qqh1 => (walk_at "cl"; omega)); (case qqhz => (walk_at "cl"; omega)); k_whole); intro _ _ _ _ _ _ _; (try (walk_at "lt1")); (try k_sweep)))
  k_with "call builtin:_struct.Struct.pack_into" => ((k_here; k_dflt (refine' so_intoN ?qqX ?qqF ?qqN ?qqU ?qqh ?qqf ?qqh0 ?qqh1 ?qqhz ?qqlo ?qqhi ?_; (case qqX => k_in); (case qqF => k_asm); (case qqN => k_asm); (case qqU => k_updF); (case qqh => exact rfl); (case qqf => constructor); (case qqh0 => (walk_at "cl"; omega)); (case qqh1 => (walk_at "cl"; omega)); (case qqhz => (walk_at "cl"; omega)); (case qqlo => ((first | rw [if_neg (by decide)] | rw [if_pos (by decide)]); (try simp only [Nat.reduceMul, Nat.reduceSub, Int.reducePow, Int.reduceNeg]); walk_at "cl"; omega)); (case qqhi => ((first | rw [if_neg (by decide)] | rw [if_pos (by decide)]); (try simp only [Nat.reduceMul, Nat.reduceSub, Int.reducePow, Int.reduceNeg]); walk_at "cl"; omega)); k_whole); intro _ _ _; (try k_sweep)))
  k_with "wpC" => ((k_here; (with_reducible show wpC _ _ (call (Value.ref _) _ _) _ _ _); (walk_at "wpCc")))
  k_with "call ref" => ((k_here; (with_reducible show wpAny _ _ (call (Value.ref 152) [_, Value.ref 91] _) _ _ _); k_dflt (refine' enf91_k ?qqB ?qqF ?qqX ?qqT ?qqhk ?qqhd ?qqhu ?qqf0 ?qqf1 (part_of ?qqN (sub0 ) ?qqS) ?_; (case qqB => k_asm); (case qqF => k_asm); (case qqX => k_asm); (case qqT => k_asm); (case qqhk => first | exact rfl | assumption); (case qqN => k_asm); (case qqhd => (walk_at "room")); (case qqhu => (walk_at "units")); (case qqf0 => (walk_at "ft")); (case qqf1 => (walk_at "ft")); (case qqS => (walk_at "sel"))); intro _ _  _ _ _; (walk_at "fin9")))
  k_with "wpCc" => ((k_here; (with_reducible show wpC _ _ (call (Value.ref 527) [_, Value.ref 91, _] _) _ _ _); k_dflt (refine' prepend91_k ?qqB ?qqF ?qqX ?qqT ?qqhk ?qqhd ?qqhu ?qqf0 ?qqf1 ?qqf2 ?qqf3 ?qqf4 (part_of ?qqN (sub3 ?qqm0 ?qqm1 ?qqm2) ?qqS) ?_; (case qqB => k_asm); (case qqF => k_asm); (case qqX => k_asm); (case qqT => k_asm); (case qqhk => first | exact rfl | assumption); (case qqN => k_asm); (case qqm0 => k_mem); (case qqm1 => k_mem); (case qqm2 => k_mem); (case qqhd => (walk_at "room")); (case qqhu => (walk_at "units")); (case qqf0 => (walk_at "ft")); (case qqf1 => (walk_at "ft")); (case qqf2 => (walk_at "ft")); (case qqf3 => (walk_at "ft")); (case qqf4 => (walk_at "ft")); (case qqS => (walk_at "sel"))); (walk_at "cl1"); intro _ _ _ _ _ _ _ _ _ _ _ _ _ _ _; (walk_at "fin93")))
  k_with "call ref" => ((k_here; (with_reducible show wpAny _ _ (call (Value.ref 496) [_, Value.int 0 _] _) _ _ _); k_dflt (refine' slot0_k ?qqB ?qqF ?qqX ?qqT ?qqhk ?qqhd ?qqhu ?qqf0 ?qqf1 (part_of ?qqN (sub4 ?qqm0 ?qqm1 ?qqm2 ?qqm3) ?qqS) ?_; (case qqB => k_asm); (case qqF => k_asm); (case qqX => k_asm); (case qqT => k_asm); (case qqhk => first | exact rfl | assumption); (case qqN => k_asm); (case qqm0 => k_mem); (case qqm1 => k_mem); (case qqm2 => k_mem); (case qqm3 => k_mem); (case qqhd => (walk_at "room")); (case qqhu => (walk_at "units")); (case qqf0 => (walk_at "ft")); (case qqf1 => (walk_at "ft")); (case qqS => (walk_at "sel"))); (walk_at "cl1"); intro _ _ _ _ _ _; (walk_at "fin94")))
  k_with "call ref" => ((k_here; (with_reducible show wpAny _ _ (call (Value.ref 482) _ _) _ _ _); k_dflt (refine' notnested_k ?qqB ?qqF ?qqX ?qqT ?qqhk ?qqhd ?qqhu  (part_of ?qqN (sub3 ?qqm0 ?qqm1 ?qqm2) ?qqS) ?_; (case qqB => k_asm); (case qqF => k_asm); (case qqX => k_asm); (case qqT => k_asm); (case qqhk => first | exact rfl | assumption); (case qqN => k_asm); (case qqm0 => k_mem); (case qqm1 => k_mem); (case qqm2 => k_mem); (case qqhd => (walk_at "room")); (case qqhu => (walk_at "units")); (case qqS => (walk_at "sel"))); (walk_at "cl1"); intro _ _  _ _ _; (walk_at "fin93")))
  k_with "call ref" => ((k_here; (with_reducible show wpAny _ _ (call (Value.ref 475) _ _) _ _ _); k_dflt (refine' nested_k ?qqB ?qqF ?qqX ?qqT ?qqhk ?qqhd ?qqhu  (part_of ?qqN (sub3 ?qqm0 ?qqm1 ?qqm2) ?qqS) ?_; (case qqB => k_asm); (case qqF => k_asm); (case qqX => k_asm); (case qqT => k_asm); (case qqhk => first | exact rfl | assumption); (case qqN => k_asm); (case qqm0 => k_mem); (case qqm1 => k_mem); (case qqm2 => k_mem); (case qqhd => (walk_at "room")); (case qqhu => (walk_at "units")); (case qqS => (walk_at "sel"))); (walk_at "cl1"); intro _ _  _ _ _; (walk_at "fin93")))
  k_with "call ref" => ((k_here; (with_reducible show wpAny _ _ (call (Value.ref 404) _ _) _ _ _); k_dflt (refine' offset_k ?qqB ?qqF ?qqX ?qqT ?qqhk ?qqhd ?qqhu ?qqf0 ?qqf1 (part_of ?qqN (sub3 ?qqm0 ?qqm1 ?qqm2) ?qqS) ?_; (case qqB => k_asm); (case qqF => k_asm); (case qqX => k_asm); (case qqT => k_asm); (case qqhk => first | exact rfl | assumption); (case qqN => k_asm); (case qqm0 => k_mem); (case qqm1 => k_mem); (case qqm2 => k_mem); (case qqhd => (walk_at "room")); (case qqhu => (walk_at "units")); (case qqf0 => (walk_at "ft")); (case qqf1 => (walk_at "ft")); (case qqS => (walk_at "sel"))); (walk_at "cl1"); intro _ _ _ _ _ _; (walk_at "fin93")))
  trivial

theorem pslot_k : ∀ {w : World} {mean : ExcName → Option Value} {mg mb : Str → Option Value} {dp un : Nat} {cn : Str} {cs : Scope} {a : Addr} {ccd : Value} {cl : List (Str × Addr)} {outer : List Env} {A₀ : Around} {base h₀ : Heap} {L : Addr} {m : Str → Option Value} {s : Shared}
    {Q E : Value → Shared → Prop} {rest : List (Addr × Obj)} (B : Below A₀ base outer h₀) (F : Fr h₀ L s.heap m) (X : (Mine.hd.heap_39 w.params).In h₀) (T : Top Mine.hd.view_39 LO mean mg mb h₀) (hk : cs.kind = .function) (hd : dp + 7 < recursionLimit) (hu : un + 56 < cLine) {b : Addr} {dx : Addr} {ba : Addr} {dv : Addr} {arr : Array UInt8} {v7 : Value} {v9 : Option Value} {hd1 : Int} {ma : Int} {t1 : Tok} {t2 : Tok} {fin : Bool} {out : List UInt8} {cv : Addr} {x1 : Value} {x2 : Value} {x3 : Value} {t0 : Tok} {tn : Tok} {x : Int} {tx : Tok} {td : Tok} (hH : Has arr hd1 out) (hz : arr.size ≤ 2048) (h0 : 0 ≤ x) (h1 : x ≤ 4294967295) (ho : out.length ≤ 900) (P : Part h₀ L s.heap [(b, BO dx ba (.ref cv) fin hd1 t1 ma t2 true v7 v9 dv), (dx, dictOf [] 0), (ba, AO arr), (cv, CV (.int 0 t0) x1 x2 x3)] rest)
    (hret : ∀ (h' : Heap) (tk' : Nat) (ba' : Addr) (arr' : Array UInt8) (hd' : Int) (ma' : Int) (t1' : Tok) (t2' : Tok) (tk2 : Tok), Has arr' hd' (if x = 0 then out else lay 4 x ++ pd 4 0 out) → arr'.size ≤ 2048 → arr.size ≤ arr'.size → ma' = (if x = 0 then ma else max ma 4) → Fr h₀ L h' m → News h₀ L h' ([(b, BO dx ba' (.ref cv) fin hd' t1' ma' t2' true v7 v9 dv), (dx, dictOf [] 0), (ba', AO arr'), (cv, CV (.int (if x = 0 then 0 else ((pd 4 0 out).length + 4 : Int)) tk2) x1 x2 x3)] ++ rest) → AllNes [(b, BO dx ba' (.ref cv) fin hd' t1' ma' t2' true v7 v9 dv), (dx, dictOf [] 0), (ba', AO arr'), (cv, CV (.int (if x = 0 then 0 else ((pd 4 0 out).length + 4 : Int)) tk2) x1 x2 x3)] rest → Q .none { s with heap := h', toks := tk' }),
    codeC (model _root_.PySem.Challenge.rw_bp0005_01.row.prog w) (ktrTop dp un (some []) cn cs L a ccd cl outer) (.call (.ref 534) ⟨[.ref b, .ref 91, .int 0 tn, .int x tx, .int 0 td], []⟩) (wants Q E) s := by
  refine @Mine.hush _ (by
  k_fill
  intro w mean mg mb dp un cn cs a ccd cl outer A₀ base h₀ L m s Q E rest B F X T hk hd hu b dx ba dv arr v7 v9 hd1 ma t1 t2 fin out cv x1 x2 x3 t0 tn x tx td hH hz h0 h1 ho P hret
  have N := P.news
  have hdis := P.dis
  obtain ⟨n1, n2, n3, n4, n5, n6⟩ := news4B N
  k_dflt (refine' defC ?k1 ?k2 ?k3 ?k4 ?kd ?k5 ?kA ?kF ?kK ?k6 ?k7 ?k8 ?k9 ?kB ?_ ?c2 ?c3 ?c4 ?c5; (case kA => exact rfl); (case kF => exact rfl); (case kK => assumption); (case k1 => k_asm); (case k2 => k_asm); (case k3 => k_asm); (case k4 => k_asm); (case kd => k_asm); (case k5 => k_asm); (case k6 => k_is); (case k7 => k_is); (case k8 => ktr_room); (case k9 => exact BindsTo.of_eq rfl); (case c5 => decide); (case kB => exact locs rfl); (case c2 => exact rfl); (case c3 => exact rfl); (case c4 => exact rfl); k_whole; intro g' L' h' FG' F' N' B' X' T' l0 ; (try dsimp only); (try k_fold))
  have hH0 := hH.1
  have hH1 := hH.2.1
  by_cases hx : x = 0
  · k_steps
    all_goals dsimp only [wants]
    rename_i kF kN kD
    simp only [if_pos hx] at hret
    exact hret _ _ ba arr hd1 ma t1 t2 t0 hH hz (Nat.le_refl _) rfl kF (news_sub kN (sub4 (by k_mem) (by k_mem) (by k_mem) (by k_mem))) (allNes_of (dis_sub kD (sub4 (by k_mem) (by k_mem) (by k_mem) (by k_mem))))
  · k_steps
    all_goals dsimp only [wants]
    rename_i kF kN kD
    simp only [if_neg hx] at hret
    simp only [lay_app] at kN kD
    exact hret _ _ _ _ _ _ _ _ _ (by first | assumption | omega) (by first | assumption | omega) (by first | assumption | omega) (by first | assumption | omega) kF (news_sub kN (sub4 (by k_mem) (by k_mem) (by k_mem) (by k_mem))) (allNes_of (dis_sub kD (sub4 (by k_mem) (by k_mem) (by k_mem) (by k_mem))))) ?_
  intro q f
  simpa using Mine.hushed f 5 fun n i => i
theorem setup_KJ_2 : True := by
  k_with "wpCc" => ((k_here; (with_reducible show wpC _ _ (call (Value.ref _) _) _ _ _); k_dflt (refine' c_call_meth (g := 534) ?qqN0 ?qqq0 ?_; (case qqN0 => k_asm); (case qqq0 => k_mem); k_whole); k_dflt (refine' pslot_k ?qqB ?qqF ?qqX ?qqT ?qqhk ?qqhd ?qqhu ?qqf0 ?qqf1 ?qqf2 ?qqf3 ?qqf4 (part_of ?qqN (sub4 ?qqm0 ?qqm1 ?qqm2 ?qqm3) ?qqS) ?_; (case qqB => k_asm); (case qqF => k_asm); (case qqX => k_asm); (case qqT => k_asm); (case qqhk => first | exact rfl | assumption); (case qqN => k_asm); (case qqm0 => k_mem); (case qqm1 => k_mem); (case qqm2 => k_mem); (case qqm3 => k_mem); (case qqhd => (walk_at "room")); (case qqhu => (walk_at "units")); (case qqf0 => (walk_at "ft")); (case qqf1 => (walk_at "ft")); (case qqf2 => (walk_at "ft")); (case qqf3 => (walk_at "ft")); (case qqf4 => (walk_at "ft")); (case qqS => (walk_at "sel"))); (walk_at "cl1"); intro _ _ _ _ _ _ _ _ _ _ _ _ _ _ _ _; (walk_at "fin94")))
  trivial

theorem pu32_k : ∀ {w : World} {mean : ExcName → Option Value} {mg mb : Str → Option Value} {dp un : Nat} {cn : Str} {cs : Scope} {a : Addr} {ccd : Value} {cl : List (Str × Addr)} {outer : List Env} {A₀ : Around} {base h₀ : Heap} {L : Addr} {m : Str → Option Value} {s : Shared}
    {Q E : Value → Shared → Prop} {rest : List (Addr × Obj)} (B : Below A₀ base outer h₀) (F : Fr h₀ L s.heap m) (X : (Mine.hd.heap_39 w.params).In h₀) (T : Top Mine.hd.view_39 LO mean mg mb h₀) (hk : cs.kind = .function) (hd : dp + 8 < recursionLimit) (hu : un + 64 < cLine) {b : Addr} {dx : Addr} {ba : Addr} {dv : Addr} {arr : Array UInt8} {v7 : Value} {v9 : Option Value} {hd1 : Int} {ma : Int} {t1 : Tok} {t2 : Tok} {fin : Bool} {out : List UInt8} {cv : Addr} {x1 : Value} {x2 : Value} {x3 : Value} {t0 : Tok} {tn : Tok} {x : Int} {tx : Tok} {td : Tok} (hH : Has arr hd1 out) (hz : arr.size ≤ 2048) (h0 : 0 ≤ x) (h1 : x ≤ 4294967295) (ho : out.length ≤ 900) (P : Part h₀ L s.heap [(b, BO dx ba (.ref cv) fin hd1 t1 ma t2 true v7 v9 dv), (dx, dictOf [] 0), (ba, AO arr), (cv, CV (.int 0 t0) x1 x2 x3)] rest)
    (hret : ∀ (h' : Heap) (tk' : Nat) (ba' : Addr) (arr' : Array UInt8) (hd' : Int) (ma' : Int) (t1' : Tok) (t2' : Tok) (tk2 : Tok), Has arr' hd' (if x = 0 then out else lay 4 x ++ pd 4 0 out) → arr'.size ≤ 2048 → arr.size ≤ arr'.size → ma' = (if x = 0 then ma else max ma 4) → Fr h₀ L h' m → News h₀ L h' ([(b, BO dx ba' (.ref cv) fin hd' t1' ma' t2' true v7 v9 dv), (dx, dictOf [] 0), (ba', AO arr'), (cv, CV (.int (if x = 0 then 0 else ((pd 4 0 out).length + 4 : Int)) tk2) x1 x2 x3)] ++ rest) → AllNes [(b, BO dx ba' (.ref cv) fin hd' t1' ma' t2' true v7 v9 dv), (dx, dictOf [] 0), (ba', AO arr'), (cv, CV (.int (if x = 0 then 0 else ((pd 4 0 out).length + 4 : Int)) tk2) x1 x2 x3)] rest → Q .none { s with heap := h', toks := tk' }),
    wpC (model _root_.PySem.Challenge.rw_bp0005_01.row.prog w) (ktrTop dp un (some []) cn cs L a ccd cl outer) (call (.ref 569) [.ref b, .int 0 tn, .int x tx, .int 0 td] ) Q E s := by
  refine @Mine.hush _ (by
  k_fill
  intro w mean mg mb dp un cn cs a ccd cl outer A₀ base h₀ L m s Q E rest B F X T hk hd hu b dx ba dv arr v7 v9 hd1 ma t1 t2 fin out cv x1 x2 x3 t0 tn x tx td hH hz h0 h1 ho P hret
  have N := P.news
  have hdis := P.dis
  obtain ⟨n1, n2, n3, n4, n5, n6⟩ := news4B N
  refine c_call ?_
  k_dflt (refine' defCV ?k1 ?k2 ?k3 ?k4 ?kd ?k5 ?kA ?kF ?kK ?k6 ?k7 ?k8 ?kV ?kP ?kG ?kB ?_ ?c2 ?c3 ?c4 ?c5; (case kA => exact rfl); (case kF => exact rfl); (case kK => assumption); (case k1 => k_asm); (case k2 => k_asm); (case k3 => k_asm); (case k4 => k_asm); (case kd => k_asm); (case k5 => k_asm); (case k6 => k_is); (case k7 => k_is); (case k8 => ktr_room); (case kV => kl_lit); (case kP => exact rfl); (case kG => exact fun _ => rfl); (case c5 => decide); (case kB => exact fun _ => locs rfl); (case c2 => exact rfl); (case c3 => exact rfl); (case c4 => exact rfl); k_whole; intro D' g' L' h' FG' F' N' B' X' T' l0 l1; (try k_lt l1); (try dsimp only); (try k_fold))
  have hH0 := hH.1
  have hH1 := hH.2.1
  k_steps
  all_goals dsimp only [wants]
  all_goals (rename_i kF kN kD; exact hret _ _ _ _ _ _ _ _ _ (by first | assumption | omega) (by first | assumption | omega) (by first | assumption | omega) (by first | assumption | omega) kF (news_sub kN (sub4 (by k_mem) (by k_mem) (by k_mem) (by k_mem))) (allNes_of (dis_sub kD (sub4 (by k_mem) (by k_mem) (by k_mem) (by k_mem)))))) ?_
  intro q f
  simpa using Mine.hushed f 5 fun n i => i
-- KL

theorem vtab_len4 {out : List UInt8} {oe x0 x1 x2 x3 : Int} : ((pd 4 0 out).length : Int) + 4 ≤ (vtab out oe [x0, x1, x2, x3]).length ∧ ((vtab out oe [x0, x1, x2, x3]).length : Int) ≤ out.length + 20 := by
  have h := pd_len (sz := 4) (add := 0) (out := out) (by decide)
  unfold vtab
  rw [List.length_append, List.length_append, List.length_append, List.length_append, lay_length, lay_length, lay_length, vl_len]
  simp only [List.length_cons, List.length_nil]
  omega
theorem newsDv {h₀ h : Heap} {L b dx ba dv cv : Addr} {v1 x0 x1 x2 x3 : Value} {fin : Bool} {hd : Int} {t : Tok} {ma : Int} {t' : Tok} {nest : Bool} {v7 : Value} {v9 : Option Value} {arr : Array UInt8} {ov : Obj} {rest : List (Addr × Obj)} (N : News h₀ L h ([(b, BO dx ba v1 fin hd t ma t' nest v7 v9 dv), (dx, dictOf [] 0), (ba, AO arr), (cv, CV x0 x1 x2 x3), (dv, ov)] ++ rest)) (ho : ov.cls = .type "dict") :
    NeA b dv ∧ NeA ba dv ∧ NeA cv dv := by
  refine @Mine.hush _ (by
  refine ⟨?_, ?_, ?_⟩
  · exact news_ne N (p := (b, _)) (q := (dv, ov)) (.head _) (.tail _ (.tail _ (.tail _ (.tail _ (.head _))))) fun e => by have e := congrArg Obj.cls e; rw [ho] at e; cases e
  · exact news_ne N (p := (ba, _)) (q := (dv, ov)) (.tail _ (.tail _ (.head _))) (.tail _ (.tail _ (.tail _ (.tail _ (.head _))))) fun e => by have e := congrArg Obj.cls e; rw [ho] at e; exact absurd (Value.type.inj e) (by decide)
  · exact news_ne N (p := (cv, CV x0 x1 x2 x3)) (q := (dv, ov)) (.tail _ (.tail _ (.tail _ (.head _)))) (.tail _ (.tail _ (.tail _ (.tail _ (.head _))))) fun e => by have e := congrArg Obj.cls e; rw [ho] at e; exact absurd (Value.type.inj e) (by decide)) ?_
  intro q f
  simpa using Mine.hushed f 5 fun n i => i

@[reducible] def WM1 (el : Option Value) (tb : Bool) (lk : Addr) (oo : Int) (to : Tok) (b : Addr) (m₀ : Str → Option Value) : Str → Option Value := fun y =>
  if y = Str.ofString "elem" then el else if y = Str.ofString "trim" then some (.bool tb) else if y = Str.ofString "vtKey" then some (.ref lk) else if y = Str.ofString "objectOffset" then some (.int oo to) else
    if y = Str.ofString "self" then some (.ref b) else m₀ y
theorem wm1_self {tb : Bool} {lk : Addr} {oo : Int} {to : Tok} {b : Addr} {m₀ : Str → Option Value} (f1 : m₀ (Str.ofString "trim") = some (.bool tb)) (f2 : m₀ (Str.ofString "vtKey") = some (.ref lk))
    (f3 : m₀ (Str.ofString "objectOffset") = some (.int oo to)) (f4 : m₀ (Str.ofString "self") = some (.ref b)) : m₀ = WM1 (m₀ (Str.ofString "elem")) tb lk oo to b m₀ := by
  funext y
  unfold WM1
  split
  · rename_i e; rw [e]
  split
  · rename_i e; rw [e, f1]
  split
  · rename_i e; rw [e, f2]
  split
  · rename_i e; rw [e, f3]
  split
  · rename_i e; rw [e, f4]
  rfl
theorem wm1_a {el : Option Value} {tb : Bool} {lk : Addr} {oo : Int} {to : Tok} {b : Addr} {m₀ : Str → Option Value} {v : Value} : (fun y => if y = Str.ofString "elem" then some v else WM1 el tb lk oo to b m₀ y) = WM1 (some v) tb lk oo to b m₀ := by
  funext y
  unfold WM1
  split
  · rfl
  rfl
theorem wm1_b {el : Option Value} {tb : Bool} {lk : Addr} {oo : Int} {to : Tok} {b : Addr} {m₀ : Str → Option Value} {v v' : Value} : (fun y => if y = Str.ofString "trim" then some (.bool false) else if y = Str.ofString "elem" then some v else if y = Str.ofString "elem" then some v' else WM1 el tb lk oo to b m₀ y) = WM1 (some v) false lk oo to b m₀ := by
  funext y
  unfold WM1
  by_cases h1 : y = Str.ofString "trim"
  · rw [if_pos h1, if_pos h1]
    split
    · rename_i e; rw [h1] at e; exact absurd e (by decide)
    rfl
  · rw [if_neg h1, if_neg h1]
    split
    · rfl
    rfl
/-- the first loop of WriteVtable: what is so ahead of each turn -/
def W1 (s : Shared) (g : Heap) (L : Addr) (m₀ : Str → Option Value) (oo : Int) (to : Tok) (b D lk cv : Addr) (bs : List (Addr × Obj)) (xs : List Int) (n : Nat) (s' : Shared) : Prop :=
  ∃ (h : Heap) (tk : Nat) (el : Option Value) (tb : Bool) (vs : Array Value) (k : Nat) (o : Obj), s' = { s with heap := h, toks := tk } ∧ Fr g L h (WM1 el tb lk oo to b m₀) ∧ News g L h ((D, o) :: (lk, W.listOf vs k) :: bs) ∧ RevAt o cv ((n : Int) - 1) ∧
    n ≤ 4 ∧ (tb = true → n = 4) ∧ VsAre ((xs.drop n).reverse.map (kv oo)) vs.toList

@[reducible] def WM2 (el off : Option Value) (iv : Int) (ti : Tok) (tb : Bool) (ttr : Tok) (key : Addr) (osz : Int) (tos : Tok) (oo : Int) (to : Tok) (b : Addr) (m₀ : Str → Option Value) : Str → Option Value := fun y =>
  if y = Str.ofString "elem" then el else if y = Str.ofString "off" then off else if y = Str.ofString "i" then some (.int iv ti) else if y = Str.ofString "trailing" then some (.int 0 ttr) else if y = Str.ofString "trim" then some (.bool tb) else
    if y = Str.ofString "vtKey" then some (.ref key) else if y = Str.ofString "objectSize" then some (.int osz tos) else if y = Str.ofString "objectOffset" then some (.int oo to) else if y = Str.ofString "self" then some (.ref b) else m₀ y
theorem wm2_self {iv : Int} {ti : Tok} {tb : Bool} {ttr : Tok} {key : Addr} {osz : Int} {tos : Tok} {oo : Int} {to : Tok} {b : Addr} {m₀ : Str → Option Value} (f1 : m₀ (Str.ofString "i") = some (.int iv ti)) (f2 : m₀ (Str.ofString "trailing") = some (.int 0 ttr)) (f3 : m₀ (Str.ofString "trim") = some (.bool tb))
    (f4 : m₀ (Str.ofString "vtKey") = some (.ref key)) (f5 : m₀ (Str.ofString "objectSize") = some (.int osz tos)) (f6 : m₀ (Str.ofString "objectOffset") = some (.int oo to)) (f7 : m₀ (Str.ofString "self") = some (.ref b)) :
    m₀ = WM2 (m₀ (Str.ofString "elem")) (m₀ (Str.ofString "off")) iv ti tb ttr key osz tos oo to b m₀ := by
  funext y
  unfold WM2
  split
  · rename_i e; rw [e]
  split
  · rename_i e; rw [e]
  split
  · rename_i e; rw [e, f1]
  split
  · rename_i e; rw [e, f2]
  split
  · rename_i e; rw [e, f3]
  split
  · rename_i e; rw [e, f4]
  split
  · rename_i e; rw [e, f5]
  split
  · rename_i e; rw [e, f6]
  split
  · rename_i e; rw [e, f7]
  rfl
section
variable {el off : Option Value} {iv iv' : Int} {ti ti' : Tok} {tb : Bool} {ttr : Tok} {key : Addr} {osz : Int} {tos : Tok} {oo : Int} {to : Tok} {b : Addr} {m₀ : Str → Option Value} {v1 v2 v3 : Value}
theorem wm2_a : (fun y => if y = Str.ofString "i" then some (.int iv' ti') else if y = Str.ofString "elem" then some v1 else if y = Str.ofString "off" then some v2 else WM2 el off iv ti tb ttr key osz tos oo to b m₀ y) = WM2 (some v1) (some v2) iv' ti' tb ttr key osz tos oo to b m₀ := by
  funext y
  unfold WM2
  by_cases h1 : y = Str.ofString "elem"
  · rw [h1, if_neg (by decide), if_pos rfl, if_pos rfl]
  by_cases h2 : y = Str.ofString "off"
  · rw [h2, if_neg (by decide), if_neg (by decide), if_pos rfl, if_neg (by decide), if_pos rfl]
  by_cases h3 : y = Str.ofString "i"
  · rw [if_pos h3, if_neg h1, if_neg h2, if_pos h3]
  simp only [if_neg h1, if_neg h2, if_neg h3]
theorem wm2_b : (fun y => if y = Str.ofString "trim" then some (.bool false) else if y = Str.ofString "off" then some v1 else if y = Str.ofString "i" then some (.int iv' ti') else if y = Str.ofString "elem" then some v2 else if y = Str.ofString "off" then some v3 else WM2 el off iv ti tb ttr key osz tos oo to b m₀ y) =
    WM2 (some v2) (some v1) iv' ti' false ttr key osz tos oo to b m₀ := by
  refine @Mine.hush _ (by
  funext y
  unfold WM2
  by_cases h1 : y = Str.ofString "elem"
  · rw [h1, if_neg (by decide), if_neg (by decide), if_neg (by decide), if_pos rfl, if_pos rfl]
  by_cases h2 : y = Str.ofString "off"
  · rw [h2, if_neg (by decide), if_pos rfl, if_neg (by decide), if_pos rfl]
  by_cases h3 : y = Str.ofString "i"
  · rw [h3, if_neg (by decide), if_neg (by decide), if_pos rfl, if_neg (by decide), if_neg (by decide), if_pos rfl]
  by_cases h4 : y = Str.ofString "trim"
  · rw [if_pos h4, if_neg h1, if_neg h2, if_neg h3, h4, if_neg (by decide), if_pos rfl]
  simp only [if_neg h1, if_neg h2, if_neg h3, if_neg h4]) ?_
  intro q f
  simpa using Mine.hushed f 5 fun n i => i
end
theorem newsW2 {g h : Heap} {L key b dx ba cv dv : Addr} {v1 x0 x1 x2 x3 : Value} {fin : Bool} {hd : Int} {t : Tok} {ma : Int} {t' : Tok} {nest : Bool} {v7 : Value} {v9 : Option Value} {arr : Array UInt8} {ov : Obj} {vs : Array Value} (N : News g L h [(key, { cls := .type "tuple", data := .seq vs }), (b, BO dx ba v1 fin hd t ma t' nest v7 v9 dv), (dx, dictOf [] 0), (ba, AO arr), (cv, CV x0 x1 x2 x3), (dv, ov)]) (ho : ov.cls = .type "dict") :
    NeA b ba ∧ NeA dx ba ∧ NeA ba cv ∧ NeA ba dv ∧ NeA ba key := by
  refine @Mine.hush _ (by
  have hb : (ba, AO arr) ∈ [(key, ({ cls := .type "tuple", data := .seq vs } : Obj)), (b, BO dx ba v1 fin hd t ma t' nest v7 v9 dv), (dx, dictOf [] 0), (ba, AO arr), (cv, CV x0 x1 x2 x3), (dv, ov)] := .tail _ (.tail _ (.tail _ (.head _)))
  refine ⟨?_, ?_, ?_, ?_, ?_⟩
  · exact news_ne N (p := (b, _)) (.tail _ (.head _)) hb fun e => by cases congrArg Obj.cls e
  · exact news_ne N (p := (dx, _)) (.tail _ (.tail _ (.head _))) hb fun e => absurd (Value.type.inj (congrArg Obj.cls e)) (by decide)
  · exact news_ne N (q := (cv, CV x0 x1 x2 x3)) hb (.tail _ (.tail _ (.tail _ (.tail _ (.head _))))) fun e => absurd (Value.type.inj (congrArg Obj.cls e)) (by decide)
  · exact news_ne N (q := (dv, ov)) hb (.tail _ (.tail _ (.tail _ (.tail _ (.tail _ (.head _)))))) fun e => by have e := congrArg Obj.cls e; rw [ho] at e; exact absurd (Value.type.inj e) (by decide)
  · exact news_ne N (q := (key, _)) hb (.head _) fun e => absurd (Value.type.inj (congrArg Obj.cls e)) (by decide)) ?_
  intro q f
  simpa using Mine.hushed f 5 fun n i => i
/-- the second loop of WriteVtable: what is so ahead of each turn -/
def W2 (s : Shared) (g : Heap) (L : Addr) (m₀ : Str → Option Value) (ttr : Tok) (key : Addr) (ko : Obj) (osz : Int) (tos : Tok) (oo : Int) (to : Tok) (b dx dv cv : Addr) (ov co : Obj) (v1 v7 : Value) (v9 : Option Value) (fin : Bool) (ma : Int) (z0 : Nat) (xs : List Int) (ou : List UInt8) (n : Nat) (s' : Shared) : Prop :=
  ∃ (h : Heap) (tk : Nat) (el off : Option Value) (iv : Int) (ti : Tok) (tb : Bool) (ba : Addr) (arr : Array UInt8) (hd : Int) (t1 t2 : Tok), s' = { s with heap := h, toks := tk } ∧ Fr g L h (WM2 el off iv ti tb ttr key osz tos oo to b m₀) ∧
    News g L h [(key, ko), (b, BO dx ba v1 fin hd t1 ma t2 false v7 v9 dv), (dx, dictOf [] 0), (ba, AO arr), (cv, co), (dv, ov)] ∧ Has arr hd (vl oo (xs.drop n) ++ ou) ∧ arr.size ≤ 2048 ∧ z0 ≤ arr.size ∧ iv = (n : Int) - 1 ∧ n ≤ 4 ∧ (tb = true → n = 4)

theorem setup_KL_1 : True := by
  k_with_none
  k_with "wpC" => ((k_here; (with_reducible show wpC _ _ _ _ _ _); (fail_if_success (with_reducible show wpC _ _ (setItem _ _ (Value.bytes _ _)) _ _ _)); (fail_if_success (with_reducible show wpC _ _ (call (Value.ref _) _ _) _ _ _)); (fail_if_success (with_reducible show wpC _ _ (callWith _ (Value.type _) _ _ _) _ _ _)); (fail_if_success (with_reducible show wpC _ _ (call (Value.type _) _ _) _ _ _)); (refine of_any ?_)))
  k_with "wpC" => ((k_here; (with_reducible show wpC _ _ (call (Value.ref _) _ _) _ _ _); (refine' of_anyD ?qqd ?_; (case qqd => (walk_at "dirty")))))
  k_with "wpC" => ((k_here; (with_reducible show wpC _ _ (exec (Stmt.While _ _ _ _) _) _ _ _); (refine c_While ?_)))
  k_with "wpC" => ((k_here; (with_reducible show wpC _ _ (exec (Stmt.If _ _ _ _) _) _ _ _); (refine c_If ?_)))
  k_with "wpC" => ((k_here; (with_reducible show wpC _ _ (exec (Stmt.Assign [Expr.Subscript _ (Expr.Slice _ _ _ _) _] _ _) _) _ _ _); k_dflt (refine c_Assign_Subscript ?_)))
  k_with "wpC" => ((k_here; (with_reducible show wpC _ _ (exec (Stmt.Expr (Expr.Call (Expr.Attribute _ _ _) _ _ _) _) _) _ _ _); k_dflt (refine' c_ExprD ?qqd ?_; (case qqd => (walk_at "dirty")))))
  k_with "wpC" => ((k_here; (with_reducible show wpC _ _ (exec (Stmt.Return (some (Expr.Call (Expr.Attribute _ _ _) _ _ _)) _) _) _ _ _); k_dflt (refine' c_ReturnD ?qqd ?_; (case qqd => (walk_at "dirty")))))
  k_with "wpC" => ((k_here; (with_reducible show wpC _ _ (exec (Stmt.Assign [Expr.Name _ _] (Expr.Call (Expr.Attribute _ _ _) _ _ _) _) _) _ _ _); k_dflt (refine' c_AssignD ?qqd ?_; (case qqd => (walk_at "dirty")))))
  k_with "wpC" => ((k_here; (with_reducible show wpC _ _ (eval (Expr.Call (Expr.Attribute _ _ _) _ _ _) _) _ _ _); k_dflt (refine' c_MethodCallSD ?qqd ?_; (case qqd => (walk_at "dirty")))))
  k_with "wpC" => ((k_here; (with_reducible show wpC _ _ (eval (Expr.Call (Expr.Attribute _ _ _) _ _ _) _) _ _ _); k_dflt (refine' c_MethodCallD ?qqd ?_; (case qqd => (walk_at "dirty")))))
  k_with "wpC" => ((k_here; (with_reducible show wpC _ _ (exec (Stmt.Assign [Expr.Name _ _] (Expr.Call (Expr.Name (PySem.Str.ofString "Builder") _) _ _ _) _) _) _ _ _); k_dflt (refine c_Assign_Name ?_)))
  k_with "wpC" => ((k_here; (with_reducible show wpC _ _ (eval (Expr.Call (Expr.Name (PySem.Str.ofString "Builder") _) _ _ _) _) _ _ _); k_dflt (refine c_Call ?_)))
  k_with "wpC" => ((k_here; (with_reducible show wpC _ _ (exec (Stmt.Assign [Expr.Name _ _] (Expr.Call (Expr.Name (PySem.Str.ofString "_law_made") _) _ _ _) _) _) _ _ _); k_dflt (refine c_Assign_Name ?_)))
  k_with "wpC" => ((k_here; (with_reducible show wpC _ _ (eval (Expr.Call (Expr.Name (PySem.Str.ofString "_law_made") _) _ _ _) _) _ _ _); k_dflt (refine c_Call ?_)))
  k_with "wpC" => ((k_here; (with_reducible show wpC _ _ (exec (Stmt.Assign [Expr.Attribute _ _ _] (Expr.Call (Expr.Name (PySem.Str.ofString "bytearray") _) _ _ _) _) _) _ _ _); k_dflt (refine c_Assign_Attr ?_)))
  k_with "wpC" => ((k_here; (with_reducible show wpC _ _ (exec (Stmt.Assign [Expr.Name _ _] (Expr.Call (Expr.Name (PySem.Str.ofString "bytearray") _) _ _ _) _) _) _ _ _); k_dflt (refine c_Assign_Name ?_)))
  k_with "wpC" => ((k_here; (with_reducible show wpC _ _ (eval (Expr.Call (Expr.Name (PySem.Str.ofString "bytearray") _) _ _ _) _) _ _ _); k_dflt (refine c_Call ?_)))
  k_with "wpC" => ((k_here; (with_reducible show wpC _ _ (execs [] _) _ _ _); (refine c_execs_nil ?_)))
  k_with "wpC" => ((k_here; (with_reducible show wpC _ _ (execs (_ :: _) _) _ _ _); (refine c_execs_cons ?_)))
  k_with "wpC" => ((k_here; (with_reducible show wpC _ _ (callWith _ (Value.ref _) _ _ _) _ _ _); k_dflt (first | refine' c_callWith_K ?qqk1 ?qqk2 ?_; (case qqk1 => k_asm); (case qqk2 => k_is); k_whole | refine' c_callWith_S ?qqk1 ?qqk2 ?_; (case qqk1 => k_asm); (case qqk2 => k_is); k_whole | refine' c_callWith_MS ?qqk1 ?qqk2 ?qqk3 ?qqk4 ?_; (case qqk1 => k_asm); (case qqk2 => k_asm); (case qqk3 => k_mem); (case qqk4 => k_is); k_whole | refine' c_callWith_K0 ?qqk1 ?qqk2 ?_; (case qqk1 => k_in); (case qqk2 => k_is); k_whole | refine' c_callWith_KW ?qqk1 ?qqk2 ?qqk3 ?_; (case qqk1 => k_asm); (case qqk2 => k_is); (case qqk3 => exact rfl); k_whole)))
  k_with "wpC" => ((k_here; (with_reducible show wpC _ _ (callWith _ (Value.type _) _ _ _) _ _ _); k_dflt (refine' c_callWith_T ?_)))
  k_with "wpC" => ((k_here; (with_reducible show wpC _ _ (setItem (Value.ref _) (Value.ref _) (Value.bytes _ _)) _ _ _); k_dflt (refine' c_setN (s := ⟨_, _, _, _, _⟩) ?qqg ?qqF ?qqN ?qqU ?qqh ?qqej ?qqh0 ?qqhs ?qqz ?_; (case qqF => k_asm); (case qqN => k_asm); (case qqU => k_updF); (case qqh => k_asm); (case qqg => exact rfl); (case qqej => (walk_at "cl"; omega)); (case qqh0 => (walk_at "cl"; omega)); (case qqhs => ((walk_at "cl"); first | omega | (simp only [List.length_append, List.length_replicate, Array.size_replicate, lay_length, List.length_nil] at *; omega))); (case qqz => (walk_at "cl"; omega)); k_whole); intro _ _ _ _ _ _; (try k_sweep)))
  k_with "wpC" => ((k_here; (with_reducible show wpC _ _ (call (Value.type _) [Value.int _ _]) _ _ _); k_dflt (refine' c_new_int ?qqg ?qqF ?qqN ?qqh0 ?qqhz ?_; (case qqg => exact rfl); (case qqF => k_asm); (case qqN => k_asm); (case qqh0 => (walk_at "cl"; omega)); (case qqhz => (walk_at "cl"; omega)); k_whole); intro _ _ _ _ _; (try (walk_at "lt1")); (try k_sweep)))
  k_with "wpC" => ((k_here; (with_reducible show wpC _ _ (call (Value.type _) [Value.bytes _ _]) _ _ _); k_dflt (refine' c_new_bytes ?qqg ?qqF ?qqN ?qqhz ?_; (case qqg => exact rfl); (case qqF => k_asm); (case qqN => k_asm); (case qqhz => (walk_at "cl"; omega)); k_whole); intro _ _ _ _ _; (try (walk_at "lt1")); (try k_sweep)))
  k_with "LeaveM" => ((k_dflt (refine' leaveM_ ?qqk1 ?qqk2 ?_; (case qqk1 => k_asm); (case qqk2 => k_asm); k_whole); intro _ _ _; (try dsimp only [InitBack, CmpBack, LenBack, StrBack, BoolBack]); (try refine ⟨rfl, ?_⟩)))
  k_with "getMethod str" => ((k_here; (with_reducible show wpAny _ _ (getMethod (Value.str _ _) (PySem.Str.ofString "encode") _) _ _ _); k_dflt (refine' str_encode_get ?_; k_whole)))
  k_with "call builtin:str.encode" => ((k_here; k_dflt (refine' str_encode ?qqh ?qqz ?_; (case qqh => k_asm); (case qqz => (walk_at "cl"; omega)); k_whole); intro _ _))
  k_with "getAttr ref" => ((k_here; k_dflt (refine' kbm_boundS ?qqk1 ?qqk2 ?qqk3 ?qqk4 ?qqk5 ?qqk6 ?qqk6b ?qqk7 ?qqk8 ?qqk9 ?qqk10 ?qqk11 ?_; (case qqk4 => k_inst); (case qqk1 => k_asm); (case qqk2 => k_asm); (case qqk7 => k_is); (case qqk3 => k_asm); (case qqk5 => k_is); (case qqk6 => k_is); (case qqk6b => k_is); (case qqk8 => k_is); (case qqk9 => k_is); (case qqk10 => k_is); (case qqk11 => decide +kernel); k_whole); intro _ _ _ _ _; (try (walk_at "lt1")); (try k_sweep)))
  k_with "eval Name" => ((k_here; (with_reducible show wpAny _ _ (eval (Expr.Name (PySem.Str.ofString "bytearray") _) _) _ _ _); with_unfolding_all refine guard_global (by rfl) ?_; k_dflt (refine' name_B ?qqkF ?qqk1 ?qqk2 ?qqk3 ?qqk4 ?qqk5 ?_; (case qqkF => with_reducible assumption); (case qqk1 => with_reducible assumption); (case qqk2 => k_asm); (case qqk3 => k_is); (case qqk4 => boot_by_name); (case qqk5 => decide); k_whole)))
  k_with "getAttr ref" => ((k_here; (with_reducible show wpAny _ _ (getAttr (Value.ref _) _ _) _ _ _); k_dflt (refine' get_slot ?qqk1 ?qqk2 ?qqk3 ?qqk4 ?qqk5 ?qqk6 ?qqk7 ?qqk8 ?qqk9 ?qqk10 ?qqk11 ?_; (case qqk1 => with_reducible assumption); (case qqk2 => with_reducible assumption); (case qqk3 => k_inst); (case qqk4 => k_is); (case qqk5 => k_is); (case qqk6 => k_is); (case qqk7 => k_is); (case qqk8 => k_is); (case qqk9 => k_is); (case qqk10 => k_slotget); (case qqk11 => k_handed); k_whole)))
  k_with "ite" => ((k_here; k_openite; k_dflt (first | (refine ite_pos (by ((walk_at "cl"); (try simp only [decide_eq_true_eq, beq_iff_eq, bne_iff_ne, ne_eq]); omega)) ?_) | (refine ite_neg (by ((walk_at "cl"); (try simp only [decide_eq_true_eq, beq_iff_eq, bne_iff_ne, ne_eq]); omega)) ?_)); walk_say "PRUNED here"))
  k_with "binaryOp Mult bytes int" => ((k_here; k_dflt (refine' zeros_mul ?qqh0 ?qqhn ?_; (case qqh0 => (walk_at "cl"; omega)); (case qqhn => (walk_at "cl"; omega)); k_whole); intro _ _))
  k_with "call builtin:len" => ((k_here; (with_reducible show wpAny _ _ (call (Value.builtin "len") [Value.ref _]) _ _ _); k_dflt (refine' ba_lenN ?qqN ?qqm ?qqz ?_; (case qqN => k_asm); (case qqm => k_mem); (case qqz => (walk_at "cl"; omega)); k_whole)))
  k_with "setItem ref ref" => ((k_here; (with_reducible show wpAny _ _ (setItem (Value.ref _) (Value.ref _) (Value.ref _)) _ _ _); k_dflt (refine' ba_setN (s := ⟨_, _, _, _, _⟩) ?qqF ?qqN ?qqU ?qqm ?qqne ?qqh0 ?qqhs ?qqhz ?_; (case qqF => k_asm); (case qqN => k_asm); (case qqU => k_updF); (case qqm => k_mem); (case qqne => k_ne); (case qqh0 => (walk_at "cl"; omega)); (case qqhs => ((walk_at "cl"); first | omega | (simp only [List.length_append, List.length_replicate, Array.size_replicate, lay_length, List.length_nil] at *; omega))); (case qqhz => ((walk_at "cl"); first | omega | (simp only [List.length_append, List.length_replicate, Array.size_replicate, lay_length, List.length_nil] at *; omega))); k_whole); intro _ _ _ _ _ _; (try k_sweep)))
  k_with "getMethod ref" => ((k_here; (with_reducible show wpAny _ _ (getMethod (Value.ref _) (PySem.Str.ofString "unpack_from") _) _ _ _); k_dflt (refine' so_fromK ?qqX ?qqh ?_; (case qqX => k_in); (case qqh => exact rfl); k_whole)))
  k_with "getMethod ref" => ((k_here; (with_reducible show wpAny _ _ (getMethod (Value.ref _) (PySem.Str.ofString "pack_into") _) _ _ _); k_dflt (refine' so_intoK ?qqX ?qqh ?_; (case qqX => k_in); (case qqh => exact rfl); k_whole)))
  k_with "call builtin:_struct.Struct.unpack_from" => ((k_here; k_dflt (refine' so_fromN ?qqX ?qqF ?qqN ?qqh ?qqf ?qqb ?qqh0 ?qqh1 ?qqhz ?_; (case qqX => k_in); (case qqF => k_asm); (case qqN => k_asm); (case qqh => exact rfl); (case qqf => constructor); (case qqb => first | exact .inl ⟨_, rfl⟩ | exact .inr ⟨_, rfl, by k_mem⟩); (case qqh0 => (walk_at "cl"; omega)); (case qqh1 => (walk_at "cl"; omega)); (case qqhz => (walk_at "cl"; omega)); k_whole); intro _ _ _ _ _ _ _; (try (walk_at "lt1")); (try k_sweep)))
  k_with "call builtin:_struct.Struct.unpack_from" => ((k_here; k_dflt (refine' so_fromB ?qqX ?qqF ?qqN ?qqh ?qqf ?qqb ?qqh0 ?qqh1 ?qqhz ?_; (case qqX => k_in); (case qqF => k_asm); (case qqN => k_asm); (case qqh => exact rfl); (case qqf => constructor); (case qqb => exact BufIn.keep (by assumption) (by k_asm)); (case qqh0 => (walk_at "cl"; omega)); (case qqh1 => (walk_at "cl"; omega)); (case qqhz => (walk_at "cl"; omega)); k_whole); intro _ _ _ _ _ _ _; (try (walk_at "lt1")); (try k_sweep)))
  k_with "call builtin:_struct.Struct.pack_into" => ((k_here; k_dflt (refine' so_intoN ?qqX ?qqF ?qqN ?qqU ?qqh ?qqf ?qqh0 ?qqh1 ?qqhz ?qqlo ?qqhi ?_; (case qqX => k_in); (case qqF => k_asm); (case qqN => k_asm); (case qqU => k_updF); (case qqh => exact rfl); (case qqf => constructor); (case qqh0 => (walk_at "cl"; omega)); (case qqh1 => (walk_at "cl"; omega)); (case qqhz => (walk_at "cl"; omega)); (case qqlo => ((first | rw [if_neg (by decide)] | rw [if_pos (by decide)]); (try simp only [Nat.reduceMul, Nat.reduceSub, Int.reducePow, Int.reduceNeg]); walk_at "cl"; omega)); (case qqhi => ((first | rw [if_neg (by decide)] | rw [if_pos (by decide)]); (try simp only [Nat.reduceMul, Nat.reduceSub, Int.reducePow, Int.reduceNeg]); walk_at "cl"; omega)); k_whole); intro _ _ _; (try k_sweep)))
  k_with "wpC" => ((k_here; (with_reducible show wpC _ _ (call (Value.ref _) _ _) _ _ _); (walk_at "wpCc")))
  k_with "wpC" => ((k_here; (with_reducible show wpC _ _ (exec (Stmt.For _ _ _ _ _) _) _ _ _); k_dflt (refine c_For ?_)))
  k_with "pyIter ref" => ((k_here; (with_reducible show wpAny _ _ (pyIter (Value.ref _)) _ _ _); k_dflt (refine' rev_iter ?qqN ?qqm ?qqo ?_; (case qqN => k_asm); (case qqm => k_mem); (case qqo => exact ⟨rfl, rfl⟩); k_whole)))
  k_with "getMethod ref" => ((k_here; (with_reducible show wpAny _ _ (getMethod (Value.ref _) (PySem.Str.ofString "get") _) _ _ _); k_dflt (refine' tup_getm ?qqlo ?qqN ?qqd ?qqho ?_; (case qqlo => assumption); (case qqho => assumption); (case qqN => k_asm); (case qqd => k_mem); k_whole)))
  k_with "call builtin:dict.get" => ((k_here; k_dflt (refine' tup_get ?qqu ?qqlo ?qqN ?qqd ?qqho ?qqa ?qqi ?_; (case qqu => (walk_at "units")); (case qqlo => assumption); (case qqho => assumption); (case qqN => k_asm); (case qqd => k_mem); (case qqa => k_mem); (case qqi => exact items5); k_whole); intro _))
  k_with "setItem ref ref" => ((k_here; (with_reducible show wpAny _ _ (setItem (Value.ref _) (Value.ref _) (Value.int _ _)) _ _ _); k_dflt (refine' tup_set ?qqu ?qqlo ?qqF ?qqN ?qqd ?qqho ?qqa ?qqi ?qqS ?_; (case qqu => (walk_at "units")); (case qqlo => assumption); (case qqho => assumption); (case qqF => k_asm); (case qqN => k_asm); (case qqd => k_mem); (case qqa => k_mem); (case qqi => exact items5); (case qqS => (walk_at "sel")); k_whole); intro _ _ _ _; (try k_sweep)))
  k_with "pyNext ref" => ((k_here; k_dflt (refine' rev_next ?qqF ?qqN ?qqU ?qqo ?qql ?qqx ?_; (case qqF => k_asm); (case qqN => k_asm); (case qqU => k_updF); (case qqo => assumption); (case qql => k_mem); (case qqx => assumption)); intro _ _ _ _ _))
  k_with "getAttr ref" => ((k_here; (with_reducible show wpAny _ _ (getAttr (Value.ref _) (PySem.Str.ofString "py_type") _) _ _ _); k_dflt (refine' cls_int ?qqF ?qqX ?qqm ?qqr ?qqe0 ?qqe1 ?qqh ?_; (case qqF => k_asm); (case qqX => k_asm); (case qqm => k_is); (case qqr => k_is); (case qqe0 => k_is); (case qqe1 => k_is); (case qqh => decide +kernel); k_whole)))
  k_with "subscriptTail" => ((k_here; (with_reducible show wpAny _ _ (subscriptTail _ _ (Value.ref _) (Value.int _ _)) _ _ _); k_dflt (refine' item_at ?qqN ?qqm ?qqe ?qqx ?qqz ?_; (case qqN => k_asm); (case qqm => k_mem); (case qqe => assumption); (case qqx => assumption); (case qqz => (walk_at "cl"; omega)); k_whole)))
  k_with "call ref" => ((k_here; (with_reducible show wpAny _ _ (call (Value.ref 166) _) _ _ _); (refine stop_ ?_)))
  k_with "do write53_k" => ((k_here; (with_reducible show wpAny _ _ (call (Value.ref 166) (Value.ref 53 :: _) _) _ _ _); k_dflt (refine' write53_k ?qqB ?qqF ?qqX ?qqT ?qqhk ?qqhd ?qqhu ?qqf0 ?qqf1 ?qqf2 ?qqf3 ?qqf4 (part_of ?qqN (sub1 ?qqm0) ?qqS) ?_; (case qqB => k_asm); (case qqF => k_asm); (case qqX => k_asm); (case qqT => k_asm); (case qqhk => first | exact rfl | assumption); (case qqN => k_asm); (case qqm0 => k_mem); (case qqhd => (walk_at "room")); (case qqhu => (walk_at "units")); (case qqf0 => (walk_at "ft")); (case qqf1 => (walk_at "ft")); (case qqf2 => (walk_at "ft")); (case qqf3 => (walk_at "ft")); (case qqf4 => (walk_at "ft")); (case qqS => (walk_at "sel"))); intro _ _  _ _ _; (walk_at "fin9")))
  k_with "wpCc" => ((k_here; (with_reducible show wpC _ _ (call (Value.ref 425) _ _) _ _ _); k_dflt (refine' prependS_k ?qqB ?qqF ?qqX ?qqT ?qqhk ?qqhd ?qqhu ?qqf0 ?qqf1 ?qqf2 ?qqf3 ?qqf4 (part_of ?qqN (sub3 ?qqm0 ?qqm1 ?qqm2) ?qqS) ?_; (case qqB => k_asm); (case qqF => k_asm); (case qqX => k_asm); (case qqT => k_asm); (case qqhk => first | exact rfl | assumption); (case qqN => k_asm); (case qqm0 => k_mem); (case qqm1 => k_mem); (case qqm2 => k_mem); (case qqhd => (walk_at "room")); (case qqhu => (walk_at "units")); (case qqf0 => (walk_at "ft")); (case qqf1 => (walk_at "ft")); (case qqf2 => (walk_at "ft")); (case qqf3 => (walk_at "ft")); (case qqf4 => (walk_at "ft")); (case qqS => (walk_at "sel"))); (walk_at "cl1"); intro _ _ _ _ _ _ _ _ _ _ _ _ _ _ _; (walk_at "fin93")))
  k_with "wpCc" => ((k_here; (with_reducible show wpC _ _ (call (Value.ref 702) _ _) _ _ _); k_dflt (refine' pV_k ?qqB ?qqF ?qqX ?qqT ?qqhk ?qqhd ?qqhu ?qqf0 ?qqf1 ?qqf2 ?qqf3 ?qqf4 (part_of ?qqN (sub3 ?qqm0 ?qqm1 ?qqm2) ?qqS) ?_; (case qqB => k_asm); (case qqF => k_asm); (case qqX => k_asm); (case qqT => k_asm); (case qqhk => first | exact rfl | assumption); (case qqN => k_asm); (case qqm0 => k_mem); (case qqm1 => k_mem); (case qqm2 => k_mem); (case qqhd => (walk_at "room")); (case qqhu => (walk_at "units")); (case qqf0 => (walk_at "ft")); (case qqf1 => (walk_at "ft")); (case qqf2 => (walk_at "ft")); (case qqf3 => (walk_at "ft")); (case qqf4 => (walk_at "ft")); (case qqS => (walk_at "sel"))); (walk_at "cl1"); intro _ _ _ _ _ _ _ _ _ _ _ _ _ _ _; (walk_at "fin93")))
  k_with "call ref" => ((k_here; (with_reducible show wpAny _ _ (call (Value.ref 404) _ _) _ _ _); k_dflt (refine' offset_k ?qqB ?qqF ?qqX ?qqT ?qqhk ?qqhd ?qqhu ?qqf0 ?qqf1 (part_of ?qqN (sub3 ?qqm0 ?qqm1 ?qqm2) ?qqS) ?_; (case qqB => k_asm); (case qqF => k_asm); (case qqX => k_asm); (case qqT => k_asm); (case qqhk => first | exact rfl | assumption); (case qqN => k_asm); (case qqm0 => k_mem); (case qqm1 => k_mem); (case qqm2 => k_mem); (case qqhd => (walk_at "room")); (case qqhu => (walk_at "units")); (case qqf0 => (walk_at "ft")); (case qqf1 => (walk_at "ft")); (case qqS => (walk_at "sel"))); (walk_at "cl1"); intro _ _ _ _ _ _; (walk_at "fin93")))
  trivial

set_option maxHeartbeats 20000000 in
theorem wvt_k : ∀ {w : World} {mean : ExcName → Option Value} {mg mb : Str → Option Value} {dp un : Nat} {cn : Str} {cs : Scope} {a : Addr} {ccd : Value} {cl : List (Str × Addr)} {outer : List Env} {A₀ : Around} {base h₀ : Heap} {L : Addr} {m : Str → Option Value} {s : Shared}
    {Q E : Value → Shared → Prop} {rest : List (Addr × Obj)} (B : Below A₀ base outer h₀) (F : Fr h₀ L s.heap m) (X : (Mine.hd.heap_39 w.params).In h₀) (T : Top Mine.hd.view_39 LO mean mg mb h₀) (hk : cs.kind = .function) (hd : dp + 9 < recursionLimit) (hu : un + 72 < cLine) {b : Addr} {dx : Addr} {ba : Addr} {dv : Addr} {arr : Array UInt8} {v9 : Option Value} {hd1 : Int} {ma : Int} {t1 : Tok} {t2 : Tok} {fin : Bool} {out : List UInt8} {cv : Addr} {ov : Obj} {oe : Int} {toe : Tok} {x0 : Int} {x1 : Int} {x2 : Int} {x3 : Int} {u0 : Tok} {u1 : Tok} {u2 : Tok} {u3 : Tok} (hH : Has arr hd1 out) (hz : arr.size ≤ 2048) (hlo : (dv == sysModules) = false) (hov : ov.IsDictOf (PySem.strKind _root_.PySem.Challenge.rw_bp0005_01.row.prog w) []) (ho : out.length ≤ 800) (hoe : 0 ≤ oe) (hoe2 : oe ≤ out.length) (hdv : NeA dx dv) (hma : ma = 4) (hx0 : 0 ≤ x0) (hx1 : 0 ≤ x1) (hx2 : 0 ≤ x2) (hx3 : 0 ≤ x3) (hy0 : x0 ≤ out.length) (hy1 : x1 ≤ out.length) (hy2 : x2 ≤ out.length) (hy3 : x3 ≤ out.length) (hz1 : x1 ≠ 0) (hz3 : x3 ≠ 0) (P : Part h₀ L s.heap [(b, BO dx ba (.ref cv) fin hd1 t1 ma t2 false (.int oe toe) v9 dv), (dx, dictOf [] 0), (ba, AO arr), (cv, CV (.int x0 u0) (.int x1 u1) (.int x2 u2) (.int x3 u3)), (dv, ov)] rest)
    (hret : ∀ (h' : Heap) (tk' : Nat) (ba' : Addr) (arr' : Array UInt8) (hd' : Int) (ma' : Int) (t1' : Tok) (t2' : Tok) (tk2 : Tok), Has arr' hd' (vtab out oe [x0, x1, x2, x3]) → arr'.size ≤ 2048 → arr.size ≤ arr'.size → ma' = 4 → ((pd 4 0 out).length : Int) + 4 ≤ (vtab out oe [x0, x1, x2, x3]).length → ((vtab out oe [x0, x1, x2, x3]).length : Int) ≤ out.length + 20 → Fr h₀ L h' m → News h₀ L h' ([(b, BO dx ba' .none fin hd' t1' ma' t2' false (.int oe toe) v9 dv), (dx, dictOf [] 0), (ba', AO arr')] ++ rest) → AllNes [(b, BO dx ba' .none fin hd' t1' ma' t2' false (.int oe toe) v9 dv), (dx, dictOf [] 0), (ba', AO arr')] rest → Q (.int ((pd 4 0 out).length + 4 : Int) tk2) { s with heap := h', toks := tk' }),
    wpC (model _root_.PySem.Challenge.rw_bp0005_01.row.prog w) (ktrTop dp un (some []) cn cs L a ccd cl outer) (call (.ref 376) [.ref b] ) Q E s := by
  refine @Mine.hush _ (by
  k_fill
  intro w mean mg mb dp un cn cs a ccd cl outer A₀ base h₀ L m s Q E rest B F X T hk hd hu b dx ba dv arr v9 hd1 ma t1 t2 fin out cv ov oe toe x0 x1 x2 x3 u0 u1 u2 u3 hH hz hlo hov ho hoe hoe2 hdv hma hx0 hx1 hx2 hx3 hy0 hy1 hy2 hy3 hz1 hz3 P hret
  have N := P.news
  have hdis := P.dis
  have n10 : NeA dx dv := hdv
  obtain ⟨n1, n2, n3, n4, n5, n6⟩ := news4B (rest := (dv, ov) :: rest) N
  obtain ⟨n7, n8, n9⟩ := newsDv (rest := rest) N (by obtain ⟨_, _, h, _⟩ := hov; exact h.1)
  refine c_call ?_
  k_dflt (refine' defC ?k1 ?k2 ?k3 ?k4 ?kd ?k5 ?kA ?kF ?kK ?k6 ?k7 ?k8 ?k9 ?kB ?_ ?c2 ?c3 ?c4 ?c5; (case kA => exact rfl); (case kF => exact rfl); (case kK => assumption); (case k1 => k_asm); (case k2 => k_asm); (case k3 => k_asm); (case k4 => k_asm); (case kd => k_asm); (case k5 => k_asm); (case k6 => k_is); (case k7 => k_is); (case k8 => ktr_room); (case k9 => exact BindsTo.of_eq rfl); (case c5 => decide); (case kB => exact locs rfl); (case c2 => exact rfl); (case c3 => exact rfl); (case c4 => exact rfl); k_whole; intro g' L' h' FG' F' N' B' X' T' l0 ; (try dsimp only); (try k_fold))
  have hH0 := hH.1
  have hH1 := hH.2.1
  k_steps
  rename_i h9a k9a ba1 ar1 hd2 ma2 ta tb hHa hza hga hma h9b k9b tk n94 n95 n96 _ _ _ _ _ _ h4 lk h3 _ _ _ _ _ h2 h1 D h0 F N _ _ _ _ _ _
  obtain ⟨m₀, oo, hoo, f1, f2, f3, f4, F⟩ : ∃ (m₀ : Str → Option Value) (oo : Int), oo = (pd 4 0 out).length + 4 ∧ m₀ (Str.ofString "trim") = some (.bool true) ∧ m₀ (Str.ofString "vtKey") = some (.ref lk) ∧ m₀ (Str.ofString "objectOffset") = some (.int oo tk) ∧
      m₀ (Str.ofString "self") = some (.ref b) ∧ Fr g' L' h0 m₀ := ⟨_, _, by rw [lay_app]; rfl, rfl, rfl, rfl, rfl, F⟩
  rw [wm1_self f1 f2 f3 f4] at F
  have hpl := pd_len (sz := 4) (add := 0) (out := out) (by omega)
  have hp4 := pd4_mod (out := out)
  obtain ⟨ou, hou, hol⟩ : ∃ ou, lay 4 ((pd 4 0 out).length - 0 + 4) ++ pd 4 0 out = ou ∧ (ou.length : Int) = oo := ⟨_, rfl, by rw [lay_app, hoo]; rfl⟩
  rw [hou] at hHa
  refine c_for_ind (I := W1 s g' L' m₀ oo tk b D lk cv [(b, BO dx ba1 (.ref cv) fin hd2 ta ma2 tb false (.int oe toe) v9 dv), (dx, dictOf [] 0), (ba1, AO ar1), (cv, CV (.int x0 u0) (.int x1 u1) (.int x2 u2) (.int x3 u3)), (dv, ov)] [x0, x1, x2, x3]) ?_ (by intro _; rfl) 4 _ ⟨_, _, _, _, _, _, _, rfl, F, N, ⟨rfl, rfl⟩, Nat.le_refl _, fun _ => rfl, trivial⟩
  clear F N
  intro n s' hI
  obtain ⟨h, tk', el, tb1, vs, k, o, rfl, F1, N1, R1, n4, ht, V1⟩ := hI
  rcases n with _ | n
  · have R1' : RevAt o cv (-1) := by simpa using R1
    obtain ⟨t1, t2, t3, t4, rfl⟩ := VsAre.four (a := kv oo x3) (b := kv oo x2) (c := kv oo x1) (d := kv oo x0) V1
    refine' rev_end (l := cv) rfl F1 N1 (.head _) ?S R1' ?_
    case S => (walk_at "sel")
    intro h2 F2 N2
    dsimp only
    clear V1 ht R1 R1' F1 N1
    k_steps
    rename_i Dk h1b _ _ _ _ _ _ h1c k9c h1d h1e h1f h1g F N
    obtain ⟨m₁, ti, ttr, tos, f1, f2, f3, f4, f5, f6, f7, F⟩ : ∃ (m₁ : Str → Option Value) (ti ttr tos : Tok), m₁ (Str.ofString "i") = some (.int 3 ti) ∧ m₁ (Str.ofString "trailing") = some (.int 0 ttr) ∧ m₁ (Str.ofString "trim") = some (.bool true) ∧ m₁ (Str.ofString "vtKey") = some (.ref Dk) ∧ m₁ (Str.ofString "objectSize") = some (.int (oo - oe) tos) ∧
        m₁ (Str.ofString "objectOffset") = some (.int oo tk) ∧ m₁ (Str.ofString "self") = some (.ref b) ∧ Fr g' L' h1g m₁ := ⟨_, _, _, _, rfl, rfl, rfl, rfl, rfl, rfl, rfl, F⟩
    rw [wm2_self f1 f2 f3 f4 f5 f6 f7] at F
    have N : News g' L' h1g [(Dk, { cls := .type "tuple", data := .seq #[Value.int (kv oo x3) t1, .int (kv oo x2) t2, .int (kv oo x1) t3, .int (kv oo x0) t4, .int (oo - oe) (tk' + 1 + 1)] }), (b, BO dx ba1 (.ref cv) fin hd2 ta ma2 tb false (.int oe toe) v9 dv), (dx, dictOf [] 0), (ba1, AO ar1), (cv, CV (.int x0 u0) (.int x1 u1) (.int x2 u2) (.int x3 u3)), (dv, ov)] :=
      fun p hp => N p (by revert p; exact List.forall_mem_cons.mpr ⟨by k_mem, sub5 (by k_mem) (by k_mem) (by k_mem) (by k_mem) (by k_mem)⟩)
    refine c_while_ind (I := W2 s g' L' m₁ ttr Dk _ (oo - oe) tos oo tk b dx dv cv ov _ (.ref cv) (.int oe toe) v9 fin ma2 arr.size [x0, x1, x2, x3] ou) ?_ 4 _ ⟨_, _, _, _, _, _, _, _, _, _, _, _, rfl, F, N, hHa, hza, hga, rfl, Nat.le_refl _, fun _ => rfl⟩
    clear F N
    intro n s' hI
    obtain ⟨h, tk2', el, off, iv, ti, tb1, ba2, ar2, hd3, tc, td, rfl, F1, N1, H1, z1, z2, hiv, n4, ht⟩ := hI
    have hln : (vl oo ([x0, x1, x2, x3].drop n) ++ ou).length ≤ 812 := by
      rw [List.length_append, vl_len, List.length_drop]
      simp only [List.length_cons, List.length_nil]
      omega
    have hev : (vl oo ([x0, x1, x2, x3].drop n) ++ ou).length % 2 = 0 := by
      rw [List.length_append, vl_len, List.length_drop]
      simp only [List.length_cons, List.length_nil]
      omega
    obtain ⟨q1, q2, q3, q4, q5⟩ := newsW2 N1 (by obtain ⟨_, _, h, _⟩ := hov; exact h.1)
    have q6 : @LT.lt Nat _ b Dk ∧ @LT.lt Nat _ dx Dk ∧ @LT.lt Nat _ cv Dk ∧ @LT.lt Nat _ dv Dk := ⟨by assumption, by assumption, by assumption, by assumption⟩
    have q7 : (NeA b cv ∧ NeA b dv) ∧ (NeA dx cv ∧ NeA dx dv) := ⟨⟨by assumption, by assumption⟩, by assumption, by assumption⟩
    obtain ⟨q61, q62, q63, q64⟩ := q6
    obtain ⟨⟨q71, q72⟩, q73, q74⟩ := q7
    clear hH0 hH1 hH hz
    rcases n with _ | n
    · have hiv0 : iv = -1 := by omega
      rw [List.drop_zero] at H1 hln hev
      have hoe3 : 0 ≤ oo - oe ∧ oo - oe ≤ 65535 := by omega
      clear ht
      have hl2 : (lay 2 (oo - oe) ++ pd 2 0 (vl oo [x0, x1, x2, x3] ++ ou)).length ≤ 900 := by rw [pd2_even hev, List.length_append, lay_length]; omega
      k_steps
      rename_i h9a k9a ba5 ar5 hd5 ma5 t5 u5 H5 z5 g5 m5 hA hB h9b k9b ba6 ar6 hd6 ma6 t6 u6 H6 z6 g6 m6 hC h9c k9c tk6 F6 N6 _ _ _ _ _ _ _ _ _ _ _ _
      have H60 := H6.1
      have hev2 : (lay 2 (oo - oe) ++ (vl oo [x0, x1, x2, x3] ++ ou)).length % 2 = 0 := by rw [List.length_append, lay_length]; omega
      have H7 : Has ar6 hd6 (lay 2 12 ++ (lay 2 (oo - oe) ++ (vl oo [x0, x1, x2, x3] ++ ou))) := by
        have q := H6
        rw [pd2_even hev, pd2_even hev2] at q
        exact q
      have l7 : (12 + oo : Int) = ar6.size - hd6 := by
        have q := H7.len
        rw [List.length_append, List.length_append, List.length_append, lay_length, lay_length, vl_len] at q
        simp only [List.length_cons, List.length_nil] at q
        omega
      have key : ∀ l : List UInt8, Has ar6 hd6 l → (l.length : Int) - oo = 12 := fun l h => by have := h.len; omega
      have hx12 := key _ H6
      refine stop_on ?_
      walk_at "do write53_k"
      rename_i h8 k8 F8 N8 _ _ _ _ _
      rw [hx12] at N8
      obtain ⟨H8, z8⟩ := has_over (raw := Builtin.Struct.intBytes false 4 12) (p := (ar6.size : Int) - oo) (a := lay 2 12 ++ (lay 2 (oo - oe) ++ vl oo [x0, x1, x2, x3])) (b := lay 4 ((pd 4 0 out).length - 0 + 4)) (c := pd 4 0 out) (arr := ar6) (hd := hd6)
        (by rw [hou]; simpa only [List.append_assoc] using H7) (by rw [intBytes_size, lay_length]) (by
          rw [List.length_append, List.length_append, lay_length, lay_length, vl_len]
          simp only [List.length_cons, List.length_nil]
          omega)
      have H9 : Has (putAt ar6 ((ar6.size : Int) - oo).toNat (Builtin.Struct.intBytes false 4 12)) hd6 (vtab out oe [x0, x1, x2, x3]) := by
        have q := H8
        simp only [List.append_assoc] at q
        rw [hoo] at q ⊢
        exact q
      obtain ⟨ar9, ear⟩ : ∃ ar9, putAt ar6 ((ar6.size : Int) - oo).toNat (Builtin.Struct.intBytes false 4 12) = ar9 := ⟨_, rfl⟩
      rw [ear] at N8 H9 z8
      clear H8 H7 H6 H5 H1 hx12 key ear
      k_steps
      dsimp only [wants]
      rename_i kF kN kD
      rw [← hoo] at hret
      exact hret _ _ ba6 ar9 hd6 ma6 t6 u6 tk H9 (by omega) (by omega) (by omega) (by rw [hoo]; exact vtab_len4.1) vtab_len4.2 kF (news_sub kN (sub3 (by k_mem) (by k_mem) (by k_mem))) (allNes_of (dis_sub kD (sub3 (by k_mem) (by k_mem) (by k_mem))))
    · obtain ⟨x, u, ex, ⟨px1, px2⟩, pl, ed⟩ := cv_get (u0 := u0) (u1 := u1) (u2 := u2) (u3 := u3) (P := fun x => 0 ≤ x ∧ x ≤ (out.length : Int)) n (by omega) ⟨hx0, hy0⟩ ⟨hx1, hy1⟩ ⟨hx2, hy2⟩ ⟨hx3, hy3⟩
      have hiv' : iv = (n : Nat) := by omega
      have hH10 := H1.1
      by_cases hx : x = 0
      · have htb : tb1 = false := by
          cases tb1 with
          | false => rfl
          | true => have := ht rfl; have := pl (by omega); omega
        subst htb
        subst hx
        k_steps
        rename_i ha hb hc h9 k9 ba9 ar9 hd9 ma9 tc9 td9 H9 z9 g9 hm9 F9 N9 _ _ _ _ _ _ _ _ _ _ _ _
        have hm9' : ma9 = ma2 := by omega
        subst hm9'
        rw [pd2_even hev] at H9
        exact ⟨n, by omega, _, _, _, _, _, _, false, _, _, _, _, _, rfl, wm2_a ▸ F9, fun p hp => N9 p (by revert p; exact List.forall_mem_cons.mpr ⟨by k_mem, sub5 (by k_mem) (by k_mem) (by k_mem) (by k_mem) (by k_mem)⟩), by rw [ed, vl_cons]; exact H9, z9, by omega, by omega, by omega, fun e => (nomatch e)⟩
      · k_steps
        rename_i ha hb hc hd he h9 k9 ba9 ar9 hd9 ma9 tc9 td9 H9 z9 g9 hm9 F9 N9 _ _ _ _ _ _ _ _ _ _ _ _
        have hm9' : ma9 = ma2 := by omega
        subst hm9'
        rw [pd2_even hev] at H9
        have ek : kv oo x = oo - x := if_neg hx
        exact ⟨n, by omega, _, _, _, _, _, _, false, _, _, _, _, _, rfl, wm2_b ▸ F9, fun p hp => N9 p (by revert p; exact List.forall_mem_cons.mpr ⟨by k_mem, sub5 (by k_mem) (by k_mem) (by k_mem) (by k_mem) (by k_mem)⟩), by rw [ed, vl_cons, ek, List.append_assoc]; exact H9, z9, by omega, by omega, by omega, fun e => (nomatch e)⟩
  · obtain ⟨x, u, ex, ⟨px1, px2⟩, pl, ed⟩ := cv_get (u0 := u0) (u1 := u1) (u2 := u2) (u3 := u3) (P := fun x => 0 ≤ x ∧ x ≤ (out.length : Int)) n (by omega) ⟨hx0, hy0⟩ ⟨hx1, hy1⟩ ⟨hx2, hy2⟩ ⟨hx3, hy3⟩
    have R1' : RevAt o cv (n : Int) := by simpa using R1
    have hvz : vs.size ≤ 4 := by
      have e := V1.length
      rw [List.length_map, List.length_reverse, List.length_drop, Array.length_toList] at e
      exact Nat.le_trans (Nat.le_of_eq e) (Nat.sub_le _ _)
    by_cases hx : x = 0
    · have htb : tb1 = false := by
        cases tb1 with
        | false => rfl
        | true => have := ht rfl; have := pl (by omega); omega
      subst htb
      subst hx
      k_steps
      rename_i o2 h2 R2 h3 h4 FF NN
      exact ⟨n, by omega, _, _, _, false, _, _, _, rfl, wm1_a ▸ FF, NN, R2, by omega, fun e => (nomatch e), by rw [ed, List.reverse_cons, List.map_append, Array.toList_push]; exact V1.push (n := kv oo 0)⟩
    · k_steps
      rename_i o2 h2 R2 h3 h4 h5 h6 FF NN
      refine ⟨n, by omega, _, _, _, false, _, _, _, rfl, wm1_b ▸ FF, NN, R2, by omega, fun e => (nomatch e), ?_⟩
      rw [ed, List.reverse_cons, List.map_append, Array.toList_push]
      have e : kv oo x = oo - x := if_neg hx
      rw [← e]
      exact V1.push) ?_
  intro q f
  simpa using Mine.hushed f 5 fun n i => i
-- KM1
theorem has_zero {n : Int} (h0 : 0 ≤ n) : Has (Array.replicate n.toNat 0) n [] := ⟨h0, by rw [Array.size_replicate]; omega, by simp⟩

theorem setup_KM1_1 : True := by
  k_with_none
  k_with "wpC" => ((k_here; (with_reducible show wpC _ _ _ _ _ _); (fail_if_success (with_reducible show wpC _ _ (setItem _ _ (Value.bytes _ _)) _ _ _)); (fail_if_success (with_reducible show wpC _ _ (call (Value.ref _) _ _) _ _ _)); (fail_if_success (with_reducible show wpC _ _ (callWith _ (Value.type _) _ _ _) _ _ _)); (fail_if_success (with_reducible show wpC _ _ (call (Value.type _) _ _) _ _ _)); (refine of_any ?_)))
  k_with "wpC" => ((k_here; (with_reducible show wpC _ _ (call (Value.ref _) _ _) _ _ _); (refine' of_anyD ?qqd ?_; (case qqd => (walk_at "dirty")))))
  k_with "wpC" => ((k_here; (with_reducible show wpC _ _ (exec (Stmt.While _ _ _ _) _) _ _ _); (refine c_While ?_)))
  k_with "wpC" => ((k_here; (with_reducible show wpC _ _ (exec (Stmt.If _ _ _ _) _) _ _ _); (refine c_If ?_)))
  k_with "wpC" => ((k_here; (with_reducible show wpC _ _ (exec (Stmt.Assign [Expr.Subscript _ (Expr.Slice _ _ _ _) _] _ _) _) _ _ _); k_dflt (refine c_Assign_Subscript ?_)))
  k_with "wpC" => ((k_here; (with_reducible show wpC _ _ (exec (Stmt.Expr (Expr.Call (Expr.Attribute _ _ _) _ _ _) _) _) _ _ _); k_dflt (refine' c_ExprD ?qqd ?_; (case qqd => (walk_at "dirty")))))
  k_with "wpC" => ((k_here; (with_reducible show wpC _ _ (exec (Stmt.Return (some (Expr.Call (Expr.Attribute _ _ _) _ _ _)) _) _) _ _ _); k_dflt (refine' c_ReturnD ?qqd ?_; (case qqd => (walk_at "dirty")))))
  k_with "wpC" => ((k_here; (with_reducible show wpC _ _ (exec (Stmt.Assign [Expr.Name _ _] (Expr.Call (Expr.Attribute _ _ _) _ _ _) _) _) _ _ _); k_dflt (refine' c_AssignD ?qqd ?_; (case qqd => (walk_at "dirty")))))
  k_with "wpC" => ((k_here; (with_reducible show wpC _ _ (eval (Expr.Call (Expr.Attribute _ _ _) _ _ _) _) _ _ _); k_dflt (refine' c_MethodCallSD ?qqd ?_; (case qqd => (walk_at "dirty")))))
  k_with "wpC" => ((k_here; (with_reducible show wpC _ _ (eval (Expr.Call (Expr.Attribute _ _ _) _ _ _) _) _ _ _); k_dflt (refine' c_MethodCallD ?qqd ?_; (case qqd => (walk_at "dirty")))))
  k_with "wpC" => ((k_here; (with_reducible show wpC _ _ (exec (Stmt.Assign [Expr.Name _ _] (Expr.Call (Expr.Name (PySem.Str.ofString "Builder") _) _ _ _) _) _) _ _ _); k_dflt (refine c_Assign_Name ?_)))
  k_with "wpC" => ((k_here; (with_reducible show wpC _ _ (eval (Expr.Call (Expr.Name (PySem.Str.ofString "Builder") _) _ _ _) _) _ _ _); k_dflt (refine c_Call ?_)))
  k_with "wpC" => ((k_here; (with_reducible show wpC _ _ (exec (Stmt.Assign [Expr.Name _ _] (Expr.Call (Expr.Name (PySem.Str.ofString "_law_made") _) _ _ _) _) _) _ _ _); k_dflt (refine c_Assign_Name ?_)))
  k_with "wpC" => ((k_here; (with_reducible show wpC _ _ (eval (Expr.Call (Expr.Name (PySem.Str.ofString "_law_made") _) _ _ _) _) _ _ _); k_dflt (refine c_Call ?_)))
  k_with "wpC" => ((k_here; (with_reducible show wpC _ _ (exec (Stmt.Assign [Expr.Attribute _ _ _] (Expr.Call (Expr.Name (PySem.Str.ofString "bytearray") _) _ _ _) _) _) _ _ _); k_dflt (refine c_Assign_Attr ?_)))
  k_with "wpC" => ((k_here; (with_reducible show wpC _ _ (exec (Stmt.Assign [Expr.Name _ _] (Expr.Call (Expr.Name (PySem.Str.ofString "bytearray") _) _ _ _) _) _) _ _ _); k_dflt (refine c_Assign_Name ?_)))
  k_with "wpC" => ((k_here; (with_reducible show wpC _ _ (eval (Expr.Call (Expr.Name (PySem.Str.ofString "bytearray") _) _ _ _) _) _ _ _); k_dflt (refine c_Call ?_)))
  k_with "wpC" => ((k_here; (with_reducible show wpC _ _ (execs [] _) _ _ _); (refine c_execs_nil ?_)))
  k_with "wpC" => ((k_here; (with_reducible show wpC _ _ (execs (_ :: _) _) _ _ _); (refine c_execs_cons ?_)))
  k_with "wpC" => ((k_here; (with_reducible show wpC _ _ (callWith _ (Value.ref _) _ _ _) _ _ _); k_dflt (first | refine' c_callWith_K ?qqk1 ?qqk2 ?_; (case qqk1 => k_asm); (case qqk2 => k_is); k_whole | refine' c_callWith_S ?qqk1 ?qqk2 ?_; (case qqk1 => k_asm); (case qqk2 => k_is); k_whole | refine' c_callWith_MS ?qqk1 ?qqk2 ?qqk3 ?qqk4 ?_; (case qqk1 => k_asm); (case qqk2 => k_asm); (case qqk3 => k_mem); (case qqk4 => k_is); k_whole | refine' c_callWith_K0 ?qqk1 ?qqk2 ?_; (case qqk1 => k_in); (case qqk2 => k_is); k_whole | refine' c_callWith_KW ?qqk1 ?qqk2 ?qqk3 ?_; (case qqk1 => k_asm); (case qqk2 => k_is); (case qqk3 => exact rfl); k_whole)))
  k_with "wpC" => ((k_here; (with_reducible show wpC _ _ (callWith _ (Value.type _) _ _ _) _ _ _); k_dflt (refine' c_callWith_T ?_)))
  k_with "wpC" => ((k_here; (with_reducible show wpC _ _ (setItem (Value.ref _) (Value.ref _) (Value.bytes _ _)) _ _ _); k_dflt (refine' c_setN (s := ⟨_, _, _, _, _⟩) ?qqg ?qqF ?qqN ?qqU ?qqh ?qqej ?qqh0 ?qqhs ?qqz ?_; (case qqF => k_asm); (case qqN => k_asm); (case qqU => k_updF); (case qqh => k_asm); (case qqg => exact rfl); (case qqej => (walk_at "cl"; omega)); (case qqh0 => (walk_at "cl"; omega)); (case qqhs => ((walk_at "cl"); first | omega | (simp only [List.length_append, List.length_replicate, Array.size_replicate, lay_length, List.length_nil] at *; omega))); (case qqz => (walk_at "cl"; omega)); k_whole); intro _ _ _ _ _ _; (try k_sweep)))
  k_with "wpC" => ((k_here; (with_reducible show wpC _ _ (call (Value.type _) [Value.int _ _]) _ _ _); k_dflt (refine' c_new_int ?qqg ?qqF ?qqN ?qqh0 ?qqhz ?_; (case qqg => exact rfl); (case qqF => k_asm); (case qqN => k_asm); (case qqh0 => (walk_at "cl"; omega)); (case qqhz => (walk_at "cl"; omega)); k_whole); intro _ _ _ _ _; (try (walk_at "lt1")); (try k_sweep)))
  k_with "wpC" => ((k_here; (with_reducible show wpC _ _ (call (Value.type _) [Value.bytes _ _]) _ _ _); k_dflt (refine' c_new_bytes ?qqg ?qqF ?qqN ?qqhz ?_; (case qqg => exact rfl); (case qqF => k_asm); (case qqN => k_asm); (case qqhz => (walk_at "cl"; omega)); k_whole); intro _ _ _ _ _; (try (walk_at "lt1")); (try k_sweep)))
  k_with "LeaveM" => ((k_dflt (refine' leaveM_ ?qqk1 ?qqk2 ?_; (case qqk1 => k_asm); (case qqk2 => k_asm); k_whole); intro _ _ _; (try dsimp only [InitBack, CmpBack, LenBack, StrBack, BoolBack]); (try refine ⟨rfl, ?_⟩)))
  k_with "getMethod str" => ((k_here; (with_reducible show wpAny _ _ (getMethod (Value.str _ _) (PySem.Str.ofString "encode") _) _ _ _); k_dflt (refine' str_encode_get ?_; k_whole)))
  k_with "call builtin:str.encode" => ((k_here; k_dflt (refine' str_encode ?qqh ?qqz ?_; (case qqh => k_asm); (case qqz => (walk_at "cl"; omega)); k_whole); intro _ _))
  k_with "getAttr ref" => ((k_here; k_dflt (refine' kbm_boundS ?qqk1 ?qqk2 ?qqk3 ?qqk4 ?qqk5 ?qqk6 ?qqk6b ?qqk7 ?qqk8 ?qqk9 ?qqk10 ?qqk11 ?_; (case qqk4 => k_inst); (case qqk1 => k_asm); (case qqk2 => k_asm); (case qqk7 => k_is); (case qqk3 => k_asm); (case qqk5 => k_is); (case qqk6 => k_is); (case qqk6b => k_is); (case qqk8 => k_is); (case qqk9 => k_is); (case qqk10 => k_is); (case qqk11 => decide +kernel); k_whole); intro _ _ _ _ _; (try (walk_at "lt1")); (try k_sweep)))
  k_with "eval Name" => ((k_here; (with_reducible show wpAny _ _ (eval (Expr.Name (PySem.Str.ofString "bytearray") _) _) _ _ _); with_unfolding_all refine guard_global (by rfl) ?_; k_dflt (refine' name_B ?qqkF ?qqk1 ?qqk2 ?qqk3 ?qqk4 ?qqk5 ?_; (case qqkF => with_reducible assumption); (case qqk1 => with_reducible assumption); (case qqk2 => k_asm); (case qqk3 => k_is); (case qqk4 => boot_by_name); (case qqk5 => decide); k_whole)))
  k_with "getAttr ref" => ((k_here; (with_reducible show wpAny _ _ (getAttr (Value.ref _) _ _) _ _ _); k_dflt (refine' get_slot ?qqk1 ?qqk2 ?qqk3 ?qqk4 ?qqk5 ?qqk6 ?qqk7 ?qqk8 ?qqk9 ?qqk10 ?qqk11 ?_; (case qqk1 => with_reducible assumption); (case qqk2 => with_reducible assumption); (case qqk3 => k_inst); (case qqk4 => k_is); (case qqk5 => k_is); (case qqk6 => k_is); (case qqk7 => k_is); (case qqk8 => k_is); (case qqk9 => k_is); (case qqk10 => k_slotget); (case qqk11 => k_handed); k_whole)))
  k_with "ite" => ((k_here; k_openite; k_dflt (first | (refine ite_pos (by ((walk_at "cl"); (try simp only [decide_eq_true_eq, beq_iff_eq, bne_iff_ne, ne_eq]); omega)) ?_) | (refine ite_neg (by ((walk_at "cl"); (try simp only [decide_eq_true_eq, beq_iff_eq, bne_iff_ne, ne_eq]); omega)) ?_)); walk_say "PRUNED here"))
  k_with "binaryOp Mult bytes int" => ((k_here; k_dflt (refine' zeros_mul ?qqh0 ?qqhn ?_; (case qqh0 => (walk_at "cl"; omega)); (case qqhn => (walk_at "cl"; omega)); k_whole); intro _ _))
  k_with "call builtin:len" => ((k_here; (with_reducible show wpAny _ _ (call (Value.builtin "len") [Value.ref _]) _ _ _); k_dflt (refine' ba_lenN ?qqN ?qqm ?qqz ?_; (case qqN => k_asm); (case qqm => k_mem); (case qqz => (walk_at "cl"; omega)); k_whole)))
  k_with "setItem ref ref" => ((k_here; (with_reducible show wpAny _ _ (setItem (Value.ref _) (Value.ref _) (Value.ref _)) _ _ _); k_dflt (refine' ba_setN (s := ⟨_, _, _, _, _⟩) ?qqF ?qqN ?qqU ?qqm ?qqne ?qqh0 ?qqhs ?qqhz ?_; (case qqF => k_asm); (case qqN => k_asm); (case qqU => k_updF); (case qqm => k_mem); (case qqne => k_ne); (case qqh0 => (walk_at "cl"; omega)); (case qqhs => ((walk_at "cl"); first | omega | (simp only [List.length_append, List.length_replicate, Array.size_replicate, lay_length, List.length_nil] at *; omega))); (case qqhz => ((walk_at "cl"); first | omega | (simp only [List.length_append, List.length_replicate, Array.size_replicate, lay_length, List.length_nil] at *; omega))); k_whole); intro _ _ _ _ _ _; (try k_sweep)))
  k_with "getMethod ref" => ((k_here; (with_reducible show wpAny _ _ (getMethod (Value.ref _) (PySem.Str.ofString "unpack_from") _) _ _ _); k_dflt (refine' so_fromK ?qqX ?qqh ?_; (case qqX => k_in); (case qqh => exact rfl); k_whole)))
  k_with "getMethod ref" => ((k_here; (with_reducible show wpAny _ _ (getMethod (Value.ref _) (PySem.Str.ofString "pack_into") _) _ _ _); k_dflt (refine' so_intoK ?qqX ?qqh ?_; (case qqX => k_in); (case qqh => exact rfl); k_whole)))
  k_with "call builtin:_struct.Struct.unpack_from" => ((k_here; k_dflt (refine' so_fromN ?qqX ?qqF ?qqN ?qqh ?qqf ?qqb ?qqh0 ?qqh1 ?qqhz ?_; (case qqX => k_in); (case qqF => k_asm); (case qqN => k_asm); (case qqh => exact rfl); (case qqf => constructor); (case qqb => first | exact .inl ⟨_, rfl⟩ | exact .inr ⟨_, rfl, by k_mem⟩); (case qqh0 => (walk_at "cl"; omega)); (case qqh1 => (walk_at "cl"; omega)); (case qqhz => (walk_at "cl"; omega)); k_whole); intro _ _ _ _ _ _ _; (try (walk_at "lt1")); (try k_sweep)))
  k_with "call builtin:_struct.Struct.unpack_from" => ((k_here; k_dflt (refine' so_fromB ?qqX ?qqF ?qqN ?qqh ?qqf ?qqb ?qqh0 ?qqh1 ?qqhz ?_; (case qqX => k_in); (case qqF => k_asm); (case qqN => k_asm); (case qqh => exact rfl); (case qqf => constructor); (case qqb => exact BufIn.keep (by assumption) (by k_asm)); (case qqh0 => (walk_at "cl"; omega)); (case qqh1 => (walk_at "cl"; omega)); (case qqhz => (walk_at "cl"; omega)); k_whole); intro _ _ _ _ _ _ _; (try (walk_at "lt1")); (try k_sweep)))
  k_with "call builtin:_struct.Struct.pack_into" => ((k_here; k_dflt (refine' so_intoN ?qqX ?qqF ?qqN ?qqU ?qqh ?qqf ?qqh0 ?qqh1 ?qqhz ?qqlo ?qqhi ?_; (case qqX => k_in); (case qqF => k_asm); (case qqN => k_asm); (case qqU => k_updF); (case qqh => exact rfl); (case qqf => constructor); (case qqh0 => (walk_at "cl"; omega)); (case qqh1 => (walk_at "cl"; omega)); (case qqhz => (walk_at "cl"; omega)); (case qqlo => ((first | rw [if_neg (by decide)] | rw [if_pos (by decide)]); (try simp only [Nat.reduceMul, Nat.reduceSub, Int.reducePow, Int.reduceNeg]); walk_at "cl"; omega)); (case qqhi => ((first | rw [if_neg (by decide)] | rw [if_pos (by decide)]); (try simp only [Nat.reduceMul, Nat.reduceSub, Int.reducePow, Int.reduceNeg]); walk_at "cl"; omega)); k_whole); intro _ _ _; (try k_sweep)))
  k_with "wpC" => ((k_here; (with_reducible show wpC _ _ (call (Value.ref _) _ _) _ _ _); (walk_at "wpCc")))
  k_with "getAttr ref" => ((k_here; (with_reducible show wpAny _ _ (getAttr (Value.ref _) (PySem.Str.ofString "py_type") _) _ _ _); k_dflt (refine' cls_int ?qqF ?qqX ?qqm ?qqr ?qqe0 ?qqe1 ?qqh ?_; (case qqF => k_asm); (case qqX => k_asm); (case qqm => k_is); (case qqr => k_is); (case qqe0 => k_is); (case qqe1 => k_is); (case qqh => decide +kernel); k_whole)))
  k_with "subscriptTail" => ((k_here; (with_reducible show wpAny _ _ (subscriptTail _ _ (Value.ref _) (Value.ref _)) _ _ _); k_dflt (refine' ba_cut (s := ⟨_, _, _, _, _⟩) ?qqF ?qqN ?qqb ?qql ?qqu ?qqz ?_; (case qqF => k_asm); (case qqN => k_asm); (case qqb => exact (News.get (by assumption) (by k_mem))); (case qql => constructor); (case qqu => constructor); (case qqz => (walk_at "cl"; omega)); k_whole); intro _ _ _ _ _; (try (walk_at "lt1")); (try k_sweep)))
  trivial

theorem output_k : ∀ {w : World} {mean : ExcName → Option Value} {mg mb : Str → Option Value} {dp un : Nat} {cn : Str} {cs : Scope} {a : Addr} {ccd : Value} {cl : List (Str × Addr)} {outer : List Env} {A₀ : Around} {base h₀ : Heap} {L : Addr} {m : Str → Option Value} {s : Shared}
    {Q E : Value → Shared → Prop} {rest : List (Addr × Obj)} (B : Below A₀ base outer h₀) (F : Fr h₀ L s.heap m) (X : (Mine.hd.heap_39 w.params).In h₀) (T : Top Mine.hd.view_39 LO mean mg mb h₀) (hk : cs.kind = .function) (hd : dp + 1 < recursionLimit) (hu : un + 8 < cLine) {b : Addr} {dx : Addr} {ba : Addr} {dv : Addr} {arr : Array UInt8} {v1 : Value} {v7 : Value} {v9 : Option Value} {hd1 : Int} {ma : Int} {t1 : Tok} {t2 : Tok} {nest : Bool} {out : List UInt8} (hH : Has arr hd1 out) (hz : arr.size ≤ 2048) (P : Part h₀ L s.heap [(b, BO dx ba v1 true hd1 t1 ma t2 nest v7 v9 dv), (dx, dictOf [] 0), (ba, AO arr)] rest)
    (hret : ∀ (h' : Heap) (tk' : Nat) (x : Addr), Fr h₀ L h' m → News h₀ L h' ([(b, BO dx ba v1 true hd1 t1 ma t2 nest v7 v9 dv), (dx, dictOf [] 0), (ba, AO arr), (x, AO out.toArray)] ++ rest) → AllNes [(b, BO dx ba v1 true hd1 t1 ma t2 nest v7 v9 dv), (dx, dictOf [] 0), (ba, AO arr), (x, AO out.toArray)] rest → Q (.ref x) { s with heap := h', toks := tk' }),
    wpAny (model _root_.PySem.Challenge.rw_bp0005_01.row.prog w) (ktrTop dp un (some []) cn cs L a ccd cl outer) (call (.ref 362) [.ref b] ) Q E s := by
  refine @Mine.hush _ (by
  k_fill
  intro w mean mg mb dp un cn cs a ccd cl outer A₀ base h₀ L m s Q E rest B F X T hk hd hu b dx ba dv arr v1 v7 v9 hd1 ma t1 t2 nest out hH hz P hret
  have N := P.news
  have hdis := P.dis
  obtain ⟨n1, n2, n3⟩ := news3B N
  refine wpAny_call ?_
  k_dflt (refine' defA ?k1 ?k2 ?k3 ?k4 ?kd ?k5 ?kA ?kF ?kK ?k6 ?k7 ?k8 ?k9 ?kB ?_ ?c2 ?c3 ?c4 ?c5; (case kA => exact rfl); (case kF => exact rfl); (case kK => assumption); (case k1 => k_asm); (case k2 => k_asm); (case k3 => k_asm); (case k4 => k_asm); (case kd => k_asm); (case k5 => k_asm); (case k6 => k_is); (case k7 => k_is); (case k8 => ktr_room); (case k9 => exact BindsTo.of_eq rfl); (case c5 => decide); (case kB => exact locs rfl); (case c2 => exact rfl); (case c3 => exact rfl); (case c4 => exact rfl); k_whole; intro g' L' h' FG' F' N' B' X' T' l0 G; (try dsimp only); (try k_fold))
  have hH0 := hH.1
  have hH1 := hH.2.1
  k_steps
  rename_i kF kN kD
  rw [pick_from hH0 hH1, has_pick hH] at kN kD
  dsimp only [wants]
  exact hret _ _ _ kF (news_sub kN (sub4 (by k_mem) (by k_mem) (by k_mem) (by k_mem))) (allNes_of (dis_sub kD (sub4 (by k_mem) (by k_mem) (by k_mem) (by k_mem))))) ?_
  intro q f
  simpa using Mine.hushed f 5 fun n i => i
theorem setup_KM1_2 : True := by
  k_with "call ref" => ((k_here; (with_reducible show wpAny _ _ (call (Value.ref 362) _ _) _ _ _); k_dflt (refine' output_k ?qqB ?qqF ?qqX ?qqT ?qqhk ?qqhd ?qqhu ?qqf0 ?qqf1 (part_of ?qqN (sub3 ?qqm0 ?qqm1 ?qqm2) ?qqS) ?_; (case qqB => k_asm); (case qqF => k_asm); (case qqX => k_asm); (case qqT => k_asm); (case qqhk => first | exact rfl | assumption); (case qqN => k_asm); (case qqm0 => k_mem); (case qqm1 => k_mem); (case qqm2 => k_mem); (case qqhd => (walk_at "room")); (case qqhu => (walk_at "units")); (case qqf0 => (walk_at "ft")); (case qqf1 => (walk_at "ft")); (case qqS => (walk_at "sel"))); (walk_at "cl1"); intro _ _ _ _ _ _; (walk_at "fin93")))
  trivial

theorem binit_k : ∀ {w : World} {mean : ExcName → Option Value} {mg mb : Str → Option Value} {dp un : Nat} {cn : Str} {cs : Scope} {a : Addr} {ccd : Value} {cl : List (Str × Addr)} {outer : List Env} {A₀ : Around} {base h₀ : Heap} {L : Addr} {m : Str → Option Value} {s : Shared}
    {Q E : Value → Shared → Prop} {rest : List (Addr × Obj)} (B : Below A₀ base outer h₀) (F : Fr h₀ L s.heap m) (X : (Mine.hd.heap_39 w.params).In h₀) (T : Top Mine.hd.view_39 LO mean mg mb h₀) (hk : cs.kind = .function) (hd : dp + 3 < recursionLimit) (hu : un + 24 < cLine) {n : Int} {t : Tok} (h0 : 0 ≤ n) (h1 : n ≤ 39) (P : Part h₀ L s.heap [] rest)
    (hret : ∀ (h' : Heap) (tk' : Nat) (b : Addr) (dx : Addr) (ba : Addr) (dv : Addr) (arr : Array UInt8) (t1 : Tok) (t2 : Tok) (ov : Obj), Has arr n [] → arr.size ≤ 39 → NeA dx dv → NeA b dv → NeA dx dv → NeA ba dv → (dv == sysModules) = false → ov.IsDictOf (PySem.strKind _root_.PySem.Challenge.rw_bp0005_01.row.prog w) [] → Fr h₀ L h' m → News h₀ L h' ([(b, BO dx ba .none false n t1 1 t2 false .none none dv), (dx, dictOf [] 0), (ba, AO arr), (dv, ov)] ++ rest) → AllNes [(b, BO dx ba .none false n t1 1 t2 false .none none dv), (dx, dictOf [] 0), (ba, AO arr), (dv, ov)] rest → Q (.ref b) { s with heap := h', toks := tk' }),
    wpC (model _root_.PySem.Challenge.rw_bp0005_01.row.prog w) (ktrTop dp un (some []) cn cs L a ccd cl outer) (call (.ref 734) [.int n t] ) Q E s := by
  refine @Mine.hush _ (by
  k_fill
  intro w mean mg mb dp un cn cs a ccd cl outer A₀ base h₀ L m s Q E rest B F X T hk hd hu n t h0 h1 P hret
  have N := P.news
  have hdis := P.dis
  refine c_call ?_
  refine c_make (K := Mine.hd.heap_39 w.params) F P.news (X.keeps F.keep) (by k_is) (by k_is) (by k_is) ?_
  clear N hdis
  intro b dx h' F N l1 l2
  have hdis : ∀ q ∈ rest, ∀ p ∈ [(b, instObj 734 dx), (dx, emptyDict)], q.1 ≠ p.1 := fun q hq p hp => by
    have h1 : @LT.lt Nat _ q.1 dx := l1 q hq
    have h2 : @LT.lt Nat _ dx b := l2
    rcases List.mem_cons.mp hp with rfl | hp
    · exact Nat.ne_of_lt (Nat.lt_trans h1 h2)
    · rw [List.mem_singleton.mp hp]; exact Nat.ne_of_lt h1
  have N : News h₀ L h' ([(b, instObj 734 dx), (dx, emptyDict)] ++ rest) := N
  have n1 : NeA b dx := Nat.ne_of_gt l2
  k_dflt (refine' defC ?k1 ?k2 ?k3 ?k4 ?kd ?k5 ?kA ?kF ?kK ?k6 ?k7 ?k8 ?k9 ?kB ?_ ?c2 ?c3 ?c4 ?c5; (case kA => exact rfl); (case kF => exact rfl); (case kK => assumption); (case k1 => k_asm); (case k2 => k_asm); (case k3 => k_asm); (case k4 => k_asm); (case kd => k_asm); (case k5 => k_asm); (case k6 => k_is); (case k7 => k_is); (case k8 => ktr_room); (case k9 => exact binds_K (by k_in) rfl (by k_is) rfl rfl rfl); (case c5 => decide); (case kB => exact locs rfl); (case c2 => exact rfl); (case c3 => exact rfl); (case c4 => exact rfl); k_whole; intro g' L' h' FG' F' N' B' X' T' l0 ; (try dsimp only); (try k_fold))
  k_steps
  rename_i x xh _ _ xa xb xc xd xe d xf o lo ho fo hio fio _ _ _ xg xi xj xk xl F2 N2 kF kN kD
  refine ⟨rfl, ?_⟩
  dsimp only [wants]
  exact hret _ _ b dx x d (Array.replicate n.toNat 0) _ _ o (has_zero h0) (by rw [Array.size_replicate]; omega) (Nat.ne_of_lt (by assumption)) (Nat.ne_of_lt (by assumption)) (Nat.ne_of_lt (by assumption)) (Nat.ne_of_lt (by assumption)) lo ho kF (news_sub kN (sub4 (by k_mem) (by k_mem) (by k_mem) (by k_mem))) (allNes_of (dis_sub kD (sub4 (by k_mem) (by k_mem) (by k_mem) (by k_mem))))) ?_
  intro q f
  simpa using Mine.hushed f 5 fun n i => i
-- KM

theorem setup_KM_1 : True := by
  k_with_none
  k_with "wpC" => ((k_here; (with_reducible show wpC _ _ _ _ _ _); (fail_if_success (with_reducible show wpC _ _ (setItem _ _ (Value.bytes _ _)) _ _ _)); (fail_if_success (with_reducible show wpC _ _ (call (Value.ref _) _ _) _ _ _)); (fail_if_success (with_reducible show wpC _ _ (callWith _ (Value.type _) _ _ _) _ _ _)); (fail_if_success (with_reducible show wpC _ _ (call (Value.type _) _ _) _ _ _)); (refine of_any ?_)))
  k_with "wpC" => ((k_here; (with_reducible show wpC _ _ (call (Value.ref _) _ _) _ _ _); (refine' of_anyD ?qqd ?_; (case qqd => (walk_at "dirty")))))
  k_with "wpC" => ((k_here; (with_reducible show wpC _ _ (exec (Stmt.While _ _ _ _) _) _ _ _); (refine c_While ?_)))
  k_with "wpC" => ((k_here; (with_reducible show wpC _ _ (exec (Stmt.If _ _ _ _) _) _ _ _); (refine c_If ?_)))
  k_with "wpC" => ((k_here; (with_reducible show wpC _ _ (exec (Stmt.Assign [Expr.Subscript _ (Expr.Slice _ _ _ _) _] _ _) _) _ _ _); k_dflt (refine c_Assign_Subscript ?_)))
  k_with "wpC" => ((k_here; (with_reducible show wpC _ _ (exec (Stmt.Expr (Expr.Call (Expr.Attribute _ _ _) _ _ _) _) _) _ _ _); k_dflt (refine' c_ExprD ?qqd ?_; (case qqd => (walk_at "dirty")))))
  k_with "wpC" => ((k_here; (with_reducible show wpC _ _ (exec (Stmt.Return (some (Expr.Call (Expr.Attribute _ _ _) _ _ _)) _) _) _ _ _); k_dflt (refine' c_ReturnD ?qqd ?_; (case qqd => (walk_at "dirty")))))
  k_with "wpC" => ((k_here; (with_reducible show wpC _ _ (exec (Stmt.Assign [Expr.Name _ _] (Expr.Call (Expr.Attribute _ _ _) _ _ _) _) _) _ _ _); k_dflt (refine' c_AssignD ?qqd ?_; (case qqd => (walk_at "dirty")))))
  k_with "wpC" => ((k_here; (with_reducible show wpC _ _ (eval (Expr.Call (Expr.Attribute _ _ _) _ _ _) _) _ _ _); k_dflt (refine' c_MethodCallSD ?qqd ?_; (case qqd => (walk_at "dirty")))))
  k_with "wpC" => ((k_here; (with_reducible show wpC _ _ (eval (Expr.Call (Expr.Attribute _ _ _) _ _ _) _) _ _ _); k_dflt (refine' c_MethodCallD ?qqd ?_; (case qqd => (walk_at "dirty")))))
  k_with "wpC" => ((k_here; (with_reducible show wpC _ _ (exec (Stmt.Assign [Expr.Name _ _] (Expr.Call (Expr.Name (PySem.Str.ofString "Builder") _) _ _ _) _) _) _ _ _); k_dflt (refine c_Assign_Name ?_)))
  k_with "wpC" => ((k_here; (with_reducible show wpC _ _ (eval (Expr.Call (Expr.Name (PySem.Str.ofString "Builder") _) _ _ _) _) _ _ _); k_dflt (refine c_Call ?_)))
  k_with "wpC" => ((k_here; (with_reducible show wpC _ _ (exec (Stmt.Assign [Expr.Name _ _] (Expr.Call (Expr.Name (PySem.Str.ofString "_law_made") _) _ _ _) _) _) _ _ _); k_dflt (refine c_Assign_Name ?_)))
  k_with "wpC" => ((k_here; (with_reducible show wpC _ _ (eval (Expr.Call (Expr.Name (PySem.Str.ofString "_law_made") _) _ _ _) _) _ _ _); k_dflt (refine c_Call ?_)))
  k_with "wpC" => ((k_here; (with_reducible show wpC _ _ (exec (Stmt.Assign [Expr.Attribute _ _ _] (Expr.Call (Expr.Name (PySem.Str.ofString "bytearray") _) _ _ _) _) _) _ _ _); k_dflt (refine c_Assign_Attr ?_)))
  k_with "wpC" => ((k_here; (with_reducible show wpC _ _ (exec (Stmt.Assign [Expr.Name _ _] (Expr.Call (Expr.Name (PySem.Str.ofString "bytearray") _) _ _ _) _) _) _ _ _); k_dflt (refine c_Assign_Name ?_)))
  k_with "wpC" => ((k_here; (with_reducible show wpC _ _ (eval (Expr.Call (Expr.Name (PySem.Str.ofString "bytearray") _) _ _ _) _) _ _ _); k_dflt (refine c_Call ?_)))
  k_with "wpC" => ((k_here; (with_reducible show wpC _ _ (execs [] _) _ _ _); (refine c_execs_nil ?_)))
  k_with "wpC" => ((k_here; (with_reducible show wpC _ _ (execs (_ :: _) _) _ _ _); (refine c_execs_cons ?_)))
  k_with "wpC" => ((k_here; (with_reducible show wpC _ _ (callWith _ (Value.ref _) _ _ _) _ _ _); k_dflt (first | refine' c_callWith_K ?qqk1 ?qqk2 ?_; (case qqk1 => k_asm); (case qqk2 => k_is); k_whole | refine' c_callWith_S ?qqk1 ?qqk2 ?_; (case qqk1 => k_asm); (case qqk2 => k_is); k_whole | refine' c_callWith_MS ?qqk1 ?qqk2 ?qqk3 ?qqk4 ?_; (case qqk1 => k_asm); (case qqk2 => k_asm); (case qqk3 => k_mem); (case qqk4 => k_is); k_whole | refine' c_callWith_K0 ?qqk1 ?qqk2 ?_; (case qqk1 => k_in); (case qqk2 => k_is); k_whole | refine' c_callWith_KW ?qqk1 ?qqk2 ?qqk3 ?_; (case qqk1 => k_asm); (case qqk2 => k_is); (case qqk3 => exact rfl); k_whole)))
  k_with "wpC" => ((k_here; (with_reducible show wpC _ _ (callWith _ (Value.type _) _ _ _) _ _ _); k_dflt (refine' c_callWith_T ?_)))
  k_with "wpC" => ((k_here; (with_reducible show wpC _ _ (setItem (Value.ref _) (Value.ref _) (Value.bytes _ _)) _ _ _); k_dflt (refine' c_setN (s := ⟨_, _, _, _, _⟩) ?qqg ?qqF ?qqN ?qqU ?qqh ?qqej ?qqh0 ?qqhs ?qqz ?_; (case qqF => k_asm); (case qqN => k_asm); (case qqU => k_updF); (case qqh => k_asm); (case qqg => exact rfl); (case qqej => (walk_at "cl"; omega)); (case qqh0 => (walk_at "cl"; omega)); (case qqhs => ((walk_at "cl"); first | omega | (simp only [List.length_append, List.length_replicate, Array.size_replicate, lay_length, List.length_nil] at *; omega))); (case qqz => (walk_at "cl"; omega)); k_whole); intro _ _ _ _ _ _; (try k_sweep)))
  k_with "wpC" => ((k_here; (with_reducible show wpC _ _ (call (Value.type _) [Value.int _ _]) _ _ _); k_dflt (refine' c_new_int ?qqg ?qqF ?qqN ?qqh0 ?qqhz ?_; (case qqg => exact rfl); (case qqF => k_asm); (case qqN => k_asm); (case qqh0 => (walk_at "cl"; omega)); (case qqhz => (walk_at "cl"; omega)); k_whole); intro _ _ _ _ _; (try (walk_at "lt1")); (try k_sweep)))
  k_with "wpC" => ((k_here; (with_reducible show wpC _ _ (call (Value.type _) [Value.bytes _ _]) _ _ _); k_dflt (refine' c_new_bytes ?qqg ?qqF ?qqN ?qqhz ?_; (case qqg => exact rfl); (case qqF => k_asm); (case qqN => k_asm); (case qqhz => (walk_at "cl"; omega)); k_whole); intro _ _ _ _ _; (try (walk_at "lt1")); (try k_sweep)))
  k_with "LeaveM" => ((k_dflt (refine' leaveM_ ?qqk1 ?qqk2 ?_; (case qqk1 => k_asm); (case qqk2 => k_asm); k_whole); intro _ _ _; (try dsimp only [InitBack, CmpBack, LenBack, StrBack, BoolBack]); (try refine ⟨rfl, ?_⟩)))
  k_with "getMethod str" => ((k_here; (with_reducible show wpAny _ _ (getMethod (Value.str _ _) (PySem.Str.ofString "encode") _) _ _ _); k_dflt (refine' str_encode_get ?_; k_whole)))
  k_with "call builtin:str.encode" => ((k_here; k_dflt (refine' str_encode ?qqh ?qqz ?_; (case qqh => k_asm); (case qqz => (walk_at "cl"; omega)); k_whole); intro _ _))
  k_with "getAttr ref" => ((k_here; k_dflt (refine' kbm_boundS ?qqk1 ?qqk2 ?qqk3 ?qqk4 ?qqk5 ?qqk6 ?qqk6b ?qqk7 ?qqk8 ?qqk9 ?qqk10 ?qqk11 ?_; (case qqk4 => k_inst); (case qqk1 => k_asm); (case qqk2 => k_asm); (case qqk7 => k_is); (case qqk3 => k_asm); (case qqk5 => k_is); (case qqk6 => k_is); (case qqk6b => k_is); (case qqk8 => k_is); (case qqk9 => k_is); (case qqk10 => k_is); (case qqk11 => decide +kernel); k_whole); intro _ _ _ _ _; (try (walk_at "lt1")); (try k_sweep)))
  k_with "eval Name" => ((k_here; (with_reducible show wpAny _ _ (eval (Expr.Name (PySem.Str.ofString "bytearray") _) _) _ _ _); with_unfolding_all refine guard_global (by rfl) ?_; k_dflt (refine' name_B ?qqkF ?qqk1 ?qqk2 ?qqk3 ?qqk4 ?qqk5 ?_; (case qqkF => with_reducible assumption); (case qqk1 => with_reducible assumption); (case qqk2 => k_asm); (case qqk3 => k_is); (case qqk4 => boot_by_name); (case qqk5 => decide); k_whole)))
  k_with "getAttr ref" => ((k_here; (with_reducible show wpAny _ _ (getAttr (Value.ref _) _ _) _ _ _); k_dflt (refine' get_slot ?qqk1 ?qqk2 ?qqk3 ?qqk4 ?qqk5 ?qqk6 ?qqk7 ?qqk8 ?qqk9 ?qqk10 ?qqk11 ?_; (case qqk1 => with_reducible assumption); (case qqk2 => with_reducible assumption); (case qqk3 => k_inst); (case qqk4 => k_is); (case qqk5 => k_is); (case qqk6 => k_is); (case qqk7 => k_is); (case qqk8 => k_is); (case qqk9 => k_is); (case qqk10 => k_slotget); (case qqk11 => k_handed); k_whole)))
  k_with "ite" => ((k_here; k_openite; k_dflt (first | (refine ite_pos (by ((walk_at "cl"); (try simp only [decide_eq_true_eq, beq_iff_eq, bne_iff_ne, ne_eq]); omega)) ?_) | (refine ite_neg (by ((walk_at "cl"); (try simp only [decide_eq_true_eq, beq_iff_eq, bne_iff_ne, ne_eq]); omega)) ?_)); walk_say "PRUNED here"))
  k_with "binaryOp Mult bytes int" => ((k_here; k_dflt (refine' zeros_mul ?qqh0 ?qqhn ?_; (case qqh0 => (walk_at "cl"; omega)); (case qqhn => (walk_at "cl"; omega)); k_whole); intro _ _))
  k_with "call builtin:len" => ((k_here; (with_reducible show wpAny _ _ (call (Value.builtin "len") [Value.ref _]) _ _ _); k_dflt (refine' ba_lenN ?qqN ?qqm ?qqz ?_; (case qqN => k_asm); (case qqm => k_mem); (case qqz => (walk_at "cl"; omega)); k_whole)))
  k_with "setItem ref ref" => ((k_here; (with_reducible show wpAny _ _ (setItem (Value.ref _) (Value.ref _) (Value.ref _)) _ _ _); k_dflt (refine' ba_setN (s := ⟨_, _, _, _, _⟩) ?qqF ?qqN ?qqU ?qqm ?qqne ?qqh0 ?qqhs ?qqhz ?_; (case qqF => k_asm); (case qqN => k_asm); (case qqU => k_updF); (case qqm => k_mem); (case qqne => k_ne); (case qqh0 => (walk_at "cl"; omega)); (case qqhs => ((walk_at "cl"); first | omega | (simp only [List.length_append, List.length_replicate, Array.size_replicate, lay_length, List.length_nil] at *; omega))); (case qqhz => ((walk_at "cl"); first | omega | (simp only [List.length_append, List.length_replicate, Array.size_replicate, lay_length, List.length_nil] at *; omega))); k_whole); intro _ _ _ _ _ _; (try k_sweep)))
  k_with "getMethod ref" => ((k_here; (with_reducible show wpAny _ _ (getMethod (Value.ref _) (PySem.Str.ofString "unpack_from") _) _ _ _); k_dflt (refine' so_fromK ?qqX ?qqh ?_; (case qqX => k_in); (case qqh => exact rfl); k_whole)))
  k_with "getMethod ref" => ((k_here; (with_reducible show wpAny _ _ (getMethod (Value.ref _) (PySem.Str.ofString "pack_into") _) _ _ _); k_dflt (refine' so_intoK ?qqX ?qqh ?_; (case qqX => k_in); (case qqh => exact rfl); k_whole)))
  k_with "call builtin:_struct.Struct.unpack_from" => ((k_here; k_dflt (refine' so_fromN ?qqX ?qqF ?qqN ?qqh ?qqf ?qqb ?qqh0 ?qqh1 ?qqhz ?_; (case qqX => k_in); (case qqF => k_asm); (case qqN => k_asm); (case qqh => exact rfl); (case qqf => constructor); (case qqb => first | exact .inl ⟨_, rfl⟩ | exact .inr ⟨_, rfl, by k_mem⟩); (case qqh0 => (walk_at "cl"; omega)); (case qqh1 => (walk_at "cl"; omega)); (case qqhz => (walk_at "cl"; omega)); k_whole); intro _ _ _ _ _ _ _; (try (walk_at "lt1")); (try k_sweep)))
  k_with "call builtin:_struct.Struct.unpack_from" => ((k_here; k_dflt (refine' so_fromB ?qqX ?qqF ?qqN ?qqh ?qqf ?qqb ?qqh0 ?qqh1 ?qqhz ?_; (case qqX => k_in); (case qqF => k_asm); (case qqN => k_asm); (case qqh => exact rfl); (case qqf => constructor); (case qqb => exact BufIn.keep (by assumption) (by k_asm)); (case qqh0 => (walk_at "cl"; omega)); (case qqh1 => (walk_at "cl"; omega)); (case qqhz => (walk_at "cl"; omega)); k_whole); intro _ _ _ _ _ _ _; (try (walk_at "lt1")); (try k_sweep)))
  k_with "call builtin:_struct.Struct.pack_into" => ((k_here; k_dflt (refine' so_intoN ?qqX ?qqF ?qqN ?qqU ?qqh ?qqf ?qqh0 ?qqh1 ?qqhz ?qqlo ?qqhi ?_; (case qqX => k_in); (case qqF => k_asm); (case qqN => k_asm); (case qqU => k_updF); (case qqh => exact rfl); (case qqf => constructor); (case qqh0 => (walk_at "cl"; omega)); (case qqh1 => (walk_at "cl"; omega)); (case qqhz => (walk_at "cl"; omega)); (case qqlo => ((first | rw [if_neg (by decide)] | rw [if_pos (by decide)]); (try simp only [Nat.reduceMul, Nat.reduceSub, Int.reducePow, Int.reduceNeg]); walk_at "cl"; omega)); (case qqhi => ((first | rw [if_neg (by decide)] | rw [if_pos (by decide)]); (try simp only [Nat.reduceMul, Nat.reduceSub, Int.reducePow, Int.reduceNeg]); walk_at "cl"; omega)); k_whole); intro _ _ _; (try k_sweep)))
  k_with "wpC" => ((k_here; (with_reducible show wpC _ _ (call (Value.ref _) _ _) _ _ _); (walk_at "wpCc")))
  k_with "wpCc" => ((k_here; (with_reducible show wpC _ _ (call (Value.ref 376) _ _) _ _ _); k_dflt (refine' wvt_k ?qqB ?qqF ?qqX ?qqT ?qqhk ?qqhd ?qqhu ?qqf0 ?qqf1 ?qqf2 ?qqf3 ?qqf4 ?qqf5 ?qqf6 ?qqf7 ?qqf8 ?qqf9 ?qqf10 ?qqf11 ?qqf12 ?qqf13 ?qqf14 ?qqf15 ?qqf16 ?qqf17 ?qqf18 (part_of ?qqN (sub5 ?qqm0 ?qqm1 ?qqm2 ?qqm3 ?qqm4) ?qqS) ?_; (case qqB => k_asm); (case qqF => k_asm); (case qqX => k_asm); (case qqT => k_asm); (case qqhk => first | exact rfl | assumption); (case qqN => k_asm); (case qqm0 => k_mem); (case qqm1 => k_mem); (case qqm2 => k_mem); (case qqm3 => k_mem); (case qqm4 => k_mem); (case qqhd => (walk_at "room")); (case qqhu => (walk_at "units")); (case qqf0 => (walk_at "ft")); (case qqf1 => (walk_at "ft")); (case qqf2 => (walk_at "ft")); (case qqf3 => (walk_at "ft")); (case qqf4 => (walk_at "ft")); (case qqf5 => (walk_at "ft")); (case qqf6 => (walk_at "ft")); (case qqf7 => (walk_at "ft")); (case qqf8 => (walk_at "ft")); (case qqf9 => (walk_at "ft")); (case qqf10 => (walk_at "ft")); (case qqf11 => (walk_at "ft")); (case qqf12 => (walk_at "ft")); (case qqf13 => (walk_at "ft")); (case qqf14 => (walk_at "ft")); (case qqf15 => (walk_at "ft")); (case qqf16 => (walk_at "ft")); (case qqf17 => (walk_at "ft")); (case qqf18 => (walk_at "ft")); (case qqS => (walk_at "sel"))); (walk_at "cl1"); intro _ _ _ _ _ _ _ _ _ _ _ _ _ _ _ _ _ _; (walk_at "fin93")))
  k_with "call ref" => ((k_here; (with_reducible show wpAny _ _ (call (Value.ref 475) _ _) _ _ _); k_dflt (refine' nested_k ?qqB ?qqF ?qqX ?qqT ?qqhk ?qqhd ?qqhu  (part_of ?qqN (sub3 ?qqm0 ?qqm1 ?qqm2) ?qqS) ?_; (case qqB => k_asm); (case qqF => k_asm); (case qqX => k_asm); (case qqT => k_asm); (case qqhk => first | exact rfl | assumption); (case qqN => k_asm); (case qqm0 => k_mem); (case qqm1 => k_mem); (case qqm2 => k_mem); (case qqhd => (walk_at "room")); (case qqhu => (walk_at "units")); (case qqS => (walk_at "sel"))); (walk_at "cl1"); intro _ _  _ _ _; (walk_at "fin93")))
  trivial

theorem endobj_k : ∀ {w : World} {mean : ExcName → Option Value} {mg mb : Str → Option Value} {dp un : Nat} {cn : Str} {cs : Scope} {a : Addr} {ccd : Value} {cl : List (Str × Addr)} {outer : List Env} {A₀ : Around} {base h₀ : Heap} {L : Addr} {m : Str → Option Value} {s : Shared}
    {Q E : Value → Shared → Prop} {rest : List (Addr × Obj)} (B : Below A₀ base outer h₀) (F : Fr h₀ L s.heap m) (X : (Mine.hd.heap_39 w.params).In h₀) (T : Top Mine.hd.view_39 LO mean mg mb h₀) (hk : cs.kind = .function) (hd : dp + 10 < recursionLimit) (hu : un + 80 < cLine) {b : Addr} {dx : Addr} {ba : Addr} {dv : Addr} {arr : Array UInt8} {v9 : Option Value} {hd1 : Int} {ma : Int} {t1 : Tok} {t2 : Tok} {fin : Bool} {out : List UInt8} {cv : Addr} {ov : Obj} {oe : Int} {toe : Tok} {x0 : Int} {x1 : Int} {x2 : Int} {x3 : Int} {u0 : Tok} {u1 : Tok} {u2 : Tok} {u3 : Tok} (hH : Has arr hd1 out) (hz : arr.size ≤ 2048) (hlo : (dv == sysModules) = false) (hov : ov.IsDictOf (PySem.strKind _root_.PySem.Challenge.rw_bp0005_01.row.prog w) []) (ho : out.length ≤ 800) (hoe : 0 ≤ oe) (hoe2 : oe ≤ out.length) (hdv : NeA dx dv) (hma : ma = 4) (hx0 : 0 ≤ x0) (hx1 : 0 ≤ x1) (hx2 : 0 ≤ x2) (hx3 : 0 ≤ x3) (hy0 : x0 ≤ out.length) (hy1 : x1 ≤ out.length) (hy2 : x2 ≤ out.length) (hy3 : x3 ≤ out.length) (hz1 : x1 ≠ 0) (hz3 : x3 ≠ 0) (P : Part h₀ L s.heap [(b, BO dx ba (.ref cv) fin hd1 t1 ma t2 true (.int oe toe) v9 dv), (dx, dictOf [] 0), (ba, AO arr), (cv, CV (.int x0 u0) (.int x1 u1) (.int x2 u2) (.int x3 u3)), (dv, ov)] rest)
    (hret : ∀ (h' : Heap) (tk' : Nat) (ba' : Addr) (arr' : Array UInt8) (hd' : Int) (ma' : Int) (t1' : Tok) (t2' : Tok) (tk2 : Tok), Has arr' hd' (vtab out oe [x0, x1, x2, x3]) → arr'.size ≤ 2048 → arr.size ≤ arr'.size → ma' = 4 → ((pd 4 0 out).length : Int) + 4 ≤ (vtab out oe [x0, x1, x2, x3]).length → ((vtab out oe [x0, x1, x2, x3]).length : Int) ≤ out.length + 20 → Fr h₀ L h' m → News h₀ L h' ([(b, BO dx ba' .none fin hd' t1' ma' t2' false (.int oe toe) v9 dv), (dx, dictOf [] 0), (ba', AO arr')] ++ rest) → AllNes [(b, BO dx ba' .none fin hd' t1' ma' t2' false (.int oe toe) v9 dv), (dx, dictOf [] 0), (ba', AO arr')] rest → Q (.int ((pd 4 0 out).length + 4 : Int) tk2) { s with heap := h', toks := tk' }),
    wpC (model _root_.PySem.Challenge.rw_bp0005_01.row.prog w) (ktrTop dp un (some []) cn cs L a ccd cl outer) (call (.ref 383) [.ref b] ) Q E s := by
  refine @Mine.hush _ (by
  k_fill
  intro w mean mg mb dp un cn cs a ccd cl outer A₀ base h₀ L m s Q E rest B F X T hk hd hu b dx ba dv arr v9 hd1 ma t1 t2 fin out cv ov oe toe x0 x1 x2 x3 u0 u1 u2 u3 hH hz hlo hov ho hoe hoe2 hdv hma hx0 hx1 hx2 hx3 hy0 hy1 hy2 hy3 hz1 hz3 P hret
  have N := P.news
  have hdis := P.dis
  have n10 : NeA dx dv := hdv
  obtain ⟨n1, n2, n3, n4, n5, n6⟩ := news4B (rest := (dv, ov) :: rest) N
  obtain ⟨n7, n8, n9⟩ := newsDv (rest := rest) N (by obtain ⟨_, _, h, _⟩ := hov; exact h.1)
  refine c_call ?_
  k_dflt (refine' defC ?k1 ?k2 ?k3 ?k4 ?kd ?k5 ?kA ?kF ?kK ?k6 ?k7 ?k8 ?k9 ?kB ?_ ?c2 ?c3 ?c4 ?c5; (case kA => exact rfl); (case kF => exact rfl); (case kK => assumption); (case k1 => k_asm); (case k2 => k_asm); (case k3 => k_asm); (case k4 => k_asm); (case kd => k_asm); (case k5 => k_asm); (case k6 => k_is); (case k7 => k_is); (case k8 => ktr_room); (case k9 => exact BindsTo.of_eq rfl); (case c5 => decide); (case kB => exact locs rfl); (case c2 => exact rfl); (case c3 => exact rfl); (case c4 => exact rfl); k_whole; intro g' L' h' FG' F' N' B' X' T' l0 ; (try dsimp only); (try k_fold))
  have hH0 := hH.1
  have hH1 := hH.2.1
  k_steps
  all_goals dsimp only [wants]
  all_goals (rename_i kF kN kD; exact hret _ _ _ _ _ _ _ _ _ (by first | assumption | omega) (by first | assumption | omega) (by first | assumption | omega) (by first | assumption | omega) (by first | assumption | omega) (by first | assumption | omega) kF (news_sub kN (sub3 (by k_mem) (by k_mem) (by k_mem))) (allNes_of (dis_sub kD (sub3 (by k_mem) (by k_mem) (by k_mem)))))) ?_
  intro q f
  simpa using Mine.hushed f 5 fun n i => i
-- KN

theorem setup_KN_1 : True := by
  k_with_none
  k_with "wpC" => ((k_here; (with_reducible show wpC _ _ _ _ _ _); (fail_if_success (with_reducible show wpC _ _ (setItem _ _ (Value.bytes _ _)) _ _ _)); (fail_if_success (with_reducible show wpC _ _ (call (Value.ref _) _ _) _ _ _)); (fail_if_success (with_reducible show wpC _ _ (callWith _ (Value.type _) _ _ _) _ _ _)); (fail_if_success (with_reducible show wpC _ _ (call (Value.type _) _ _) _ _ _)); (refine of_any ?_)))
  k_with "wpC" => ((k_here; (with_reducible show wpC _ _ (call (Value.ref _) _ _) _ _ _); (refine' of_anyD ?qqd ?_; (case qqd => (walk_at "dirty")))))
  k_with "wpC" => ((k_here; (with_reducible show wpC _ _ (exec (Stmt.While _ _ _ _) _) _ _ _); (refine c_While ?_)))
  k_with "wpC" => ((k_here; (with_reducible show wpC _ _ (exec (Stmt.If _ _ _ _) _) _ _ _); (refine c_If ?_)))
  k_with "wpC" => ((k_here; (with_reducible show wpC _ _ (exec (Stmt.Assign [Expr.Subscript _ (Expr.Slice _ _ _ _) _] _ _) _) _ _ _); k_dflt (refine c_Assign_Subscript ?_)))
  k_with "wpC" => ((k_here; (with_reducible show wpC _ _ (exec (Stmt.Expr (Expr.Call (Expr.Attribute _ _ _) _ _ _) _) _) _ _ _); k_dflt (refine' c_ExprD ?qqd ?_; (case qqd => (walk_at "dirty")))))
  k_with "wpC" => ((k_here; (with_reducible show wpC _ _ (exec (Stmt.Return (some (Expr.Call (Expr.Attribute _ _ _) _ _ _)) _) _) _ _ _); k_dflt (refine' c_ReturnD ?qqd ?_; (case qqd => (walk_at "dirty")))))
  k_with "wpC" => ((k_here; (with_reducible show wpC _ _ (exec (Stmt.Assign [Expr.Name _ _] (Expr.Call (Expr.Attribute _ _ _) _ _ _) _) _) _ _ _); k_dflt (refine' c_AssignD ?qqd ?_; (case qqd => (walk_at "dirty")))))
  k_with "wpC" => ((k_here; (with_reducible show wpC _ _ (eval (Expr.Call (Expr.Attribute _ _ _) _ _ _) _) _ _ _); k_dflt (refine' c_MethodCallSD ?qqd ?_; (case qqd => (walk_at "dirty")))))
  k_with "wpC" => ((k_here; (with_reducible show wpC _ _ (eval (Expr.Call (Expr.Attribute _ _ _) _ _ _) _) _ _ _); k_dflt (refine' c_MethodCallD ?qqd ?_; (case qqd => (walk_at "dirty")))))
  k_with "wpC" => ((k_here; (with_reducible show wpC _ _ (exec (Stmt.Assign [Expr.Name _ _] (Expr.Call (Expr.Name (PySem.Str.ofString "Builder") _) _ _ _) _) _) _ _ _); k_dflt (refine c_Assign_Name ?_)))
  k_with "wpC" => ((k_here; (with_reducible show wpC _ _ (eval (Expr.Call (Expr.Name (PySem.Str.ofString "Builder") _) _ _ _) _) _ _ _); k_dflt (refine c_Call ?_)))
  k_with "wpC" => ((k_here; (with_reducible show wpC _ _ (exec (Stmt.Assign [Expr.Name _ _] (Expr.Call (Expr.Name (PySem.Str.ofString "_law_made") _) _ _ _) _) _) _ _ _); k_dflt (refine c_Assign_Name ?_)))
  k_with "wpC" => ((k_here; (with_reducible show wpC _ _ (eval (Expr.Call (Expr.Name (PySem.Str.ofString "_law_made") _) _ _ _) _) _ _ _); k_dflt (refine c_Call ?_)))
  k_with "wpC" => ((k_here; (with_reducible show wpC _ _ (exec (Stmt.Assign [Expr.Attribute _ _ _] (Expr.Call (Expr.Name (PySem.Str.ofString "bytearray") _) _ _ _) _) _) _ _ _); k_dflt (refine c_Assign_Attr ?_)))
  k_with "wpC" => ((k_here; (with_reducible show wpC _ _ (exec (Stmt.Assign [Expr.Name _ _] (Expr.Call (Expr.Name (PySem.Str.ofString "bytearray") _) _ _ _) _) _) _ _ _); k_dflt (refine c_Assign_Name ?_)))
  k_with "wpC" => ((k_here; (with_reducible show wpC _ _ (eval (Expr.Call (Expr.Name (PySem.Str.ofString "bytearray") _) _ _ _) _) _ _ _); k_dflt (refine c_Call ?_)))
  k_with "wpC" => ((k_here; (with_reducible show wpC _ _ (execs [] _) _ _ _); (refine c_execs_nil ?_)))
  k_with "wpC" => ((k_here; (with_reducible show wpC _ _ (execs (_ :: _) _) _ _ _); (refine c_execs_cons ?_)))
  k_with "wpC" => ((k_here; (with_reducible show wpC _ _ (callWith _ (Value.ref _) _ _ _) _ _ _); k_dflt (first | refine' c_callWith_K ?qqk1 ?qqk2 ?_; (case qqk1 => k_asm); (case qqk2 => k_is); k_whole | refine' c_callWith_S ?qqk1 ?qqk2 ?_; (case qqk1 => k_asm); (case qqk2 => k_is); k_whole | refine' c_callWith_MS ?qqk1 ?qqk2 ?qqk3 ?qqk4 ?_; (case qqk1 => k_asm); (case qqk2 => k_asm); (case qqk3 => k_mem); (case qqk4 => k_is); k_whole | refine' c_callWith_K0 ?qqk1 ?qqk2 ?_; (case qqk1 => k_in); (case qqk2 => k_is); k_whole | refine' c_callWith_KW ?qqk1 ?qqk2 ?qqk3 ?_; (case qqk1 => k_asm); (case qqk2 => k_is); (case qqk3 => exact rfl); k_whole)))
  k_with "wpC" => ((k_here; (with_reducible show wpC _ _ (callWith _ (Value.type _) _ _ _) _ _ _); k_dflt (refine' c_callWith_T ?_)))
  k_with "wpC" => ((k_here; (with_reducible show wpC _ _ (setItem (Value.ref _) (Value.ref _) (Value.bytes _ _)) _ _ _); k_dflt (refine' c_setN (s := ⟨_, _, _, _, _⟩) ?qqg ?qqF ?qqN ?qqU ?qqh ?qqej ?qqh0 ?qqhs ?qqz ?_; (case qqF => k_asm); (case qqN => k_asm); (case qqU => k_updF); (case qqh => k_asm); (case qqg => exact rfl); (case qqej => (walk_at "cl"; omega)); (case qqh0 => (walk_at "cl"; omega)); (case qqhs => ((walk_at "cl"); first | omega | (simp only [List.length_append, List.length_replicate, Array.size_replicate, lay_length, List.length_nil] at *; omega))); (case qqz => (walk_at "cl"; omega)); k_whole); intro _ _ _ _ _ _; (try k_sweep)))
  k_with "wpC" => ((k_here; (with_reducible show wpC _ _ (call (Value.type _) [Value.int _ _]) _ _ _); k_dflt (refine' c_new_int ?qqg ?qqF ?qqN ?qqh0 ?qqhz ?_; (case qqg => exact rfl); (case qqF => k_asm); (case qqN => k_asm); (case qqh0 => (walk_at "cl"; omega)); (case qqhz => (walk_at "cl"; omega)); k_whole); intro _ _ _ _ _; (try (walk_at "lt1")); (try k_sweep)))
  k_with "wpC" => ((k_here; (with_reducible show wpC _ _ (call (Value.type _) [Value.bytes _ _]) _ _ _); k_dflt (refine' c_new_bytes ?qqg ?qqF ?qqN ?qqhz ?_; (case qqg => exact rfl); (case qqF => k_asm); (case qqN => k_asm); (case qqhz => (walk_at "cl"; omega)); k_whole); intro _ _ _ _ _; (try (walk_at "lt1")); (try k_sweep)))
  k_with "LeaveM" => ((k_dflt (refine' leaveM_ ?qqk1 ?qqk2 ?_; (case qqk1 => k_asm); (case qqk2 => k_asm); k_whole); intro _ _ _; (try dsimp only [InitBack, CmpBack, LenBack, StrBack, BoolBack]); (try refine ⟨rfl, ?_⟩)))
  k_with "getMethod str" => ((k_here; (with_reducible show wpAny _ _ (getMethod (Value.str _ _) (PySem.Str.ofString "encode") _) _ _ _); k_dflt (refine' str_encode_get ?_; k_whole)))
  k_with "call builtin:str.encode" => ((k_here; k_dflt (refine' str_encode ?qqh ?qqz ?_; (case qqh => k_asm); (case qqz => (walk_at "cl"; omega)); k_whole); intro _ _))
  k_with "getAttr ref" => ((k_here; k_dflt (refine' kbm_boundS ?qqk1 ?qqk2 ?qqk3 ?qqk4 ?qqk5 ?qqk6 ?qqk6b ?qqk7 ?qqk8 ?qqk9 ?qqk10 ?qqk11 ?_; (case qqk4 => k_inst); (case qqk1 => k_asm); (case qqk2 => k_asm); (case qqk7 => k_is); (case qqk3 => k_asm); (case qqk5 => k_is); (case qqk6 => k_is); (case qqk6b => k_is); (case qqk8 => k_is); (case qqk9 => k_is); (case qqk10 => k_is); (case qqk11 => decide +kernel); k_whole); intro _ _ _ _ _; (try (walk_at "lt1")); (try k_sweep)))
  k_with "eval Name" => ((k_here; (with_reducible show wpAny _ _ (eval (Expr.Name (PySem.Str.ofString "bytearray") _) _) _ _ _); with_unfolding_all refine guard_global (by rfl) ?_; k_dflt (refine' name_B ?qqkF ?qqk1 ?qqk2 ?qqk3 ?qqk4 ?qqk5 ?_; (case qqkF => with_reducible assumption); (case qqk1 => with_reducible assumption); (case qqk2 => k_asm); (case qqk3 => k_is); (case qqk4 => boot_by_name); (case qqk5 => decide); k_whole)))
  k_with "getAttr ref" => ((k_here; (with_reducible show wpAny _ _ (getAttr (Value.ref _) _ _) _ _ _); k_dflt (refine' get_slot ?qqk1 ?qqk2 ?qqk3 ?qqk4 ?qqk5 ?qqk6 ?qqk7 ?qqk8 ?qqk9 ?qqk10 ?qqk11 ?_; (case qqk1 => with_reducible assumption); (case qqk2 => with_reducible assumption); (case qqk3 => k_inst); (case qqk4 => k_is); (case qqk5 => k_is); (case qqk6 => k_is); (case qqk7 => k_is); (case qqk8 => k_is); (case qqk9 => k_is); (case qqk10 => k_slotget); (case qqk11 => k_handed); k_whole)))
  k_with "ite" => ((k_here; k_openite; k_dflt (first | (refine ite_pos (by ((walk_at "cl"); (try simp only [decide_eq_true_eq, beq_iff_eq, bne_iff_ne, ne_eq]); omega)) ?_) | (refine ite_neg (by ((walk_at "cl"); (try simp only [decide_eq_true_eq, beq_iff_eq, bne_iff_ne, ne_eq]); omega)) ?_)); walk_say "PRUNED here"))
  k_with "binaryOp Mult bytes int" => ((k_here; k_dflt (refine' zeros_mul ?qqh0 ?qqhn ?_; (case qqh0 => (walk_at "cl"; omega)); (case qqhn => (walk_at "cl"; omega)); k_whole); intro _ _))
  k_with "call builtin:len" => ((k_here; (with_reducible show wpAny _ _ (call (Value.builtin "len") [Value.ref _]) _ _ _); k_dflt (refine' ba_lenN ?qqN ?qqm ?qqz ?_; (case qqN => k_asm); (case qqm => k_mem); (case qqz => (walk_at "cl"; omega)); k_whole)))
  k_with "setItem ref ref" => ((k_here; (with_reducible show wpAny _ _ (setItem (Value.ref _) (Value.ref _) (Value.ref _)) _ _ _); k_dflt (refine' ba_setN (s := ⟨_, _, _, _, _⟩) ?qqF ?qqN ?qqU ?qqm ?qqne ?qqh0 ?qqhs ?qqhz ?_; (case qqF => k_asm); (case qqN => k_asm); (case qqU => k_updF); (case qqm => k_mem); (case qqne => k_ne); (case qqh0 => (walk_at "cl"; omega)); (case qqhs => ((walk_at "cl"); first | omega | (simp only [List.length_append, List.length_replicate, Array.size_replicate, lay_length, List.length_nil] at *; omega))); (case qqhz => ((walk_at "cl"); first | omega | (simp only [List.length_append, List.length_replicate, Array.size_replicate, lay_length, List.length_nil] at *; omega))); k_whole); intro _ _ _ _ _ _; (try k_sweep)))
  k_with "getMethod ref" => ((k_here; (with_reducible show wpAny _ _ (getMethod (Value.ref _) (PySem.Str.ofString "unpack_from") _) _ _ _); k_dflt (refine' so_fromK ?qqX ?qqh ?_; (case qqX => k_in); (case qqh => exact rfl); k_whole)))
  k_with "getMethod ref" => ((k_here; (with_reducible show wpAny _ _ (getMethod (Value.ref _) (PySem.Str.ofString "pack_into") _) _ _ _); k_dflt (refine' so_intoK ?qqX ?qqh ?_; (case qqX => k_in); (case qqh => exact rfl); k_whole)))
  k_with "call builtin:_struct.Struct.unpack_from" => ((k_here; k_dflt (refine' so_fromN ?qqX ?qqF ?qqN ?qqh ?qqf ?qqb ?qqh0 ?qqh1 ?qqhz ?_; (case qqX => k_in); (case qqF => k_asm); (case qqN => k_asm); (case qqh => exact rfl); (case qqf => constructor); (case qqb => first | exact .inl ⟨_, rfl⟩ | exact .inr ⟨_, rfl, by k_mem⟩); (case qqh0 => (walk_at "cl"; omega)); (case qqh1 => (walk_at "cl"; omega)); (case qqhz => (walk_at "cl"; omega)); k_whole); intro _ _ _ _ _ _ _; (try (walk_at "lt1")); (try k_sweep)))
  k_with "call builtin:_struct.Struct.unpack_from" => ((k_here; k_dflt (refine' so_fromB ?qqX ?qqF ?qqN ?qqh ?qqf ?qqb ?qqh0 ?qqh1 ?qqhz ?_; (case qqX => k_in); (case qqF => k_asm); (case qqN => k_asm); (case qqh => exact rfl); (case qqf => constructor); (case qqb => exact BufIn.keep (by assumption) (by k_asm)); (case qqh0 => (walk_at "cl"; omega)); (case qqh1 => (walk_at "cl"; omega)); (case qqhz => (walk_at "cl"; omega)); k_whole); intro _ _ _ _ _ _ _; (try (walk_at "lt1")); (try k_sweep)))
  k_with "call builtin:_struct.Struct.pack_into" => ((k_here; k_dflt (refine' so_intoN ?qqX ?qqF ?qqN ?qqU ?qqh ?qqf ?qqh0 ?qqh1 ?qqhz ?qqlo ?qqhi ?_; (case qqX => k_in); (case qqF => k_asm); (case qqN => k_asm); (case qqU => k_updF); (case qqh => exact rfl); (case qqf => constructor); (case qqh0 => (walk_at "cl"; omega)); (case qqh1 => (walk_at "cl"; omega)); (case qqhz => (walk_at "cl"; omega)); (case qqlo => ((first | rw [if_neg (by decide)] | rw [if_pos (by decide)]); (try simp only [Nat.reduceMul, Nat.reduceSub, Int.reducePow, Int.reduceNeg]); walk_at "cl"; omega)); (case qqhi => ((first | rw [if_neg (by decide)] | rw [if_pos (by decide)]); (try simp only [Nat.reduceMul, Nat.reduceSub, Int.reducePow, Int.reduceNeg]); walk_at "cl"; omega)); k_whole); intro _ _ _; (try k_sweep)))
  k_with "wpC" => ((k_here; (with_reducible show wpC _ _ (call (Value.ref _) _ _) _ _ _); (walk_at "wpCc")))
  k_with "call builtin:_struct.unpack" => ((k_here; k_dflt (refine' unpack4N ?qqF ?qqN ?_; (case qqF => k_asm); (case qqN => k_asm); k_whole); intro _ _ _ _ _ _ _ _ _ _; (try (walk_at "lt1")); (try k_sweep)))
  k_with "wpC" => ((k_here; (with_reducible show wpC _ _ (exec (Stmt.For _ _ _ _ _) _) _ _ _); k_dflt (refine c_For ?_)))
  k_with "codeC forLoop" => ((k_here; (with_unfolding_all refine c_for_turn ?_ (by intro _; rfl))))
  k_with "pyIter ref" => ((k_here; (with_reducible show wpAny _ _ (pyIter (Value.ref _)) _ _ _); k_dflt (refine' ri_iter3 ?qqF ?qqN ?qqr ?qqa ?qqb ?qqc ?_; (case qqF => k_asm); (case qqN => k_asm); (case qqr => assumption); (case qqa => rfl); (case qqb => rfl); (case qqc => rfl); k_whole); intro _ _ _ _ _; (try (walk_at "lt1")); (try k_sweep)))
  k_with "pyNext ref" => ((k_here; k_dflt (refine' ri_nextL ?qqF ?qqN ?qqU ?qql ?qqx ?qqy ?_; (case qqF => k_asm); (case qqN => k_asm); (case qqU => k_updF); (case qql => decide); (case qqx => first | exact (rfl : (3 : Int) + -1 = 2) | exact (rfl : (2 : Int) + -1 = 1) | exact (rfl : (1 : Int) + -1 = 0) | exact (rfl : (0 : Int) + -1 = -1)); (case qqy => first | exact (rfl : (4 : Int) - 1 = 3) | exact (rfl : (3 : Int) - 1 = 2) | exact (rfl : (2 : Int) - 1 = 1) | exact (rfl : (1 : Int) - 1 = 0)); k_whole); intro _ _ _ _ _; (try k_sweep)))
  k_with "pyNext ref" => ((k_here; k_dflt (refine' ri_end ?qqh ?qqF ?qqN ?qqm ?qqS ?qql ?_; (case qqh => exact rfl); (case qqF => k_asm); (case qqN => k_asm); (case qqm => k_mem); (case qql => decide); (case qqS => (walk_at "sel"))); intro _ _ _; (try k_sweep)))
  k_with "call ref" => ((k_here; (with_reducible show wpAny _ _ (call (Value.ref 152) [_, Value.ref 131] _) _ _ _); k_dflt (refine' enf131_k ?qqB ?qqF ?qqX ?qqT ?qqhk ?qqhd ?qqhu ?qqf0 ?qqf1 (part_of ?qqN (sub0 ) ?qqS) ?_; (case qqB => k_asm); (case qqF => k_asm); (case qqX => k_asm); (case qqT => k_asm); (case qqhk => first | exact rfl | assumption); (case qqN => k_asm); (case qqhd => (walk_at "room")); (case qqhu => (walk_at "units")); (case qqf0 => (walk_at "ft")); (case qqf1 => (walk_at "ft")); (case qqS => (walk_at "sel"))); intro _ _  _ _ _; (walk_at "fin9")))
  k_with "call ref" => ((k_here; (with_reducible show wpAny _ _ (call (Value.ref 152) [_, Value.ref 105] _) _ _ _); k_dflt (refine' enf105_k ?qqB ?qqF ?qqX ?qqT ?qqhk ?qqhd ?qqhu ?qqf0 ?qqf1 (part_of ?qqN (sub0 ) ?qqS) ?_; (case qqB => k_asm); (case qqF => k_asm); (case qqX => k_asm); (case qqT => k_asm); (case qqhk => first | exact rfl | assumption); (case qqN => k_asm); (case qqhd => (walk_at "room")); (case qqhu => (walk_at "units")); (case qqf0 => (walk_at "ft")); (case qqf1 => (walk_at "ft")); (case qqS => (walk_at "sel"))); intro _ _  _ _ _; (walk_at "fin9")))
  k_with "wpCc" => ((k_here; (with_reducible show wpC _ _ (call (Value.ref 418) _ _) _ _ _); k_dflt (refine' prep_k ?qqB ?qqF ?qqX ?qqT ?qqhk ?qqhd ?qqhu ?qqf0 ?qqf1 ?qqf2 ?qqf3 ?qqf4 (part_of ?qqN (sub3 ?qqm0 ?qqm1 ?qqm2) ?qqS) ?_; (case qqB => k_asm); (case qqF => k_asm); (case qqX => k_asm); (case qqT => k_asm); (case qqhk => first | exact rfl | assumption); (case qqN => k_asm); (case qqm0 => k_mem); (case qqm1 => k_mem); (case qqm2 => k_mem); (case qqhd => (walk_at "room")); (case qqhu => (walk_at "units")); (case qqf0 => (walk_at "ft")); (case qqf1 => (walk_at "ft")); (case qqf2 => (walk_at "ft")); (case qqf3 => (walk_at "ft")); (case qqf4 => (walk_at "ft")); (case qqS => (walk_at "sel"))); (walk_at "cl1"); intro _ _ _ _ _ _ _ _ _ _ _ _ _ _ _ _ _ _; (walk_at "fin93")))
  k_with "wpCc" => ((k_here; (with_reducible show wpC _ _ (call (Value.ref 432) _ _) _ _ _); k_dflt (refine' prependU_k ?qqB ?qqF ?qqX ?qqT ?qqhk ?qqhd ?qqhu ?qqf0 ?qqf1 ?qqf2 ?qqf3 ?qqf4 (part_of ?qqN (sub3 ?qqm0 ?qqm1 ?qqm2) ?qqS) ?_; (case qqB => k_asm); (case qqF => k_asm); (case qqX => k_asm); (case qqT => k_asm); (case qqhk => first | exact rfl | assumption); (case qqN => k_asm); (case qqm0 => k_mem); (case qqm1 => k_mem); (case qqm2 => k_mem); (case qqhd => (walk_at "room")); (case qqhu => (walk_at "units")); (case qqf0 => (walk_at "ft")); (case qqf1 => (walk_at "ft")); (case qqf2 => (walk_at "ft")); (case qqf3 => (walk_at "ft")); (case qqf4 => (walk_at "ft")); (case qqS => (walk_at "sel"))); (walk_at "cl1"); intro _ _ _ _ _ _ _ _ _ _ _ _ _ _ _; (walk_at "fin93"); (walk_at "has9")))
  k_with "wpCc" => ((k_here; (with_reducible show wpC _ _ (call (Value.ref 681) _ _) _ _ _); k_dflt (refine' pI32_k ?qqB ?qqF ?qqX ?qqT ?qqhk ?qqhd ?qqhu ?qqf0 ?qqf1 ?qqf2 ?qqf3 ?qqf4 (part_of ?qqN (sub3 ?qqm0 ?qqm1 ?qqm2) ?qqS) ?_; (case qqB => k_asm); (case qqF => k_asm); (case qqX => k_asm); (case qqT => k_asm); (case qqhk => first | exact rfl | assumption); (case qqN => k_asm); (case qqm0 => k_mem); (case qqm1 => k_mem); (case qqm2 => k_mem); (case qqhd => (walk_at "room")); (case qqhu => (walk_at "units")); (case qqf0 => (walk_at "ft")); (case qqf1 => (walk_at "ft")); (case qqf2 => (walk_at "ft")); (case qqf3 => (walk_at "ft")); (case qqf4 => (walk_at "ft")); (case qqS => (walk_at "sel"))); (walk_at "cl1"); intro _ _ _ _ _ _ _ _ _ _ _ _ _ _ _; (walk_at "fin93")))
  k_with "call ref" => ((k_here; (with_reducible show wpAny _ _ (call (Value.ref 709) [_, _, Value.ref 63] _) _ _ _); k_dflt (refine' place63_k ?qqB ?qqF ?qqX ?qqT ?qqhk ?qqhd ?qqhu ?qqf0 ?qqf1 ?qqf2 ?qqf3 ?qqf4 (part_of ?qqN (sub3 ?qqm0 ?qqm1 ?qqm2) ?qqS) ?_; (case qqB => k_asm); (case qqF => k_asm); (case qqX => k_asm); (case qqT => k_asm); (case qqhk => first | exact rfl | assumption); (case qqN => k_asm); (case qqm0 => k_mem); (case qqm1 => k_mem); (case qqm2 => k_mem); (case qqhd => (walk_at "room")); (case qqhu => (walk_at "units")); (case qqf0 => (walk_at "ft")); (case qqf1 => (walk_at "ft")); (case qqf2 => (walk_at "ft")); (case qqf3 => (walk_at "ft")); (case qqf4 => (walk_at "ft")); (case qqS => (walk_at "sel"))); (walk_at "cl1"); intro _ _ _ _ _ _ _ _ _; (walk_at "fin93")))
  k_with "call ref" => ((k_here; (with_reducible show wpAny _ _ (call (Value.ref 404) _ _) _ _ _); k_dflt (refine' offset_k ?qqB ?qqF ?qqX ?qqT ?qqhk ?qqhd ?qqhu ?qqf0 ?qqf1 (part_of ?qqN (sub3 ?qqm0 ?qqm1 ?qqm2) ?qqS) ?_; (case qqB => k_asm); (case qqF => k_asm); (case qqX => k_asm); (case qqT => k_asm); (case qqhk => first | exact rfl | assumption); (case qqN => k_asm); (case qqm0 => k_mem); (case qqm1 => k_mem); (case qqm2 => k_mem); (case qqhd => (walk_at "room")); (case qqhu => (walk_at "units")); (case qqf0 => (walk_at "ft")); (case qqf1 => (walk_at "ft")); (case qqS => (walk_at "sel"))); (walk_at "cl1"); intro _ _ _ _ _ _; (walk_at "fin93")))
  trivial

theorem fin00_k : ∀ {w : World} {mean : ExcName → Option Value} {mg mb : Str → Option Value} {dp un : Nat} {cn : Str} {cs : Scope} {a : Addr} {ccd : Value} {cl : List (Str × Addr)} {outer : List Env} {A₀ : Around} {base h₀ : Heap} {L : Addr} {m : Str → Option Value} {s : Shared}
    {Q E : Value → Shared → Prop} {rest : List (Addr × Obj)} (B : Below A₀ base outer h₀) (F : Fr h₀ L s.heap m) (X : (Mine.hd.heap_39 w.params).In h₀) (T : Top Mine.hd.view_39 LO mean mg mb h₀) (hk : cs.kind = .function) (hd : dp + 8 < recursionLimit) (hu : un + 64 < cLine) {b : Addr} {dx : Addr} {ba : Addr} {dv : Addr} {arr : Array UInt8} {v1 : Value} {v7 : Value} {v9 : Option Value} {hd1 : Int} {ma : Int} {t1 : Tok} {t2 : Tok} {fin : Bool} {nest : Bool} {out : List UInt8} {root : Int} {tr : Tok} (hH : Has arr hd1 out) (hz : arr.size ≤ 2048) (h0 : 0 ≤ root) (h1 : root ≤ out.length) (ho : out.length ≤ 840) (hma : ma = 4) (P : Part h₀ L s.heap [(b, BO dx ba v1 fin hd1 t1 ma t2 nest v7 v9 dv), (dx, dictOf [] 0), (ba, AO arr)] rest)
    (hret : ∀ (h' : Heap) (tk' : Nat) (ba' : Addr) (arr' : Array UInt8) (hd' : Int) (ma' : Int) (t1' : Tok) (t2' : Tok) (tk2 : Tok), Has arr' hd' (finO none false root out) → arr'.size ≤ 2048 → Fr h₀ L h' m → News h₀ L h' ([(b, BO dx ba' v1 true hd' t1' ma' t2' nest v7 v9 dv), (dx, dictOf [] 0), (ba', AO arr')] ++ rest) → AllNes [(b, BO dx ba' v1 true hd' t1' ma' t2' nest v7 v9 dv), (dx, dictOf [] 0), (ba', AO arr')] rest → Q (.int hd' tk2) { s with heap := h', toks := tk' }),
    wpC (model _root_.PySem.Challenge.rw_bp0005_01.row.prog w) (ktrTop dp un (some []) cn cs L a ccd cl outer) (call (.ref 504) [.ref b, .int root tr, .bool false] [(PySem.Str.ofString "file_identifier", .none)]) Q E s := by
  refine @Mine.hush _ (by
  k_fill
  intro w mean mg mb dp un cn cs a ccd cl outer A₀ base h₀ L m s Q E rest B F X T hk hd hu b dx ba dv arr v1 v7 v9 hd1 ma t1 t2 fin nest out root tr hH hz h0 h1 ho hma P hret
  have N := P.news
  have hdis := P.dis
  obtain ⟨n1, n2, n3⟩ := news3B N
  refine c_call ?_
  k_dflt (refine' defC ?k1 ?k2 ?k3 ?k4 ?kd ?k5 ?kA ?kF ?kK ?k6 ?k7 ?k8 ?k9 ?kB ?_ ?c2 ?c3 ?c4 ?c5; (case kA => exact rfl); (case kF => exact rfl); (case kK => assumption); (case k1 => k_asm); (case k2 => k_asm); (case k3 => k_asm); (case k4 => k_asm); (case kd => k_asm); (case k5 => k_asm); (case k6 => k_is); (case k7 => k_is); (case k8 => ktr_room); (case k9 => exact binds_K (by k_in) rfl (by k_is) rfl rfl rfl); (case c5 => decide); (case kB => exact locs rfl); (case c2 => exact rfl); (case c3 => exact rfl); (case c4 => exact rfl); k_whole; intro g' L' h' FG' F' N' B' X' T' l0 ; (try dsimp only); (try k_fold))
  have hH0 := hH.1
  have hH1 := hH.2.1
  subst hma
  have hp0 := pd_len (sz := 4) (add := 4) (out := out) (by decide)
  have hp2 := pd_len (sz := 4) (add := 0) (out := pd 4 (4) out) (by decide)
  k_steps
  dsimp only [wants]
  rename_i kF kN kD
  rename Has _ _ (lay 4 _ ++ pd 4 0 _) => HH
  exact hret _ _ _ _ _ _ _ _ _ HH (by assumption) kF (news_sub kN (sub3 (by k_mem) (by k_mem) (by k_mem))) (allNes_of (dis_sub kD (sub3 (by k_mem) (by k_mem) (by k_mem))))) ?_
  intro q f
  simpa using Mine.hushed f 5 fun n i => i
theorem setup_KN_2 : True := by
  k_with "wpCc" => ((k_here; (with_reducible show wpC _ _ (call (Value.ref 504) [_, _, Value.bool false] _) _ _ _); k_dflt (refine' fin00_k ?qqB ?qqF ?qqX ?qqT ?qqhk ?qqhd ?qqhu ?qqf0 ?qqf1 ?qqf2 ?qqf3 ?qqf4 ?qqf5 (part_of ?qqN (sub3 ?qqm0 ?qqm1 ?qqm2) ?qqS) ?_; (case qqB => k_asm); (case qqF => k_asm); (case qqX => k_asm); (case qqT => k_asm); (case qqhk => first | exact rfl | assumption); (case qqN => k_asm); (case qqm0 => k_mem); (case qqm1 => k_mem); (case qqm2 => k_mem); (case qqhd => (walk_at "room")); (case qqhu => (walk_at "units")); (case qqf0 => (walk_at "ft")); (case qqf1 => (walk_at "ft")); (case qqf2 => (walk_at "ft")); (case qqf3 => (walk_at "ft")); (case qqf4 => (walk_at "ft")); (case qqf5 => (walk_at "ft")); (case qqS => (walk_at "sel"))); (walk_at "cl1"); intro _ _ _ _ _ _ _ _ _ _ _ _ _ _; (walk_at "fin93")))
  trivial

theorem fin01_k : ∀ {w : World} {mean : ExcName → Option Value} {mg mb : Str → Option Value} {dp un : Nat} {cn : Str} {cs : Scope} {a : Addr} {ccd : Value} {cl : List (Str × Addr)} {outer : List Env} {A₀ : Around} {base h₀ : Heap} {L : Addr} {m : Str → Option Value} {s : Shared}
    {Q E : Value → Shared → Prop} {rest : List (Addr × Obj)} (B : Below A₀ base outer h₀) (F : Fr h₀ L s.heap m) (X : (Mine.hd.heap_39 w.params).In h₀) (T : Top Mine.hd.view_39 LO mean mg mb h₀) (hk : cs.kind = .function) (hd : dp + 8 < recursionLimit) (hu : un + 64 < cLine) {b : Addr} {dx : Addr} {ba : Addr} {dv : Addr} {arr : Array UInt8} {v1 : Value} {v7 : Value} {v9 : Option Value} {hd1 : Int} {ma : Int} {t1 : Tok} {t2 : Tok} {fin : Bool} {nest : Bool} {out : List UInt8} {root : Int} {tr : Tok} (hH : Has arr hd1 out) (hz : arr.size ≤ 2048) (h0 : 0 ≤ root) (h1 : root ≤ out.length) (ho : out.length ≤ 840) (hma : ma = 4) (P : Part h₀ L s.heap [(b, BO dx ba v1 fin hd1 t1 ma t2 nest v7 v9 dv), (dx, dictOf [] 0), (ba, AO arr)] rest)
    (hret : ∀ (h' : Heap) (tk' : Nat) (ba' : Addr) (arr' : Array UInt8) (hd' : Int) (ma' : Int) (t1' : Tok) (t2' : Tok) (tk2 : Tok), Has arr' hd' (finO none true root out) → arr'.size ≤ 2048 → Fr h₀ L h' m → News h₀ L h' ([(b, BO dx ba' v1 true hd' t1' ma' t2' nest v7 v9 dv), (dx, dictOf [] 0), (ba', AO arr')] ++ rest) → AllNes [(b, BO dx ba' v1 true hd' t1' ma' t2' nest v7 v9 dv), (dx, dictOf [] 0), (ba', AO arr')] rest → Q (.int hd' tk2) { s with heap := h', toks := tk' }),
    wpC (model _root_.PySem.Challenge.rw_bp0005_01.row.prog w) (ktrTop dp un (some []) cn cs L a ccd cl outer) (call (.ref 504) [.ref b, .int root tr, .bool true] [(PySem.Str.ofString "file_identifier", .none)]) Q E s := by
  refine @Mine.hush _ (by
  k_fill
  intro w mean mg mb dp un cn cs a ccd cl outer A₀ base h₀ L m s Q E rest B F X T hk hd hu b dx ba dv arr v1 v7 v9 hd1 ma t1 t2 fin nest out root tr hH hz h0 h1 ho hma P hret
  have N := P.news
  have hdis := P.dis
  obtain ⟨n1, n2, n3⟩ := news3B N
  refine c_call ?_
  k_dflt (refine' defC ?k1 ?k2 ?k3 ?k4 ?kd ?k5 ?kA ?kF ?kK ?k6 ?k7 ?k8 ?k9 ?kB ?_ ?c2 ?c3 ?c4 ?c5; (case kA => exact rfl); (case kF => exact rfl); (case kK => assumption); (case k1 => k_asm); (case k2 => k_asm); (case k3 => k_asm); (case k4 => k_asm); (case kd => k_asm); (case k5 => k_asm); (case k6 => k_is); (case k7 => k_is); (case k8 => ktr_room); (case k9 => exact binds_K (by k_in) rfl (by k_is) rfl rfl rfl); (case c5 => decide); (case kB => exact locs rfl); (case c2 => exact rfl); (case c3 => exact rfl); (case c4 => exact rfl); k_whole; intro g' L' h' FG' F' N' B' X' T' l0 ; (try dsimp only); (try k_fold))
  have hH0 := hH.1
  have hH1 := hH.2.1
  subst hma
  have hp0 := pd_len (sz := 4) (add := 4 + 4) (out := out) (by decide)
  have hp2 := pd_len (sz := 4) (add := 0) (out := pd 4 (4 + 4) out) (by decide)
  k_steps
  dsimp only [wants]
  rename_i kF kN kD
  rename Has _ _ (lay 4 _ ++ pd 4 0 _) => HH
  rename (_ : Int) = _ - _ => HQ
  rw [← HQ] at HH
  exact hret _ _ _ _ _ _ _ _ _ HH (by assumption) kF (news_sub kN (sub3 (by k_mem) (by k_mem) (by k_mem))) (allNes_of (dis_sub kD (sub3 (by k_mem) (by k_mem) (by k_mem))))) ?_
  intro q f
  simpa using Mine.hushed f 5 fun n i => i
theorem setup_KN_3 : True := by
  k_with "wpCc" => ((k_here; (with_reducible show wpC _ _ (call (Value.ref 504) [_, _, Value.bool true] _) _ _ _); k_dflt (refine' fin01_k ?qqB ?qqF ?qqX ?qqT ?qqhk ?qqhd ?qqhu ?qqf0 ?qqf1 ?qqf2 ?qqf3 ?qqf4 ?qqf5 (part_of ?qqN (sub3 ?qqm0 ?qqm1 ?qqm2) ?qqS) ?_; (case qqB => k_asm); (case qqF => k_asm); (case qqX => k_asm); (case qqT => k_asm); (case qqhk => first | exact rfl | assumption); (case qqN => k_asm); (case qqm0 => k_mem); (case qqm1 => k_mem); (case qqm2 => k_mem); (case qqhd => (walk_at "room")); (case qqhu => (walk_at "units")); (case qqf0 => (walk_at "ft")); (case qqf1 => (walk_at "ft")); (case qqf2 => (walk_at "ft")); (case qqf3 => (walk_at "ft")); (case qqf4 => (walk_at "ft")); (case qqf5 => (walk_at "ft")); (case qqS => (walk_at "sel"))); (walk_at "cl1"); intro _ _ _ _ _ _ _ _ _ _ _ _ _ _; (walk_at "fin93")))
  trivial

theorem fin10_k : ∀ {w : World} {mean : ExcName → Option Value} {mg mb : Str → Option Value} {dp un : Nat} {cn : Str} {cs : Scope} {a : Addr} {ccd : Value} {cl : List (Str × Addr)} {outer : List Env} {A₀ : Around} {base h₀ : Heap} {L : Addr} {m : Str → Option Value} {s : Shared}
    {Q E : Value → Shared → Prop} {rest : List (Addr × Obj)} (B : Below A₀ base outer h₀) (F : Fr h₀ L s.heap m) (X : (Mine.hd.heap_39 w.params).In h₀) (T : Top Mine.hd.view_39 LO mean mg mb h₀) (hk : cs.kind = .function) (hd : dp + 8 < recursionLimit) (hu : un + 64 < cLine) {b : Addr} {dx : Addr} {ba : Addr} {dv : Addr} {arr : Array UInt8} {v1 : Value} {v7 : Value} {v9 : Option Value} {hd1 : Int} {ma : Int} {t1 : Tok} {t2 : Tok} {fin : Bool} {nest : Bool} {out : List UInt8} {root : Int} {tr : Tok} {p : UInt8} {q : UInt8} {r : UInt8} {s4 : UInt8} (hH : Has arr hd1 out) (hz : arr.size ≤ 2048) (h0 : 0 ≤ root) (h1 : root ≤ out.length) (ho : out.length ≤ 840) (hma : ma = 4) (P : Part h₀ L s.heap [(b, BO dx ba v1 fin hd1 t1 ma t2 nest v7 v9 dv), (dx, dictOf [] 0), (ba, AO arr)] rest)
    (hret : ∀ (h' : Heap) (tk' : Nat) (ba' : Addr) (arr' : Array UInt8) (hd' : Int) (ma' : Int) (t1' : Tok) (t2' : Tok) (tk2 : Tok), Has arr' hd' (finO (some [p, q, r, s4]) false root out) → arr'.size ≤ 2048 → Fr h₀ L h' m → News h₀ L h' ([(b, BO dx ba' v1 true hd' t1' ma' t2' nest v7 v9 dv), (dx, dictOf [] 0), (ba', AO arr')] ++ rest) → AllNes [(b, BO dx ba' v1 true hd' t1' ma' t2' nest v7 v9 dv), (dx, dictOf [] 0), (ba', AO arr')] rest → Q (.int hd' tk2) { s with heap := h', toks := tk' }),
    wpC (model _root_.PySem.Challenge.rw_bp0005_01.row.prog w) (ktrTop dp un (some []) cn cs L a ccd cl outer) (call (.ref 504) [.ref b, .int root tr, .bool false] [(PySem.Str.ofString "file_identifier", (.bytes #[p, q, r, s4] tv))]) Q E s := by
  refine @Mine.hush _ (by
  k_fill
  intro w mean mg mb dp un cn cs a ccd cl outer A₀ base h₀ L m s Q E rest B F X T hk hd hu b dx ba dv arr v1 v7 v9 hd1 ma t1 t2 fin nest out root tr p q r s4 hH hz h0 h1 ho hma P hret
  have N := P.news
  have hdis := P.dis
  obtain ⟨n1, n2, n3⟩ := news3B N
  refine c_call ?_
  k_dflt (refine' defC ?k1 ?k2 ?k3 ?k4 ?kd ?k5 ?kA ?kF ?kK ?k6 ?k7 ?k8 ?k9 ?kB ?_ ?c2 ?c3 ?c4 ?c5; (case kA => exact rfl); (case kF => exact rfl); (case kK => assumption); (case k1 => k_asm); (case k2 => k_asm); (case k3 => k_asm); (case k4 => k_asm); (case kd => k_asm); (case k5 => k_asm); (case k6 => k_is); (case k7 => k_is); (case k8 => ktr_room); (case k9 => exact binds_K (by k_in) rfl (by k_is) rfl rfl rfl); (case c5 => decide); (case kB => exact locs rfl); (case c2 => exact rfl); (case c3 => exact rfl); (case c4 => exact rfl); k_whole; intro g' L' h' FG' F' N' B' X' T' l0 ; (try dsimp only); (try k_fold))
  have hH0 := hH.1
  have hH1 := hH.2.1
  subst hma
  have hp0 := pd_len (sz := 4) (add := 4 + 4) (out := out) (by decide)
  have hp2 := pd_len (sz := 4) (add := 0) (out := lay 1 p.toNat ++ (lay 1 q.toNat ++ (lay 1 r.toNat ++ (lay 1 s4.toNat ++ pd 4 4 (pd 4 (4 + 4) out))))) (by decide)
  have hbp : (p.toNat : Int) ≤ 255 := by have := p.toNat_lt; omega
  have hbq : (q.toNat : Int) ≤ 255 := by have := q.toNat_lt; omega
  have hbr : (r.toNat : Int) ≤ 255 := by have := r.toNat_lt; omega
  have hbs4 : (s4.toNat : Int) ≤ 255 := by have := s4.toNat_lt; omega
  have hp1 := pd_len (sz := 4) (add := 4) (out := pd 4 (4 + 4) out) (by decide)
  simp only [List.length_append, lay_length] at hp2
  k_steps
  dsimp only [wants]
  rename_i kF kN kD
  rename Has _ _ (lay 4 _ ++ pd 4 0 _) => HH
  simp only [lay1] at HH
  exact hret _ _ _ _ _ _ _ _ _ HH (by assumption) kF (news_sub kN (sub3 (by k_mem) (by k_mem) (by k_mem))) (allNes_of (dis_sub kD (sub3 (by k_mem) (by k_mem) (by k_mem))))) ?_
  intro q f
  simpa using Mine.hushed f 5 fun n i => i
theorem setup_KN_4 : True := by
  k_with "wpCc" => ((k_here; (with_reducible show wpC _ _ (call (Value.ref 504) [_, _, Value.bool false] _) _ _ _); k_dflt (refine' fin10_k ?qqB ?qqF ?qqX ?qqT ?qqhk ?qqhd ?qqhu ?qqf0 ?qqf1 ?qqf2 ?qqf3 ?qqf4 ?qqf5 (part_of ?qqN (sub3 ?qqm0 ?qqm1 ?qqm2) ?qqS) ?_; (case qqB => k_asm); (case qqF => k_asm); (case qqX => k_asm); (case qqT => k_asm); (case qqhk => first | exact rfl | assumption); (case qqN => k_asm); (case qqm0 => k_mem); (case qqm1 => k_mem); (case qqm2 => k_mem); (case qqhd => (walk_at "room")); (case qqhu => (walk_at "units")); (case qqf0 => (walk_at "ft")); (case qqf1 => (walk_at "ft")); (case qqf2 => (walk_at "ft")); (case qqf3 => (walk_at "ft")); (case qqf4 => (walk_at "ft")); (case qqf5 => (walk_at "ft")); (case qqS => (walk_at "sel"))); (walk_at "cl1"); intro _ _ _ _ _ _ _ _ _ _ _ _ _ _; (walk_at "fin93")))
  trivial

theorem fin11_k : ∀ {w : World} {mean : ExcName → Option Value} {mg mb : Str → Option Value} {dp un : Nat} {cn : Str} {cs : Scope} {a : Addr} {ccd : Value} {cl : List (Str × Addr)} {outer : List Env} {A₀ : Around} {base h₀ : Heap} {L : Addr} {m : Str → Option Value} {s : Shared}
    {Q E : Value → Shared → Prop} {rest : List (Addr × Obj)} (B : Below A₀ base outer h₀) (F : Fr h₀ L s.heap m) (X : (Mine.hd.heap_39 w.params).In h₀) (T : Top Mine.hd.view_39 LO mean mg mb h₀) (hk : cs.kind = .function) (hd : dp + 8 < recursionLimit) (hu : un + 64 < cLine) {b : Addr} {dx : Addr} {ba : Addr} {dv : Addr} {arr : Array UInt8} {v1 : Value} {v7 : Value} {v9 : Option Value} {hd1 : Int} {ma : Int} {t1 : Tok} {t2 : Tok} {fin : Bool} {nest : Bool} {out : List UInt8} {root : Int} {tr : Tok} {p : UInt8} {q : UInt8} {r : UInt8} {s4 : UInt8} (hH : Has arr hd1 out) (hz : arr.size ≤ 2048) (h0 : 0 ≤ root) (h1 : root ≤ out.length) (ho : out.length ≤ 840) (hma : ma = 4) (P : Part h₀ L s.heap [(b, BO dx ba v1 fin hd1 t1 ma t2 nest v7 v9 dv), (dx, dictOf [] 0), (ba, AO arr)] rest)
    (hret : ∀ (h' : Heap) (tk' : Nat) (ba' : Addr) (arr' : Array UInt8) (hd' : Int) (ma' : Int) (t1' : Tok) (t2' : Tok) (tk2 : Tok), Has arr' hd' (finO (some [p, q, r, s4]) true root out) → arr'.size ≤ 2048 → Fr h₀ L h' m → News h₀ L h' ([(b, BO dx ba' v1 true hd' t1' ma' t2' nest v7 v9 dv), (dx, dictOf [] 0), (ba', AO arr')] ++ rest) → AllNes [(b, BO dx ba' v1 true hd' t1' ma' t2' nest v7 v9 dv), (dx, dictOf [] 0), (ba', AO arr')] rest → Q (.int hd' tk2) { s with heap := h', toks := tk' }),
    wpC (model _root_.PySem.Challenge.rw_bp0005_01.row.prog w) (ktrTop dp un (some []) cn cs L a ccd cl outer) (call (.ref 504) [.ref b, .int root tr, .bool true] [(PySem.Str.ofString "file_identifier", (.bytes #[p, q, r, s4] tv))]) Q E s := by
  refine @Mine.hush _ (by
  k_fill
  intro w mean mg mb dp un cn cs a ccd cl outer A₀ base h₀ L m s Q E rest B F X T hk hd hu b dx ba dv arr v1 v7 v9 hd1 ma t1 t2 fin nest out root tr p q r s4 hH hz h0 h1 ho hma P hret
  have N := P.news
  have hdis := P.dis
  obtain ⟨n1, n2, n3⟩ := news3B N
  refine c_call ?_
  k_dflt (refine' defC ?k1 ?k2 ?k3 ?k4 ?kd ?k5 ?kA ?kF ?kK ?k6 ?k7 ?k8 ?k9 ?kB ?_ ?c2 ?c3 ?c4 ?c5; (case kA => exact rfl); (case kF => exact rfl); (case kK => assumption); (case k1 => k_asm); (case k2 => k_asm); (case k3 => k_asm); (case k4 => k_asm); (case kd => k_asm); (case k5 => k_asm); (case k6 => k_is); (case k7 => k_is); (case k8 => ktr_room); (case k9 => exact binds_K (by k_in) rfl (by k_is) rfl rfl rfl); (case c5 => decide); (case kB => exact locs rfl); (case c2 => exact rfl); (case c3 => exact rfl); (case c4 => exact rfl); k_whole; intro g' L' h' FG' F' N' B' X' T' l0 ; (try dsimp only); (try k_fold))
  have hH0 := hH.1
  have hH1 := hH.2.1
  subst hma
  have hp0 := pd_len (sz := 4) (add := 4 + 4 + 4) (out := out) (by decide)
  have hp2 := pd_len (sz := 4) (add := 0) (out := lay 1 p.toNat ++ (lay 1 q.toNat ++ (lay 1 r.toNat ++ (lay 1 s4.toNat ++ pd 4 4 (pd 4 (4 + 4 + 4) out))))) (by decide)
  have hbp : (p.toNat : Int) ≤ 255 := by have := p.toNat_lt; omega
  have hbq : (q.toNat : Int) ≤ 255 := by have := q.toNat_lt; omega
  have hbr : (r.toNat : Int) ≤ 255 := by have := r.toNat_lt; omega
  have hbs4 : (s4.toNat : Int) ≤ 255 := by have := s4.toNat_lt; omega
  have hp1 := pd_len (sz := 4) (add := 4) (out := pd 4 (4 + 4 + 4) out) (by decide)
  simp only [List.length_append, lay_length] at hp2
  k_steps
  dsimp only [wants]
  rename_i kF kN kD
  rename Has _ _ (lay 4 _ ++ pd 4 0 _) => HH
  rename (_ : Int) = _ - _ => HQ
  rw [← HQ] at HH
  simp only [lay1] at HH
  exact hret _ _ _ _ _ _ _ _ _ HH (by assumption) kF (news_sub kN (sub3 (by k_mem) (by k_mem) (by k_mem))) (allNes_of (dis_sub kD (sub3 (by k_mem) (by k_mem) (by k_mem))))) ?_
  intro q f
  simpa using Mine.hushed f 5 fun n i => i
-- KO

theorem setup_KO_1 : True := by
  k_with_none
  k_with "wpC" => ((k_here; (with_reducible show wpC _ _ _ _ _ _); (fail_if_success (with_reducible show wpC _ _ (setItem _ _ (Value.bytes _ _)) _ _ _)); (fail_if_success (with_reducible show wpC _ _ (call (Value.ref _) _ _) _ _ _)); (fail_if_success (with_reducible show wpC _ _ (callWith _ (Value.type _) _ _ _) _ _ _)); (fail_if_success (with_reducible show wpC _ _ (call (Value.type _) _ _) _ _ _)); (refine of_any ?_)))
  k_with "wpC" => ((k_here; (with_reducible show wpC _ _ (call (Value.ref _) _ _) _ _ _); (refine' of_anyD ?qqd ?_; (case qqd => (walk_at "dirty")))))
  k_with "wpC" => ((k_here; (with_reducible show wpC _ _ (exec (Stmt.While _ _ _ _) _) _ _ _); (refine c_While ?_)))
  k_with "wpC" => ((k_here; (with_reducible show wpC _ _ (exec (Stmt.If _ _ _ _) _) _ _ _); (refine c_If ?_)))
  k_with "wpC" => ((k_here; (with_reducible show wpC _ _ (exec (Stmt.Assign [Expr.Subscript _ (Expr.Slice _ _ _ _) _] _ _) _) _ _ _); k_dflt (refine c_Assign_Subscript ?_)))
  k_with "wpC" => ((k_here; (with_reducible show wpC _ _ (exec (Stmt.Expr (Expr.Call (Expr.Attribute _ _ _) _ _ _) _) _) _ _ _); k_dflt (refine' c_ExprD ?qqd ?_; (case qqd => (walk_at "dirty")))))
  k_with "wpC" => ((k_here; (with_reducible show wpC _ _ (exec (Stmt.Return (some (Expr.Call (Expr.Attribute _ _ _) _ _ _)) _) _) _ _ _); k_dflt (refine' c_ReturnD ?qqd ?_; (case qqd => (walk_at "dirty")))))
  k_with "wpC" => ((k_here; (with_reducible show wpC _ _ (exec (Stmt.Assign [Expr.Name _ _] (Expr.Call (Expr.Attribute _ _ _) _ _ _) _) _) _ _ _); k_dflt (refine' c_AssignD ?qqd ?_; (case qqd => (walk_at "dirty")))))
  k_with "wpC" => ((k_here; (with_reducible show wpC _ _ (eval (Expr.Call (Expr.Attribute _ _ _) _ _ _) _) _ _ _); k_dflt (refine' c_MethodCallSD ?qqd ?_; (case qqd => (walk_at "dirty")))))
  k_with "wpC" => ((k_here; (with_reducible show wpC _ _ (eval (Expr.Call (Expr.Attribute _ _ _) _ _ _) _) _ _ _); k_dflt (refine' c_MethodCallD ?qqd ?_; (case qqd => (walk_at "dirty")))))
  k_with "wpC" => ((k_here; (with_reducible show wpC _ _ (exec (Stmt.Assign [Expr.Name _ _] (Expr.Call (Expr.Name (PySem.Str.ofString "Builder") _) _ _ _) _) _) _ _ _); k_dflt (refine c_Assign_Name ?_)))
  k_with "wpC" => ((k_here; (with_reducible show wpC _ _ (eval (Expr.Call (Expr.Name (PySem.Str.ofString "Builder") _) _ _ _) _) _ _ _); k_dflt (refine c_Call ?_)))
  k_with "wpC" => ((k_here; (with_reducible show wpC _ _ (exec (Stmt.Assign [Expr.Name _ _] (Expr.Call (Expr.Name (PySem.Str.ofString "_law_made") _) _ _ _) _) _) _ _ _); k_dflt (refine c_Assign_Name ?_)))
  k_with "wpC" => ((k_here; (with_reducible show wpC _ _ (eval (Expr.Call (Expr.Name (PySem.Str.ofString "_law_made") _) _ _ _) _) _ _ _); k_dflt (refine c_Call ?_)))
  k_with "wpC" => ((k_here; (with_reducible show wpC _ _ (exec (Stmt.Assign [Expr.Attribute _ _ _] (Expr.Call (Expr.Name (PySem.Str.ofString "bytearray") _) _ _ _) _) _) _ _ _); k_dflt (refine c_Assign_Attr ?_)))
  k_with "wpC" => ((k_here; (with_reducible show wpC _ _ (exec (Stmt.Assign [Expr.Name _ _] (Expr.Call (Expr.Name (PySem.Str.ofString "bytearray") _) _ _ _) _) _) _ _ _); k_dflt (refine c_Assign_Name ?_)))
  k_with "wpC" => ((k_here; (with_reducible show wpC _ _ (eval (Expr.Call (Expr.Name (PySem.Str.ofString "bytearray") _) _ _ _) _) _ _ _); k_dflt (refine c_Call ?_)))
  k_with "wpC" => ((k_here; (with_reducible show wpC _ _ (execs [] _) _ _ _); (refine c_execs_nil ?_)))
  k_with "wpC" => ((k_here; (with_reducible show wpC _ _ (execs (_ :: _) _) _ _ _); (refine c_execs_cons ?_)))
  k_with "wpC" => ((k_here; (with_reducible show wpC _ _ (callWith _ (Value.ref _) _ _ _) _ _ _); k_dflt (first | refine' c_callWith_K ?qqk1 ?qqk2 ?_; (case qqk1 => k_asm); (case qqk2 => k_is); k_whole | refine' c_callWith_S ?qqk1 ?qqk2 ?_; (case qqk1 => k_asm); (case qqk2 => k_is); k_whole | refine' c_callWith_MS ?qqk1 ?qqk2 ?qqk3 ?qqk4 ?_; (case qqk1 => k_asm); (case qqk2 => k_asm); (case qqk3 => k_mem); (case qqk4 => k_is); k_whole | refine' c_callWith_K0 ?qqk1 ?qqk2 ?_; (case qqk1 => k_in); (case qqk2 => k_is); k_whole | refine' c_callWith_KW ?qqk1 ?qqk2 ?qqk3 ?_; (case qqk1 => k_asm); (case qqk2 => k_is); (case qqk3 => exact rfl); k_whole)))
  k_with "wpC" => ((k_here; (with_reducible show wpC _ _ (callWith _ (Value.type _) _ _ _) _ _ _); k_dflt (refine' c_callWith_T ?_)))
  k_with "wpC" => ((k_here; (with_reducible show wpC _ _ (setItem (Value.ref _) (Value.ref _) (Value.bytes _ _)) _ _ _); k_dflt (refine' c_setN (s := ⟨_, _, _, _, _⟩) ?qqg ?qqF ?qqN ?qqU ?qqh ?qqej ?qqh0 ?qqhs ?qqz ?_; (case qqF => k_asm); (case qqN => k_asm); (case qqU => k_updF); (case qqh => k_asm); (case qqg => exact rfl); (case qqej => (walk_at "cl"; omega)); (case qqh0 => (walk_at "cl"; omega)); (case qqhs => ((walk_at "cl"); first | omega | (simp only [List.length_append, List.length_replicate, Array.size_replicate, lay_length, List.length_nil] at *; omega))); (case qqz => (walk_at "cl"; omega)); k_whole); intro _ _ _ _ _ _; (try k_sweep)))
  k_with "wpC" => ((k_here; (with_reducible show wpC _ _ (call (Value.type _) [Value.int _ _]) _ _ _); k_dflt (refine' c_new_int ?qqg ?qqF ?qqN ?qqh0 ?qqhz ?_; (case qqg => exact rfl); (case qqF => k_asm); (case qqN => k_asm); (case qqh0 => (walk_at "cl"; omega)); (case qqhz => (walk_at "cl"; omega)); k_whole); intro _ _ _ _ _; (try (walk_at "lt1")); (try k_sweep)))
  k_with "wpC" => ((k_here; (with_reducible show wpC _ _ (call (Value.type _) [Value.bytes _ _]) _ _ _); k_dflt (refine' c_new_bytes ?qqg ?qqF ?qqN ?qqhz ?_; (case qqg => exact rfl); (case qqF => k_asm); (case qqN => k_asm); (case qqhz => (walk_at "cl"; omega)); k_whole); intro _ _ _ _ _; (try (walk_at "lt1")); (try k_sweep)))
  k_with "LeaveM" => ((k_dflt (refine' leaveM_ ?qqk1 ?qqk2 ?_; (case qqk1 => k_asm); (case qqk2 => k_asm); k_whole); intro _ _ _; (try dsimp only [InitBack, CmpBack, LenBack, StrBack, BoolBack]); (try refine ⟨rfl, ?_⟩)))
  k_with "getMethod str" => ((k_here; (with_reducible show wpAny _ _ (getMethod (Value.str _ _) (PySem.Str.ofString "encode") _) _ _ _); k_dflt (refine' str_encode_get ?_; k_whole)))
  k_with "call builtin:str.encode" => ((k_here; k_dflt (refine' str_encode ?qqh ?qqz ?_; (case qqh => k_asm); (case qqz => (walk_at "cl"; omega)); k_whole); intro _ _))
  k_with "getAttr ref" => ((k_here; k_dflt (refine' kbm_boundS ?qqk1 ?qqk2 ?qqk3 ?qqk4 ?qqk5 ?qqk6 ?qqk6b ?qqk7 ?qqk8 ?qqk9 ?qqk10 ?qqk11 ?_; (case qqk4 => k_inst); (case qqk1 => k_asm); (case qqk2 => k_asm); (case qqk7 => k_is); (case qqk3 => k_asm); (case qqk5 => k_is); (case qqk6 => k_is); (case qqk6b => k_is); (case qqk8 => k_is); (case qqk9 => k_is); (case qqk10 => k_is); (case qqk11 => decide +kernel); k_whole); intro _ _ _ _ _; (try (walk_at "lt1")); (try k_sweep)))
  k_with "eval Name" => ((k_here; (with_reducible show wpAny _ _ (eval (Expr.Name (PySem.Str.ofString "bytearray") _) _) _ _ _); with_unfolding_all refine guard_global (by rfl) ?_; k_dflt (refine' name_B ?qqkF ?qqk1 ?qqk2 ?qqk3 ?qqk4 ?qqk5 ?_; (case qqkF => with_reducible assumption); (case qqk1 => with_reducible assumption); (case qqk2 => k_asm); (case qqk3 => k_is); (case qqk4 => boot_by_name); (case qqk5 => decide); k_whole)))
  k_with "getAttr ref" => ((k_here; (with_reducible show wpAny _ _ (getAttr (Value.ref _) _ _) _ _ _); k_dflt (refine' get_slot ?qqk1 ?qqk2 ?qqk3 ?qqk4 ?qqk5 ?qqk6 ?qqk7 ?qqk8 ?qqk9 ?qqk10 ?qqk11 ?_; (case qqk1 => with_reducible assumption); (case qqk2 => with_reducible assumption); (case qqk3 => k_inst); (case qqk4 => k_is); (case qqk5 => k_is); (case qqk6 => k_is); (case qqk7 => k_is); (case qqk8 => k_is); (case qqk9 => k_is); (case qqk10 => k_slotget); (case qqk11 => k_handed); k_whole)))
  k_with "ite" => ((k_here; k_openite; k_dflt (first | (refine ite_pos (by ((walk_at "cl"); (try simp only [decide_eq_true_eq, beq_iff_eq, bne_iff_ne, ne_eq]); omega)) ?_) | (refine ite_neg (by ((walk_at "cl"); (try simp only [decide_eq_true_eq, beq_iff_eq, bne_iff_ne, ne_eq]); omega)) ?_)); walk_say "PRUNED here"))
  k_with "binaryOp Mult bytes int" => ((k_here; k_dflt (refine' zeros_mul ?qqh0 ?qqhn ?_; (case qqh0 => (walk_at "cl"; omega)); (case qqhn => (walk_at "cl"; omega)); k_whole); intro _ _))
  k_with "call builtin:len" => ((k_here; (with_reducible show wpAny _ _ (call (Value.builtin "len") [Value.ref _]) _ _ _); k_dflt (refine' ba_lenN ?qqN ?qqm ?qqz ?_; (case qqN => k_asm); (case qqm => k_mem); (case qqz => (walk_at "cl"; omega)); k_whole)))
  k_with "setItem ref ref" => ((k_here; (with_reducible show wpAny _ _ (setItem (Value.ref _) (Value.ref _) (Value.ref _)) _ _ _); k_dflt (refine' ba_setN (s := ⟨_, _, _, _, _⟩) ?qqF ?qqN ?qqU ?qqm ?qqne ?qqh0 ?qqhs ?qqhz ?_; (case qqF => k_asm); (case qqN => k_asm); (case qqU => k_updF); (case qqm => k_mem); (case qqne => k_ne); (case qqh0 => (walk_at "cl"; omega)); (case qqhs => ((walk_at "cl"); first | omega | (simp only [List.length_append, List.length_replicate, Array.size_replicate, lay_length, List.length_nil] at *; omega))); (case qqhz => ((walk_at "cl"); first | omega | (simp only [List.length_append, List.length_replicate, Array.size_replicate, lay_length, List.length_nil] at *; omega))); k_whole); intro _ _ _ _ _ _; (try k_sweep)))
  k_with "getMethod ref" => ((k_here; (with_reducible show wpAny _ _ (getMethod (Value.ref _) (PySem.Str.ofString "unpack_from") _) _ _ _); k_dflt (refine' so_fromK ?qqX ?qqh ?_; (case qqX => k_in); (case qqh => exact rfl); k_whole)))
  k_with "getMethod ref" => ((k_here; (with_reducible show wpAny _ _ (getMethod (Value.ref _) (PySem.Str.ofString "pack_into") _) _ _ _); k_dflt (refine' so_intoK ?qqX ?qqh ?_; (case qqX => k_in); (case qqh => exact rfl); k_whole)))
  k_with "call builtin:_struct.Struct.unpack_from" => ((k_here; k_dflt (refine' so_fromN ?qqX ?qqF ?qqN ?qqh ?qqf ?qqb ?qqh0 ?qqh1 ?qqhz ?_; (case qqX => k_in); (case qqF => k_asm); (case qqN => k_asm); (case qqh => exact rfl); (case qqf => constructor); (case qqb => first | exact .inl ⟨_, rfl⟩ | exact .inr ⟨_, rfl, by k_mem⟩); (case qqh0 => (walk_at "cl"; omega)); (case qqh1 => (walk_at "cl"; omega)); (case qqhz => (walk_at "cl"; omega)); k_whole); intro _ _ _ _ _ _ _; (try (walk_at "lt1")); (try k_sweep)))
  k_with "call builtin:_struct.Struct.unpack_from" => ((k_here; k_dflt (refine' so_fromB ?qqX ?qqF ?qqN ?qqh ?qqf ?qqb ?qqh0 ?qqh1 ?qqhz ?_; (case qqX => k_in); (case qqF => k_asm); (case qqN => k_asm); (case qqh => exact rfl); (case qqf => constructor); (case qqb => exact BufIn.keep (by assumption) (by k_asm)); (case qqh0 => (walk_at "cl"; omega)); (case qqh1 => (walk_at "cl"; omega)); (case qqhz => (walk_at "cl"; omega)); k_whole); intro _ _ _ _ _ _ _; (try (walk_at "lt1")); (try k_sweep)))
  k_with "call builtin:_struct.Struct.pack_into" => ((k_here; k_dflt (refine' so_intoN ?qqX ?qqF ?qqN ?qqU ?qqh ?qqf ?qqh0 ?qqh1 ?qqhz ?qqlo ?qqhi ?_; (case qqX => k_in); (case qqF => k_asm); (case qqN => k_asm); (case qqU => k_updF); (case qqh => exact rfl); (case qqf => constructor); (case qqh0 => (walk_at "cl"; omega)); (case qqh1 => (walk_at "cl"; omega)); (case qqhz => (walk_at "cl"; omega)); (case qqlo => ((first | rw [if_neg (by decide)] | rw [if_pos (by decide)]); (try simp only [Nat.reduceMul, Nat.reduceSub, Int.reducePow, Int.reduceNeg]); walk_at "cl"; omega)); (case qqhi => ((first | rw [if_neg (by decide)] | rw [if_pos (by decide)]); (try simp only [Nat.reduceMul, Nat.reduceSub, Int.reducePow, Int.reduceNeg]); walk_at "cl"; omega)); k_whole); intro _ _ _; (try k_sweep)))
  k_with "wpC" => ((k_here; (with_reducible show wpC _ _ (call (Value.ref _) _ _) _ _ _); (walk_at "wpCc")))
  k_with "wpCc" => ((k_here; (with_reducible show wpC _ _ (call (Value.ref 504) [_, _, Value.bool false] _) _ _ _); k_dflt (refine' fin00_k ?qqB ?qqF ?qqX ?qqT ?qqhk ?qqhd ?qqhu ?qqf0 ?qqf1 ?qqf2 ?qqf3 ?qqf4 ?qqf5 (part_of ?qqN (sub3 ?qqm0 ?qqm1 ?qqm2) ?qqS) ?_; (case qqB => k_asm); (case qqF => k_asm); (case qqX => k_asm); (case qqT => k_asm); (case qqhk => first | exact rfl | assumption); (case qqN => k_asm); (case qqm0 => k_mem); (case qqm1 => k_mem); (case qqm2 => k_mem); (case qqhd => (walk_at "room")); (case qqhu => (walk_at "units")); (case qqf0 => (walk_at "ft")); (case qqf1 => (walk_at "ft")); (case qqf2 => (walk_at "ft")); (case qqf3 => (walk_at "ft")); (case qqf4 => (walk_at "ft")); (case qqf5 => (walk_at "ft")); (case qqS => (walk_at "sel"))); (walk_at "cl1"); intro _ _ _ _ _ _ _ _ _ _ _ _ _ _; (walk_at "fin93")))
  k_with "wpCc" => ((k_here; (with_reducible show wpC _ _ (call (Value.ref 504) [_, _, Value.bool true] _) _ _ _); k_dflt (refine' fin01_k ?qqB ?qqF ?qqX ?qqT ?qqhk ?qqhd ?qqhu ?qqf0 ?qqf1 ?qqf2 ?qqf3 ?qqf4 ?qqf5 (part_of ?qqN (sub3 ?qqm0 ?qqm1 ?qqm2) ?qqS) ?_; (case qqB => k_asm); (case qqF => k_asm); (case qqX => k_asm); (case qqT => k_asm); (case qqhk => first | exact rfl | assumption); (case qqN => k_asm); (case qqm0 => k_mem); (case qqm1 => k_mem); (case qqm2 => k_mem); (case qqhd => (walk_at "room")); (case qqhu => (walk_at "units")); (case qqf0 => (walk_at "ft")); (case qqf1 => (walk_at "ft")); (case qqf2 => (walk_at "ft")); (case qqf3 => (walk_at "ft")); (case qqf4 => (walk_at "ft")); (case qqf5 => (walk_at "ft")); (case qqS => (walk_at "sel"))); (walk_at "cl1"); intro _ _ _ _ _ _ _ _ _ _ _ _ _ _; (walk_at "fin93")))
  k_with "wpCc" => ((k_here; (with_reducible show wpC _ _ (call (Value.ref 504) [_, _, Value.bool false] _) _ _ _); k_dflt (refine' fin10_k ?qqB ?qqF ?qqX ?qqT ?qqhk ?qqhd ?qqhu ?qqf0 ?qqf1 ?qqf2 ?qqf3 ?qqf4 ?qqf5 (part_of ?qqN (sub3 ?qqm0 ?qqm1 ?qqm2) ?qqS) ?_; (case qqB => k_asm); (case qqF => k_asm); (case qqX => k_asm); (case qqT => k_asm); (case qqhk => first | exact rfl | assumption); (case qqN => k_asm); (case qqm0 => k_mem); (case qqm1 => k_mem); (case qqm2 => k_mem); (case qqhd => (walk_at "room")); (case qqhu => (walk_at "units")); (case qqf0 => (walk_at "ft")); (case qqf1 => (walk_at "ft")); (case qqf2 => (walk_at "ft")); (case qqf3 => (walk_at "ft")); (case qqf4 => (walk_at "ft")); (case qqf5 => (walk_at "ft")); (case qqS => (walk_at "sel"))); (walk_at "cl1"); intro _ _ _ _ _ _ _ _ _ _ _ _ _ _; (walk_at "fin93")))
  k_with "wpCc" => ((k_here; (with_reducible show wpC _ _ (call (Value.ref 504) [_, _, Value.bool true] _) _ _ _); k_dflt (refine' fin11_k ?qqB ?qqF ?qqX ?qqT ?qqhk ?qqhd ?qqhu ?qqf0 ?qqf1 ?qqf2 ?qqf3 ?qqf4 ?qqf5 (part_of ?qqN (sub3 ?qqm0 ?qqm1 ?qqm2) ?qqS) ?_; (case qqB => k_asm); (case qqF => k_asm); (case qqX => k_asm); (case qqT => k_asm); (case qqhk => first | exact rfl | assumption); (case qqN => k_asm); (case qqm0 => k_mem); (case qqm1 => k_mem); (case qqm2 => k_mem); (case qqhd => (walk_at "room")); (case qqhu => (walk_at "units")); (case qqf0 => (walk_at "ft")); (case qqf1 => (walk_at "ft")); (case qqf2 => (walk_at "ft")); (case qqf3 => (walk_at "ft")); (case qqf4 => (walk_at "ft")); (case qqf5 => (walk_at "ft")); (case qqS => (walk_at "sel"))); (walk_at "cl1"); intro _ _ _ _ _ _ _ _ _ _ _ _ _ _; (walk_at "fin93")))
  trivial

theorem finish_k : ∀ {w : World} {mean : ExcName → Option Value} {mg mb : Str → Option Value} {dp un : Nat} {cn : Str} {cs : Scope} {a : Addr} {ccd : Value} {cl : List (Str × Addr)} {outer : List Env} {A₀ : Around} {base h₀ : Heap} {L : Addr} {m : Str → Option Value} {s : Shared}
    {Q E : Value → Shared → Prop} {rest : List (Addr × Obj)} (B : Below A₀ base outer h₀) (F : Fr h₀ L s.heap m) (X : (Mine.hd.heap_39 w.params).In h₀) (T : Top Mine.hd.view_39 LO mean mg mb h₀) (hk : cs.kind = .function) (hd : dp + 9 < recursionLimit) (hu : un + 72 < cLine) {b : Addr} {dx : Addr} {ba : Addr} {dv : Addr} {arr : Array UInt8} {v1 : Value} {v7 : Value} {v9 : Option Value} {hd1 : Int} {ma : Int} {t1 : Tok} {t2 : Tok} {fin : Bool} {nest : Bool} {out : List UInt8} {root : Int} {tr : Tok} {mk : Option (List UInt8)} {mv : Value} (hH : Has arr hd1 out) (hz : arr.size ≤ 2048) (h0 : 0 ≤ root) (h1 : root ≤ out.length) (ho : out.length ≤ 840) (hma : ma = 4) (hmk : MarkIs mk mv) (P : Part h₀ L s.heap [(b, BO dx ba v1 fin hd1 t1 ma t2 nest v7 v9 dv), (dx, dictOf [] 0), (ba, AO arr)] rest)
    (hret : ∀ (h' : Heap) (tk' : Nat) (ba' : Addr) (arr' : Array UInt8) (hd' : Int) (ma' : Int) (t1' : Tok) (t2' : Tok) (tk2 : Tok), Has arr' hd' (finO mk false root out) → arr'.size ≤ 2048 → Fr h₀ L h' m → News h₀ L h' ([(b, BO dx ba' v1 true hd' t1' ma' t2' nest v7 v9 dv), (dx, dictOf [] 0), (ba', AO arr')] ++ rest) → AllNes [(b, BO dx ba' v1 true hd' t1' ma' t2' nest v7 v9 dv), (dx, dictOf [] 0), (ba', AO arr')] rest → Q (.int hd' tk2) { s with heap := h', toks := tk' }),
    wpC (model _root_.PySem.Challenge.rw_bp0005_01.row.prog w) (ktrTop dp un (some []) cn cs L a ccd cl outer) (call (.ref 512) [.ref b, .int root tr, mv] ) Q E s := by
  refine @Mine.hush _ (by
  k_fill
  intro w mean mg mb dp un cn cs a ccd cl outer A₀ base h₀ L m s Q E rest B F X T hk hd hu b dx ba dv arr v1 v7 v9 hd1 ma t1 t2 fin nest out root tr mk mv hH hz h0 h1 ho hma hmk P hret
  have N := P.news
  have hdis := P.dis
  obtain ⟨n1, n2, n3⟩ := news3B N
  refine c_call ?_
  k_dflt (refine' defC ?k1 ?k2 ?k3 ?k4 ?kd ?k5 ?kA ?kF ?kK ?k6 ?k7 ?k8 ?k9 ?kB ?_ ?c2 ?c3 ?c4 ?c5; (case kA => exact rfl); (case kF => exact rfl); (case kK => assumption); (case k1 => k_asm); (case k2 => k_asm); (case k3 => k_asm); (case k4 => k_asm); (case kd => k_asm); (case k5 => k_asm); (case k6 => k_is); (case k7 => k_is); (case k8 => ktr_room); (case k9 => exact binds_K (by k_in) rfl (by k_is) rfl rfl rfl); (case c5 => decide); (case kB => exact locs rfl); (case c2 => exact rfl); (case c3 => exact rfl); (case c4 => exact rfl); k_whole; intro g' L' h' FG' F' N' B' X' T' l0 ; (try dsimp only); (try k_fold))
  rcases hmk with ⟨rfl, rfl⟩ | ⟨p, q, r, s4, t4, rfl, rfl⟩
  · k_steps
    dsimp only [wants]
    rename_i kF kN kD
    exact hret _ _ _ _ _ _ _ _ _ (by assumption) (by assumption) kF (news_sub kN (sub3 (by k_mem) (by k_mem) (by k_mem))) (allNes_of (dis_sub kD (sub3 (by k_mem) (by k_mem) (by k_mem))))
  · k_steps
    dsimp only [wants]
    rename_i kF kN kD
    exact hret _ _ _ _ _ _ _ _ _ (by assumption) (by assumption) kF (news_sub kN (sub3 (by k_mem) (by k_mem) (by k_mem))) (allNes_of (dis_sub kD (sub3 (by k_mem) (by k_mem) (by k_mem))))) ?_
  intro q f
  simpa using Mine.hushed f 5 fun n i => i
theorem setup_KO_2 : True := by
  k_with "wpCc" => ((k_here; (with_reducible show wpC _ _ (call (Value.ref 512) _ _) _ _ _); k_dflt (refine' finish_k ?qqB ?qqF ?qqX ?qqT ?qqhk ?qqhd ?qqhu ?qqf0 ?qqf1 ?qqf2 ?qqf3 ?qqf4 ?qqf5 ?qqf6 (part_of ?qqN (sub3 ?qqm0 ?qqm1 ?qqm2) ?qqS) ?_; (case qqB => k_asm); (case qqF => k_asm); (case qqX => k_asm); (case qqT => k_asm); (case qqhk => first | exact rfl | assumption); (case qqN => k_asm); (case qqm0 => k_mem); (case qqm1 => k_mem); (case qqm2 => k_mem); (case qqhd => (walk_at "room")); (case qqhu => (walk_at "units")); (case qqf0 => (walk_at "ft")); (case qqf1 => (walk_at "ft")); (case qqf2 => (walk_at "ft")); (case qqf3 => (walk_at "ft")); (case qqf4 => (walk_at "ft")); (case qqf5 => (walk_at "ft")); (case qqf6 => (walk_at "ft")); (case qqS => (walk_at "sel"))); (walk_at "cl1"); intro _ _ _ _ _ _ _ _ _ _ _ _ _ _; (walk_at "fin93")))
  trivial

theorem finishsz_k : ∀ {w : World} {mean : ExcName → Option Value} {mg mb : Str → Option Value} {dp un : Nat} {cn : Str} {cs : Scope} {a : Addr} {ccd : Value} {cl : List (Str × Addr)} {outer : List Env} {A₀ : Around} {base h₀ : Heap} {L : Addr} {m : Str → Option Value} {s : Shared}
    {Q E : Value → Shared → Prop} {rest : List (Addr × Obj)} (B : Below A₀ base outer h₀) (F : Fr h₀ L s.heap m) (X : (Mine.hd.heap_39 w.params).In h₀) (T : Top Mine.hd.view_39 LO mean mg mb h₀) (hk : cs.kind = .function) (hd : dp + 9 < recursionLimit) (hu : un + 72 < cLine) {b : Addr} {dx : Addr} {ba : Addr} {dv : Addr} {arr : Array UInt8} {v1 : Value} {v7 : Value} {v9 : Option Value} {hd1 : Int} {ma : Int} {t1 : Tok} {t2 : Tok} {fin : Bool} {nest : Bool} {out : List UInt8} {root : Int} {tr : Tok} {mk : Option (List UInt8)} {mv : Value} (hH : Has arr hd1 out) (hz : arr.size ≤ 2048) (h0 : 0 ≤ root) (h1 : root ≤ out.length) (ho : out.length ≤ 840) (hma : ma = 4) (hmk : MarkIs mk mv) (P : Part h₀ L s.heap [(b, BO dx ba v1 fin hd1 t1 ma t2 nest v7 v9 dv), (dx, dictOf [] 0), (ba, AO arr)] rest)
    (hret : ∀ (h' : Heap) (tk' : Nat) (ba' : Addr) (arr' : Array UInt8) (hd' : Int) (ma' : Int) (t1' : Tok) (t2' : Tok) (tk2 : Tok), Has arr' hd' (finO mk true root out) → arr'.size ≤ 2048 → Fr h₀ L h' m → News h₀ L h' ([(b, BO dx ba' v1 true hd' t1' ma' t2' nest v7 v9 dv), (dx, dictOf [] 0), (ba', AO arr')] ++ rest) → AllNes [(b, BO dx ba' v1 true hd' t1' ma' t2' nest v7 v9 dv), (dx, dictOf [] 0), (ba', AO arr')] rest → Q (.int hd' tk2) { s with heap := h', toks := tk' }),
    wpC (model _root_.PySem.Challenge.rw_bp0005_01.row.prog w) (ktrTop dp un (some []) cn cs L a ccd cl outer) (call (.ref 520) [.ref b, .int root tr, mv] ) Q E s := by
  refine @Mine.hush _ (by
  k_fill
  intro w mean mg mb dp un cn cs a ccd cl outer A₀ base h₀ L m s Q E rest B F X T hk hd hu b dx ba dv arr v1 v7 v9 hd1 ma t1 t2 fin nest out root tr mk mv hH hz h0 h1 ho hma hmk P hret
  have N := P.news
  have hdis := P.dis
  obtain ⟨n1, n2, n3⟩ := news3B N
  refine c_call ?_
  k_dflt (refine' defC ?k1 ?k2 ?k3 ?k4 ?kd ?k5 ?kA ?kF ?kK ?k6 ?k7 ?k8 ?k9 ?kB ?_ ?c2 ?c3 ?c4 ?c5; (case kA => exact rfl); (case kF => exact rfl); (case kK => assumption); (case k1 => k_asm); (case k2 => k_asm); (case k3 => k_asm); (case k4 => k_asm); (case kd => k_asm); (case k5 => k_asm); (case k6 => k_is); (case k7 => k_is); (case k8 => ktr_room); (case k9 => exact binds_K (by k_in) rfl (by k_is) rfl rfl rfl); (case c5 => decide); (case kB => exact locs rfl); (case c2 => exact rfl); (case c3 => exact rfl); (case c4 => exact rfl); k_whole; intro g' L' h' FG' F' N' B' X' T' l0 ; (try dsimp only); (try k_fold))
  rcases hmk with ⟨rfl, rfl⟩ | ⟨p, q, r, s4, t4, rfl, rfl⟩
  · k_steps
    dsimp only [wants]
    rename_i kF kN kD
    exact hret _ _ _ _ _ _ _ _ _ (by assumption) (by assumption) kF (news_sub kN (sub3 (by k_mem) (by k_mem) (by k_mem))) (allNes_of (dis_sub kD (sub3 (by k_mem) (by k_mem) (by k_mem))))
  · k_steps
    dsimp only [wants]
    rename_i kF kN kD
    exact hret _ _ _ _ _ _ _ _ _ (by assumption) (by assumption) kF (news_sub kN (sub3 (by k_mem) (by k_mem) (by k_mem))) (allNes_of (dis_sub kD (sub3 (by k_mem) (by k_mem) (by k_mem))))) ?_
  intro q f
  simpa using Mine.hushed f 5 fun n i => i
-- KPd

section
local macro_rules | `(tactic| walk_at "CompSrc") => `(tactic| (k_here; (with_reducible show @LCg.CompSrc _ _ _ _ _ _ _ (PySem.Expr.Subscript (PySem.Expr.Constant _ _ _) _ _) _ _ _ _ _ _); (try k_fmods); (try kcf_lens); k_dflt (refine LCg.CompSrc.range (by rfl) (by k_asm) (by k_asm) (by assumption) (by first | exact small_one (by kcf_bnd) (by kcf_bnd) (by kcf_bnd) (by kcf_bnd) | decide) (by first | exact rangeSize_nat _ _ | rfl) (by first | exact Nat.le_of_ble_eq_true rfl | (rw [PySem.sizeLine_eq]; omega) | size_fits) ?_; intro g'; (refine' kct_range _ (fun k' t' I' oI' C' oC' D' m' ys' h' tk' E' hlo' hhi' hC' hx' F' N' off' ne' => ?_) ?_); (all_goals (try (simp only [LCg.Off3, and_true] at off'))); (all_goals (try ((show KPfMark → _); intro hMark'))); kcf_last)))
local macro_rules | `(tactic| walk_at "cl") => `(tactic| ((try (with_reducible rename And (@Ne _ _ _) _ => hqq; clear hqq)); (try (with_reducible rename And (And (@Ne _ _ _) _) _ => hqq; clear hqq))))
theorem setup_KPd_1 : True := by
  k_with_none
  k_with "wpC" => ((k_here; (with_reducible show wpC _ _ _ _ _ _); (fail_if_success (with_reducible show wpC _ _ (setItem _ _ (Value.bytes _ _)) _ _ _)); (fail_if_success (with_reducible show wpC _ _ (call (Value.ref _) _ _) _ _ _)); (fail_if_success (with_reducible show wpC _ _ (callWith _ (Value.type _) _ _ _) _ _ _)); (fail_if_success (with_reducible show wpC _ _ (call (Value.type _) _ _) _ _ _)); (refine of_any ?_)))
  k_with "wpC" => ((k_here; (with_reducible show wpC _ _ (call (Value.ref _) _ _) _ _ _); (refine' of_anyD ?qqd ?_; (case qqd => (walk_at "dirty")))))
  k_with "wpC" => ((k_here; (with_reducible show wpC _ _ (exec (Stmt.While _ _ _ _) _) _ _ _); (refine c_While ?_)))
  k_with "wpC" => ((k_here; (with_reducible show wpC _ _ (exec (Stmt.If _ _ _ _) _) _ _ _); (refine c_If ?_)))
  k_with "wpC" => ((k_here; (with_reducible show wpC _ _ (exec (Stmt.Assign [Expr.Subscript _ (Expr.Slice _ _ _ _) _] _ _) _) _ _ _); k_dflt (refine c_Assign_Subscript ?_)))
  k_with "wpC" => ((k_here; (with_reducible show wpC _ _ (exec (Stmt.Expr (Expr.Call (Expr.Attribute _ _ _) _ _ _) _) _) _ _ _); k_dflt (refine' c_ExprD ?qqd ?_; (case qqd => (walk_at "dirty")))))
  k_with "wpC" => ((k_here; (with_reducible show wpC _ _ (exec (Stmt.Return (some (Expr.Call (Expr.Attribute _ _ _) _ _ _)) _) _) _ _ _); k_dflt (refine' c_ReturnD ?qqd ?_; (case qqd => (walk_at "dirty")))))
  k_with "wpC" => ((k_here; (with_reducible show wpC _ _ (exec (Stmt.Assign [Expr.Name _ _] (Expr.Call (Expr.Attribute _ _ _) _ _ _) _) _) _ _ _); k_dflt (refine' c_AssignD ?qqd ?_; (case qqd => (walk_at "dirty")))))
  k_with "wpC" => ((k_here; (with_reducible show wpC _ _ (eval (Expr.Call (Expr.Attribute _ _ _) _ _ _) _) _ _ _); k_dflt (refine' c_MethodCallSD ?qqd ?_; (case qqd => (walk_at "dirty")))))
  k_with "wpC" => ((k_here; (with_reducible show wpC _ _ (eval (Expr.Call (Expr.Attribute _ _ _) _ _ _) _) _ _ _); k_dflt (refine' c_MethodCallD ?qqd ?_; (case qqd => (walk_at "dirty")))))
  k_with "wpC" => ((k_here; (with_reducible show wpC _ _ (exec (Stmt.Assign [Expr.Name _ _] (Expr.Call (Expr.Name (PySem.Str.ofString "Builder") _) _ _ _) _) _) _ _ _); k_dflt (refine c_Assign_Name ?_)))
  k_with "wpC" => ((k_here; (with_reducible show wpC _ _ (eval (Expr.Call (Expr.Name (PySem.Str.ofString "Builder") _) _ _ _) _) _ _ _); k_dflt (refine c_Call ?_)))
  k_with "wpC" => ((k_here; (with_reducible show wpC _ _ (exec (Stmt.Assign [Expr.Name _ _] (Expr.Call (Expr.Name (PySem.Str.ofString "_law_made") _) _ _ _) _) _) _ _ _); k_dflt (refine c_Assign_Name ?_)))
  k_with "wpC" => ((k_here; (with_reducible show wpC _ _ (eval (Expr.Call (Expr.Name (PySem.Str.ofString "_law_made") _) _ _ _) _) _ _ _); k_dflt (refine c_Call ?_)))
  k_with "wpC" => ((k_here; (with_reducible show wpC _ _ (exec (Stmt.Assign [Expr.Attribute _ _ _] (Expr.Call (Expr.Name (PySem.Str.ofString "bytearray") _) _ _ _) _) _) _ _ _); k_dflt (refine c_Assign_Attr ?_)))
  k_with "wpC" => ((k_here; (with_reducible show wpC _ _ (exec (Stmt.Assign [Expr.Name _ _] (Expr.Call (Expr.Name (PySem.Str.ofString "bytearray") _) _ _ _) _) _) _ _ _); k_dflt (refine c_Assign_Name ?_)))
  k_with "wpC" => ((k_here; (with_reducible show wpC _ _ (eval (Expr.Call (Expr.Name (PySem.Str.ofString "bytearray") _) _ _ _) _) _ _ _); k_dflt (refine c_Call ?_)))
  k_with "wpC" => ((k_here; (with_reducible show wpC _ _ (execs [] _) _ _ _); (refine c_execs_nil ?_)))
  k_with "wpC" => ((k_here; (with_reducible show wpC _ _ (execs (_ :: _) _) _ _ _); (refine c_execs_cons ?_)))
  k_with "wpC" => ((k_here; (with_reducible show wpC _ _ (callWith _ (Value.ref _) _ _ _) _ _ _); k_dflt (first | refine' c_callWith_K ?qqk1 ?qqk2 ?_; (case qqk1 => k_asm); (case qqk2 => k_is); k_whole | refine' c_callWith_S ?qqk1 ?qqk2 ?_; (case qqk1 => k_asm); (case qqk2 => k_is); k_whole | refine' c_callWith_MS ?qqk1 ?qqk2 ?qqk3 ?qqk4 ?_; (case qqk1 => k_asm); (case qqk2 => k_asm); (case qqk3 => k_mem); (case qqk4 => k_is); k_whole | refine' c_callWith_K0 ?qqk1 ?qqk2 ?_; (case qqk1 => k_in); (case qqk2 => k_is); k_whole | refine' c_callWith_KW ?qqk1 ?qqk2 ?qqk3 ?_; (case qqk1 => k_asm); (case qqk2 => k_is); (case qqk3 => exact rfl); k_whole)))
  k_with "wpC" => ((k_here; (with_reducible show wpC _ _ (callWith _ (Value.type _) _ _ _) _ _ _); k_dflt (refine' c_callWith_T ?_)))
  k_with "wpC" => ((k_here; (with_reducible show wpC _ _ (setItem (Value.ref _) (Value.ref _) (Value.bytes _ _)) _ _ _); k_dflt (refine' c_setN (s := ⟨_, _, _, _, _⟩) ?qqg ?qqF ?qqN ?qqU ?qqh ?qqej ?qqh0 ?qqhs ?qqz ?_; (case qqF => k_asm); (case qqN => k_asm); (case qqU => k_updF); (case qqh => k_asm); (case qqg => exact rfl); (case qqej => (walk_at "cl"; omega)); (case qqh0 => (walk_at "cl"; omega)); (case qqhs => ((walk_at "cl"); first | omega | (simp only [List.length_append, List.length_replicate, Array.size_replicate, lay_length, List.length_nil] at *; omega))); (case qqz => (walk_at "cl"; omega)); k_whole); intro _ _ _ _ _ _; (try k_sweep)))
  k_with "wpC" => ((k_here; (with_reducible show wpC _ _ (call (Value.type _) [Value.int _ _]) _ _ _); k_dflt (refine' c_new_int ?qqg ?qqF ?qqN ?qqh0 ?qqhz ?_; (case qqg => exact rfl); (case qqF => k_asm); (case qqN => k_asm); (case qqh0 => (walk_at "cl"; omega)); (case qqhz => (walk_at "cl"; omega)); k_whole); intro _ _ _ _ _; (try (walk_at "lt1")); (try k_sweep)))
  k_with "wpC" => ((k_here; (with_reducible show wpC _ _ (call (Value.type _) [Value.bytes _ _]) _ _ _); k_dflt (refine' c_new_bytes ?qqg ?qqF ?qqN ?qqhz ?_; (case qqg => exact rfl); (case qqF => k_asm); (case qqN => k_asm); (case qqhz => (walk_at "cl"; omega)); k_whole); intro _ _ _ _ _; (try (walk_at "lt1")); (try k_sweep)))
  k_with "LeaveM" => ((k_dflt (refine' leaveM_ ?qqk1 ?qqk2 ?_; (case qqk1 => k_asm); (case qqk2 => k_asm); k_whole); intro _ _ _; (try dsimp only [InitBack, CmpBack, LenBack, StrBack, BoolBack]); (try refine ⟨rfl, ?_⟩)))
  k_with "getMethod str" => ((k_here; (with_reducible show wpAny _ _ (getMethod (Value.str _ _) (PySem.Str.ofString "encode") _) _ _ _); k_dflt (refine' str_encode_get ?_; k_whole)))
  k_with "call builtin:str.encode" => ((k_here; k_dflt (refine' str_encode ?qqh ?qqz ?_; (case qqh => k_asm); (case qqz => (walk_at "cl"; omega)); k_whole); intro _ _))
  k_with "getAttr ref" => ((k_here; k_dflt (refine' kbm_boundS ?qqk1 ?qqk2 ?qqk3 ?qqk4 ?qqk5 ?qqk6 ?qqk6b ?qqk7 ?qqk8 ?qqk9 ?qqk10 ?qqk11 ?_; (case qqk4 => k_inst); (case qqk1 => k_asm); (case qqk2 => k_asm); (case qqk7 => k_is); (case qqk3 => k_asm); (case qqk5 => k_is); (case qqk6 => k_is); (case qqk6b => k_is); (case qqk8 => k_is); (case qqk9 => k_is); (case qqk10 => k_is); (case qqk11 => decide +kernel); k_whole); intro _ _ _ _ _; (try (walk_at "lt1")); (try k_sweep)))
  k_with "eval Name" => ((k_here; (with_reducible show wpAny _ _ (eval (Expr.Name (PySem.Str.ofString "bytearray") _) _) _ _ _); with_unfolding_all refine guard_global (by rfl) ?_; k_dflt (refine' name_B ?qqkF ?qqk1 ?qqk2 ?qqk3 ?qqk4 ?qqk5 ?_; (case qqkF => with_reducible assumption); (case qqk1 => with_reducible assumption); (case qqk2 => k_asm); (case qqk3 => k_is); (case qqk4 => boot_by_name); (case qqk5 => decide); k_whole)))
  k_with "getAttr ref" => ((k_here; (with_reducible show wpAny _ _ (getAttr (Value.ref _) _ _) _ _ _); k_dflt (refine' get_slot ?qqk1 ?qqk2 ?qqk3 ?qqk4 ?qqk5 ?qqk6 ?qqk7 ?qqk8 ?qqk9 ?qqk10 ?qqk11 ?_; (case qqk1 => with_reducible assumption); (case qqk2 => with_reducible assumption); (case qqk3 => k_inst); (case qqk4 => k_is); (case qqk5 => k_is); (case qqk6 => k_is); (case qqk7 => k_is); (case qqk8 => k_is); (case qqk9 => k_is); (case qqk10 => k_slotget); (case qqk11 => k_handed); k_whole)))
  k_with "ite" => ((k_here; k_openite; k_dflt (first | (refine ite_pos (by ((walk_at "cl"); (try simp only [decide_eq_true_eq, beq_iff_eq, bne_iff_ne, ne_eq]); omega)) ?_) | (refine ite_neg (by ((walk_at "cl"); (try simp only [decide_eq_true_eq, beq_iff_eq, bne_iff_ne, ne_eq]); omega)) ?_)); walk_say "PRUNED here"))
  k_with "binaryOp Mult bytes int" => ((k_here; k_dflt (refine' zeros_mul ?qqh0 ?qqhn ?_; (case qqh0 => (walk_at "cl"; omega)); (case qqhn => (walk_at "cl"; omega)); k_whole); intro _ _))
  k_with "call builtin:len" => ((k_here; (with_reducible show wpAny _ _ (call (Value.builtin "len") [Value.ref _]) _ _ _); k_dflt (refine' ba_lenN ?qqN ?qqm ?qqz ?_; (case qqN => k_asm); (case qqm => k_mem); (case qqz => (walk_at "cl"; omega)); k_whole)))
  k_with "setItem ref ref" => ((k_here; (with_reducible show wpAny _ _ (setItem (Value.ref _) (Value.ref _) (Value.ref _)) _ _ _); k_dflt (refine' ba_setN (s := ⟨_, _, _, _, _⟩) ?qqF ?qqN ?qqU ?qqm ?qqne ?qqh0 ?qqhs ?qqhz ?_; (case qqF => k_asm); (case qqN => k_asm); (case qqU => k_updF); (case qqm => k_mem); (case qqne => k_ne); (case qqh0 => (walk_at "cl"; omega)); (case qqhs => ((walk_at "cl"); first | omega | (simp only [List.length_append, List.length_replicate, Array.size_replicate, lay_length, List.length_nil] at *; omega))); (case qqhz => ((walk_at "cl"); first | omega | (simp only [List.length_append, List.length_replicate, Array.size_replicate, lay_length, List.length_nil] at *; omega))); k_whole); intro _ _ _ _ _ _; (try k_sweep)))
  k_with "getMethod ref" => ((k_here; (with_reducible show wpAny _ _ (getMethod (Value.ref _) (PySem.Str.ofString "unpack_from") _) _ _ _); k_dflt (refine' so_fromK ?qqX ?qqh ?_; (case qqX => k_in); (case qqh => exact rfl); k_whole)))
  k_with "getMethod ref" => ((k_here; (with_reducible show wpAny _ _ (getMethod (Value.ref _) (PySem.Str.ofString "pack_into") _) _ _ _); k_dflt (refine' so_intoK ?qqX ?qqh ?_; (case qqX => k_in); (case qqh => exact rfl); k_whole)))
  k_with "call builtin:_struct.Struct.unpack_from" => ((k_here; k_dflt (refine' so_fromN ?qqX ?qqF ?qqN ?qqh ?qqf ?qqb ?qqh0 ?qqh1 ?qqhz ?_; (case qqX => k_in); (case qqF => k_asm); (case qqN => k_asm); (case qqh => exact rfl); (case qqf => constructor); (case qqb => first | exact .inl ⟨_, rfl⟩ | exact .inr ⟨_, rfl, by k_mem⟩); (case qqh0 => (walk_at "cl"; omega)); (case qqh1 => (walk_at "cl"; omega)); (case qqhz => (walk_at "cl"; omega)); k_whole); intro _ _ _ _ _ _ _; (try (walk_at "lt1")); (try k_sweep)))
  k_with "call builtin:_struct.Struct.unpack_from" => ((k_here; k_dflt (refine' so_fromB ?qqX ?qqF ?qqN ?qqh ?qqf ?qqb ?qqh0 ?qqh1 ?qqhz ?_; (case qqX => k_in); (case qqF => k_asm); (case qqN => k_asm); (case qqh => exact rfl); (case qqf => constructor); (case qqb => exact BufIn.keep (by assumption) (by k_asm)); (case qqh0 => (walk_at "cl"; omega)); (case qqh1 => (walk_at "cl"; omega)); (case qqhz => (walk_at "cl"; omega)); k_whole); intro _ _ _ _ _ _ _; (try (walk_at "lt1")); (try k_sweep)))
  k_with "call builtin:_struct.Struct.pack_into" => ((k_here; k_dflt (refine' so_intoN ?qqX ?qqF ?qqN ?qqU ?qqh ?qqf ?qqh0 ?qqh1 ?qqhz ?qqlo ?qqhi ?_; (case qqX => k_in); (case qqF => k_asm); (case qqN => k_asm); (case qqU => k_updF); (case qqh => exact rfl); (case qqf => constructor); (case qqh0 => (walk_at "cl"; omega)); (case qqh1 => (walk_at "cl"; omega)); (case qqhz => (walk_at "cl"; omega)); (case qqlo => ((first | rw [if_neg (by decide)] | rw [if_pos (by decide)]); (try simp only [Nat.reduceMul, Nat.reduceSub, Int.reducePow, Int.reduceNeg]); walk_at "cl"; omega)); (case qqhi => ((first | rw [if_neg (by decide)] | rw [if_pos (by decide)]); (try simp only [Nat.reduceMul, Nat.reduceSub, Int.reducePow, Int.reduceNeg]); walk_at "cl"; omega)); k_whole); intro _ _ _; (try k_sweep)))
  k_with "wpC" => ((k_here; (with_reducible show wpC _ _ (call (Value.ref _) _ _) _ _ _); (walk_at "wpCc")))
  k_with "binaryOp FloorDiv int int" => (((plain_pass); (refine fdiv_pow (by decide) (by decide) (by (walk_at "cl"); omega) (by (walk_at "cl"); omega) ?_)))
  k_with "binaryOp Pow int int" => ((k_here; (with_reducible refine' pow_int_small ?qqkb1 ?qqkb2 ?qqkb3 ?_); (case qqkb1 => first | assumption | ((walk_at "cl"); omega)); (case qqkb2 => (walk_at "cl"); omega); (case qqkb3 => decide)))
  trivial

theorem parts_k : ∀ {w : World} {mean : ExcName → Option Value} {mg mb : Str → Option Value} {dp un : Nat} {cn : Str} {cs : Scope} {a : Addr} {ccd : Value} {cl : List (Str × Addr)} {outer : List Env} {A₀ : Around} {base h₀ : Heap} {L : Addr} {m : Str → Option Value} {s : Shared}
    {Q E : Value → Shared → Prop} {rest : List (Addr × Obj)} (B : Below A₀ base outer h₀) (F : Fr h₀ L s.heap m) (X : (Mine.hd.heap_39 w.params).In h₀) (T : Top Mine.hd.view_39 LO mean mg mb h₀) (hk : cs.kind = .function) (hd : dp + 4 < recursionLimit) (hu : un + 32 < cLine) {n : Int} {u : Tok} (P : Part h₀ L s.heap [] rest)
    (hret : ∀ (h' : Heap) (tk' : Nat) (x : Addr) (rw : Addr) (ys : List Value) (mv : Value) (t1 : Tok) (t2 : Tok), IntsAre ys (rowF n) → MarkIs (markF n) mv → Fr h₀ L h' m → News h₀ L h' ([(x, ({ cls := .type "tuple", data := .seq #[.int (numF n) t1, .str (wordF n) t2, .ref rw, mv, .bool (sizedF n)] } : Obj)), (rw, LCg.lst ys)] ++ rest) → AllNes [(x, ({ cls := .type "tuple", data := .seq #[.int (numF n) t1, .str (wordF n) t2, .ref rw, mv, .bool (sizedF n)] } : Obj)), (rw, LCg.lst ys)] rest → Q (.ref x) { s with heap := h', toks := tk' }),
    wpAny (model _root_.PySem.Challenge.rw_bp0005_01.row.prog w) (ktrTop dp un (some []) cn cs L a ccd cl outer) (call (.ref 782) [.int n u] ) Q E s := by
  refine @Mine.hush _ (by
  k_fill
  intro w mean mg mb dp un cn cs a ccd cl outer A₀ base h₀ L m s Q E rest B F X T hk hd hu n u P hret
  have N := P.news
  have hdis := P.dis
  refine wpAny_call ?_
  k_dflt (refine' defAC ?k1 ?k2 ?k3 ?k4 ?kd ?k5 ?kA ?kF ?kK ?k6 ?k7 ?k8 ?k9 ?kB ?kD ?_ ?c2 ?c3 ?c4; (case kA => exact rfl); (case kF => exact rfl); (case kK => assumption); (case k1 => k_asm); (case k2 => k_asm); (case k3 => k_asm); (case k4 => k_asm); (case kd => k_asm); (case k5 => k_asm); (case k6 => k_is); (case k7 => k_is); (case k8 => ktr_room); (case k9 => exact BindsTo.of_eq rfl); (case kB => exact rfl); (case kD => decide +kernel); (case c2 => exact rfl); (case c3 => exact rfl); (case c4 => exact rfl); k_whole; intro g' L' h' tk' cells' FG' F' N' Y' B' X' T' l0 G; k_cells Y'; (try simp only [List.cons_append, List.nil_append] at N'); (try dsimp only); (try k_fold))
  k_steps
  all_goals (try dsimp only [wants])
  · rename_i kF kN kD
    rename _ = (1 : Int) => hodd
    rename IntsAre _ (List.map (fun k' => (Int.fdiv n (11 ^ _)).fmod 65536) _) => hI
    exact hret _ _ _ _ _ _ _ _ hI (.inr ⟨_, _, _, _, _, by unfold markF; rw [if_pos hodd]; rfl, rfl⟩) kF (news_sub kN (sub2 (by k_mem) (by k_mem))) (allNes_of (dis_sub kD (sub2 (by k_mem) (by k_mem))))
  · rename_i kF kN kD
    rename ¬ (_ = (1 : Int)) => hodd
    rename IntsAre _ (List.map (fun k' => (Int.fdiv n (11 ^ _)).fmod 65536) _) => hI
    exact hret _ _ _ _ _ _ _ _ hI (.inl ⟨by unfold markF; rw [if_neg hodd], rfl⟩) kF (news_sub kN (sub2 (by k_mem) (by k_mem))) (allNes_of (dis_sub kD (sub2 (by k_mem) (by k_mem))))) ?_
  intro q f
  simpa using Mine.hushed f 5 fun n i => i
end
-- KQ

theorem setup_KQ_1 : True := by
  k_with_none
  k_with "wpC" => ((k_here; (with_reducible show wpC _ _ _ _ _ _); (fail_if_success (with_reducible show wpC _ _ (setItem _ _ (Value.bytes _ _)) _ _ _)); (fail_if_success (with_reducible show wpC _ _ (call (Value.ref _) _ _) _ _ _)); (fail_if_success (with_reducible show wpC _ _ (callWith _ (Value.type _) _ _ _) _ _ _)); (fail_if_success (with_reducible show wpC _ _ (call (Value.type _) _ _) _ _ _)); (refine of_any ?_)))
  k_with "wpC" => ((k_here; (with_reducible show wpC _ _ (call (Value.ref _) _ _) _ _ _); (refine' of_anyD ?qqd ?_; (case qqd => (walk_at "dirty")))))
  k_with "wpC" => ((k_here; (with_reducible show wpC _ _ (exec (Stmt.While _ _ _ _) _) _ _ _); (refine c_While ?_)))
  k_with "wpC" => ((k_here; (with_reducible show wpC _ _ (exec (Stmt.If _ _ _ _) _) _ _ _); (refine c_If ?_)))
  k_with "wpC" => ((k_here; (with_reducible show wpC _ _ (exec (Stmt.Assign [Expr.Subscript _ (Expr.Slice _ _ _ _) _] _ _) _) _ _ _); k_dflt (refine c_Assign_Subscript ?_)))
  k_with "wpC" => ((k_here; (with_reducible show wpC _ _ (exec (Stmt.Expr (Expr.Call (Expr.Attribute _ _ _) _ _ _) _) _) _ _ _); k_dflt (refine' c_ExprD ?qqd ?_; (case qqd => (walk_at "dirty")))))
  k_with "wpC" => ((k_here; (with_reducible show wpC _ _ (exec (Stmt.Return (some (Expr.Call (Expr.Attribute _ _ _) _ _ _)) _) _) _ _ _); k_dflt (refine' c_ReturnD ?qqd ?_; (case qqd => (walk_at "dirty")))))
  k_with "wpC" => ((k_here; (with_reducible show wpC _ _ (exec (Stmt.Assign [Expr.Name _ _] (Expr.Call (Expr.Attribute _ _ _) _ _ _) _) _) _ _ _); k_dflt (refine' c_AssignD ?qqd ?_; (case qqd => (walk_at "dirty")))))
  k_with "wpC" => ((k_here; (with_reducible show wpC _ _ (eval (Expr.Call (Expr.Attribute _ _ _) _ _ _) _) _ _ _); k_dflt (refine' c_MethodCallSD ?qqd ?_; (case qqd => (walk_at "dirty")))))
  k_with "wpC" => ((k_here; (with_reducible show wpC _ _ (eval (Expr.Call (Expr.Attribute _ _ _) _ _ _) _) _ _ _); k_dflt (refine' c_MethodCallD ?qqd ?_; (case qqd => (walk_at "dirty")))))
  k_with "wpC" => ((k_here; (with_reducible show wpC _ _ (exec (Stmt.Assign [Expr.Name _ _] (Expr.Call (Expr.Name (PySem.Str.ofString "Builder") _) _ _ _) _) _) _ _ _); k_dflt (refine c_Assign_Name ?_)))
  k_with "wpC" => ((k_here; (with_reducible show wpC _ _ (eval (Expr.Call (Expr.Name (PySem.Str.ofString "Builder") _) _ _ _) _) _ _ _); k_dflt (refine c_Call ?_)))
  k_with "wpC" => ((k_here; (with_reducible show wpC _ _ (exec (Stmt.Assign [Expr.Name _ _] (Expr.Call (Expr.Name (PySem.Str.ofString "_law_made") _) _ _ _) _) _) _ _ _); k_dflt (refine c_Assign_Name ?_)))
  k_with "wpC" => ((k_here; (with_reducible show wpC _ _ (eval (Expr.Call (Expr.Name (PySem.Str.ofString "_law_made") _) _ _ _) _) _ _ _); k_dflt (refine c_Call ?_)))
  k_with "wpC" => ((k_here; (with_reducible show wpC _ _ (exec (Stmt.Assign [Expr.Attribute _ _ _] (Expr.Call (Expr.Name (PySem.Str.ofString "bytearray") _) _ _ _) _) _) _ _ _); k_dflt (refine c_Assign_Attr ?_)))
  k_with "wpC" => ((k_here; (with_reducible show wpC _ _ (exec (Stmt.Assign [Expr.Name _ _] (Expr.Call (Expr.Name (PySem.Str.ofString "bytearray") _) _ _ _) _) _) _ _ _); k_dflt (refine c_Assign_Name ?_)))
  k_with "wpC" => ((k_here; (with_reducible show wpC _ _ (eval (Expr.Call (Expr.Name (PySem.Str.ofString "bytearray") _) _ _ _) _) _ _ _); k_dflt (refine c_Call ?_)))
  k_with "wpC" => ((k_here; (with_reducible show wpC _ _ (execs [] _) _ _ _); (refine c_execs_nil ?_)))
  k_with "wpC" => ((k_here; (with_reducible show wpC _ _ (execs (_ :: _) _) _ _ _); (refine c_execs_cons ?_)))
  k_with "wpC" => ((k_here; (with_reducible show wpC _ _ (callWith _ (Value.ref _) _ _ _) _ _ _); k_dflt (first | refine' c_callWith_K ?qqk1 ?qqk2 ?_; (case qqk1 => k_asm); (case qqk2 => k_is); k_whole | refine' c_callWith_S ?qqk1 ?qqk2 ?_; (case qqk1 => k_asm); (case qqk2 => k_is); k_whole | refine' c_callWith_MS ?qqk1 ?qqk2 ?qqk3 ?qqk4 ?_; (case qqk1 => k_asm); (case qqk2 => k_asm); (case qqk3 => k_mem); (case qqk4 => k_is); k_whole | refine' c_callWith_K0 ?qqk1 ?qqk2 ?_; (case qqk1 => k_in); (case qqk2 => k_is); k_whole | refine' c_callWith_KW ?qqk1 ?qqk2 ?qqk3 ?_; (case qqk1 => k_asm); (case qqk2 => k_is); (case qqk3 => exact rfl); k_whole)))
  k_with "wpC" => ((k_here; (with_reducible show wpC _ _ (callWith _ (Value.type _) _ _ _) _ _ _); k_dflt (refine' c_callWith_T ?_)))
  k_with "wpC" => ((k_here; (with_reducible show wpC _ _ (setItem (Value.ref _) (Value.ref _) (Value.bytes _ _)) _ _ _); k_dflt (refine' c_setN (s := ⟨_, _, _, _, _⟩) ?qqg ?qqF ?qqN ?qqU ?qqh ?qqej ?qqh0 ?qqhs ?qqz ?_; (case qqF => k_asm); (case qqN => k_asm); (case qqU => k_updF); (case qqh => k_asm); (case qqg => exact rfl); (case qqej => (walk_at "cl"; omega)); (case qqh0 => (walk_at "cl"; omega)); (case qqhs => ((walk_at "cl"); first | omega | (simp only [List.length_append, List.length_replicate, Array.size_replicate, lay_length, List.length_nil] at *; omega))); (case qqz => (walk_at "cl"; omega)); k_whole); intro _ _ _ _ _ _; (try k_sweep)))
  k_with "wpC" => ((k_here; (with_reducible show wpC _ _ (call (Value.type _) [Value.int _ _]) _ _ _); k_dflt (refine' c_new_int ?qqg ?qqF ?qqN ?qqh0 ?qqhz ?_; (case qqg => exact rfl); (case qqF => k_asm); (case qqN => k_asm); (case qqh0 => (walk_at "cl"; omega)); (case qqhz => (walk_at "cl"; omega)); k_whole); intro _ _ _ _ _; (try (walk_at "lt1")); (try k_sweep)))
  k_with "wpC" => ((k_here; (with_reducible show wpC _ _ (call (Value.type _) [Value.bytes _ _]) _ _ _); k_dflt (refine' c_new_bytes ?qqg ?qqF ?qqN ?qqhz ?_; (case qqg => exact rfl); (case qqF => k_asm); (case qqN => k_asm); (case qqhz => (walk_at "cl"; omega)); k_whole); intro _ _ _ _ _; (try (walk_at "lt1")); (try k_sweep)))
  k_with "LeaveM" => ((k_dflt (refine' leaveM_ ?qqk1 ?qqk2 ?_; (case qqk1 => k_asm); (case qqk2 => k_asm); k_whole); intro _ _ _; (try dsimp only [InitBack, CmpBack, LenBack, StrBack, BoolBack]); (try refine ⟨rfl, ?_⟩)))
  k_with "getMethod str" => ((k_here; (with_reducible show wpAny _ _ (getMethod (Value.str _ _) (PySem.Str.ofString "encode") _) _ _ _); k_dflt (refine' str_encode_get ?_; k_whole)))
  k_with "call builtin:str.encode" => ((k_here; k_dflt (refine' str_encode ?qqh ?qqz ?_; (case qqh => k_asm); (case qqz => (walk_at "cl"; omega)); k_whole); intro _ _))
  k_with "getAttr ref" => ((k_here; k_dflt (refine' kbm_boundS ?qqk1 ?qqk2 ?qqk3 ?qqk4 ?qqk5 ?qqk6 ?qqk6b ?qqk7 ?qqk8 ?qqk9 ?qqk10 ?qqk11 ?_; (case qqk4 => k_inst); (case qqk1 => k_asm); (case qqk2 => k_asm); (case qqk7 => k_is); (case qqk3 => k_asm); (case qqk5 => k_is); (case qqk6 => k_is); (case qqk6b => k_is); (case qqk8 => k_is); (case qqk9 => k_is); (case qqk10 => k_is); (case qqk11 => decide +kernel); k_whole); intro _ _ _ _ _; (try (walk_at "lt1")); (try k_sweep)))
  k_with "eval Name" => ((k_here; (with_reducible show wpAny _ _ (eval (Expr.Name (PySem.Str.ofString "bytearray") _) _) _ _ _); with_unfolding_all refine guard_global (by rfl) ?_; k_dflt (refine' name_B ?qqkF ?qqk1 ?qqk2 ?qqk3 ?qqk4 ?qqk5 ?_; (case qqkF => with_reducible assumption); (case qqk1 => with_reducible assumption); (case qqk2 => k_asm); (case qqk3 => k_is); (case qqk4 => boot_by_name); (case qqk5 => decide); k_whole)))
  k_with "getAttr ref" => ((k_here; (with_reducible show wpAny _ _ (getAttr (Value.ref _) _ _) _ _ _); k_dflt (refine' get_slot ?qqk1 ?qqk2 ?qqk3 ?qqk4 ?qqk5 ?qqk6 ?qqk7 ?qqk8 ?qqk9 ?qqk10 ?qqk11 ?_; (case qqk1 => with_reducible assumption); (case qqk2 => with_reducible assumption); (case qqk3 => k_inst); (case qqk4 => k_is); (case qqk5 => k_is); (case qqk6 => k_is); (case qqk7 => k_is); (case qqk8 => k_is); (case qqk9 => k_is); (case qqk10 => k_slotget); (case qqk11 => k_handed); k_whole)))
  k_with "ite" => ((k_here; k_openite; k_dflt (first | (refine ite_pos (by ((walk_at "cl"); (try simp only [decide_eq_true_eq, beq_iff_eq, bne_iff_ne, ne_eq]); omega)) ?_) | (refine ite_neg (by ((walk_at "cl"); (try simp only [decide_eq_true_eq, beq_iff_eq, bne_iff_ne, ne_eq]); omega)) ?_)); walk_say "PRUNED here"))
  k_with "binaryOp Mult bytes int" => ((k_here; k_dflt (refine' zeros_mul ?qqh0 ?qqhn ?_; (case qqh0 => (walk_at "cl"; omega)); (case qqhn => (walk_at "cl"; omega)); k_whole); intro _ _))
  k_with "call builtin:len" => ((k_here; (with_reducible show wpAny _ _ (call (Value.builtin "len") [Value.ref _]) _ _ _); k_dflt (refine' ba_lenN ?qqN ?qqm ?qqz ?_; (case qqN => k_asm); (case qqm => k_mem); (case qqz => (walk_at "cl"; omega)); k_whole)))
  k_with "setItem ref ref" => ((k_here; (with_reducible show wpAny _ _ (setItem (Value.ref _) (Value.ref _) (Value.ref _)) _ _ _); k_dflt (refine' ba_setN (s := ⟨_, _, _, _, _⟩) ?qqF ?qqN ?qqU ?qqm ?qqne ?qqh0 ?qqhs ?qqhz ?_; (case qqF => k_asm); (case qqN => k_asm); (case qqU => k_updF); (case qqm => k_mem); (case qqne => k_ne); (case qqh0 => (walk_at "cl"; omega)); (case qqhs => ((walk_at "cl"); first | omega | (simp only [List.length_append, List.length_replicate, Array.size_replicate, lay_length, List.length_nil] at *; omega))); (case qqhz => ((walk_at "cl"); first | omega | (simp only [List.length_append, List.length_replicate, Array.size_replicate, lay_length, List.length_nil] at *; omega))); k_whole); intro _ _ _ _ _ _; (try k_sweep)))
  k_with "getMethod ref" => ((k_here; (with_reducible show wpAny _ _ (getMethod (Value.ref _) (PySem.Str.ofString "unpack_from") _) _ _ _); k_dflt (refine' so_fromK ?qqX ?qqh ?_; (case qqX => k_in); (case qqh => exact rfl); k_whole)))
  k_with "getMethod ref" => ((k_here; (with_reducible show wpAny _ _ (getMethod (Value.ref _) (PySem.Str.ofString "pack_into") _) _ _ _); k_dflt (refine' so_intoK ?qqX ?qqh ?_; (case qqX => k_in); (case qqh => exact rfl); k_whole)))
  k_with "call builtin:_struct.Struct.unpack_from" => ((k_here; k_dflt (refine' so_fromN ?qqX ?qqF ?qqN ?qqh ?qqf ?qqb ?qqh0 ?qqh1 ?qqhz ?_; (case qqX => k_in); (case qqF => k_asm); (case qqN => k_asm); (case qqh => exact rfl); (case qqf => constructor); (case qqb => first | exact .inl ⟨_, rfl⟩ | exact .inr ⟨_, rfl, by k_mem⟩); (case qqh0 => (walk_at "cl"; omega)); (case qqh1 => (walk_at "cl"; omega)); (case qqhz => (walk_at "cl"; omega)); k_whole); intro _ _ _ _ _ _ _; (try (walk_at "lt1")); (try k_sweep)))
  k_with "call builtin:_struct.Struct.unpack_from" => ((k_here; k_dflt (refine' so_fromB ?qqX ?qqF ?qqN ?qqh ?qqf ?qqb ?qqh0 ?qqh1 ?qqhz ?_; (case qqX => k_in); (case qqF => k_asm); (case qqN => k_asm); (case qqh => exact rfl); (case qqf => constructor); (case qqb => exact BufIn.keep (by assumption) (by k_asm)); (case qqh0 => (walk_at "cl"; omega)); (case qqh1 => (walk_at "cl"; omega)); (case qqhz => (walk_at "cl"; omega)); k_whole); intro _ _ _ _ _ _ _; (try (walk_at "lt1")); (try k_sweep)))
  k_with "call builtin:_struct.Struct.pack_into" => ((k_here; k_dflt (refine' so_intoN ?qqX ?qqF ?qqN ?qqU ?qqh ?qqf ?qqh0 ?qqh1 ?qqhz ?qqlo ?qqhi ?_; (case qqX => k_in); (case qqF => k_asm); (case qqN => k_asm); (case qqU => k_updF); (case qqh => exact rfl); (case qqf => constructor); (case qqh0 => (walk_at "cl"; omega)); (case qqh1 => (walk_at "cl"; omega)); (case qqhz => (walk_at "cl"; omega)); (case qqlo => ((first | rw [if_neg (by decide)] | rw [if_pos (by decide)]); (try simp only [Nat.reduceMul, Nat.reduceSub, Int.reducePow, Int.reduceNeg]); walk_at "cl"; omega)); (case qqhi => ((first | rw [if_neg (by decide)] | rw [if_pos (by decide)]); (try simp only [Nat.reduceMul, Nat.reduceSub, Int.reducePow, Int.reduceNeg]); walk_at "cl"; omega)); k_whole); intro _ _ _; (try k_sweep)))
  k_with "wpC" => ((k_here; (with_reducible show wpC _ _ (call (Value.ref _) _ _) _ _ _); (walk_at "wpCc")))
  trivial

theorem pu32r_k : ∀ {w : World} {mean : ExcName → Option Value} {mg mb : Str → Option Value} {dp un : Nat} {cn : Str} {cs : Scope} {a : Addr} {ccd : Value} {cl : List (Str × Addr)} {outer : List Env} {A₀ : Around} {base h₀ : Heap} {L : Addr} {m : Str → Option Value} {s : Shared}
    {Q E : Value → Shared → Prop} {rest : List (Addr × Obj)} (B : Below A₀ base outer h₀) (F : Fr h₀ L s.heap m) (X : (Mine.hd.heap_39 w.params).In h₀) (T : Top Mine.hd.view_39 LO mean mg mb h₀) (hk : cs.kind = .function) (hd : dp + 8 < recursionLimit) (hu : un + 64 < cLine) {b : Addr} {dx : Addr} {ba : Addr} {dv : Addr} {arr : Array UInt8} {v7 : Value} {v9 : Option Value} {hd1 : Int} {ma : Int} {t1 : Tok} {t2 : Tok} {fin : Bool} {out : List UInt8} {cv : Addr} {x1 : Value} {x2 : Value} {x3 : Value} {t0 : Tok} {tn : Tok} {x : Int} {tx : Tok} {td : Tok} (hH : Has arr hd1 out) (hz : arr.size ≤ 2048) (h0 : 0 ≤ x) (h1 : x ≤ 4294967295) (ho : out.length ≤ 900) (hma : ma = 4) (P : Part h₀ L s.heap [(b, BO dx ba (.ref cv) fin hd1 t1 ma t2 true v7 v9 dv), (dx, dictOf [] 0), (ba, AO arr), (cv, CV (.int 0 t0) x1 x2 x3)] rest)
    (hret : ∀ (h' : Heap) (tk' : Nat) (ba' : Addr) (arr' : Array UInt8) (hd' : Int) (ma' : Int) (t1' : Tok) (t2' : Tok) (tk2 : Tok), Has arr' hd' (numO x out) → arr'.size ≤ 2048 → arr.size ≤ arr'.size → ma' = 4 → (out.length : Int) ≤ (numO x out).length → ((numO x out).length : Int) ≤ out.length + 7 → 0 ≤ slV x out → slV x out ≤ (numO x out).length → (x ≠ 0 → slV x out ≠ 0) → Fr h₀ L h' m → News h₀ L h' ([(b, BO dx ba' (.ref cv) fin hd' t1' ma' t2' true v7 v9 dv), (dx, dictOf [] 0), (ba', AO arr'), (cv, CV (.int (slV x out) tk2) x1 x2 x3)] ++ rest) → AllNes [(b, BO dx ba' (.ref cv) fin hd' t1' ma' t2' true v7 v9 dv), (dx, dictOf [] 0), (ba', AO arr'), (cv, CV (.int (slV x out) tk2) x1 x2 x3)] rest → Q .none { s with heap := h', toks := tk' }),
    wpC (model _root_.PySem.Challenge.rw_bp0005_01.row.prog w) (ktrTop dp un (some []) cn cs L a ccd cl outer) (call (.ref 569) [.ref b, .int 0 tn, .int x tx, .int 0 td] ) Q E s := by
  intro w mean mg mb dp un cn cs a ccd cl outer A₀ base h₀ L m s Q E rest B F X T hk hd hu b dx ba dv arr v7 v9 hd1 ma t1 t2 fin out cv x1 x2 x3 t0 tn x tx td hH hz h0 h1 ho hma P hret
  exact @pu32_k w mean mg mb dp un cn cs a ccd cl outer A₀ base h₀ L m s Q E rest B F X T hk hd hu b dx ba dv arr v7 v9 hd1 ma t1 t2 fin out cv x1 x2 x3 t0 tn x tx td hH hz h0 h1 ho P fun h' tk' ba' arr' hd' ma' t1' t2' tk2 hH hz hg hm F N D => hret h' tk' ba' arr' hd' ma' t1' t2' tk2 hH hz hg (by rw [hm, hma]; split <;> omega) numO_len.1 numO_len.2 slV_in.1 slV_in.2.1 slV_in.2.2.2 F N D
theorem setup_KQ_2 : True := by
  k_with "wpCc" => ((k_here; (with_reducible show wpC _ _ (call (Value.ref 569) _ _) _ _ _); k_dflt (refine' pu32r_k ?qqB ?qqF ?qqX ?qqT ?qqhk ?qqhd ?qqhu ?qqf0 ?qqf1 ?qqf2 ?qqf3 ?qqf4 ?qqf5 (part_of ?qqN (sub4 ?qqm0 ?qqm1 ?qqm2 ?qqm3) ?qqS) ?_; (case qqB => k_asm); (case qqF => k_asm); (case qqX => k_asm); (case qqT => k_asm); (case qqhk => first | exact rfl | assumption); (case qqN => k_asm); (case qqm0 => k_mem); (case qqm1 => k_mem); (case qqm2 => k_mem); (case qqm3 => k_mem); (case qqhd => (walk_at "room")); (case qqhu => (walk_at "units")); (case qqf0 => (walk_at "ft")); (case qqf1 => (walk_at "ft")); (case qqf2 => (walk_at "ft")); (case qqf3 => (walk_at "ft")); (case qqf4 => (walk_at "ft")); (case qqf5 => (walk_at "ft")); (case qqS => (walk_at "sel"))); (walk_at "cl1"); intro _ _ _ _ _ _ _ _ _ _ _ _ _ _ _ _ _ _ _ _ _; (walk_at "fin94")))
  trivial

theorem pus1r_k : ∀ {w : World} {mean : ExcName → Option Value} {mg mb : Str → Option Value} {dp un : Nat} {cn : Str} {cs : Scope} {a : Addr} {ccd : Value} {cl : List (Str × Addr)} {outer : List Env} {A₀ : Around} {base h₀ : Heap} {L : Addr} {m : Str → Option Value} {s : Shared}
    {Q E : Value → Shared → Prop} {rest : List (Addr × Obj)} (B : Below A₀ base outer h₀) (F : Fr h₀ L s.heap m) (X : (Mine.hd.heap_39 w.params).In h₀) (T : Top Mine.hd.view_39 LO mean mg mb h₀) (hk : cs.kind = .function) (hd : dp + 7 < recursionLimit) (hu : un + 56 < cLine) {b : Addr} {dx : Addr} {ba : Addr} {dv : Addr} {arr : Array UInt8} {v7 : Value} {v9 : Option Value} {hd1 : Int} {ma : Int} {t1 : Tok} {t2 : Tok} {fin : Bool} {out : List UInt8} {cv : Addr} {x0 : Value} {x2 : Value} {x3 : Value} {t0 : Tok} {tn : Tok} {x : Int} {tx : Tok} {td : Tok} (hH : Has arr hd1 out) (hz : arr.size ≤ 2048) (h0 : 0 ≤ x) (h1 : x ≤ out.length) (ho : out.length ≤ 900) (hma : ma = 4) (P : Part h₀ L s.heap [(b, BO dx ba (.ref cv) fin hd1 t1 ma t2 true v7 v9 dv), (dx, dictOf [] 0), (ba, AO arr), (cv, CV x0 (.int 0 t0) x2 x3)] rest)
    (hret : ∀ (h' : Heap) (tk' : Nat) (ba' : Addr) (arr' : Array UInt8) (hd' : Int) (ma' : Int) (t1' : Tok) (t2' : Tok) (tk2 : Tok), Has arr' hd' (offO x out) → arr'.size ≤ 2048 → arr.size ≤ arr'.size → ma' = 4 → (out.length : Int) ≤ (offO x out).length → ((offO x out).length : Int) ≤ out.length + 7 → 0 ≤ slV x out → slV x out ≤ (offO x out).length → (x ≠ 0 → slV x out ≠ 0) → Fr h₀ L h' m → News h₀ L h' ([(b, BO dx ba' (.ref cv) fin hd' t1' ma' t2' true v7 v9 dv), (dx, dictOf [] 0), (ba', AO arr'), (cv, CV x0 (.int (slV x out) tk2) x2 x3)] ++ rest) → AllNes [(b, BO dx ba' (.ref cv) fin hd' t1' ma' t2' true v7 v9 dv), (dx, dictOf [] 0), (ba', AO arr'), (cv, CV x0 (.int (slV x out) tk2) x2 x3)] rest → Q .none { s with heap := h', toks := tk' }),
    wpC (model _root_.PySem.Challenge.rw_bp0005_01.row.prog w) (ktrTop dp un (some []) cn cs L a ccd cl outer) (call (.ref 611) [.ref b, .int 1 tn, .int x tx, .int 0 td] ) Q E s := by
  intro w mean mg mb dp un cn cs a ccd cl outer A₀ base h₀ L m s Q E rest B F X T hk hd hu b dx ba dv arr v7 v9 hd1 ma t1 t2 fin out cv x0 x2 x3 t0 tn x tx td hH hz h0 h1 ho hma P hret
  exact @pus1_k w mean mg mb dp un cn cs a ccd cl outer A₀ base h₀ L m s Q E rest B F X T hk hd hu b dx ba dv arr v7 v9 hd1 ma t1 t2 fin out cv x0 x2 x3 t0 tn x tx td hH hz h0 h1 ho P fun h' tk' ba' arr' hd' ma' t1' t2' tk2 hH hz hg hm F N D => hret h' tk' ba' arr' hd' ma' t1' t2' tk2 hH hz hg (by rw [hm, hma]; split <;> omega) offO_len.1 offO_len.2 slV_in.1 slV_in.2.2.1 slV_in.2.2.2 F N D
theorem setup_KQ_3 : True := by
  k_with "wpCc" => ((k_here; (with_reducible show wpC _ _ (call (Value.ref 611) [_, Value.int 1 _, _, _] _) _ _ _); k_dflt (refine' pus1r_k ?qqB ?qqF ?qqX ?qqT ?qqhk ?qqhd ?qqhu ?qqf0 ?qqf1 ?qqf2 ?qqf3 ?qqf4 ?qqf5 (part_of ?qqN (sub4 ?qqm0 ?qqm1 ?qqm2 ?qqm3) ?qqS) ?_; (case qqB => k_asm); (case qqF => k_asm); (case qqX => k_asm); (case qqT => k_asm); (case qqhk => first | exact rfl | assumption); (case qqN => k_asm); (case qqm0 => k_mem); (case qqm1 => k_mem); (case qqm2 => k_mem); (case qqm3 => k_mem); (case qqhd => (walk_at "room")); (case qqhu => (walk_at "units")); (case qqf0 => (walk_at "ft")); (case qqf1 => (walk_at "ft")); (case qqf2 => (walk_at "ft")); (case qqf3 => (walk_at "ft")); (case qqf4 => (walk_at "ft")); (case qqf5 => (walk_at "ft")); (case qqS => (walk_at "sel"))); (walk_at "cl1"); intro _ _ _ _ _ _ _ _ _ _ _ _ _ _ _ _ _ _ _ _ _; (walk_at "fin94")))
  trivial

theorem pus2r_k : ∀ {w : World} {mean : ExcName → Option Value} {mg mb : Str → Option Value} {dp un : Nat} {cn : Str} {cs : Scope} {a : Addr} {ccd : Value} {cl : List (Str × Addr)} {outer : List Env} {A₀ : Around} {base h₀ : Heap} {L : Addr} {m : Str → Option Value} {s : Shared}
    {Q E : Value → Shared → Prop} {rest : List (Addr × Obj)} (B : Below A₀ base outer h₀) (F : Fr h₀ L s.heap m) (X : (Mine.hd.heap_39 w.params).In h₀) (T : Top Mine.hd.view_39 LO mean mg mb h₀) (hk : cs.kind = .function) (hd : dp + 7 < recursionLimit) (hu : un + 56 < cLine) {b : Addr} {dx : Addr} {ba : Addr} {dv : Addr} {arr : Array UInt8} {v7 : Value} {v9 : Option Value} {hd1 : Int} {ma : Int} {t1 : Tok} {t2 : Tok} {fin : Bool} {out : List UInt8} {cv : Addr} {x0 : Value} {x1 : Value} {x3 : Value} {t0 : Tok} {tn : Tok} {x : Int} {tx : Tok} {td : Tok} (hH : Has arr hd1 out) (hz : arr.size ≤ 2048) (h0 : 0 ≤ x) (h1 : x ≤ out.length) (ho : out.length ≤ 900) (hma : ma = 4) (P : Part h₀ L s.heap [(b, BO dx ba (.ref cv) fin hd1 t1 ma t2 true v7 v9 dv), (dx, dictOf [] 0), (ba, AO arr), (cv, CV x0 x1 (.int 0 t0) x3)] rest)
    (hret : ∀ (h' : Heap) (tk' : Nat) (ba' : Addr) (arr' : Array UInt8) (hd' : Int) (ma' : Int) (t1' : Tok) (t2' : Tok) (tk2 : Tok), Has arr' hd' (offO x out) → arr'.size ≤ 2048 → arr.size ≤ arr'.size → ma' = 4 → (out.length : Int) ≤ (offO x out).length → ((offO x out).length : Int) ≤ out.length + 7 → 0 ≤ slV x out → slV x out ≤ (offO x out).length → (x ≠ 0 → slV x out ≠ 0) → Fr h₀ L h' m → News h₀ L h' ([(b, BO dx ba' (.ref cv) fin hd' t1' ma' t2' true v7 v9 dv), (dx, dictOf [] 0), (ba', AO arr'), (cv, CV x0 x1 (.int (slV x out) tk2) x3)] ++ rest) → AllNes [(b, BO dx ba' (.ref cv) fin hd' t1' ma' t2' true v7 v9 dv), (dx, dictOf [] 0), (ba', AO arr'), (cv, CV x0 x1 (.int (slV x out) tk2) x3)] rest → Q .none { s with heap := h', toks := tk' }),
    wpC (model _root_.PySem.Challenge.rw_bp0005_01.row.prog w) (ktrTop dp un (some []) cn cs L a ccd cl outer) (call (.ref 611) [.ref b, .int 2 tn, .int x tx, .int 0 td] ) Q E s := by
  intro w mean mg mb dp un cn cs a ccd cl outer A₀ base h₀ L m s Q E rest B F X T hk hd hu b dx ba dv arr v7 v9 hd1 ma t1 t2 fin out cv x0 x1 x3 t0 tn x tx td hH hz h0 h1 ho hma P hret
  exact @pus2_k w mean mg mb dp un cn cs a ccd cl outer A₀ base h₀ L m s Q E rest B F X T hk hd hu b dx ba dv arr v7 v9 hd1 ma t1 t2 fin out cv x0 x1 x3 t0 tn x tx td hH hz h0 h1 ho P fun h' tk' ba' arr' hd' ma' t1' t2' tk2 hH hz hg hm F N D => hret h' tk' ba' arr' hd' ma' t1' t2' tk2 hH hz hg (by rw [hm, hma]; split <;> omega) offO_len.1 offO_len.2 slV_in.1 slV_in.2.2.1 slV_in.2.2.2 F N D
theorem setup_KQ_4 : True := by
  k_with "wpCc" => ((k_here; (with_reducible show wpC _ _ (call (Value.ref 611) [_, Value.int 2 _, _, _] _) _ _ _); k_dflt (refine' pus2r_k ?qqB ?qqF ?qqX ?qqT ?qqhk ?qqhd ?qqhu ?qqf0 ?qqf1 ?qqf2 ?qqf3 ?qqf4 ?qqf5 (part_of ?qqN (sub4 ?qqm0 ?qqm1 ?qqm2 ?qqm3) ?qqS) ?_; (case qqB => k_asm); (case qqF => k_asm); (case qqX => k_asm); (case qqT => k_asm); (case qqhk => first | exact rfl | assumption); (case qqN => k_asm); (case qqm0 => k_mem); (case qqm1 => k_mem); (case qqm2 => k_mem); (case qqm3 => k_mem); (case qqhd => (walk_at "room")); (case qqhu => (walk_at "units")); (case qqf0 => (walk_at "ft")); (case qqf1 => (walk_at "ft")); (case qqf2 => (walk_at "ft")); (case qqf3 => (walk_at "ft")); (case qqf4 => (walk_at "ft")); (case qqf5 => (walk_at "ft")); (case qqS => (walk_at "sel"))); (walk_at "cl1"); intro _ _ _ _ _ _ _ _ _ _ _ _ _ _ _ _ _ _ _ _ _; (walk_at "fin94")))
  trivial

theorem pus3r_k : ∀ {w : World} {mean : ExcName → Option Value} {mg mb : Str → Option Value} {dp un : Nat} {cn : Str} {cs : Scope} {a : Addr} {ccd : Value} {cl : List (Str × Addr)} {outer : List Env} {A₀ : Around} {base h₀ : Heap} {L : Addr} {m : Str → Option Value} {s : Shared}
    {Q E : Value → Shared → Prop} {rest : List (Addr × Obj)} (B : Below A₀ base outer h₀) (F : Fr h₀ L s.heap m) (X : (Mine.hd.heap_39 w.params).In h₀) (T : Top Mine.hd.view_39 LO mean mg mb h₀) (hk : cs.kind = .function) (hd : dp + 7 < recursionLimit) (hu : un + 56 < cLine) {b : Addr} {dx : Addr} {ba : Addr} {dv : Addr} {arr : Array UInt8} {v7 : Value} {v9 : Option Value} {hd1 : Int} {ma : Int} {t1 : Tok} {t2 : Tok} {fin : Bool} {out : List UInt8} {cv : Addr} {x0 : Value} {x1 : Value} {x2 : Value} {t0 : Tok} {tn : Tok} {x : Int} {tx : Tok} {td : Tok} (hH : Has arr hd1 out) (hz : arr.size ≤ 2048) (h0 : 0 ≤ x) (h1 : x ≤ out.length) (ho : out.length ≤ 900) (hma : ma = 4) (P : Part h₀ L s.heap [(b, BO dx ba (.ref cv) fin hd1 t1 ma t2 true v7 v9 dv), (dx, dictOf [] 0), (ba, AO arr), (cv, CV x0 x1 x2 (.int 0 t0))] rest)
    (hret : ∀ (h' : Heap) (tk' : Nat) (ba' : Addr) (arr' : Array UInt8) (hd' : Int) (ma' : Int) (t1' : Tok) (t2' : Tok) (tk2 : Tok), Has arr' hd' (offO x out) → arr'.size ≤ 2048 → arr.size ≤ arr'.size → ma' = 4 → (out.length : Int) ≤ (offO x out).length → ((offO x out).length : Int) ≤ out.length + 7 → 0 ≤ slV x out → slV x out ≤ (offO x out).length → (x ≠ 0 → slV x out ≠ 0) → Fr h₀ L h' m → News h₀ L h' ([(b, BO dx ba' (.ref cv) fin hd' t1' ma' t2' true v7 v9 dv), (dx, dictOf [] 0), (ba', AO arr'), (cv, CV x0 x1 x2 (.int (slV x out) tk2))] ++ rest) → AllNes [(b, BO dx ba' (.ref cv) fin hd' t1' ma' t2' true v7 v9 dv), (dx, dictOf [] 0), (ba', AO arr'), (cv, CV x0 x1 x2 (.int (slV x out) tk2))] rest → Q .none { s with heap := h', toks := tk' }),
    wpC (model _root_.PySem.Challenge.rw_bp0005_01.row.prog w) (ktrTop dp un (some []) cn cs L a ccd cl outer) (call (.ref 611) [.ref b, .int 3 tn, .int x tx, .int 0 td] ) Q E s := by
  intro w mean mg mb dp un cn cs a ccd cl outer A₀ base h₀ L m s Q E rest B F X T hk hd hu b dx ba dv arr v7 v9 hd1 ma t1 t2 fin out cv x0 x1 x2 t0 tn x tx td hH hz h0 h1 ho hma P hret
  exact @pus3_k w mean mg mb dp un cn cs a ccd cl outer A₀ base h₀ L m s Q E rest B F X T hk hd hu b dx ba dv arr v7 v9 hd1 ma t1 t2 fin out cv x0 x1 x2 t0 tn x tx td hH hz h0 h1 ho P fun h' tk' ba' arr' hd' ma' t1' t2' tk2 hH hz hg hm F N D => hret h' tk' ba' arr' hd' ma' t1' t2' tk2 hH hz hg (by rw [hm, hma]; split <;> omega) offO_len.1 offO_len.2 slV_in.1 slV_in.2.2.1 slV_in.2.2.2 F N D
-- KT

/-- a Table -/
abbrev TO (tdx : Addr) (bv : Value) (p : Int) (tp : Tok) : Obj := { cls := .ref 248, dict := some tdx, data := .plain, slots := #[some bv, some (.int p tp)] }
theorem clsTO {tdx : Addr} {bv : Value} {p : Int} {tp : Tok} {t : Addr} {arr : Array UInt8} : ∀ q ∈ [(t, TO tdx bv p tp), (tdx, dictOf [] 0)], q.2.cls ≠ (AO arr).cls :=
  List.forall_mem_cons.mpr ⟨fun e => (by cases e), List.forall_mem_cons.mpr ⟨fun e => absurd (Value.type.inj e) (by decide), List.forall_mem_nil _⟩⟩
theorem BufIn.handed {h : Heap} {v : Value} {arr : Array UInt8} (H : BufIn h v arr) : handedIn v = true := by
  rcases H with ⟨t, rfl⟩ | ⟨ba, rfl, _⟩ <;> rfl
theorem newsTO {h₀ h : Heap} {L t tdx : Addr} {bv : Value} {p : Int} {tp : Tok} {rest : List (Addr × Obj)} (N : News h₀ L h ([(t, TO tdx bv p tp), (tdx, dictOf [] 0)] ++ rest)) : NeA t tdx :=
  news_ne N (.head _) (.tail _ (.head _)) fun e => by cases congrArg Obj.cls e

theorem setup_KT_1 : True := by
  k_with_none
  k_with "wpC" => ((k_here; (with_reducible show wpC _ _ _ _ _ _); (fail_if_success (with_reducible show wpC _ _ (setItem _ _ (Value.bytes _ _)) _ _ _)); (fail_if_success (with_reducible show wpC _ _ (call (Value.ref _) _ _) _ _ _)); (fail_if_success (with_reducible show wpC _ _ (callWith _ (Value.type _) _ _ _) _ _ _)); (fail_if_success (with_reducible show wpC _ _ (call (Value.type _) _ _) _ _ _)); (refine of_any ?_)))
  k_with "wpC" => ((k_here; (with_reducible show wpC _ _ (call (Value.ref _) _ _) _ _ _); (refine' of_anyD ?qqd ?_; (case qqd => (walk_at "dirty")))))
  k_with "wpC" => ((k_here; (with_reducible show wpC _ _ (exec (Stmt.While _ _ _ _) _) _ _ _); (refine c_While ?_)))
  k_with "wpC" => ((k_here; (with_reducible show wpC _ _ (exec (Stmt.If _ _ _ _) _) _ _ _); (refine c_If ?_)))
  k_with "wpC" => ((k_here; (with_reducible show wpC _ _ (exec (Stmt.Assign [Expr.Subscript _ (Expr.Slice _ _ _ _) _] _ _) _) _ _ _); k_dflt (refine c_Assign_Subscript ?_)))
  k_with "wpC" => ((k_here; (with_reducible show wpC _ _ (exec (Stmt.Expr (Expr.Call (Expr.Attribute _ _ _) _ _ _) _) _) _ _ _); k_dflt (refine' c_ExprD ?qqd ?_; (case qqd => (walk_at "dirty")))))
  k_with "wpC" => ((k_here; (with_reducible show wpC _ _ (exec (Stmt.Return (some (Expr.Call (Expr.Attribute _ _ _) _ _ _)) _) _) _ _ _); k_dflt (refine' c_ReturnD ?qqd ?_; (case qqd => (walk_at "dirty")))))
  k_with "wpC" => ((k_here; (with_reducible show wpC _ _ (exec (Stmt.Assign [Expr.Name _ _] (Expr.Call (Expr.Attribute _ _ _) _ _ _) _) _) _ _ _); k_dflt (refine' c_AssignD ?qqd ?_; (case qqd => (walk_at "dirty")))))
  k_with "wpC" => ((k_here; (with_reducible show wpC _ _ (eval (Expr.Call (Expr.Attribute _ _ _) _ _ _) _) _ _ _); k_dflt (refine' c_MethodCallSD ?qqd ?_; (case qqd => (walk_at "dirty")))))
  k_with "wpC" => ((k_here; (with_reducible show wpC _ _ (eval (Expr.Call (Expr.Attribute _ _ _) _ _ _) _) _ _ _); k_dflt (refine' c_MethodCallD ?qqd ?_; (case qqd => (walk_at "dirty")))))
  k_with "wpC" => ((k_here; (with_reducible show wpC _ _ (exec (Stmt.Assign [Expr.Name _ _] (Expr.Call (Expr.Name (PySem.Str.ofString "Builder") _) _ _ _) _) _) _ _ _); k_dflt (refine c_Assign_Name ?_)))
  k_with "wpC" => ((k_here; (with_reducible show wpC _ _ (eval (Expr.Call (Expr.Name (PySem.Str.ofString "Builder") _) _ _ _) _) _ _ _); k_dflt (refine c_Call ?_)))
  k_with "wpC" => ((k_here; (with_reducible show wpC _ _ (exec (Stmt.Assign [Expr.Name _ _] (Expr.Call (Expr.Name (PySem.Str.ofString "_law_made") _) _ _ _) _) _) _ _ _); k_dflt (refine c_Assign_Name ?_)))
  k_with "wpC" => ((k_here; (with_reducible show wpC _ _ (eval (Expr.Call (Expr.Name (PySem.Str.ofString "_law_made") _) _ _ _) _) _ _ _); k_dflt (refine c_Call ?_)))
  k_with "wpC" => ((k_here; (with_reducible show wpC _ _ (exec (Stmt.Assign [Expr.Attribute _ _ _] (Expr.Call (Expr.Name (PySem.Str.ofString "bytearray") _) _ _ _) _) _) _ _ _); k_dflt (refine c_Assign_Attr ?_)))
  k_with "wpC" => ((k_here; (with_reducible show wpC _ _ (exec (Stmt.Assign [Expr.Name _ _] (Expr.Call (Expr.Name (PySem.Str.ofString "bytearray") _) _ _ _) _) _) _ _ _); k_dflt (refine c_Assign_Name ?_)))
  k_with "wpC" => ((k_here; (with_reducible show wpC _ _ (eval (Expr.Call (Expr.Name (PySem.Str.ofString "bytearray") _) _ _ _) _) _ _ _); k_dflt (refine c_Call ?_)))
  k_with "wpC" => ((k_here; (with_reducible show wpC _ _ (execs [] _) _ _ _); (refine c_execs_nil ?_)))
  k_with "wpC" => ((k_here; (with_reducible show wpC _ _ (execs (_ :: _) _) _ _ _); (refine c_execs_cons ?_)))
  k_with "wpC" => ((k_here; (with_reducible show wpC _ _ (callWith _ (Value.ref _) _ _ _) _ _ _); k_dflt (first | refine' c_callWith_K ?qqk1 ?qqk2 ?_; (case qqk1 => k_asm); (case qqk2 => k_is); k_whole | refine' c_callWith_S ?qqk1 ?qqk2 ?_; (case qqk1 => k_asm); (case qqk2 => k_is); k_whole | refine' c_callWith_MS ?qqk1 ?qqk2 ?qqk3 ?qqk4 ?_; (case qqk1 => k_asm); (case qqk2 => k_asm); (case qqk3 => k_mem); (case qqk4 => k_is); k_whole | refine' c_callWith_K0 ?qqk1 ?qqk2 ?_; (case qqk1 => k_in); (case qqk2 => k_is); k_whole | refine' c_callWith_KW ?qqk1 ?qqk2 ?qqk3 ?_; (case qqk1 => k_asm); (case qqk2 => k_is); (case qqk3 => exact rfl); k_whole)))
  k_with "wpC" => ((k_here; (with_reducible show wpC _ _ (callWith _ (Value.type _) _ _ _) _ _ _); k_dflt (refine' c_callWith_T ?_)))
  k_with "wpC" => ((k_here; (with_reducible show wpC _ _ (setItem (Value.ref _) (Value.ref _) (Value.bytes _ _)) _ _ _); k_dflt (refine' c_setN (s := ⟨_, _, _, _, _⟩) ?qqg ?qqF ?qqN ?qqU ?qqh ?qqej ?qqh0 ?qqhs ?qqz ?_; (case qqF => k_asm); (case qqN => k_asm); (case qqU => k_updF); (case qqh => k_asm); (case qqg => exact rfl); (case qqej => (walk_at "cl"; omega)); (case qqh0 => (walk_at "cl"; omega)); (case qqhs => ((walk_at "cl"); first | omega | (simp only [List.length_append, List.length_replicate, Array.size_replicate, lay_length, List.length_nil] at *; omega))); (case qqz => (walk_at "cl"; omega)); k_whole); intro _ _ _ _ _ _; (try k_sweep)))
  k_with "wpC" => ((k_here; (with_reducible show wpC _ _ (call (Value.type _) [Value.int _ _]) _ _ _); k_dflt (refine' c_new_int ?qqg ?qqF ?qqN ?qqh0 ?qqhz ?_; (case qqg => exact rfl); (case qqF => k_asm); (case qqN => k_asm); (case qqh0 => (walk_at "cl"; omega)); (case qqhz => (walk_at "cl"; omega)); k_whole); intro _ _ _ _ _; (try (walk_at "lt1")); (try k_sweep)))
  k_with "wpC" => ((k_here; (with_reducible show wpC _ _ (call (Value.type _) [Value.bytes _ _]) _ _ _); k_dflt (refine' c_new_bytes ?qqg ?qqF ?qqN ?qqhz ?_; (case qqg => exact rfl); (case qqF => k_asm); (case qqN => k_asm); (case qqhz => (walk_at "cl"; omega)); k_whole); intro _ _ _ _ _; (try (walk_at "lt1")); (try k_sweep)))
  k_with "LeaveM" => ((k_dflt (refine' leaveM_ ?qqk1 ?qqk2 ?_; (case qqk1 => k_asm); (case qqk2 => k_asm); k_whole); intro _ _ _; (try dsimp only [InitBack, CmpBack, LenBack, StrBack, BoolBack]); (try refine ⟨rfl, ?_⟩)))
  k_with "getMethod str" => ((k_here; (with_reducible show wpAny _ _ (getMethod (Value.str _ _) (PySem.Str.ofString "encode") _) _ _ _); k_dflt (refine' str_encode_get ?_; k_whole)))
  k_with "call builtin:str.encode" => ((k_here; k_dflt (refine' str_encode ?qqh ?qqz ?_; (case qqh => k_asm); (case qqz => (walk_at "cl"; omega)); k_whole); intro _ _))
  k_with "getAttr ref" => ((k_here; k_dflt (refine' kbm_boundS ?qqk1 ?qqk2 ?qqk3 ?qqk4 ?qqk5 ?qqk6 ?qqk6b ?qqk7 ?qqk8 ?qqk9 ?qqk10 ?qqk11 ?_; (case qqk4 => k_inst); (case qqk1 => k_asm); (case qqk2 => k_asm); (case qqk7 => k_is); (case qqk3 => k_asm); (case qqk5 => k_is); (case qqk6 => k_is); (case qqk6b => k_is); (case qqk8 => k_is); (case qqk9 => k_is); (case qqk10 => k_is); (case qqk11 => decide +kernel); k_whole); intro _ _ _ _ _; (try (walk_at "lt1")); (try k_sweep)))
  k_with "eval Name" => ((k_here; (with_reducible show wpAny _ _ (eval (Expr.Name (PySem.Str.ofString "bytearray") _) _) _ _ _); with_unfolding_all refine guard_global (by rfl) ?_; k_dflt (refine' name_B ?qqkF ?qqk1 ?qqk2 ?qqk3 ?qqk4 ?qqk5 ?_; (case qqkF => with_reducible assumption); (case qqk1 => with_reducible assumption); (case qqk2 => k_asm); (case qqk3 => k_is); (case qqk4 => boot_by_name); (case qqk5 => decide); k_whole)))
  k_with "getAttr ref" => ((k_here; (with_reducible show wpAny _ _ (getAttr (Value.ref _) _ _) _ _ _); k_dflt (refine' get_slot ?qqk1 ?qqk2 ?qqk3 ?qqk4 ?qqk5 ?qqk6 ?qqk7 ?qqk8 ?qqk9 ?qqk10 ?qqk11 ?_; (case qqk1 => with_reducible assumption); (case qqk2 => with_reducible assumption); (case qqk3 => k_inst); (case qqk4 => k_is); (case qqk5 => k_is); (case qqk6 => k_is); (case qqk7 => k_is); (case qqk8 => k_is); (case qqk9 => k_is); (case qqk10 => k_slotget); (case qqk11 => k_handed); k_whole)))
  k_with "ite" => ((k_here; k_openite; k_dflt (first | (refine ite_pos (by ((walk_at "cl"); (try simp only [decide_eq_true_eq, beq_iff_eq, bne_iff_ne, ne_eq]); omega)) ?_) | (refine ite_neg (by ((walk_at "cl"); (try simp only [decide_eq_true_eq, beq_iff_eq, bne_iff_ne, ne_eq]); omega)) ?_)); walk_say "PRUNED here"))
  k_with "binaryOp Mult bytes int" => ((k_here; k_dflt (refine' zeros_mul ?qqh0 ?qqhn ?_; (case qqh0 => (walk_at "cl"; omega)); (case qqhn => (walk_at "cl"; omega)); k_whole); intro _ _))
  k_with "call builtin:len" => ((k_here; (with_reducible show wpAny _ _ (call (Value.builtin "len") [Value.ref _]) _ _ _); k_dflt (refine' ba_lenN ?qqN ?qqm ?qqz ?_; (case qqN => k_asm); (case qqm => k_mem); (case qqz => (walk_at "cl"; omega)); k_whole)))
  k_with "setItem ref ref" => ((k_here; (with_reducible show wpAny _ _ (setItem (Value.ref _) (Value.ref _) (Value.ref _)) _ _ _); k_dflt (refine' ba_setN (s := ⟨_, _, _, _, _⟩) ?qqF ?qqN ?qqU ?qqm ?qqne ?qqh0 ?qqhs ?qqhz ?_; (case qqF => k_asm); (case qqN => k_asm); (case qqU => k_updF); (case qqm => k_mem); (case qqne => k_ne); (case qqh0 => (walk_at "cl"; omega)); (case qqhs => ((walk_at "cl"); first | omega | (simp only [List.length_append, List.length_replicate, Array.size_replicate, lay_length, List.length_nil] at *; omega))); (case qqhz => ((walk_at "cl"); first | omega | (simp only [List.length_append, List.length_replicate, Array.size_replicate, lay_length, List.length_nil] at *; omega))); k_whole); intro _ _ _ _ _ _; (try k_sweep)))
  k_with "getMethod ref" => ((k_here; (with_reducible show wpAny _ _ (getMethod (Value.ref _) (PySem.Str.ofString "unpack_from") _) _ _ _); k_dflt (refine' so_fromK ?qqX ?qqh ?_; (case qqX => k_in); (case qqh => exact rfl); k_whole)))
  k_with "getMethod ref" => ((k_here; (with_reducible show wpAny _ _ (getMethod (Value.ref _) (PySem.Str.ofString "pack_into") _) _ _ _); k_dflt (refine' so_intoK ?qqX ?qqh ?_; (case qqX => k_in); (case qqh => exact rfl); k_whole)))
  k_with "call builtin:_struct.Struct.unpack_from" => ((k_here; k_dflt (refine' so_fromN ?qqX ?qqF ?qqN ?qqh ?qqf ?qqb ?qqh0 ?qqh1 ?qqhz ?_; (case qqX => k_in); (case qqF => k_asm); (case qqN => k_asm); (case qqh => exact rfl); (case qqf => constructor); (case qqb => first | exact .inl ⟨_, rfl⟩ | exact .inr ⟨_, rfl, by k_mem⟩); (case qqh0 => (walk_at "cl"; omega)); (case qqh1 => (walk_at "cl"; omega)); (case qqhz => (walk_at "cl"; omega)); k_whole); intro _ _ _ _ _ _ _; (try (walk_at "lt1")); (try k_sweep)))
  k_with "call builtin:_struct.Struct.unpack_from" => ((k_here; k_dflt (refine' so_fromB ?qqX ?qqF ?qqN ?qqh ?qqf ?qqb ?qqh0 ?qqh1 ?qqhz ?_; (case qqX => k_in); (case qqF => k_asm); (case qqN => k_asm); (case qqh => exact rfl); (case qqf => constructor); (case qqb => exact BufIn.keep (by assumption) (by k_asm)); (case qqh0 => (walk_at "cl"; omega)); (case qqh1 => (walk_at "cl"; omega)); (case qqhz => (walk_at "cl"; omega)); k_whole); intro _ _ _ _ _ _ _; (try (walk_at "lt1")); (try k_sweep)))
  k_with "call builtin:_struct.Struct.pack_into" => ((k_here; k_dflt (refine' so_intoN ?qqX ?qqF ?qqN ?qqU ?qqh ?qqf ?qqh0 ?qqh1 ?qqhz ?qqlo ?qqhi ?_; (case qqX => k_in); (case qqF => k_asm); (case qqN => k_asm); (case qqU => k_updF); (case qqh => exact rfl); (case qqf => constructor); (case qqh0 => (walk_at "cl"; omega)); (case qqh1 => (walk_at "cl"; omega)); (case qqhz => (walk_at "cl"; omega)); (case qqlo => ((first | rw [if_neg (by decide)] | rw [if_pos (by decide)]); (try simp only [Nat.reduceMul, Nat.reduceSub, Int.reducePow, Int.reduceNeg]); walk_at "cl"; omega)); (case qqhi => ((first | rw [if_neg (by decide)] | rw [if_pos (by decide)]); (try simp only [Nat.reduceMul, Nat.reduceSub, Int.reducePow, Int.reduceNeg]); walk_at "cl"; omega)); k_whole); intro _ _ _; (try k_sweep)))
  k_with "wpC" => ((k_here; (with_reducible show wpC _ _ (call (Value.ref _) _ _) _ _ _); (walk_at "wpCc")))
  k_with "getAttr ref" => ((k_here; (with_reducible show wpAny _ _ (getAttr (Value.ref _) (PySem.Str.ofString "py_type") _) _ _ _); k_dflt (refine' cls_int ?qqF ?qqX ?qqm ?qqr ?qqe0 ?qqe1 ?qqh ?_; (case qqF => k_asm); (case qqX => k_asm); (case qqm => k_is); (case qqr => k_is); (case qqe0 => k_is); (case qqe1 => k_is); (case qqh => decide +kernel); k_whole)))
  k_with "getAttr ref" => ((k_here; k_dflt (refine' get_slot ?qqk1 ?qqk2 ?qqk3 ?qqk4 ?qqk5 ?qqk6 ?qqk7 ?qqk8 ?qqk9 ?qqk10 ?qqk11 ?_; (case qqk1 => k_asm); (case qqk2 => k_asm); (case qqk3 => k_inst); (case qqk4 => k_is); (case qqk5 => k_is); (case qqk6 => k_is); (case qqk7 => k_is); (case qqk8 => k_is); (case qqk9 => k_is); (case qqk10 => k_slotget); (case qqk11 => exact BufIn.handed (by assumption)); k_whole)))
  k_with "call ref" => ((k_here; (with_reducible show wpAny _ _ (call (Value.ref 152) [_, Value.ref 131] _) _ _ _); k_dflt (refine' enf131_k ?qqB ?qqF ?qqX ?qqT ?qqhk ?qqhd ?qqhu ?qqf0 ?qqf1 (part_of ?qqN (sub0 ) ?qqS) ?_; (case qqB => k_asm); (case qqF => k_asm); (case qqX => k_asm); (case qqT => k_asm); (case qqhk => first | exact rfl | assumption); (case qqN => k_asm); (case qqhd => (walk_at "room")); (case qqhu => (walk_at "units")); (case qqf0 => (walk_at "ft")); (case qqf1 => (walk_at "ft")); (case qqS => (walk_at "sel"))); intro _ _  _ _ _; (walk_at "fin9")))
  k_with "call ref" => ((k_here; (with_reducible show wpAny _ _ (call (Value.ref 159) [Value.ref 51, _, _] _) _ _ _); k_dflt (refine' get51_k ?qqB ?qqF ?qqX ?qqT ?qqhk ?qqhd ?qqhu ?qqf0 ?qqf1 ?qqf2 ?qqf3 (part_of ?qqN (sub0 ) ?qqS) ?_; (case qqB => k_asm); (case qqF => k_asm); (case qqX => k_asm); (case qqT => k_asm); (case qqhk => first | exact rfl | assumption); (case qqN => k_asm); (case qqhd => (walk_at "room")); (case qqhu => (walk_at "units")); (case qqf0 => (exact BufIn.keep (by assumption) (by k_asm))); (case qqf1 => (walk_at "ft")); (case qqf2 => (walk_at "ft")); (case qqf3 => (walk_at "ft")); (case qqS => (walk_at "sel"))); intro _ _ _ _ _ _; (walk_at "fin9")))
  k_with "call ref" => ((k_here; (with_reducible show wpAny _ _ (call (Value.ref 159) [Value.ref 52, _, _] _) _ _ _); k_dflt (refine' get52_k ?qqB ?qqF ?qqX ?qqT ?qqhk ?qqhd ?qqhu ?qqf0 ?qqf1 ?qqf2 ?qqf3 (part_of ?qqN (sub0 ) ?qqS) ?_; (case qqB => k_asm); (case qqF => k_asm); (case qqX => k_asm); (case qqT => k_asm); (case qqhk => first | exact rfl | assumption); (case qqN => k_asm); (case qqhd => (walk_at "room")); (case qqhu => (walk_at "units")); (case qqf0 => (exact BufIn.keep (by assumption) (by k_asm))); (case qqf1 => (walk_at "ft")); (case qqf2 => (walk_at "ft")); (case qqf3 => (walk_at "ft")); (case qqS => (walk_at "sel"))); intro _ _ _ _ _ _; (walk_at "fin9")))
  k_with "call ref" => ((k_here; (with_reducible show wpAny _ _ (call (Value.ref 159) [Value.ref 53, _, _] _) _ _ _); k_dflt (refine' get53_k ?qqB ?qqF ?qqX ?qqT ?qqhk ?qqhd ?qqhu ?qqf0 ?qqf1 ?qqf2 ?qqf3 (part_of ?qqN (sub0 ) ?qqS) ?_; (case qqB => k_asm); (case qqF => k_asm); (case qqX => k_asm); (case qqT => k_asm); (case qqhk => first | exact rfl | assumption); (case qqN => k_asm); (case qqhd => (walk_at "room")); (case qqhu => (walk_at "units")); (case qqf0 => (exact BufIn.keep (by assumption) (by k_asm))); (case qqf1 => (walk_at "ft")); (case qqf2 => (walk_at "ft")); (case qqf3 => (walk_at "ft")); (case qqS => (walk_at "sel"))); intro _ _ _ _ _ _; (walk_at "fin9")))
  trivial

theorem tget91_k : ∀ {w : World} {mean : ExcName → Option Value} {mg mb : Str → Option Value} {dp un : Nat} {cn : Str} {cs : Scope} {a : Addr} {ccd : Value} {cl : List (Str × Addr)} {outer : List Env} {A₀ : Around} {base h₀ : Heap} {L : Addr} {m : Str → Option Value} {s : Shared}
    {Q E : Value → Shared → Prop} {rest : List (Addr × Obj)} (B : Below A₀ base outer h₀) (F : Fr h₀ L s.heap m) (X : (Mine.hd.heap_39 w.params).In h₀) (T : Top Mine.hd.view_39 LO mean mg mb h₀) (hk : cs.kind = .function) (hd : dp + 2 < recursionLimit) (hu : un + 16 < cLine) {t : Addr} {tdx : Addr} {bv : Value} {arr : Array UInt8} {pos : Int} {tp : Tok} {p : Int} {u : Tok} {x : Int} (HB : BufIn s.heap bv arr) (hz : arr.size ≤ 4096) (h0 : 0 ≤ p) (h1 : p + 4 ≤ arr.size) (hx : told 'I' 4 (arr.extract (p).toNat ((p).toNat + 4)) = x) (P : Part h₀ L s.heap [(t, TO tdx bv pos tp), (tdx, dictOf [] 0)] rest)
    (hret : ∀ (h' : Heap) (tk' : Nat) (tk2 : Tok), Fr h₀ L h' m → News h₀ L h' ([(t, TO tdx bv pos tp), (tdx, dictOf [] 0)] ++ rest) → AllNes [(t, TO tdx bv pos tp), (tdx, dictOf [] 0)] rest → Q (.int x tk2) { s with heap := h', toks := tk' }),
    wpAny (model _root_.PySem.Challenge.rw_bp0005_01.row.prog w) (ktrTop dp un (some []) cn cs L a ccd cl outer) (call (.ref 230) [.ref t, .ref 91, .int p u] ) Q E s := by
  refine @Mine.hush _ (by
  k_fill
  intro w mean mg mb dp un cn cs a ccd cl outer A₀ base h₀ L m s Q E rest B F X T hk hd hu t tdx bv arr pos tp p u x HB hz h0 h1 hx P hret
  have N := P.news
  have hdis := P.dis
  have n1 := newsTO N
  refine wpAny_call ?_
  k_dflt (refine' defA ?k1 ?k2 ?k3 ?k4 ?kd ?k5 ?kA ?kF ?kK ?k6 ?k7 ?k8 ?k9 ?kB ?_ ?c2 ?c3 ?c4 ?c5; (case kA => exact rfl); (case kF => exact rfl); (case kK => assumption); (case k1 => k_asm); (case k2 => k_asm); (case k3 => k_asm); (case k4 => k_asm); (case kd => k_asm); (case k5 => k_asm); (case k6 => k_is); (case k7 => k_is); (case k8 => ktr_room); (case k9 => exact BindsTo.of_eq rfl); (case c5 => decide); (case kB => exact locs rfl); (case c2 => exact rfl); (case c3 => exact rfl); (case c4 => exact rfl); k_whole; intro g' L' h' FG' F' N' B' X' T' l0 G; (try dsimp only); (try k_fold))
  have HBg := HB.enter P.news G clsTO
  k_steps
  all_goals dsimp only [wants]
  all_goals (rename_i kF kN kD; rw [← hx] at hret; exact hret _ _ _ kF (news_sub kN (sub2 (by k_mem) (by k_mem))) (allNes_of (dis_sub kD (sub2 (by k_mem) (by k_mem)))))) ?_
  intro q f
  simpa using Mine.hushed f 5 fun n i => i
theorem setup_KT_2 : True := by
  k_with "call ref" => ((k_here; (with_reducible show wpAny _ _ (call (Value.ref 230) [_, Value.ref 91, _] _) _ _ _); k_dflt (refine' tget91_k ?qqB ?qqF ?qqX ?qqT ?qqhk ?qqhd ?qqhu ?qqf0 ?qqf1 ?qqf2 ?qqf3 ?qqf4 (part_of ?qqN (sub2 ?qqm0 ?qqm1) ?qqS) ?_; (case qqB => k_asm); (case qqF => k_asm); (case qqX => k_asm); (case qqT => k_asm); (case qqhk => first | exact rfl | assumption); (case qqN => k_asm); (case qqm0 => k_mem); (case qqm1 => k_mem); (case qqhd => (walk_at "room")); (case qqhu => (walk_at "units")); (case qqf0 => (exact BufIn.keep (by assumption) (by k_asm))); (case qqf1 => (walk_at "ft")); (case qqf2 => (walk_at "ft")); (case qqf3 => (walk_at "ft")); (case qqf4 => (first | with_reducible assumption | exact rfl)); (case qqS => (walk_at "sel"))); intro _ _ _ _ _ _; (walk_at "fin9")))
  trivial

theorem tget77_k : ∀ {w : World} {mean : ExcName → Option Value} {mg mb : Str → Option Value} {dp un : Nat} {cn : Str} {cs : Scope} {a : Addr} {ccd : Value} {cl : List (Str × Addr)} {outer : List Env} {A₀ : Around} {base h₀ : Heap} {L : Addr} {m : Str → Option Value} {s : Shared}
    {Q E : Value → Shared → Prop} {rest : List (Addr × Obj)} (B : Below A₀ base outer h₀) (F : Fr h₀ L s.heap m) (X : (Mine.hd.heap_39 w.params).In h₀) (T : Top Mine.hd.view_39 LO mean mg mb h₀) (hk : cs.kind = .function) (hd : dp + 2 < recursionLimit) (hu : un + 16 < cLine) {t : Addr} {tdx : Addr} {bv : Value} {arr : Array UInt8} {pos : Int} {tp : Tok} {p : Int} {u : Tok} {x : Int} (HB : BufIn s.heap bv arr) (hz : arr.size ≤ 4096) (h0 : 0 ≤ p) (h1 : p + 2 ≤ arr.size) (hx : told 'H' 2 (arr.extract (p).toNat ((p).toNat + 2)) = x) (P : Part h₀ L s.heap [(t, TO tdx bv pos tp), (tdx, dictOf [] 0)] rest)
    (hret : ∀ (h' : Heap) (tk' : Nat) (tk2 : Tok), Fr h₀ L h' m → News h₀ L h' ([(t, TO tdx bv pos tp), (tdx, dictOf [] 0)] ++ rest) → AllNes [(t, TO tdx bv pos tp), (tdx, dictOf [] 0)] rest → Q (.int x tk2) { s with heap := h', toks := tk' }),
    wpAny (model _root_.PySem.Challenge.rw_bp0005_01.row.prog w) (ktrTop dp un (some []) cn cs L a ccd cl outer) (call (.ref 230) [.ref t, .ref 77, .int p u] ) Q E s := by
  refine @Mine.hush _ (by
  k_fill
  intro w mean mg mb dp un cn cs a ccd cl outer A₀ base h₀ L m s Q E rest B F X T hk hd hu t tdx bv arr pos tp p u x HB hz h0 h1 hx P hret
  have N := P.news
  have hdis := P.dis
  have n1 := newsTO N
  refine wpAny_call ?_
  k_dflt (refine' defA ?k1 ?k2 ?k3 ?k4 ?kd ?k5 ?kA ?kF ?kK ?k6 ?k7 ?k8 ?k9 ?kB ?_ ?c2 ?c3 ?c4 ?c5; (case kA => exact rfl); (case kF => exact rfl); (case kK => assumption); (case k1 => k_asm); (case k2 => k_asm); (case k3 => k_asm); (case k4 => k_asm); (case kd => k_asm); (case k5 => k_asm); (case k6 => k_is); (case k7 => k_is); (case k8 => ktr_room); (case k9 => exact BindsTo.of_eq rfl); (case c5 => decide); (case kB => exact locs rfl); (case c2 => exact rfl); (case c3 => exact rfl); (case c4 => exact rfl); k_whole; intro g' L' h' FG' F' N' B' X' T' l0 G; (try dsimp only); (try k_fold))
  have HBg := HB.enter P.news G clsTO
  k_steps
  all_goals dsimp only [wants]
  all_goals (rename_i kF kN kD; rw [← hx] at hret; exact hret _ _ _ kF (news_sub kN (sub2 (by k_mem) (by k_mem))) (allNes_of (dis_sub kD (sub2 (by k_mem) (by k_mem)))))) ?_
  intro q f
  simpa using Mine.hushed f 5 fun n i => i
theorem setup_KT_3 : True := by
  k_with "call ref" => ((k_here; (with_reducible show wpAny _ _ (call (Value.ref 230) [_, Value.ref 77, _] _) _ _ _); k_dflt (refine' tget77_k ?qqB ?qqF ?qqX ?qqT ?qqhk ?qqhd ?qqhu ?qqf0 ?qqf1 ?qqf2 ?qqf3 ?qqf4 (part_of ?qqN (sub2 ?qqm0 ?qqm1) ?qqS) ?_; (case qqB => k_asm); (case qqF => k_asm); (case qqX => k_asm); (case qqT => k_asm); (case qqhk => first | exact rfl | assumption); (case qqN => k_asm); (case qqm0 => k_mem); (case qqm1 => k_mem); (case qqhd => (walk_at "room")); (case qqhu => (walk_at "units")); (case qqf0 => (exact BufIn.keep (by assumption) (by k_asm))); (case qqf1 => (walk_at "ft")); (case qqf2 => (walk_at "ft")); (case qqf3 => (walk_at "ft")); (case qqf4 => (first | with_reducible assumption | exact rfl)); (case qqS => (walk_at "sel"))); intro _ _ _ _ _ _; (walk_at "fin9")))
  trivial

theorem tget119_k : ∀ {w : World} {mean : ExcName → Option Value} {mg mb : Str → Option Value} {dp un : Nat} {cn : Str} {cs : Scope} {a : Addr} {ccd : Value} {cl : List (Str × Addr)} {outer : List Env} {A₀ : Around} {base h₀ : Heap} {L : Addr} {m : Str → Option Value} {s : Shared}
    {Q E : Value → Shared → Prop} {rest : List (Addr × Obj)} (B : Below A₀ base outer h₀) (F : Fr h₀ L s.heap m) (X : (Mine.hd.heap_39 w.params).In h₀) (T : Top Mine.hd.view_39 LO mean mg mb h₀) (hk : cs.kind = .function) (hd : dp + 2 < recursionLimit) (hu : un + 16 < cLine) {t : Addr} {tdx : Addr} {bv : Value} {arr : Array UInt8} {pos : Int} {tp : Tok} {p : Int} {u : Tok} {x : Int} (HB : BufIn s.heap bv arr) (hz : arr.size ≤ 4096) (h0 : 0 ≤ p) (h1 : p + 4 ≤ arr.size) (hx : told 'i' 4 (arr.extract (p).toNat ((p).toNat + 4)) = x) (P : Part h₀ L s.heap [(t, TO tdx bv pos tp), (tdx, dictOf [] 0)] rest)
    (hret : ∀ (h' : Heap) (tk' : Nat) (tk2 : Tok), Fr h₀ L h' m → News h₀ L h' ([(t, TO tdx bv pos tp), (tdx, dictOf [] 0)] ++ rest) → AllNes [(t, TO tdx bv pos tp), (tdx, dictOf [] 0)] rest → Q (.int x tk2) { s with heap := h', toks := tk' }),
    wpAny (model _root_.PySem.Challenge.rw_bp0005_01.row.prog w) (ktrTop dp un (some []) cn cs L a ccd cl outer) (call (.ref 230) [.ref t, .ref 119, .int p u] ) Q E s := by
  refine @Mine.hush _ (by
  k_fill
  intro w mean mg mb dp un cn cs a ccd cl outer A₀ base h₀ L m s Q E rest B F X T hk hd hu t tdx bv arr pos tp p u x HB hz h0 h1 hx P hret
  have N := P.news
  have hdis := P.dis
  have n1 := newsTO N
  refine wpAny_call ?_
  k_dflt (refine' defA ?k1 ?k2 ?k3 ?k4 ?kd ?k5 ?kA ?kF ?kK ?k6 ?k7 ?k8 ?k9 ?kB ?_ ?c2 ?c3 ?c4 ?c5; (case kA => exact rfl); (case kF => exact rfl); (case kK => assumption); (case k1 => k_asm); (case k2 => k_asm); (case k3 => k_asm); (case k4 => k_asm); (case kd => k_asm); (case k5 => k_asm); (case k6 => k_is); (case k7 => k_is); (case k8 => ktr_room); (case k9 => exact BindsTo.of_eq rfl); (case c5 => decide); (case kB => exact locs rfl); (case c2 => exact rfl); (case c3 => exact rfl); (case c4 => exact rfl); k_whole; intro g' L' h' FG' F' N' B' X' T' l0 G; (try dsimp only); (try k_fold))
  have HBg := HB.enter P.news G clsTO
  k_steps
  all_goals dsimp only [wants]
  all_goals (rename_i kF kN kD; rw [← hx] at hret; exact hret _ _ _ kF (news_sub kN (sub2 (by k_mem) (by k_mem))) (allNes_of (dis_sub kD (sub2 (by k_mem) (by k_mem)))))) ?_
  intro q f
  simpa using Mine.hushed f 5 fun n i => i
theorem setup_KT_4 : True := by
  k_with "call ref" => ((k_here; (with_reducible show wpAny _ _ (call (Value.ref 230) [_, Value.ref 119, _] _) _ _ _); k_dflt (refine' tget119_k ?qqB ?qqF ?qqX ?qqT ?qqhk ?qqhd ?qqhu ?qqf0 ?qqf1 ?qqf2 ?qqf3 ?qqf4 (part_of ?qqN (sub2 ?qqm0 ?qqm1) ?qqS) ?_; (case qqB => k_asm); (case qqF => k_asm); (case qqX => k_asm); (case qqT => k_asm); (case qqhk => first | exact rfl | assumption); (case qqN => k_asm); (case qqm0 => k_mem); (case qqm1 => k_mem); (case qqhd => (walk_at "room")); (case qqhu => (walk_at "units")); (case qqf0 => (exact BufIn.keep (by assumption) (by k_asm))); (case qqf1 => (walk_at "ft")); (case qqf2 => (walk_at "ft")); (case qqf3 => (walk_at "ft")); (case qqf4 => (first | with_reducible assumption | exact rfl)); (case qqS => (walk_at "sel"))); intro _ _ _ _ _ _; (walk_at "fin9")))
  trivial

theorem tget143_k : ∀ {w : World} {mean : ExcName → Option Value} {mg mb : Str → Option Value} {dp un : Nat} {cn : Str} {cs : Scope} {a : Addr} {ccd : Value} {cl : List (Str × Addr)} {outer : List Env} {A₀ : Around} {base h₀ : Heap} {L : Addr} {m : Str → Option Value} {s : Shared}
    {Q E : Value → Shared → Prop} {rest : List (Addr × Obj)} (B : Below A₀ base outer h₀) (F : Fr h₀ L s.heap m) (X : (Mine.hd.heap_39 w.params).In h₀) (T : Top Mine.hd.view_39 LO mean mg mb h₀) (hk : cs.kind = .function) (hd : dp + 2 < recursionLimit) (hu : un + 16 < cLine) {t : Addr} {tdx : Addr} {bv : Value} {arr : Array UInt8} {pos : Int} {tp : Tok} {p : Int} {u : Tok} {x : Int} (HB : BufIn s.heap bv arr) (hz : arr.size ≤ 4096) (h0 : 0 ≤ p) (h1 : p + 2 ≤ arr.size) (hx : told 'H' 2 (arr.extract (p).toNat ((p).toNat + 2)) = x) (P : Part h₀ L s.heap [(t, TO tdx bv pos tp), (tdx, dictOf [] 0)] rest)
    (hret : ∀ (h' : Heap) (tk' : Nat) (tk2 : Tok), Fr h₀ L h' m → News h₀ L h' ([(t, TO tdx bv pos tp), (tdx, dictOf [] 0)] ++ rest) → AllNes [(t, TO tdx bv pos tp), (tdx, dictOf [] 0)] rest → Q (.int x tk2) { s with heap := h', toks := tk' }),
    wpAny (model _root_.PySem.Challenge.rw_bp0005_01.row.prog w) (ktrTop dp un (some []) cn cs L a ccd cl outer) (call (.ref 230) [.ref t, .ref 143, .int p u] ) Q E s := by
  refine @Mine.hush _ (by
  k_fill
  intro w mean mg mb dp un cn cs a ccd cl outer A₀ base h₀ L m s Q E rest B F X T hk hd hu t tdx bv arr pos tp p u x HB hz h0 h1 hx P hret
  have N := P.news
  have hdis := P.dis
  have n1 := newsTO N
  refine wpAny_call ?_
  k_dflt (refine' defA ?k1 ?k2 ?k3 ?k4 ?kd ?k5 ?kA ?kF ?kK ?k6 ?k7 ?k8 ?k9 ?kB ?_ ?c2 ?c3 ?c4 ?c5; (case kA => exact rfl); (case kF => exact rfl); (case kK => assumption); (case k1 => k_asm); (case k2 => k_asm); (case k3 => k_asm); (case k4 => k_asm); (case kd => k_asm); (case k5 => k_asm); (case k6 => k_is); (case k7 => k_is); (case k8 => ktr_room); (case k9 => exact BindsTo.of_eq rfl); (case c5 => decide); (case kB => exact locs rfl); (case c2 => exact rfl); (case c3 => exact rfl); (case c4 => exact rfl); k_whole; intro g' L' h' FG' F' N' B' X' T' l0 G; (try dsimp only); (try k_fold))
  have HBg := HB.enter P.news G clsTO
  k_steps
  all_goals dsimp only [wants]
  all_goals (rename_i kF kN kD; rw [← hx] at hret; exact hret _ _ _ kF (news_sub kN (sub2 (by k_mem) (by k_mem))) (allNes_of (dis_sub kD (sub2 (by k_mem) (by k_mem)))))) ?_
  intro q f
  simpa using Mine.hushed f 5 fun n i => i
theorem setup_KT_5 : True := by
  k_with "call ref" => ((k_here; (with_reducible show wpAny _ _ (call (Value.ref 230) [_, Value.ref 143, _] _) _ _ _); k_dflt (refine' tget143_k ?qqB ?qqF ?qqX ?qqT ?qqhk ?qqhd ?qqhu ?qqf0 ?qqf1 ?qqf2 ?qqf3 ?qqf4 (part_of ?qqN (sub2 ?qqm0 ?qqm1) ?qqS) ?_; (case qqB => k_asm); (case qqF => k_asm); (case qqX => k_asm); (case qqT => k_asm); (case qqhk => first | exact rfl | assumption); (case qqN => k_asm); (case qqm0 => k_mem); (case qqm1 => k_mem); (case qqhd => (walk_at "room")); (case qqhu => (walk_at "units")); (case qqf0 => (exact BufIn.keep (by assumption) (by k_asm))); (case qqf1 => (walk_at "ft")); (case qqf2 => (walk_at "ft")); (case qqf3 => (walk_at "ft")); (case qqf4 => (first | with_reducible assumption | exact rfl)); (case qqS => (walk_at "sel"))); intro _ _ _ _ _ _; (walk_at "fin9")))
  trivial

theorem tget131_k : ∀ {w : World} {mean : ExcName → Option Value} {mg mb : Str → Option Value} {dp un : Nat} {cn : Str} {cs : Scope} {a : Addr} {ccd : Value} {cl : List (Str × Addr)} {outer : List Env} {A₀ : Around} {base h₀ : Heap} {L : Addr} {m : Str → Option Value} {s : Shared}
    {Q E : Value → Shared → Prop} {rest : List (Addr × Obj)} (B : Below A₀ base outer h₀) (F : Fr h₀ L s.heap m) (X : (Mine.hd.heap_39 w.params).In h₀) (T : Top Mine.hd.view_39 LO mean mg mb h₀) (hk : cs.kind = .function) (hd : dp + 2 < recursionLimit) (hu : un + 16 < cLine) {t : Addr} {tdx : Addr} {bv : Value} {arr : Array UInt8} {pos : Int} {tp : Tok} {p : Int} {u : Tok} {x : Int} (HB : BufIn s.heap bv arr) (hz : arr.size ≤ 4096) (h0 : 0 ≤ p) (h1 : p + 4 ≤ arr.size) (hx : told 'I' 4 (arr.extract (p).toNat ((p).toNat + 4)) = x) (P : Part h₀ L s.heap [(t, TO tdx bv pos tp), (tdx, dictOf [] 0)] rest)
    (hret : ∀ (h' : Heap) (tk' : Nat) (tk2 : Tok), Fr h₀ L h' m → News h₀ L h' ([(t, TO tdx bv pos tp), (tdx, dictOf [] 0)] ++ rest) → AllNes [(t, TO tdx bv pos tp), (tdx, dictOf [] 0)] rest → Q (.int x tk2) { s with heap := h', toks := tk' }),
    wpAny (model _root_.PySem.Challenge.rw_bp0005_01.row.prog w) (ktrTop dp un (some []) cn cs L a ccd cl outer) (call (.ref 230) [.ref t, .ref 131, .int p u] ) Q E s := by
  refine @Mine.hush _ (by
  k_fill
  intro w mean mg mb dp un cn cs a ccd cl outer A₀ base h₀ L m s Q E rest B F X T hk hd hu t tdx bv arr pos tp p u x HB hz h0 h1 hx P hret
  have N := P.news
  have hdis := P.dis
  have n1 := newsTO N
  refine wpAny_call ?_
  k_dflt (refine' defA ?k1 ?k2 ?k3 ?k4 ?kd ?k5 ?kA ?kF ?kK ?k6 ?k7 ?k8 ?k9 ?kB ?_ ?c2 ?c3 ?c4 ?c5; (case kA => exact rfl); (case kF => exact rfl); (case kK => assumption); (case k1 => k_asm); (case k2 => k_asm); (case k3 => k_asm); (case k4 => k_asm); (case kd => k_asm); (case k5 => k_asm); (case k6 => k_is); (case k7 => k_is); (case k8 => ktr_room); (case k9 => exact BindsTo.of_eq rfl); (case c5 => decide); (case kB => exact locs rfl); (case c2 => exact rfl); (case c3 => exact rfl); (case c4 => exact rfl); k_whole; intro g' L' h' FG' F' N' B' X' T' l0 G; (try dsimp only); (try k_fold))
  have HBg := HB.enter P.news G clsTO
  k_steps
  all_goals dsimp only [wants]
  all_goals (rename_i kF kN kD; rw [← hx] at hret; exact hret _ _ _ kF (news_sub kN (sub2 (by k_mem) (by k_mem))) (allNes_of (dis_sub kD (sub2 (by k_mem) (by k_mem)))))) ?_
  intro q f
  simpa using Mine.hushed f 5 fun n i => i
theorem setup_KT_6 : True := by
  k_with "call ref" => ((k_here; (with_reducible show wpAny _ _ (call (Value.ref 230) [_, Value.ref 131, _] _) _ _ _); k_dflt (refine' tget131_k ?qqB ?qqF ?qqX ?qqT ?qqhk ?qqhd ?qqhu ?qqf0 ?qqf1 ?qqf2 ?qqf3 ?qqf4 (part_of ?qqN (sub2 ?qqm0 ?qqm1) ?qqS) ?_; (case qqB => k_asm); (case qqF => k_asm); (case qqX => k_asm); (case qqT => k_asm); (case qqhk => first | exact rfl | assumption); (case qqN => k_asm); (case qqm0 => k_mem); (case qqm1 => k_mem); (case qqhd => (walk_at "room")); (case qqhu => (walk_at "units")); (case qqf0 => (exact BufIn.keep (by assumption) (by k_asm))); (case qqf1 => (walk_at "ft")); (case qqf2 => (walk_at "ft")); (case qqf3 => (walk_at "ft")); (case qqf4 => (first | with_reducible assumption | exact rfl)); (case qqS => (walk_at "sel"))); intro _ _ _ _ _ _; (walk_at "fin9")))
  trivial

theorem tind_k : ∀ {w : World} {mean : ExcName → Option Value} {mg mb : Str → Option Value} {dp un : Nat} {cn : Str} {cs : Scope} {a : Addr} {ccd : Value} {cl : List (Str × Addr)} {outer : List Env} {A₀ : Around} {base h₀ : Heap} {L : Addr} {m : Str → Option Value} {s : Shared}
    {Q E : Value → Shared → Prop} {rest : List (Addr × Obj)} (B : Below A₀ base outer h₀) (F : Fr h₀ L s.heap m) (X : (Mine.hd.heap_39 w.params).In h₀) (T : Top Mine.hd.view_39 LO mean mg mb h₀) (hk : cs.kind = .function) (hd : dp + 2 < recursionLimit) (hu : un + 16 < cLine) {t : Addr} {tdx : Addr} {bv : Value} {arr : Array UInt8} {pos : Int} {tp : Tok} {off : Int} {u : Tok} {x : Int} (HB : BufIn s.heap bv arr) (hz : arr.size ≤ 4096) (h0 : 0 ≤ off) (h1 : off + 4 ≤ arr.size) (hx : told 'I' 4 (arr.extract (off).toNat ((off).toNat + 4)) = x) (P : Part h₀ L s.heap [(t, TO tdx bv pos tp), (tdx, dictOf [] 0)] rest)
    (hret : ∀ (h' : Heap) (tk' : Nat) (tk2 : Tok), Fr h₀ L h' m → News h₀ L h' ([(t, TO tdx bv pos tp), (tdx, dictOf [] 0)] ++ rest) → AllNes [(t, TO tdx bv pos tp), (tdx, dictOf [] 0)] rest → Q (.int (off + x) tk2) { s with heap := h', toks := tk' }),
    wpAny (model _root_.PySem.Challenge.rw_bp0005_01.row.prog w) (ktrTop dp un (some []) cn cs L a ccd cl outer) (call (.ref 195) [.ref t, .int off u] ) Q E s := by
  refine @Mine.hush _ (by
  k_fill
  intro w mean mg mb dp un cn cs a ccd cl outer A₀ base h₀ L m s Q E rest B F X T hk hd hu t tdx bv arr pos tp off u x HB hz h0 h1 hx P hret
  have N := P.news
  have hdis := P.dis
  have n1 := newsTO N
  refine wpAny_call ?_
  k_dflt (refine' defA ?k1 ?k2 ?k3 ?k4 ?kd ?k5 ?kA ?kF ?kK ?k6 ?k7 ?k8 ?k9 ?kB ?_ ?c2 ?c3 ?c4 ?c5; (case kA => exact rfl); (case kF => exact rfl); (case kK => assumption); (case k1 => k_asm); (case k2 => k_asm); (case k3 => k_asm); (case k4 => k_asm); (case kd => k_asm); (case k5 => k_asm); (case k6 => k_is); (case k7 => k_is); (case k8 => ktr_room); (case k9 => exact BindsTo.of_eq rfl); (case c5 => decide); (case kB => exact locs rfl); (case c2 => exact rfl); (case c3 => exact rfl); (case c4 => exact rfl); k_whole; intro g' L' h' FG' F' N' B' X' T' l0 G; (try dsimp only); (try k_fold))
  have HBg := HB.enter P.news G clsTO
  k_steps
  all_goals dsimp only [wants]
  all_goals (rename_i kF kN kD; rw [← hx] at hret; exact hret _ _ _ kF (news_sub kN (sub2 (by k_mem) (by k_mem))) (allNes_of (dis_sub kD (sub2 (by k_mem) (by k_mem)))))) ?_
  intro q f
  simpa using Mine.hushed f 5 fun n i => i
-- KT2

theorem setup_KT2_1 : True := by
  k_with_none
  k_with "wpC" => ((k_here; (with_reducible show wpC _ _ _ _ _ _); (fail_if_success (with_reducible show wpC _ _ (setItem _ _ (Value.bytes _ _)) _ _ _)); (fail_if_success (with_reducible show wpC _ _ (call (Value.ref _) _ _) _ _ _)); (fail_if_success (with_reducible show wpC _ _ (callWith _ (Value.type _) _ _ _) _ _ _)); (fail_if_success (with_reducible show wpC _ _ (call (Value.type _) _ _) _ _ _)); (refine of_any ?_)))
  k_with "wpC" => ((k_here; (with_reducible show wpC _ _ (call (Value.ref _) _ _) _ _ _); (refine' of_anyD ?qqd ?_; (case qqd => (walk_at "dirty")))))
  k_with "wpC" => ((k_here; (with_reducible show wpC _ _ (exec (Stmt.While _ _ _ _) _) _ _ _); (refine c_While ?_)))
  k_with "wpC" => ((k_here; (with_reducible show wpC _ _ (exec (Stmt.If _ _ _ _) _) _ _ _); (refine c_If ?_)))
  k_with "wpC" => ((k_here; (with_reducible show wpC _ _ (exec (Stmt.Assign [Expr.Subscript _ (Expr.Slice _ _ _ _) _] _ _) _) _ _ _); k_dflt (refine c_Assign_Subscript ?_)))
  k_with "wpC" => ((k_here; (with_reducible show wpC _ _ (exec (Stmt.Expr (Expr.Call (Expr.Attribute _ _ _) _ _ _) _) _) _ _ _); k_dflt (refine' c_ExprD ?qqd ?_; (case qqd => (walk_at "dirty")))))
  k_with "wpC" => ((k_here; (with_reducible show wpC _ _ (exec (Stmt.Return (some (Expr.Call (Expr.Attribute _ _ _) _ _ _)) _) _) _ _ _); k_dflt (refine' c_ReturnD ?qqd ?_; (case qqd => (walk_at "dirty")))))
  k_with "wpC" => ((k_here; (with_reducible show wpC _ _ (exec (Stmt.Assign [Expr.Name _ _] (Expr.Call (Expr.Attribute _ _ _) _ _ _) _) _) _ _ _); k_dflt (refine' c_AssignD ?qqd ?_; (case qqd => (walk_at "dirty")))))
  k_with "wpC" => ((k_here; (with_reducible show wpC _ _ (eval (Expr.Call (Expr.Attribute _ _ _) _ _ _) _) _ _ _); k_dflt (refine' c_MethodCallSD ?qqd ?_; (case qqd => (walk_at "dirty")))))
  k_with "wpC" => ((k_here; (with_reducible show wpC _ _ (eval (Expr.Call (Expr.Attribute _ _ _) _ _ _) _) _ _ _); k_dflt (refine' c_MethodCallD ?qqd ?_; (case qqd => (walk_at "dirty")))))
  k_with "wpC" => ((k_here; (with_reducible show wpC _ _ (exec (Stmt.Assign [Expr.Name _ _] (Expr.Call (Expr.Name (PySem.Str.ofString "Builder") _) _ _ _) _) _) _ _ _); k_dflt (refine c_Assign_Name ?_)))
  k_with "wpC" => ((k_here; (with_reducible show wpC _ _ (eval (Expr.Call (Expr.Name (PySem.Str.ofString "Builder") _) _ _ _) _) _ _ _); k_dflt (refine c_Call ?_)))
  k_with "wpC" => ((k_here; (with_reducible show wpC _ _ (exec (Stmt.Assign [Expr.Name _ _] (Expr.Call (Expr.Name (PySem.Str.ofString "_law_made") _) _ _ _) _) _) _ _ _); k_dflt (refine c_Assign_Name ?_)))
  k_with "wpC" => ((k_here; (with_reducible show wpC _ _ (eval (Expr.Call (Expr.Name (PySem.Str.ofString "_law_made") _) _ _ _) _) _ _ _); k_dflt (refine c_Call ?_)))
  k_with "wpC" => ((k_here; (with_reducible show wpC _ _ (exec (Stmt.Assign [Expr.Attribute _ _ _] (Expr.Call (Expr.Name (PySem.Str.ofString "bytearray") _) _ _ _) _) _) _ _ _); k_dflt (refine c_Assign_Attr ?_)))
  k_with "wpC" => ((k_here; (with_reducible show wpC _ _ (exec (Stmt.Assign [Expr.Name _ _] (Expr.Call (Expr.Name (PySem.Str.ofString "bytearray") _) _ _ _) _) _) _ _ _); k_dflt (refine c_Assign_Name ?_)))
  k_with "wpC" => ((k_here; (with_reducible show wpC _ _ (eval (Expr.Call (Expr.Name (PySem.Str.ofString "bytearray") _) _ _ _) _) _ _ _); k_dflt (refine c_Call ?_)))
  k_with "wpC" => ((k_here; (with_reducible show wpC _ _ (execs [] _) _ _ _); (refine c_execs_nil ?_)))
  k_with "wpC" => ((k_here; (with_reducible show wpC _ _ (execs (_ :: _) _) _ _ _); (refine c_execs_cons ?_)))
  k_with "wpC" => ((k_here; (with_reducible show wpC _ _ (callWith _ (Value.ref _) _ _ _) _ _ _); k_dflt (first | refine' c_callWith_K ?qqk1 ?qqk2 ?_; (case qqk1 => k_asm); (case qqk2 => k_is); k_whole | refine' c_callWith_S ?qqk1 ?qqk2 ?_; (case qqk1 => k_asm); (case qqk2 => k_is); k_whole | refine' c_callWith_MS ?qqk1 ?qqk2 ?qqk3 ?qqk4 ?_; (case qqk1 => k_asm); (case qqk2 => k_asm); (case qqk3 => k_mem); (case qqk4 => k_is); k_whole | refine' c_callWith_K0 ?qqk1 ?qqk2 ?_; (case qqk1 => k_in); (case qqk2 => k_is); k_whole | refine' c_callWith_KW ?qqk1 ?qqk2 ?qqk3 ?_; (case qqk1 => k_asm); (case qqk2 => k_is); (case qqk3 => exact rfl); k_whole)))
  k_with "wpC" => ((k_here; (with_reducible show wpC _ _ (callWith _ (Value.type _) _ _ _) _ _ _); k_dflt (refine' c_callWith_T ?_)))
  k_with "wpC" => ((k_here; (with_reducible show wpC _ _ (setItem (Value.ref _) (Value.ref _) (Value.bytes _ _)) _ _ _); k_dflt (refine' c_setN (s := ⟨_, _, _, _, _⟩) ?qqg ?qqF ?qqN ?qqU ?qqh ?qqej ?qqh0 ?qqhs ?qqz ?_; (case qqF => k_asm); (case qqN => k_asm); (case qqU => k_updF); (case qqh => k_asm); (case qqg => exact rfl); (case qqej => (walk_at "cl"; omega)); (case qqh0 => (walk_at "cl"; omega)); (case qqhs => ((walk_at "cl"); first | omega | (simp only [List.length_append, List.length_replicate, Array.size_replicate, lay_length, List.length_nil] at *; omega))); (case qqz => (walk_at "cl"; omega)); k_whole); intro _ _ _ _ _ _; (try k_sweep)))
  k_with "wpC" => ((k_here; (with_reducible show wpC _ _ (call (Value.type _) [Value.int _ _]) _ _ _); k_dflt (refine' c_new_int ?qqg ?qqF ?qqN ?qqh0 ?qqhz ?_; (case qqg => exact rfl); (case qqF => k_asm); (case qqN => k_asm); (case qqh0 => (walk_at "cl"; omega)); (case qqhz => (walk_at "cl"; omega)); k_whole); intro _ _ _ _ _; (try (walk_at "lt1")); (try k_sweep)))
  k_with "wpC" => ((k_here; (with_reducible show wpC _ _ (call (Value.type _) [Value.bytes _ _]) _ _ _); k_dflt (refine' c_new_bytes ?qqg ?qqF ?qqN ?qqhz ?_; (case qqg => exact rfl); (case qqF => k_asm); (case qqN => k_asm); (case qqhz => (walk_at "cl"; omega)); k_whole); intro _ _ _ _ _; (try (walk_at "lt1")); (try k_sweep)))
  k_with "LeaveM" => ((k_dflt (refine' leaveM_ ?qqk1 ?qqk2 ?_; (case qqk1 => k_asm); (case qqk2 => k_asm); k_whole); intro _ _ _; (try dsimp only [InitBack, CmpBack, LenBack, StrBack, BoolBack]); (try refine ⟨rfl, ?_⟩)))
  k_with "getMethod str" => ((k_here; (with_reducible show wpAny _ _ (getMethod (Value.str _ _) (PySem.Str.ofString "encode") _) _ _ _); k_dflt (refine' str_encode_get ?_; k_whole)))
  k_with "call builtin:str.encode" => ((k_here; k_dflt (refine' str_encode ?qqh ?qqz ?_; (case qqh => k_asm); (case qqz => (walk_at "cl"; omega)); k_whole); intro _ _))
  k_with "getAttr ref" => ((k_here; k_dflt (refine' kbm_boundS ?qqk1 ?qqk2 ?qqk3 ?qqk4 ?qqk5 ?qqk6 ?qqk6b ?qqk7 ?qqk8 ?qqk9 ?qqk10 ?qqk11 ?_; (case qqk4 => k_inst); (case qqk1 => k_asm); (case qqk2 => k_asm); (case qqk7 => k_is); (case qqk3 => k_asm); (case qqk5 => k_is); (case qqk6 => k_is); (case qqk6b => k_is); (case qqk8 => k_is); (case qqk9 => k_is); (case qqk10 => k_is); (case qqk11 => decide +kernel); k_whole); intro _ _ _ _ _; (try (walk_at "lt1")); (try k_sweep)))
  k_with "eval Name" => ((k_here; (with_reducible show wpAny _ _ (eval (Expr.Name (PySem.Str.ofString "bytearray") _) _) _ _ _); with_unfolding_all refine guard_global (by rfl) ?_; k_dflt (refine' name_B ?qqkF ?qqk1 ?qqk2 ?qqk3 ?qqk4 ?qqk5 ?_; (case qqkF => with_reducible assumption); (case qqk1 => with_reducible assumption); (case qqk2 => k_asm); (case qqk3 => k_is); (case qqk4 => boot_by_name); (case qqk5 => decide); k_whole)))
  k_with "getAttr ref" => ((k_here; (with_reducible show wpAny _ _ (getAttr (Value.ref _) _ _) _ _ _); k_dflt (refine' get_slot ?qqk1 ?qqk2 ?qqk3 ?qqk4 ?qqk5 ?qqk6 ?qqk7 ?qqk8 ?qqk9 ?qqk10 ?qqk11 ?_; (case qqk1 => with_reducible assumption); (case qqk2 => with_reducible assumption); (case qqk3 => k_inst); (case qqk4 => k_is); (case qqk5 => k_is); (case qqk6 => k_is); (case qqk7 => k_is); (case qqk8 => k_is); (case qqk9 => k_is); (case qqk10 => k_slotget); (case qqk11 => k_handed); k_whole)))
  k_with "ite" => ((k_here; k_openite; k_dflt (first | (refine ite_pos (by ((walk_at "cl"); (try simp only [decide_eq_true_eq, beq_iff_eq, bne_iff_ne, ne_eq]); omega)) ?_) | (refine ite_neg (by ((walk_at "cl"); (try simp only [decide_eq_true_eq, beq_iff_eq, bne_iff_ne, ne_eq]); omega)) ?_)); walk_say "PRUNED here"))
  k_with "binaryOp Mult bytes int" => ((k_here; k_dflt (refine' zeros_mul ?qqh0 ?qqhn ?_; (case qqh0 => (walk_at "cl"; omega)); (case qqhn => (walk_at "cl"; omega)); k_whole); intro _ _))
  k_with "call builtin:len" => ((k_here; (with_reducible show wpAny _ _ (call (Value.builtin "len") [Value.ref _]) _ _ _); k_dflt (refine' ba_lenN ?qqN ?qqm ?qqz ?_; (case qqN => k_asm); (case qqm => k_mem); (case qqz => (walk_at "cl"; omega)); k_whole)))
  k_with "setItem ref ref" => ((k_here; (with_reducible show wpAny _ _ (setItem (Value.ref _) (Value.ref _) (Value.ref _)) _ _ _); k_dflt (refine' ba_setN (s := ⟨_, _, _, _, _⟩) ?qqF ?qqN ?qqU ?qqm ?qqne ?qqh0 ?qqhs ?qqhz ?_; (case qqF => k_asm); (case qqN => k_asm); (case qqU => k_updF); (case qqm => k_mem); (case qqne => k_ne); (case qqh0 => (walk_at "cl"; omega)); (case qqhs => ((walk_at "cl"); first | omega | (simp only [List.length_append, List.length_replicate, Array.size_replicate, lay_length, List.length_nil] at *; omega))); (case qqhz => ((walk_at "cl"); first | omega | (simp only [List.length_append, List.length_replicate, Array.size_replicate, lay_length, List.length_nil] at *; omega))); k_whole); intro _ _ _ _ _ _; (try k_sweep)))
  k_with "getMethod ref" => ((k_here; (with_reducible show wpAny _ _ (getMethod (Value.ref _) (PySem.Str.ofString "unpack_from") _) _ _ _); k_dflt (refine' so_fromK ?qqX ?qqh ?_; (case qqX => k_in); (case qqh => exact rfl); k_whole)))
  k_with "getMethod ref" => ((k_here; (with_reducible show wpAny _ _ (getMethod (Value.ref _) (PySem.Str.ofString "pack_into") _) _ _ _); k_dflt (refine' so_intoK ?qqX ?qqh ?_; (case qqX => k_in); (case qqh => exact rfl); k_whole)))
  k_with "call builtin:_struct.Struct.unpack_from" => ((k_here; k_dflt (refine' so_fromN ?qqX ?qqF ?qqN ?qqh ?qqf ?qqb ?qqh0 ?qqh1 ?qqhz ?_; (case qqX => k_in); (case qqF => k_asm); (case qqN => k_asm); (case qqh => exact rfl); (case qqf => constructor); (case qqb => first | exact .inl ⟨_, rfl⟩ | exact .inr ⟨_, rfl, by k_mem⟩); (case qqh0 => (walk_at "cl"; omega)); (case qqh1 => (walk_at "cl"; omega)); (case qqhz => (walk_at "cl"; omega)); k_whole); intro _ _ _ _ _ _ _; (try (walk_at "lt1")); (try k_sweep)))
  k_with "call builtin:_struct.Struct.unpack_from" => ((k_here; k_dflt (refine' so_fromB ?qqX ?qqF ?qqN ?qqh ?qqf ?qqb ?qqh0 ?qqh1 ?qqhz ?_; (case qqX => k_in); (case qqF => k_asm); (case qqN => k_asm); (case qqh => exact rfl); (case qqf => constructor); (case qqb => exact BufIn.keep (by assumption) (by k_asm)); (case qqh0 => (walk_at "cl"; omega)); (case qqh1 => (walk_at "cl"; omega)); (case qqhz => (walk_at "cl"; omega)); k_whole); intro _ _ _ _ _ _ _; (try (walk_at "lt1")); (try k_sweep)))
  k_with "call builtin:_struct.Struct.pack_into" => ((k_here; k_dflt (refine' so_intoN ?qqX ?qqF ?qqN ?qqU ?qqh ?qqf ?qqh0 ?qqh1 ?qqhz ?qqlo ?qqhi ?_; (case qqX => k_in); (case qqF => k_asm); (case qqN => k_asm); (case qqU => k_updF); (case qqh => exact rfl); (case qqf => constructor); (case qqh0 => (walk_at "cl"; omega)); (case qqh1 => (walk_at "cl"; omega)); (case qqhz => (walk_at "cl"; omega)); (case qqlo => ((first | rw [if_neg (by decide)] | rw [if_pos (by decide)]); (try simp only [Nat.reduceMul, Nat.reduceSub, Int.reducePow, Int.reduceNeg]); walk_at "cl"; omega)); (case qqhi => ((first | rw [if_neg (by decide)] | rw [if_pos (by decide)]); (try simp only [Nat.reduceMul, Nat.reduceSub, Int.reducePow, Int.reduceNeg]); walk_at "cl"; omega)); k_whole); intro _ _ _; (try k_sweep)))
  k_with "wpC" => ((k_here; (with_reducible show wpC _ _ (call (Value.ref _) _ _) _ _ _); (walk_at "wpCc")))
  k_with "getAttr ref" => ((k_here; (with_reducible show wpAny _ _ (getAttr (Value.ref _) (PySem.Str.ofString "py_type") _) _ _ _); k_dflt (refine' cls_int ?qqF ?qqX ?qqm ?qqr ?qqe0 ?qqe1 ?qqh ?_; (case qqF => k_asm); (case qqX => k_asm); (case qqm => k_is); (case qqr => k_is); (case qqe0 => k_is); (case qqe1 => k_is); (case qqh => decide +kernel); k_whole)))
  k_with "getAttr ref" => ((k_here; k_dflt (refine' get_slot ?qqk1 ?qqk2 ?qqk3 ?qqk4 ?qqk5 ?qqk6 ?qqk7 ?qqk8 ?qqk9 ?qqk10 ?qqk11 ?_; (case qqk1 => k_asm); (case qqk2 => k_asm); (case qqk3 => k_inst); (case qqk4 => k_is); (case qqk5 => k_is); (case qqk6 => k_is); (case qqk7 => k_is); (case qqk8 => k_is); (case qqk9 => k_is); (case qqk10 => k_slotget); (case qqk11 => exact BufIn.handed (by assumption)); k_whole)))
  k_with "call ref" => ((k_here; (with_reducible show wpAny _ _ (call (Value.ref 230) [_, Value.ref 119, _] _) _ _ _); k_dflt (refine' tget119_k ?qqB ?qqF ?qqX ?qqT ?qqhk ?qqhd ?qqhu ?qqf0 ?qqf1 ?qqf2 ?qqf3 ?qqf4 (part_of ?qqN (sub2 ?qqm0 ?qqm1) ?qqS) ?_; (case qqB => k_asm); (case qqF => k_asm); (case qqX => k_asm); (case qqT => k_asm); (case qqhk => first | exact rfl | assumption); (case qqN => k_asm); (case qqm0 => k_mem); (case qqm1 => k_mem); (case qqhd => (walk_at "room")); (case qqhu => (walk_at "units")); (case qqf0 => (exact BufIn.keep (by assumption) (by k_asm))); (case qqf1 => (walk_at "ft")); (case qqf2 => (walk_at "ft")); (case qqf3 => (walk_at "ft")); (case qqf4 => (first | with_reducible assumption | exact rfl)); (case qqS => (walk_at "sel"))); intro _ _ _ _ _ _; (walk_at "fin9")))
  k_with "call ref" => ((k_here; (with_reducible show wpAny _ _ (call (Value.ref 230) [_, Value.ref 143, _] _) _ _ _); k_dflt (refine' tget143_k ?qqB ?qqF ?qqX ?qqT ?qqhk ?qqhd ?qqhu ?qqf0 ?qqf1 ?qqf2 ?qqf3 ?qqf4 (part_of ?qqN (sub2 ?qqm0 ?qqm1) ?qqS) ?_; (case qqB => k_asm); (case qqF => k_asm); (case qqX => k_asm); (case qqT => k_asm); (case qqhk => first | exact rfl | assumption); (case qqN => k_asm); (case qqm0 => k_mem); (case qqm1 => k_mem); (case qqhd => (walk_at "room")); (case qqhu => (walk_at "units")); (case qqf0 => (exact BufIn.keep (by assumption) (by k_asm))); (case qqf1 => (walk_at "ft")); (case qqf2 => (walk_at "ft")); (case qqf3 => (walk_at "ft")); (case qqf4 => (first | with_reducible assumption | exact rfl)); (case qqS => (walk_at "sel"))); intro _ _ _ _ _ _; (walk_at "fin9")))
  k_with "call ref" => ((k_here; (with_reducible show wpAny _ _ (call (Value.ref 230) [_, Value.ref 91, _] _) _ _ _); k_dflt (refine' tget91_k ?qqB ?qqF ?qqX ?qqT ?qqhk ?qqhd ?qqhu ?qqf0 ?qqf1 ?qqf2 ?qqf3 ?qqf4 (part_of ?qqN (sub2 ?qqm0 ?qqm1) ?qqS) ?_; (case qqB => k_asm); (case qqF => k_asm); (case qqX => k_asm); (case qqT => k_asm); (case qqhk => first | exact rfl | assumption); (case qqN => k_asm); (case qqm0 => k_mem); (case qqm1 => k_mem); (case qqhd => (walk_at "room")); (case qqhu => (walk_at "units")); (case qqf0 => (exact BufIn.keep (by assumption) (by k_asm))); (case qqf1 => (walk_at "ft")); (case qqf2 => (walk_at "ft")); (case qqf3 => (walk_at "ft")); (case qqf4 => (first | with_reducible assumption | exact rfl)); (case qqS => (walk_at "sel"))); intro _ _ _ _ _ _; (walk_at "fin9")))
  k_with "call ref" => ((k_here; (with_reducible show wpAny _ _ (call (Value.ref 152) [_, Value.ref 143] _) _ _ _); k_dflt (refine' enf143_k ?qqB ?qqF ?qqX ?qqT ?qqhk ?qqhd ?qqhu ?qqf0 ?qqf1 (part_of ?qqN (sub0 ) ?qqS) ?_; (case qqB => k_asm); (case qqF => k_asm); (case qqX => k_asm); (case qqT => k_asm); (case qqhk => first | exact rfl | assumption); (case qqN => k_asm); (case qqhd => (walk_at "room")); (case qqhu => (walk_at "units")); (case qqf0 => (walk_at "ft")); (case qqf1 => (walk_at "ft")); (case qqS => (walk_at "sel"))); intro _ _  _ _ _; (walk_at "fin9")))
  k_with "call ref" => ((k_here; (with_reducible show wpAny _ _ (call (Value.ref 152) [_, Value.ref 91] _) _ _ _); k_dflt (refine' enf91_k ?qqB ?qqF ?qqX ?qqT ?qqhk ?qqhd ?qqhu ?qqf0 ?qqf1 (part_of ?qqN (sub0 ) ?qqS) ?_; (case qqB => k_asm); (case qqF => k_asm); (case qqX => k_asm); (case qqT => k_asm); (case qqhk => first | exact rfl | assumption); (case qqN => k_asm); (case qqhd => (walk_at "room")); (case qqhu => (walk_at "units")); (case qqf0 => (walk_at "ft")); (case qqf1 => (walk_at "ft")); (case qqS => (walk_at "sel"))); intro _ _  _ _ _; (walk_at "fin9")))
  trivial

theorem toff_k : ∀ {w : World} {mean : ExcName → Option Value} {mg mb : Str → Option Value} {dp un : Nat} {cn : Str} {cs : Scope} {a : Addr} {ccd : Value} {cl : List (Str × Addr)} {outer : List Env} {A₀ : Around} {base h₀ : Heap} {L : Addr} {m : Str → Option Value} {s : Shared}
    {Q E : Value → Shared → Prop} {rest : List (Addr × Obj)} (B : Below A₀ base outer h₀) (F : Fr h₀ L s.heap m) (X : (Mine.hd.heap_39 w.params).In h₀) (T : Top Mine.hd.view_39 LO mean mg mb h₀) (hk : cs.kind = .function) (hd : dp + 3 < recursionLimit) (hu : un + 24 < cLine) {t : Addr} {tdx : Addr} {bv : Value} {arr : Array UInt8} {pos : Int} {tp : Tok} {vt : Int} {o : Int} {u : Tok} {x : Int} (HB : BufIn s.heap bv arr) (hz : arr.size ≤ 4096) (ht : TabAt arr pos vt) (h0 : 0 ≤ o) (h1 : o + 2 ≤ 12) (hx : told 'H' 2 (arr.extract (vt + o).toNat ((vt + o).toNat + 2)) = x) (P : Part h₀ L s.heap [(t, TO tdx bv pos tp), (tdx, dictOf [] 0)] rest)
    (hret : ∀ (h' : Heap) (tk' : Nat) (tk2 : Tok), Fr h₀ L h' m → News h₀ L h' ([(t, TO tdx bv pos tp), (tdx, dictOf [] 0)] ++ rest) → AllNes [(t, TO tdx bv pos tp), (tdx, dictOf [] 0)] rest → Q (.int x tk2) { s with heap := h', toks := tk' }),
    wpAny (model _root_.PySem.Challenge.rw_bp0005_01.row.prog w) (ktrTop dp un (some []) cn cs L a ccd cl outer) (call (.ref 188) [.ref t, .int o u] ) Q E s := by
  refine @Mine.hush _ (by
  k_fill
  intro w mean mg mb dp un cn cs a ccd cl outer A₀ base h₀ L m s Q E rest B F X T hk hd hu t tdx bv arr pos tp vt o u x HB hz ht h0 h1 hx P hret
  have N := P.news
  have hdis := P.dis
  have n1 := newsTO N
  refine wpAny_call ?_
  k_dflt (refine' defA ?k1 ?k2 ?k3 ?k4 ?kd ?k5 ?kA ?kF ?kK ?k6 ?k7 ?k8 ?k9 ?kB ?_ ?c2 ?c3 ?c4 ?c5; (case kA => exact rfl); (case kF => exact rfl); (case kK => assumption); (case k1 => k_asm); (case k2 => k_asm); (case k3 => k_asm); (case k4 => k_asm); (case kd => k_asm); (case k5 => k_asm); (case k6 => k_is); (case k7 => k_is); (case k8 => ktr_room); (case k9 => exact BindsTo.of_eq rfl); (case c5 => decide); (case kB => exact locs rfl); (case c2 => exact rfl); (case c3 => exact rfl); (case c4 => exact rfl); k_whole; intro g' L' h' FG' F' N' B' X' T' l0 G; (try dsimp only); (try k_fold))
  have HBg := HB.enter P.news G clsTO
  obtain ⟨hso, hve, v0, v1, p0, p1⟩ := ht
  have e1 : pos - (pos - vt) = vt := by omega
  have hve2 : told 'H' 2 (arr.extract (pos - (pos - vt)).toNat ((pos - (pos - vt)).toNat + 2)) = 12 := by rw [e1]; exact hve
  have hx2 : told 'H' 2 (arr.extract (pos - (pos - vt) + o).toNat ((pos - (pos - vt) + o).toNat + 2)) = x := by rw [e1]; exact hx
  k_steps
  all_goals dsimp only [wants]
  all_goals (rename_i kF kN kD; exact hret _ _ _ kF (news_sub kN (sub2 (by k_mem) (by k_mem))) (allNes_of (dis_sub kD (sub2 (by k_mem) (by k_mem)))))) ?_
  intro q f
  simpa using Mine.hushed f 5 fun n i => i
theorem setup_KT2_2 : True := by
  k_with "call ref" => ((k_here; (with_reducible show wpAny _ _ (call (Value.ref 188) _ _) _ _ _); k_dflt (refine' toff_k ?qqB ?qqF ?qqX ?qqT ?qqhk ?qqhd ?qqhu ?qqf0 ?qqf1 ?qqf2 ?qqf3 ?qqf4 ?qqf5 (part_of ?qqN (sub2 ?qqm0 ?qqm1) ?qqS) ?_; (case qqB => k_asm); (case qqF => k_asm); (case qqX => k_asm); (case qqT => k_asm); (case qqhk => first | exact rfl | assumption); (case qqN => k_asm); (case qqm0 => k_mem); (case qqm1 => k_mem); (case qqhd => (walk_at "room")); (case qqhu => (walk_at "units")); (case qqf0 => (exact BufIn.keep (by assumption) (by k_asm))); (case qqf1 => (walk_at "ft")); (case qqf2 => (walk_at "ft")); (case qqf3 => (walk_at "ft")); (case qqf4 => (walk_at "ft")); (case qqf5 => (first | with_reducible assumption | exact rfl)); (case qqS => (walk_at "sel"))); intro _ _ _ _ _ _; (walk_at "fin9")))
  trivial

theorem tslot_k : ∀ {w : World} {mean : ExcName → Option Value} {mg mb : Str → Option Value} {dp un : Nat} {cn : Str} {cs : Scope} {a : Addr} {ccd : Value} {cl : List (Str × Addr)} {outer : List Env} {A₀ : Around} {base h₀ : Heap} {L : Addr} {m : Str → Option Value} {s : Shared}
    {Q E : Value → Shared → Prop} {rest : List (Addr × Obj)} (B : Below A₀ base outer h₀) (F : Fr h₀ L s.heap m) (X : (Mine.hd.heap_39 w.params).In h₀) (T : Top Mine.hd.view_39 LO mean mg mb h₀) (hk : cs.kind = .function) (hd : dp + 4 < recursionLimit) (hu : un + 32 < cLine) {t : Addr} {tdx : Addr} {bv : Value} {arr : Array UInt8} {pos : Int} {tp : Tok} {vt : Int} {u : Tok} {u2 : Tok} {x : Int} {n : Int} (HB : BufIn s.heap bv arr) (hz : arr.size ≤ 4096) (ht : TabAt arr pos vt) (hx : told 'H' 2 (arr.extract (vt + 4).toNat ((vt + 4).toNat + 2)) = x) (hn : (x = 0 ∧ n = 0) ∨ (x ≠ 0 ∧ 0 ≤ pos + x ∧ pos + x + 4 ≤ arr.size ∧ told 'I' 4 (arr.extract (pos + x).toNat ((pos + x).toNat + 4)) = n)) (P : Part h₀ L s.heap [(t, TO tdx bv pos tp), (tdx, dictOf [] 0)] rest)
    (hret : ∀ (h' : Heap) (tk' : Nat) (tk2 : Tok), Fr h₀ L h' m → News h₀ L h' ([(t, TO tdx bv pos tp), (tdx, dictOf [] 0)] ++ rest) → AllNes [(t, TO tdx bv pos tp), (tdx, dictOf [] 0)] rest → Q (.int n tk2) { s with heap := h', toks := tk' }),
    wpAny (model _root_.PySem.Challenge.rw_bp0005_01.row.prog w) (ktrTop dp un (some []) cn cs L a ccd cl outer) (call (.ref 237) [.ref t, .int 4 u, .int 0 u2, .ref 91] ) Q E s := by
  refine @Mine.hush _ (by
  k_fill
  intro w mean mg mb dp un cn cs a ccd cl outer A₀ base h₀ L m s Q E rest B F X T hk hd hu t tdx bv arr pos tp vt u u2 x n HB hz ht hx hn P hret
  have N := P.news
  have hdis := P.dis
  have n1 := newsTO N
  refine wpAny_call ?_
  k_dflt (refine' defA ?k1 ?k2 ?k3 ?k4 ?kd ?k5 ?kA ?kF ?kK ?k6 ?k7 ?k8 ?k9 ?kB ?_ ?c2 ?c3 ?c4 ?c5; (case kA => exact rfl); (case kF => exact rfl); (case kK => assumption); (case k1 => k_asm); (case k2 => k_asm); (case k3 => k_asm); (case k4 => k_asm); (case kd => k_asm); (case k5 => k_asm); (case k6 => k_is); (case k7 => k_is); (case k8 => ktr_room); (case k9 => exact BindsTo.of_eq rfl); (case c5 => decide); (case kB => exact locs rfl); (case c2 => exact rfl); (case c3 => exact rfl); (case c4 => exact rfl); k_whole; intro g' L' h' FG' F' N' B' X' T' l0 G; (try dsimp only); (try k_fold))
  have HBg := HB.enter P.news G clsTO
  rcases hn with ⟨rfl, rfl⟩ | ⟨hn0, hn1, hn2, hn3⟩
  · k_steps
    all_goals dsimp only [wants]
    all_goals (rename_i kF kN kD; exact hret _ _ _ kF (news_sub kN (sub2 (by k_mem) (by k_mem))) (allNes_of (dis_sub kD (sub2 (by k_mem) (by k_mem)))))
  · k_steps
    all_goals dsimp only [wants]
    all_goals (rename_i kF kN kD; exact hret _ _ _ kF (news_sub kN (sub2 (by k_mem) (by k_mem))) (allNes_of (dis_sub kD (sub2 (by k_mem) (by k_mem)))))) ?_
  intro q f
  simpa using Mine.hushed f 5 fun n i => i
-- KT3

theorem setup_KT3_1 : True := by
  k_with_none
  k_with "wpC" => ((k_here; (with_reducible show wpC _ _ _ _ _ _); (fail_if_success (with_reducible show wpC _ _ (setItem _ _ (Value.bytes _ _)) _ _ _)); (fail_if_success (with_reducible show wpC _ _ (call (Value.ref _) _ _) _ _ _)); (fail_if_success (with_reducible show wpC _ _ (callWith _ (Value.type _) _ _ _) _ _ _)); (fail_if_success (with_reducible show wpC _ _ (call (Value.type _) _ _) _ _ _)); (refine of_any ?_)))
  k_with "wpC" => ((k_here; (with_reducible show wpC _ _ (call (Value.ref _) _ _) _ _ _); (refine' of_anyD ?qqd ?_; (case qqd => (walk_at "dirty")))))
  k_with "wpC" => ((k_here; (with_reducible show wpC _ _ (exec (Stmt.While _ _ _ _) _) _ _ _); (refine c_While ?_)))
  k_with "wpC" => ((k_here; (with_reducible show wpC _ _ (exec (Stmt.If _ _ _ _) _) _ _ _); (refine c_If ?_)))
  k_with "wpC" => ((k_here; (with_reducible show wpC _ _ (exec (Stmt.Assign [Expr.Subscript _ (Expr.Slice _ _ _ _) _] _ _) _) _ _ _); k_dflt (refine c_Assign_Subscript ?_)))
  k_with "wpC" => ((k_here; (with_reducible show wpC _ _ (exec (Stmt.Expr (Expr.Call (Expr.Attribute _ _ _) _ _ _) _) _) _ _ _); k_dflt (refine' c_ExprD ?qqd ?_; (case qqd => (walk_at "dirty")))))
  k_with "wpC" => ((k_here; (with_reducible show wpC _ _ (exec (Stmt.Return (some (Expr.Call (Expr.Attribute _ _ _) _ _ _)) _) _) _ _ _); k_dflt (refine' c_ReturnD ?qqd ?_; (case qqd => (walk_at "dirty")))))
  k_with "wpC" => ((k_here; (with_reducible show wpC _ _ (exec (Stmt.Assign [Expr.Name _ _] (Expr.Call (Expr.Attribute _ _ _) _ _ _) _) _) _ _ _); k_dflt (refine' c_AssignD ?qqd ?_; (case qqd => (walk_at "dirty")))))
  k_with "wpC" => ((k_here; (with_reducible show wpC _ _ (eval (Expr.Call (Expr.Attribute _ _ _) _ _ _) _) _ _ _); k_dflt (refine' c_MethodCallSD ?qqd ?_; (case qqd => (walk_at "dirty")))))
  k_with "wpC" => ((k_here; (with_reducible show wpC _ _ (eval (Expr.Call (Expr.Attribute _ _ _) _ _ _) _) _ _ _); k_dflt (refine' c_MethodCallD ?qqd ?_; (case qqd => (walk_at "dirty")))))
  k_with "wpC" => ((k_here; (with_reducible show wpC _ _ (exec (Stmt.Assign [Expr.Name _ _] (Expr.Call (Expr.Name (PySem.Str.ofString "Builder") _) _ _ _) _) _) _ _ _); k_dflt (refine c_Assign_Name ?_)))
  k_with "wpC" => ((k_here; (with_reducible show wpC _ _ (eval (Expr.Call (Expr.Name (PySem.Str.ofString "Builder") _) _ _ _) _) _ _ _); k_dflt (refine c_Call ?_)))
  k_with "wpC" => ((k_here; (with_reducible show wpC _ _ (exec (Stmt.Assign [Expr.Name _ _] (Expr.Call (Expr.Name (PySem.Str.ofString "_law_made") _) _ _ _) _) _) _ _ _); k_dflt (refine c_Assign_Name ?_)))
  k_with "wpC" => ((k_here; (with_reducible show wpC _ _ (eval (Expr.Call (Expr.Name (PySem.Str.ofString "_law_made") _) _ _ _) _) _ _ _); k_dflt (refine c_Call ?_)))
  k_with "wpC" => ((k_here; (with_reducible show wpC _ _ (exec (Stmt.Assign [Expr.Attribute _ _ _] (Expr.Call (Expr.Name (PySem.Str.ofString "bytearray") _) _ _ _) _) _) _ _ _); k_dflt (refine c_Assign_Attr ?_)))
  k_with "wpC" => ((k_here; (with_reducible show wpC _ _ (exec (Stmt.Assign [Expr.Name _ _] (Expr.Call (Expr.Name (PySem.Str.ofString "bytearray") _) _ _ _) _) _) _ _ _); k_dflt (refine c_Assign_Name ?_)))
  k_with "wpC" => ((k_here; (with_reducible show wpC _ _ (eval (Expr.Call (Expr.Name (PySem.Str.ofString "bytearray") _) _ _ _) _) _ _ _); k_dflt (refine c_Call ?_)))
  k_with "wpC" => ((k_here; (with_reducible show wpC _ _ (execs [] _) _ _ _); (refine c_execs_nil ?_)))
  k_with "wpC" => ((k_here; (with_reducible show wpC _ _ (execs (_ :: _) _) _ _ _); (refine c_execs_cons ?_)))
  k_with "wpC" => ((k_here; (with_reducible show wpC _ _ (callWith _ (Value.ref _) _ _ _) _ _ _); k_dflt (first | refine' c_callWith_K ?qqk1 ?qqk2 ?_; (case qqk1 => k_asm); (case qqk2 => k_is); k_whole | refine' c_callWith_S ?qqk1 ?qqk2 ?_; (case qqk1 => k_asm); (case qqk2 => k_is); k_whole | refine' c_callWith_MS ?qqk1 ?qqk2 ?qqk3 ?qqk4 ?_; (case qqk1 => k_asm); (case qqk2 => k_asm); (case qqk3 => k_mem); (case qqk4 => k_is); k_whole | refine' c_callWith_K0 ?qqk1 ?qqk2 ?_; (case qqk1 => k_in); (case qqk2 => k_is); k_whole | refine' c_callWith_KW ?qqk1 ?qqk2 ?qqk3 ?_; (case qqk1 => k_asm); (case qqk2 => k_is); (case qqk3 => exact rfl); k_whole)))
  k_with "wpC" => ((k_here; (with_reducible show wpC _ _ (callWith _ (Value.type _) _ _ _) _ _ _); k_dflt (refine' c_callWith_T ?_)))
  k_with "wpC" => ((k_here; (with_reducible show wpC _ _ (setItem (Value.ref _) (Value.ref _) (Value.bytes _ _)) _ _ _); k_dflt (refine' c_setN (s := ⟨_, _, _, _, _⟩) ?qqg ?qqF ?qqN ?qqU ?qqh ?qqej ?qqh0 ?qqhs ?qqz ?_; (case qqF => k_asm); (case qqN => k_asm); (case qqU => k_updF); (case qqh => k_asm); (case qqg => exact rfl); (case qqej => (walk_at "cl"; omega)); (case qqh0 => (walk_at "cl"; omega)); (case qqhs => ((walk_at "cl"); first | omega | (simp only [List.length_append, List.length_replicate, Array.size_replicate, lay_length, List.length_nil] at *; omega))); (case qqz => (walk_at "cl"; omega)); k_whole); intro _ _ _ _ _ _; (try k_sweep)))
  k_with "wpC" => ((k_here; (with_reducible show wpC _ _ (call (Value.type _) [Value.int _ _]) _ _ _); k_dflt (refine' c_new_int ?qqg ?qqF ?qqN ?qqh0 ?qqhz ?_; (case qqg => exact rfl); (case qqF => k_asm); (case qqN => k_asm); (case qqh0 => (walk_at "cl"; omega)); (case qqhz => (walk_at "cl"; omega)); k_whole); intro _ _ _ _ _; (try (walk_at "lt1")); (try k_sweep)))
  k_with "wpC" => ((k_here; (with_reducible show wpC _ _ (call (Value.type _) [Value.bytes _ _]) _ _ _); k_dflt (refine' c_new_bytes ?qqg ?qqF ?qqN ?qqhz ?_; (case qqg => exact rfl); (case qqF => k_asm); (case qqN => k_asm); (case qqhz => (walk_at "cl"; omega)); k_whole); intro _ _ _ _ _; (try (walk_at "lt1")); (try k_sweep)))
  k_with "LeaveM" => ((k_dflt (refine' leaveM_ ?qqk1 ?qqk2 ?_; (case qqk1 => k_asm); (case qqk2 => k_asm); k_whole); intro _ _ _; (try dsimp only [InitBack, CmpBack, LenBack, StrBack, BoolBack]); (try refine ⟨rfl, ?_⟩)))
  k_with "getMethod str" => ((k_here; (with_reducible show wpAny _ _ (getMethod (Value.str _ _) (PySem.Str.ofString "encode") _) _ _ _); k_dflt (refine' str_encode_get ?_; k_whole)))
  k_with "call builtin:str.encode" => ((k_here; k_dflt (refine' str_encode ?qqh ?qqz ?_; (case qqh => k_asm); (case qqz => (walk_at "cl"; omega)); k_whole); intro _ _))
  k_with "getAttr ref" => ((k_here; k_dflt (refine' kbm_boundS ?qqk1 ?qqk2 ?qqk3 ?qqk4 ?qqk5 ?qqk6 ?qqk6b ?qqk7 ?qqk8 ?qqk9 ?qqk10 ?qqk11 ?_; (case qqk4 => k_inst); (case qqk1 => k_asm); (case qqk2 => k_asm); (case qqk7 => k_is); (case qqk3 => k_asm); (case qqk5 => k_is); (case qqk6 => k_is); (case qqk6b => k_is); (case qqk8 => k_is); (case qqk9 => k_is); (case qqk10 => k_is); (case qqk11 => decide +kernel); k_whole); intro _ _ _ _ _; (try (walk_at "lt1")); (try k_sweep)))
  k_with "eval Name" => ((k_here; (with_reducible show wpAny _ _ (eval (Expr.Name (PySem.Str.ofString "bytearray") _) _) _ _ _); with_unfolding_all refine guard_global (by rfl) ?_; k_dflt (refine' name_B ?qqkF ?qqk1 ?qqk2 ?qqk3 ?qqk4 ?qqk5 ?_; (case qqkF => with_reducible assumption); (case qqk1 => with_reducible assumption); (case qqk2 => k_asm); (case qqk3 => k_is); (case qqk4 => boot_by_name); (case qqk5 => decide); k_whole)))
  k_with "getAttr ref" => ((k_here; (with_reducible show wpAny _ _ (getAttr (Value.ref _) _ _) _ _ _); k_dflt (refine' get_slot ?qqk1 ?qqk2 ?qqk3 ?qqk4 ?qqk5 ?qqk6 ?qqk7 ?qqk8 ?qqk9 ?qqk10 ?qqk11 ?_; (case qqk1 => with_reducible assumption); (case qqk2 => with_reducible assumption); (case qqk3 => k_inst); (case qqk4 => k_is); (case qqk5 => k_is); (case qqk6 => k_is); (case qqk7 => k_is); (case qqk8 => k_is); (case qqk9 => k_is); (case qqk10 => k_slotget); (case qqk11 => k_handed); k_whole)))
  k_with "ite" => ((k_here; k_openite; k_dflt (first | (refine ite_pos (by ((walk_at "cl"); (try simp only [decide_eq_true_eq, beq_iff_eq, bne_iff_ne, ne_eq]); omega)) ?_) | (refine ite_neg (by ((walk_at "cl"); (try simp only [decide_eq_true_eq, beq_iff_eq, bne_iff_ne, ne_eq]); omega)) ?_)); walk_say "PRUNED here"))
  k_with "binaryOp Mult bytes int" => ((k_here; k_dflt (refine' zeros_mul ?qqh0 ?qqhn ?_; (case qqh0 => (walk_at "cl"; omega)); (case qqhn => (walk_at "cl"; omega)); k_whole); intro _ _))
  k_with "call builtin:len" => ((k_here; (with_reducible show wpAny _ _ (call (Value.builtin "len") [Value.ref _]) _ _ _); k_dflt (refine' ba_lenN ?qqN ?qqm ?qqz ?_; (case qqN => k_asm); (case qqm => k_mem); (case qqz => (walk_at "cl"; omega)); k_whole)))
  k_with "setItem ref ref" => ((k_here; (with_reducible show wpAny _ _ (setItem (Value.ref _) (Value.ref _) (Value.ref _)) _ _ _); k_dflt (refine' ba_setN (s := ⟨_, _, _, _, _⟩) ?qqF ?qqN ?qqU ?qqm ?qqne ?qqh0 ?qqhs ?qqhz ?_; (case qqF => k_asm); (case qqN => k_asm); (case qqU => k_updF); (case qqm => k_mem); (case qqne => k_ne); (case qqh0 => (walk_at "cl"; omega)); (case qqhs => ((walk_at "cl"); first | omega | (simp only [List.length_append, List.length_replicate, Array.size_replicate, lay_length, List.length_nil] at *; omega))); (case qqhz => ((walk_at "cl"); first | omega | (simp only [List.length_append, List.length_replicate, Array.size_replicate, lay_length, List.length_nil] at *; omega))); k_whole); intro _ _ _ _ _ _; (try k_sweep)))
  k_with "getMethod ref" => ((k_here; (with_reducible show wpAny _ _ (getMethod (Value.ref _) (PySem.Str.ofString "unpack_from") _) _ _ _); k_dflt (refine' so_fromK ?qqX ?qqh ?_; (case qqX => k_in); (case qqh => exact rfl); k_whole)))
  k_with "getMethod ref" => ((k_here; (with_reducible show wpAny _ _ (getMethod (Value.ref _) (PySem.Str.ofString "pack_into") _) _ _ _); k_dflt (refine' so_intoK ?qqX ?qqh ?_; (case qqX => k_in); (case qqh => exact rfl); k_whole)))
  k_with "call builtin:_struct.Struct.unpack_from" => ((k_here; k_dflt (refine' so_fromN ?qqX ?qqF ?qqN ?qqh ?qqf ?qqb ?qqh0 ?qqh1 ?qqhz ?_; (case qqX => k_in); (case qqF => k_asm); (case qqN => k_asm); (case qqh => exact rfl); (case qqf => constructor); (case qqb => first | exact .inl ⟨_, rfl⟩ | exact .inr ⟨_, rfl, by k_mem⟩); (case qqh0 => (walk_at "cl"; omega)); (case qqh1 => (walk_at "cl"; omega)); (case qqhz => (walk_at "cl"; omega)); k_whole); intro _ _ _ _ _ _ _; (try (walk_at "lt1")); (try k_sweep)))
  k_with "call builtin:_struct.Struct.unpack_from" => ((k_here; k_dflt (refine' so_fromB ?qqX ?qqF ?qqN ?qqh ?qqf ?qqb ?qqh0 ?qqh1 ?qqhz ?_; (case qqX => k_in); (case qqF => k_asm); (case qqN => k_asm); (case qqh => exact rfl); (case qqf => constructor); (case qqb => exact BufIn.keep (by assumption) (by k_asm)); (case qqh0 => (walk_at "cl"; omega)); (case qqh1 => (walk_at "cl"; omega)); (case qqhz => (walk_at "cl"; omega)); k_whole); intro _ _ _ _ _ _ _; (try (walk_at "lt1")); (try k_sweep)))
  k_with "call builtin:_struct.Struct.pack_into" => ((k_here; k_dflt (refine' so_intoN ?qqX ?qqF ?qqN ?qqU ?qqh ?qqf ?qqh0 ?qqh1 ?qqhz ?qqlo ?qqhi ?_; (case qqX => k_in); (case qqF => k_asm); (case qqN => k_asm); (case qqU => k_updF); (case qqh => exact rfl); (case qqf => constructor); (case qqh0 => (walk_at "cl"; omega)); (case qqh1 => (walk_at "cl"; omega)); (case qqhz => (walk_at "cl"; omega)); (case qqlo => ((first | rw [if_neg (by decide)] | rw [if_pos (by decide)]); (try simp only [Nat.reduceMul, Nat.reduceSub, Int.reducePow, Int.reduceNeg]); walk_at "cl"; omega)); (case qqhi => ((first | rw [if_neg (by decide)] | rw [if_pos (by decide)]); (try simp only [Nat.reduceMul, Nat.reduceSub, Int.reducePow, Int.reduceNeg]); walk_at "cl"; omega)); k_whole); intro _ _ _; (try k_sweep)))
  k_with "wpC" => ((k_here; (with_reducible show wpC _ _ (call (Value.ref _) _ _) _ _ _); (walk_at "wpCc")))
  k_with "getAttr ref" => ((k_here; (with_reducible show wpAny _ _ (getAttr (Value.ref _) (PySem.Str.ofString "py_type") _) _ _ _); k_dflt (refine' cls_int ?qqF ?qqX ?qqm ?qqr ?qqe0 ?qqe1 ?qqh ?_; (case qqF => k_asm); (case qqX => k_asm); (case qqm => k_is); (case qqr => k_is); (case qqe0 => k_is); (case qqe1 => k_is); (case qqh => decide +kernel); k_whole)))
  k_with "getAttr ref" => ((k_here; k_dflt (refine' get_slot ?qqk1 ?qqk2 ?qqk3 ?qqk4 ?qqk5 ?qqk6 ?qqk7 ?qqk8 ?qqk9 ?qqk10 ?qqk11 ?_; (case qqk1 => k_asm); (case qqk2 => k_asm); (case qqk3 => k_inst); (case qqk4 => k_is); (case qqk5 => k_is); (case qqk6 => k_is); (case qqk7 => k_is); (case qqk8 => k_is); (case qqk9 => k_is); (case qqk10 => k_slotget); (case qqk11 => exact BufIn.handed (by assumption)); k_whole)))
  k_with "subscriptTail" => ((k_here; (fail_if_success (with_reducible show wpAny _ _ (subscriptTail _ _ (Value.ref _) _) _ _ _)); (fail_if_success (with_reducible show wpAny _ _ (subscriptTail _ _ (Value.bytes _ _) _) _ _ _)); k_dflt (refine' buf_cut (s := ⟨_, _, _, _, _⟩) ?qqF ?qqN ?qqH ?qql ?qqu ?qqz ?_; (case qqF => k_asm); (case qqN => k_asm); (case qqH => exact BufIn.keep (by assumption) (by k_asm)); (case qql => constructor); (case qqu => constructor); (case qqz => (walk_at "cl"; omega)); k_whole); intro _ _ _ _ _ _; (try k_sweep)))
  k_with "call type:bytes" => ((k_here; k_dflt (refine' bytes_of_buf ?qqH ?qqz ?_; (case qqH => assumption); (case qqz => first | exact Nat.le_trans (KBc.size_picked_le _ _ _) (by (walk_at "cl"); omega) | (simp only [Array.size_extract]; (walk_at "cl"); omega)); k_whole); intro _ _))
  k_with "call ref" => ((k_here; (with_reducible show wpAny _ _ (call (Value.ref 230) [_, Value.ref 131, _] _) _ _ _); k_dflt (refine' tget131_k ?qqB ?qqF ?qqX ?qqT ?qqhk ?qqhd ?qqhu ?qqf0 ?qqf1 ?qqf2 ?qqf3 ?qqf4 (part_of ?qqN (sub2 ?qqm0 ?qqm1) ?qqS) ?_; (case qqB => k_asm); (case qqF => k_asm); (case qqX => k_asm); (case qqT => k_asm); (case qqhk => first | exact rfl | assumption); (case qqN => k_asm); (case qqm0 => k_mem); (case qqm1 => k_mem); (case qqhd => (walk_at "room")); (case qqhu => (walk_at "units")); (case qqf0 => (exact BufIn.keep (by assumption) (by k_asm))); (case qqf1 => (walk_at "ft")); (case qqf2 => (walk_at "ft")); (case qqf3 => (walk_at "ft")); (case qqf4 => (first | with_reducible assumption | exact rfl)); (case qqS => (walk_at "sel"))); intro _ _ _ _ _ _; (walk_at "fin9")))
  k_with "call ref" => ((k_here; (with_reducible show wpAny _ _ (call (Value.ref 152) [_, Value.ref 131] _) _ _ _); k_dflt (refine' enf131_k ?qqB ?qqF ?qqX ?qqT ?qqhk ?qqhd ?qqhu ?qqf0 ?qqf1 (part_of ?qqN (sub0 ) ?qqS) ?_; (case qqB => k_asm); (case qqF => k_asm); (case qqX => k_asm); (case qqT => k_asm); (case qqhk => first | exact rfl | assumption); (case qqN => k_asm); (case qqhd => (walk_at "room")); (case qqhu => (walk_at "units")); (case qqf0 => (walk_at "ft")); (case qqf1 => (walk_at "ft")); (case qqS => (walk_at "sel"))); intro _ _  _ _ _; (walk_at "fin9")))
  k_with "call ref" => ((k_here; (with_reducible show wpAny _ _ (call (Value.ref 159) [Value.ref 52, _, _] _) _ _ _); k_dflt (refine' get52_k ?qqB ?qqF ?qqX ?qqT ?qqhk ?qqhd ?qqhu ?qqf0 ?qqf1 ?qqf2 ?qqf3 (part_of ?qqN (sub0 ) ?qqS) ?_; (case qqB => k_asm); (case qqF => k_asm); (case qqX => k_asm); (case qqT => k_asm); (case qqhk => first | exact rfl | assumption); (case qqN => k_asm); (case qqhd => (walk_at "room")); (case qqhu => (walk_at "units")); (case qqf0 => (exact BufIn.keep (by assumption) (by k_asm))); (case qqf1 => (walk_at "ft")); (case qqf2 => (walk_at "ft")); (case qqf3 => (walk_at "ft")); (case qqS => (walk_at "sel"))); intro _ _ _ _ _ _; (walk_at "fin9")))
  trivial

theorem tvlen_k : ∀ {w : World} {mean : ExcName → Option Value} {mg mb : Str → Option Value} {dp un : Nat} {cn : Str} {cs : Scope} {a : Addr} {ccd : Value} {cl : List (Str × Addr)} {outer : List Env} {A₀ : Around} {base h₀ : Heap} {L : Addr} {m : Str → Option Value} {s : Shared}
    {Q E : Value → Shared → Prop} {rest : List (Addr × Obj)} (B : Below A₀ base outer h₀) (F : Fr h₀ L s.heap m) (X : (Mine.hd.heap_39 w.params).In h₀) (T : Top Mine.hd.view_39 LO mean mg mb h₀) (hk : cs.kind = .function) (hd : dp + 2 < recursionLimit) (hu : un + 16 < cLine) {t : Addr} {tdx : Addr} {bv : Value} {arr : Array UInt8} {pos : Int} {tp : Tok} {off : Int} {u : Tok} {d : Int} {ln : Int} (HB : BufIn s.heap bv arr) (hz : arr.size ≤ 4096) (h0 : 0 ≤ off) (h00 : 0 ≤ pos) (h1 : off + pos + 4 ≤ arr.size) (hd0 : told 'I' 4 (arr.extract (off + pos).toNat ((off + pos).toNat + 4)) = d) (h2 : 0 ≤ off + pos + d) (h3 : off + pos + d + 4 ≤ arr.size) (hx : told 'I' 4 (arr.extract (off + pos + d).toNat ((off + pos + d).toNat + 4)) = ln) (P : Part h₀ L s.heap [(t, TO tdx bv pos tp), (tdx, dictOf [] 0)] rest)
    (hret : ∀ (h' : Heap) (tk' : Nat) (tk2 : Tok), Fr h₀ L h' m → News h₀ L h' ([(t, TO tdx bv pos tp), (tdx, dictOf [] 0)] ++ rest) → AllNes [(t, TO tdx bv pos tp), (tdx, dictOf [] 0)] rest → Q (.int ln tk2) { s with heap := h', toks := tk' }),
    wpAny (model _root_.PySem.Challenge.rw_bp0005_01.row.prog w) (ktrTop dp un (some []) cn cs L a ccd cl outer) (call (.ref 209) [.ref t, .int off u] ) Q E s := by
  refine @Mine.hush _ (by
  k_fill
  intro w mean mg mb dp un cn cs a ccd cl outer A₀ base h₀ L m s Q E rest B F X T hk hd hu t tdx bv arr pos tp off u d ln HB hz h0 h00 h1 hd0 h2 h3 hx P hret
  have N := P.news
  have hdis := P.dis
  have n1 := newsTO N
  refine wpAny_call ?_
  k_dflt (refine' defA ?k1 ?k2 ?k3 ?k4 ?kd ?k5 ?kA ?kF ?kK ?k6 ?k7 ?k8 ?k9 ?kB ?_ ?c2 ?c3 ?c4 ?c5; (case kA => exact rfl); (case kF => exact rfl); (case kK => assumption); (case k1 => k_asm); (case k2 => k_asm); (case k3 => k_asm); (case k4 => k_asm); (case kd => k_asm); (case k5 => k_asm); (case k6 => k_is); (case k7 => k_is); (case k8 => ktr_room); (case k9 => exact BindsTo.of_eq rfl); (case c5 => decide); (case kB => exact locs rfl); (case c2 => exact rfl); (case c3 => exact rfl); (case c4 => exact rfl); k_whole; intro g' L' h' FG' F' N' B' X' T' l0 G; (try dsimp only); (try k_fold))
  have HBg := HB.enter P.news G clsTO
  k_steps
  all_goals dsimp only [wants]
  all_goals (rename_i kF kN kD; rw [← hx, ← hd0] at hret; exact hret _ _ _ kF (news_sub kN (sub2 (by k_mem) (by k_mem))) (allNes_of (dis_sub kD (sub2 (by k_mem) (by k_mem)))))) ?_
  intro q f
  simpa using Mine.hushed f 5 fun n i => i
theorem setup_KT3_2 : True := by
  k_with "call ref" => ((k_here; (with_reducible show wpAny _ _ (call (Value.ref 209) _ _) _ _ _); k_dflt (refine' tvlen_k ?qqB ?qqF ?qqX ?qqT ?qqhk ?qqhd ?qqhu ?qqf0 ?qqf1 ?qqf2 ?qqf3 ?qqf4 ?qqf5 ?qqf6 ?qqf7 ?qqf8 (part_of ?qqN (sub2 ?qqm0 ?qqm1) ?qqS) ?_; (case qqB => k_asm); (case qqF => k_asm); (case qqX => k_asm); (case qqT => k_asm); (case qqhk => first | exact rfl | assumption); (case qqN => k_asm); (case qqm0 => k_mem); (case qqm1 => k_mem); (case qqhd => (walk_at "room")); (case qqhu => (walk_at "units")); (case qqf0 => (exact BufIn.keep (by assumption) (by k_asm))); (case qqf1 => (walk_at "ft")); (case qqf2 => (walk_at "ft")); (case qqf3 => (walk_at "ft")); (case qqf4 => (walk_at "ft")); (case qqf5 => (first | with_reducible assumption | exact rfl)); (case qqf6 => (walk_at "ft")); (case qqf7 => (walk_at "ft")); (case qqf8 => (first | with_reducible assumption | exact rfl)); (case qqS => (walk_at "sel"))); intro _ _ _ _ _ _; (walk_at "fin9")))
  trivial

theorem tvec_k : ∀ {w : World} {mean : ExcName → Option Value} {mg mb : Str → Option Value} {dp un : Nat} {cn : Str} {cs : Scope} {a : Addr} {ccd : Value} {cl : List (Str × Addr)} {outer : List Env} {A₀ : Around} {base h₀ : Heap} {L : Addr} {m : Str → Option Value} {s : Shared}
    {Q E : Value → Shared → Prop} {rest : List (Addr × Obj)} (B : Below A₀ base outer h₀) (F : Fr h₀ L s.heap m) (X : (Mine.hd.heap_39 w.params).In h₀) (T : Top Mine.hd.view_39 LO mean mg mb h₀) (hk : cs.kind = .function) (hd : dp + 3 < recursionLimit) (hu : un + 24 < cLine) {t : Addr} {tdx : Addr} {bv : Value} {arr : Array UInt8} {pos : Int} {tp : Tok} {off : Int} {u : Tok} {d : Int} (HB : BufIn s.heap bv arr) (hz : arr.size ≤ 4096) (h0 : 0 ≤ off) (h00 : 0 ≤ pos) (h1 : off + pos + 4 ≤ arr.size) (hd0 : told 'I' 4 (arr.extract (off + pos).toNat ((off + pos).toNat + 4)) = d) (P : Part h₀ L s.heap [(t, TO tdx bv pos tp), (tdx, dictOf [] 0)] rest)
    (hret : ∀ (h' : Heap) (tk' : Nat) (tk2 : Tok), Fr h₀ L h' m → News h₀ L h' ([(t, TO tdx bv pos tp), (tdx, dictOf [] 0)] ++ rest) → AllNes [(t, TO tdx bv pos tp), (tdx, dictOf [] 0)] rest → Q (.int (off + pos + d + 4) tk2) { s with heap := h', toks := tk' }),
    wpAny (model _root_.PySem.Challenge.rw_bp0005_01.row.prog w) (ktrTop dp un (some []) cn cs L a ccd cl outer) (call (.ref 216) [.ref t, .int off u] ) Q E s := by
  refine @Mine.hush _ (by
  k_fill
  intro w mean mg mb dp un cn cs a ccd cl outer A₀ base h₀ L m s Q E rest B F X T hk hd hu t tdx bv arr pos tp off u d HB hz h0 h00 h1 hd0 P hret
  have N := P.news
  have hdis := P.dis
  have n1 := newsTO N
  refine wpAny_call ?_
  k_dflt (refine' defA ?k1 ?k2 ?k3 ?k4 ?kd ?k5 ?kA ?kF ?kK ?k6 ?k7 ?k8 ?k9 ?kB ?_ ?c2 ?c3 ?c4 ?c5; (case kA => exact rfl); (case kF => exact rfl); (case kK => assumption); (case k1 => k_asm); (case k2 => k_asm); (case k3 => k_asm); (case k4 => k_asm); (case kd => k_asm); (case k5 => k_asm); (case k6 => k_is); (case k7 => k_is); (case k8 => ktr_room); (case k9 => exact BindsTo.of_eq rfl); (case c5 => decide); (case kB => exact locs rfl); (case c2 => exact rfl); (case c3 => exact rfl); (case c4 => exact rfl); k_whole; intro g' L' h' FG' F' N' B' X' T' l0 G; (try dsimp only); (try k_fold))
  have HBg := HB.enter P.news G clsTO
  k_steps
  all_goals dsimp only [wants]
  all_goals (rename_i kF kN kD; exact hret _ _ _ kF (news_sub kN (sub2 (by k_mem) (by k_mem))) (allNes_of (dis_sub kD (sub2 (by k_mem) (by k_mem)))))) ?_
  intro q f
  simpa using Mine.hushed f 5 fun n i => i
theorem setup_KT3_3 : True := by
  k_with "call ref" => ((k_here; (with_reducible show wpAny _ _ (call (Value.ref 216) _ _) _ _ _); k_dflt (refine' tvec_k ?qqB ?qqF ?qqX ?qqT ?qqhk ?qqhd ?qqhu ?qqf0 ?qqf1 ?qqf2 ?qqf3 ?qqf4 ?qqf5 (part_of ?qqN (sub2 ?qqm0 ?qqm1) ?qqS) ?_; (case qqB => k_asm); (case qqF => k_asm); (case qqX => k_asm); (case qqT => k_asm); (case qqhk => first | exact rfl | assumption); (case qqN => k_asm); (case qqm0 => k_mem); (case qqm1 => k_mem); (case qqhd => (walk_at "room")); (case qqhu => (walk_at "units")); (case qqf0 => (exact BufIn.keep (by assumption) (by k_asm))); (case qqf1 => (walk_at "ft")); (case qqf2 => (walk_at "ft")); (case qqf3 => (walk_at "ft")); (case qqf4 => (walk_at "ft")); (case qqf5 => (first | with_reducible assumption | exact rfl)); (case qqS => (walk_at "sel"))); intro _ _ _ _ _ _; (walk_at "fin9")))
  trivial

theorem tstr_k : ∀ {w : World} {mean : ExcName → Option Value} {mg mb : Str → Option Value} {dp un : Nat} {cn : Str} {cs : Scope} {a : Addr} {ccd : Value} {cl : List (Str × Addr)} {outer : List Env} {A₀ : Around} {base h₀ : Heap} {L : Addr} {m : Str → Option Value} {s : Shared}
    {Q E : Value → Shared → Prop} {rest : List (Addr × Obj)} (B : Below A₀ base outer h₀) (F : Fr h₀ L s.heap m) (X : (Mine.hd.heap_39 w.params).In h₀) (T : Top Mine.hd.view_39 LO mean mg mb h₀) (hk : cs.kind = .function) (hd : dp + 2 < recursionLimit) (hu : un + 16 < cLine) {t : Addr} {tdx : Addr} {bv : Value} {arr : Array UInt8} {pos : Int} {tp : Tok} {off : Int} {u : Tok} {d : Int} {ln : Int} (HB : BufIn s.heap bv arr) (hz : arr.size ≤ 4096) (h0 : 0 ≤ off) (h1 : off + 4 ≤ arr.size) (hd0 : told 'I' 4 (arr.extract (off).toNat ((off).toNat + 4)) = d) (h2 : 0 ≤ off + d) (h3 : off + d + 4 + ln ≤ arr.size) (h4 : 0 ≤ ln) (hx : told 'I' 4 (arr.extract (off + d).toNat ((off + d).toNat + 4)) = ln) (P : Part h₀ L s.heap [(t, TO tdx bv pos tp), (tdx, dictOf [] 0)] rest)
    (hret : ∀ (h' : Heap) (tk' : Nat) (tk2 : Tok), Fr h₀ L h' m → News h₀ L h' ([(t, TO tdx bv pos tp), (tdx, dictOf [] 0)] ++ rest) → AllNes [(t, TO tdx bv pos tp), (tdx, dictOf [] 0)] rest → Q (.bytes (arr.extract (off + d + 4).toNat (off + d + 4 + ln).toNat) tk2) { s with heap := h', toks := tk' }),
    wpAny (model _root_.PySem.Challenge.rw_bp0005_01.row.prog w) (ktrTop dp un (some []) cn cs L a ccd cl outer) (call (.ref 202) [.ref t, .int off u] ) Q E s := by
  refine @Mine.hush _ (by
  k_fill
  intro w mean mg mb dp un cn cs a ccd cl outer A₀ base h₀ L m s Q E rest B F X T hk hd hu t tdx bv arr pos tp off u d ln HB hz h0 h1 hd0 h2 h3 h4 hx P hret
  have N := P.news
  have hdis := P.dis
  have n1 := newsTO N
  refine wpAny_call ?_
  k_dflt (refine' defA ?k1 ?k2 ?k3 ?k4 ?kd ?k5 ?kA ?kF ?kK ?k6 ?k7 ?k8 ?k9 ?kB ?_ ?c2 ?c3 ?c4 ?c5; (case kA => exact rfl); (case kF => exact rfl); (case kK => assumption); (case k1 => k_asm); (case k2 => k_asm); (case k3 => k_asm); (case k4 => k_asm); (case kd => k_asm); (case k5 => k_asm); (case k6 => k_is); (case k7 => k_is); (case k8 => ktr_room); (case k9 => exact BindsTo.of_eq rfl); (case c5 => decide); (case kB => exact locs rfl); (case c2 => exact rfl); (case c3 => exact rfl); (case c4 => exact rfl); k_whole; intro g' L' h' FG' F' N' B' X' T' l0 G; (try dsimp only); (try k_fold))
  have HBg := HB.enter P.news G clsTO
  k_steps
  try dsimp only [wants]
  rename_i kF kN kD
  simp only [hd0, hx]
  rw [pick_in (by omega) (by omega) (by omega)]
  exact hret _ _ _ kF (news_sub kN (sub2 (by k_mem) (by k_mem))) (allNes_of (dis_sub kD (sub2 (by k_mem) (by k_mem))))) ?_
  intro q f
  simpa using Mine.hushed f 5 fun n i => i
-- KT4

theorem setup_KT4_1 : True := by
  k_with_none
  k_with "wpC" => ((k_here; (with_reducible show wpC _ _ _ _ _ _); (fail_if_success (with_reducible show wpC _ _ (setItem _ _ (Value.bytes _ _)) _ _ _)); (fail_if_success (with_reducible show wpC _ _ (call (Value.ref _) _ _) _ _ _)); (fail_if_success (with_reducible show wpC _ _ (callWith _ (Value.type _) _ _ _) _ _ _)); (fail_if_success (with_reducible show wpC _ _ (call (Value.type _) _ _) _ _ _)); (refine of_any ?_)))
  k_with "wpC" => ((k_here; (with_reducible show wpC _ _ (call (Value.ref _) _ _) _ _ _); (refine' of_anyD ?qqd ?_; (case qqd => (walk_at "dirty")))))
  k_with "wpC" => ((k_here; (with_reducible show wpC _ _ (exec (Stmt.While _ _ _ _) _) _ _ _); (refine c_While ?_)))
  k_with "wpC" => ((k_here; (with_reducible show wpC _ _ (exec (Stmt.If _ _ _ _) _) _ _ _); (refine c_If ?_)))
  k_with "wpC" => ((k_here; (with_reducible show wpC _ _ (exec (Stmt.Assign [Expr.Subscript _ (Expr.Slice _ _ _ _) _] _ _) _) _ _ _); k_dflt (refine c_Assign_Subscript ?_)))
  k_with "wpC" => ((k_here; (with_reducible show wpC _ _ (exec (Stmt.Expr (Expr.Call (Expr.Attribute _ _ _) _ _ _) _) _) _ _ _); k_dflt (refine' c_ExprD ?qqd ?_; (case qqd => (walk_at "dirty")))))
  k_with "wpC" => ((k_here; (with_reducible show wpC _ _ (exec (Stmt.Return (some (Expr.Call (Expr.Attribute _ _ _) _ _ _)) _) _) _ _ _); k_dflt (refine' c_ReturnD ?qqd ?_; (case qqd => (walk_at "dirty")))))
  k_with "wpC" => ((k_here; (with_reducible show wpC _ _ (exec (Stmt.Assign [Expr.Name _ _] (Expr.Call (Expr.Attribute _ _ _) _ _ _) _) _) _ _ _); k_dflt (refine' c_AssignD ?qqd ?_; (case qqd => (walk_at "dirty")))))
  k_with "wpC" => ((k_here; (with_reducible show wpC _ _ (eval (Expr.Call (Expr.Attribute _ _ _) _ _ _) _) _ _ _); k_dflt (refine' c_MethodCallSD ?qqd ?_; (case qqd => (walk_at "dirty")))))
  k_with "wpC" => ((k_here; (with_reducible show wpC _ _ (eval (Expr.Call (Expr.Attribute _ _ _) _ _ _) _) _ _ _); k_dflt (refine' c_MethodCallD ?qqd ?_; (case qqd => (walk_at "dirty")))))
  k_with "wpC" => ((k_here; (with_reducible show wpC _ _ (exec (Stmt.Assign [Expr.Name _ _] (Expr.Call (Expr.Name (PySem.Str.ofString "Builder") _) _ _ _) _) _) _ _ _); k_dflt (refine c_Assign_Name ?_)))
  k_with "wpC" => ((k_here; (with_reducible show wpC _ _ (eval (Expr.Call (Expr.Name (PySem.Str.ofString "Builder") _) _ _ _) _) _ _ _); k_dflt (refine c_Call ?_)))
  k_with "wpC" => ((k_here; (with_reducible show wpC _ _ (exec (Stmt.Assign [Expr.Name _ _] (Expr.Call (Expr.Name (PySem.Str.ofString "_law_made") _) _ _ _) _) _) _ _ _); k_dflt (refine c_Assign_Name ?_)))
  k_with "wpC" => ((k_here; (with_reducible show wpC _ _ (eval (Expr.Call (Expr.Name (PySem.Str.ofString "_law_made") _) _ _ _) _) _ _ _); k_dflt (refine c_Call ?_)))
  k_with "wpC" => ((k_here; (with_reducible show wpC _ _ (exec (Stmt.Assign [Expr.Attribute _ _ _] (Expr.Call (Expr.Name (PySem.Str.ofString "bytearray") _) _ _ _) _) _) _ _ _); k_dflt (refine c_Assign_Attr ?_)))
  k_with "wpC" => ((k_here; (with_reducible show wpC _ _ (exec (Stmt.Assign [Expr.Name _ _] (Expr.Call (Expr.Name (PySem.Str.ofString "bytearray") _) _ _ _) _) _) _ _ _); k_dflt (refine c_Assign_Name ?_)))
  k_with "wpC" => ((k_here; (with_reducible show wpC _ _ (eval (Expr.Call (Expr.Name (PySem.Str.ofString "bytearray") _) _ _ _) _) _ _ _); k_dflt (refine c_Call ?_)))
  k_with "wpC" => ((k_here; (with_reducible show wpC _ _ (execs [] _) _ _ _); (refine c_execs_nil ?_)))
  k_with "wpC" => ((k_here; (with_reducible show wpC _ _ (execs (_ :: _) _) _ _ _); (refine c_execs_cons ?_)))
  k_with "wpC" => ((k_here; (with_reducible show wpC _ _ (callWith _ (Value.ref _) _ _ _) _ _ _); k_dflt (first | refine' c_callWith_K ?qqk1 ?qqk2 ?_; (case qqk1 => k_asm); (case qqk2 => k_is); k_whole | refine' c_callWith_S ?qqk1 ?qqk2 ?_; (case qqk1 => k_asm); (case qqk2 => k_is); k_whole | refine' c_callWith_MS ?qqk1 ?qqk2 ?qqk3 ?qqk4 ?_; (case qqk1 => k_asm); (case qqk2 => k_asm); (case qqk3 => k_mem); (case qqk4 => k_is); k_whole | refine' c_callWith_K0 ?qqk1 ?qqk2 ?_; (case qqk1 => k_in); (case qqk2 => k_is); k_whole | refine' c_callWith_KW ?qqk1 ?qqk2 ?qqk3 ?_; (case qqk1 => k_asm); (case qqk2 => k_is); (case qqk3 => exact rfl); k_whole)))
  k_with "wpC" => ((k_here; (with_reducible show wpC _ _ (callWith _ (Value.type _) _ _ _) _ _ _); k_dflt (refine' c_callWith_T ?_)))
  k_with "wpC" => ((k_here; (with_reducible show wpC _ _ (setItem (Value.ref _) (Value.ref _) (Value.bytes _ _)) _ _ _); k_dflt (refine' c_setN (s := ⟨_, _, _, _, _⟩) ?qqg ?qqF ?qqN ?qqU ?qqh ?qqej ?qqh0 ?qqhs ?qqz ?_; (case qqF => k_asm); (case qqN => k_asm); (case qqU => k_updF); (case qqh => k_asm); (case qqg => exact rfl); (case qqej => (walk_at "cl"; omega)); (case qqh0 => (walk_at "cl"; omega)); (case qqhs => ((walk_at "cl"); first | omega | (simp only [List.length_append, List.length_replicate, Array.size_replicate, lay_length, List.length_nil] at *; omega))); (case qqz => (walk_at "cl"; omega)); k_whole); intro _ _ _ _ _ _; (try k_sweep)))
  k_with "wpC" => ((k_here; (with_reducible show wpC _ _ (call (Value.type _) [Value.int _ _]) _ _ _); k_dflt (refine' c_new_int ?qqg ?qqF ?qqN ?qqh0 ?qqhz ?_; (case qqg => exact rfl); (case qqF => k_asm); (case qqN => k_asm); (case qqh0 => (walk_at "cl"; omega)); (case qqhz => (walk_at "cl"; omega)); k_whole); intro _ _ _ _ _; (try (walk_at "lt1")); (try k_sweep)))
  k_with "wpC" => ((k_here; (with_reducible show wpC _ _ (call (Value.type _) [Value.bytes _ _]) _ _ _); k_dflt (refine' c_new_bytes ?qqg ?qqF ?qqN ?qqhz ?_; (case qqg => exact rfl); (case qqF => k_asm); (case qqN => k_asm); (case qqhz => (walk_at "cl"; omega)); k_whole); intro _ _ _ _ _; (try (walk_at "lt1")); (try k_sweep)))
  k_with "LeaveM" => ((k_dflt (refine' leaveM_ ?qqk1 ?qqk2 ?_; (case qqk1 => k_asm); (case qqk2 => k_asm); k_whole); intro _ _ _; (try dsimp only [InitBack, CmpBack, LenBack, StrBack, BoolBack]); (try refine ⟨rfl, ?_⟩)))
  k_with "getMethod str" => ((k_here; (with_reducible show wpAny _ _ (getMethod (Value.str _ _) (PySem.Str.ofString "encode") _) _ _ _); k_dflt (refine' str_encode_get ?_; k_whole)))
  k_with "call builtin:str.encode" => ((k_here; k_dflt (refine' str_encode ?qqh ?qqz ?_; (case qqh => k_asm); (case qqz => (walk_at "cl"; omega)); k_whole); intro _ _))
  k_with "getAttr ref" => ((k_here; k_dflt (refine' kbm_boundS ?qqk1 ?qqk2 ?qqk3 ?qqk4 ?qqk5 ?qqk6 ?qqk6b ?qqk7 ?qqk8 ?qqk9 ?qqk10 ?qqk11 ?_; (case qqk4 => k_inst); (case qqk1 => k_asm); (case qqk2 => k_asm); (case qqk7 => k_is); (case qqk3 => k_asm); (case qqk5 => k_is); (case qqk6 => k_is); (case qqk6b => k_is); (case qqk8 => k_is); (case qqk9 => k_is); (case qqk10 => k_is); (case qqk11 => decide +kernel); k_whole); intro _ _ _ _ _; (try (walk_at "lt1")); (try k_sweep)))
  k_with "eval Name" => ((k_here; (with_reducible show wpAny _ _ (eval (Expr.Name (PySem.Str.ofString "bytearray") _) _) _ _ _); with_unfolding_all refine guard_global (by rfl) ?_; k_dflt (refine' name_B ?qqkF ?qqk1 ?qqk2 ?qqk3 ?qqk4 ?qqk5 ?_; (case qqkF => with_reducible assumption); (case qqk1 => with_reducible assumption); (case qqk2 => k_asm); (case qqk3 => k_is); (case qqk4 => boot_by_name); (case qqk5 => decide); k_whole)))
  k_with "getAttr ref" => ((k_here; (with_reducible show wpAny _ _ (getAttr (Value.ref _) _ _) _ _ _); k_dflt (refine' get_slot ?qqk1 ?qqk2 ?qqk3 ?qqk4 ?qqk5 ?qqk6 ?qqk7 ?qqk8 ?qqk9 ?qqk10 ?qqk11 ?_; (case qqk1 => with_reducible assumption); (case qqk2 => with_reducible assumption); (case qqk3 => k_inst); (case qqk4 => k_is); (case qqk5 => k_is); (case qqk6 => k_is); (case qqk7 => k_is); (case qqk8 => k_is); (case qqk9 => k_is); (case qqk10 => k_slotget); (case qqk11 => k_handed); k_whole)))
  k_with "ite" => ((k_here; k_openite; k_dflt (first | (refine ite_pos (by ((walk_at "cl"); (try simp only [decide_eq_true_eq, beq_iff_eq, bne_iff_ne, ne_eq]); omega)) ?_) | (refine ite_neg (by ((walk_at "cl"); (try simp only [decide_eq_true_eq, beq_iff_eq, bne_iff_ne, ne_eq]); omega)) ?_)); walk_say "PRUNED here"))
  k_with "binaryOp Mult bytes int" => ((k_here; k_dflt (refine' zeros_mul ?qqh0 ?qqhn ?_; (case qqh0 => (walk_at "cl"; omega)); (case qqhn => (walk_at "cl"; omega)); k_whole); intro _ _))
  k_with "call builtin:len" => ((k_here; (with_reducible show wpAny _ _ (call (Value.builtin "len") [Value.ref _]) _ _ _); k_dflt (refine' ba_lenN ?qqN ?qqm ?qqz ?_; (case qqN => k_asm); (case qqm => k_mem); (case qqz => (walk_at "cl"; omega)); k_whole)))
  k_with "setItem ref ref" => ((k_here; (with_reducible show wpAny _ _ (setItem (Value.ref _) (Value.ref _) (Value.ref _)) _ _ _); k_dflt (refine' ba_setN (s := ⟨_, _, _, _, _⟩) ?qqF ?qqN ?qqU ?qqm ?qqne ?qqh0 ?qqhs ?qqhz ?_; (case qqF => k_asm); (case qqN => k_asm); (case qqU => k_updF); (case qqm => k_mem); (case qqne => k_ne); (case qqh0 => (walk_at "cl"; omega)); (case qqhs => ((walk_at "cl"); first | omega | (simp only [List.length_append, List.length_replicate, Array.size_replicate, lay_length, List.length_nil] at *; omega))); (case qqhz => ((walk_at "cl"); first | omega | (simp only [List.length_append, List.length_replicate, Array.size_replicate, lay_length, List.length_nil] at *; omega))); k_whole); intro _ _ _ _ _ _; (try k_sweep)))
  k_with "getMethod ref" => ((k_here; (with_reducible show wpAny _ _ (getMethod (Value.ref _) (PySem.Str.ofString "unpack_from") _) _ _ _); k_dflt (refine' so_fromK ?qqX ?qqh ?_; (case qqX => k_in); (case qqh => exact rfl); k_whole)))
  k_with "getMethod ref" => ((k_here; (with_reducible show wpAny _ _ (getMethod (Value.ref _) (PySem.Str.ofString "pack_into") _) _ _ _); k_dflt (refine' so_intoK ?qqX ?qqh ?_; (case qqX => k_in); (case qqh => exact rfl); k_whole)))
  k_with "call builtin:_struct.Struct.unpack_from" => ((k_here; k_dflt (refine' so_fromN ?qqX ?qqF ?qqN ?qqh ?qqf ?qqb ?qqh0 ?qqh1 ?qqhz ?_; (case qqX => k_in); (case qqF => k_asm); (case qqN => k_asm); (case qqh => exact rfl); (case qqf => constructor); (case qqb => first | exact .inl ⟨_, rfl⟩ | exact .inr ⟨_, rfl, by k_mem⟩); (case qqh0 => (walk_at "cl"; omega)); (case qqh1 => (walk_at "cl"; omega)); (case qqhz => (walk_at "cl"; omega)); k_whole); intro _ _ _ _ _ _ _; (try (walk_at "lt1")); (try k_sweep)))
  k_with "call builtin:_struct.Struct.unpack_from" => ((k_here; k_dflt (refine' so_fromB ?qqX ?qqF ?qqN ?qqh ?qqf ?qqb ?qqh0 ?qqh1 ?qqhz ?_; (case qqX => k_in); (case qqF => k_asm); (case qqN => k_asm); (case qqh => exact rfl); (case qqf => constructor); (case qqb => exact BufIn.keep (by assumption) (by k_asm)); (case qqh0 => (walk_at "cl"; omega)); (case qqh1 => (walk_at "cl"; omega)); (case qqhz => (walk_at "cl"; omega)); k_whole); intro _ _ _ _ _ _ _; (try (walk_at "lt1")); (try k_sweep)))
  k_with "call builtin:_struct.Struct.pack_into" => ((k_here; k_dflt (refine' so_intoN ?qqX ?qqF ?qqN ?qqU ?qqh ?qqf ?qqh0 ?qqh1 ?qqhz ?qqlo ?qqhi ?_; (case qqX => k_in); (case qqF => k_asm); (case qqN => k_asm); (case qqU => k_updF); (case qqh => exact rfl); (case qqf => constructor); (case qqh0 => (walk_at "cl"; omega)); (case qqh1 => (walk_at "cl"; omega)); (case qqhz => (walk_at "cl"; omega)); (case qqlo => ((first | rw [if_neg (by decide)] | rw [if_pos (by decide)]); (try simp only [Nat.reduceMul, Nat.reduceSub, Int.reducePow, Int.reduceNeg]); walk_at "cl"; omega)); (case qqhi => ((first | rw [if_neg (by decide)] | rw [if_pos (by decide)]); (try simp only [Nat.reduceMul, Nat.reduceSub, Int.reducePow, Int.reduceNeg]); walk_at "cl"; omega)); k_whole); intro _ _ _; (try k_sweep)))
  k_with "wpC" => ((k_here; (with_reducible show wpC _ _ (call (Value.ref _) _ _) _ _ _); (walk_at "wpCc")))
  k_with "getAttr ref" => ((k_here; (with_reducible show wpAny _ _ (getAttr (Value.ref _) (PySem.Str.ofString "py_type") _) _ _ _); k_dflt (refine' cls_int ?qqF ?qqX ?qqm ?qqr ?qqe0 ?qqe1 ?qqh ?_; (case qqF => k_asm); (case qqX => k_asm); (case qqm => k_is); (case qqr => k_is); (case qqe0 => k_is); (case qqe1 => k_is); (case qqh => decide +kernel); k_whole)))
  k_with "getAttr ref" => ((k_here; k_dflt (refine' get_slot ?qqk1 ?qqk2 ?qqk3 ?qqk4 ?qqk5 ?qqk6 ?qqk7 ?qqk8 ?qqk9 ?qqk10 ?qqk11 ?_; (case qqk1 => k_asm); (case qqk2 => k_asm); (case qqk3 => k_inst); (case qqk4 => k_is); (case qqk5 => k_is); (case qqk6 => k_is); (case qqk7 => k_is); (case qqk8 => k_is); (case qqk9 => k_is); (case qqk10 => k_slotget); (case qqk11 => exact BufIn.handed (by assumption)); k_whole)))
  k_with "subscriptTail" => ((k_here; (with_reducible show wpAny _ _ (subscriptTail _ _ (Value.ref _) (Value.ref _)) _ _ _); k_dflt (refine' ba_cut (s := ⟨_, _, _, _, _⟩) ?qqF ?qqN ?qqb ?qql ?qqu ?qqz ?_; (case qqF => k_asm); (case qqN => k_asm); (case qqb => exact Fr.keep (by k_asm) _ _ (by assumption)); (case qql => constructor); (case qqu => constructor); (case qqz => (walk_at "cl"; omega)); k_whole); intro _ _ _ _ _; (try (walk_at "lt1")); (try k_sweep)))
  k_with "subscriptTail" => ((k_here; (with_reducible show wpAny _ _ (subscriptTail _ _ (Value.bytes _ _) (Value.ref _)) _ _ _); k_dflt (refine' by_cut (s := ⟨_, _, _, _, _⟩) ?qqF ?qqN ?qql ?qqu ?qqz ?_; (case qqF => k_asm); (case qqN => k_asm); (case qql => constructor); (case qqu => constructor); (case qqz => (walk_at "cl"; omega)); k_whole); intro _ _ _ _ _; (try k_sweep)))
  k_with "call ref" => ((k_here; (with_reducible show wpAny _ _ (call (Value.ref 159) [Value.ref 53, _, _] _) _ _ _); k_dflt (refine' get53_k ?qqB ?qqF ?qqX ?qqT ?qqhk ?qqhd ?qqhu ?qqf0 ?qqf1 ?qqf2 ?qqf3 (part_of ?qqN (sub0 ) ?qqS) ?_; (case qqB => k_asm); (case qqF => k_asm); (case qqX => k_asm); (case qqT => k_asm); (case qqhk => first | exact rfl | assumption); (case qqN => k_asm); (case qqhd => (walk_at "room")); (case qqhu => (walk_at "units")); (case qqf0 => (exact BufIn.keep (by assumption) (by k_asm))); (case qqf1 => (walk_at "ft")); (case qqf2 => (walk_at "ft")); (case qqf3 => (walk_at "ft")); (case qqS => (walk_at "sel"))); intro _ _ _ _ _ _; (walk_at "fin9")))
  trivial

theorem gsz_k : ∀ {w : World} {mean : ExcName → Option Value} {mg mb : Str → Option Value} {dp un : Nat} {cn : Str} {cs : Scope} {a : Addr} {ccd : Value} {cl : List (Str × Addr)} {outer : List Env} {A₀ : Around} {base h₀ : Heap} {L : Addr} {m : Str → Option Value} {s : Shared}
    {Q E : Value → Shared → Prop} {rest : List (Addr × Obj)} (B : Below A₀ base outer h₀) (F : Fr h₀ L s.heap m) (X : (Mine.hd.heap_39 w.params).In h₀) (T : Top Mine.hd.view_39 LO mean mg mb h₀) (hk : cs.kind = .function) (hd : dp + 2 < recursionLimit) (hu : un + 16 < cLine) {bv : Value} {arr : Array UInt8} {p : Int} {u : Tok} {x : Int} (HB : BufIn s.heap bv arr) (hz : arr.size ≤ 4096) (h0 : 0 ≤ p) (h1 : p + 4 ≤ arr.size) (hx : told 'i' 4 (arr.extract (p).toNat ((p).toNat + 4)) = x) (P : Part h₀ L s.heap [] rest)
    (hret : ∀ (h' : Heap) (tk' : Nat) (tk2 : Tok), Fr h₀ L h' m → News h₀ L h' ([] ++ rest) → AllNes [] rest → Q (.int x tk2) { s with heap := h', toks := tk' }),
    wpAny (model _root_.PySem.Challenge.rw_bp0005_01.row.prog w) (ktrTop dp un (some []) cn cs L a ccd cl outer) (call (.ref 754) [bv, .int p u] ) Q E s := by
  refine @Mine.hush _ (by
  k_fill
  intro w mean mg mb dp un cn cs a ccd cl outer A₀ base h₀ L m s Q E rest B F X T hk hd hu bv arr p u x HB hz h0 h1 hx P hret
  have N := P.news
  have hdis := P.dis
  refine wpAny_call ?_
  k_dflt (refine' defA ?k1 ?k2 ?k3 ?k4 ?kd ?k5 ?kA ?kF ?kK ?k6 ?k7 ?k8 ?k9 ?kB ?_ ?c2 ?c3 ?c4 ?c5; (case kA => exact rfl); (case kF => exact rfl); (case kK => assumption); (case k1 => k_asm); (case k2 => k_asm); (case k3 => k_asm); (case k4 => k_asm); (case kd => k_asm); (case k5 => k_asm); (case k6 => k_is); (case k7 => k_is); (case k8 => ktr_room); (case k9 => exact BindsTo.of_eq rfl); (case c5 => decide); (case kB => exact locs rfl); (case c2 => exact rfl); (case c3 => exact rfl); (case c4 => exact rfl); k_whole; intro g' L' h' FG' F' N' B' X' T' l0 G; (try dsimp only); (try k_fold))
  have HBg := HB.enter P.news G (fun _ h => nomatch h)
  k_steps
  all_goals dsimp only [wants]
  all_goals (rename_i kF kN kD; rw [← hx] at hret; exact hret _ _ _ kF (news_sub kN sub0) trivial)) ?_
  intro q f
  simpa using Mine.hushed f 5 fun n i => i
theorem setup_KT4_2 : True := by
  k_with "call ref" => ((k_here; (with_reducible show wpAny _ _ (call (Value.ref 754) _ _) _ _ _); k_dflt (refine' gsz_k ?qqB ?qqF ?qqX ?qqT ?qqhk ?qqhd ?qqhu ?qqf0 ?qqf1 ?qqf2 ?qqf3 ?qqf4 (part_of ?qqN (sub0 ) ?qqS) ?_; (case qqB => k_asm); (case qqF => k_asm); (case qqX => k_asm); (case qqT => k_asm); (case qqhk => first | exact rfl | assumption); (case qqN => k_asm); (case qqhd => (walk_at "room")); (case qqhu => (walk_at "units")); (case qqf0 => (exact BufIn.keep (by assumption) (by k_asm))); (case qqf1 => (walk_at "ft")); (case qqf2 => (walk_at "ft")); (case qqf3 => (walk_at "ft")); (case qqf4 => (first | with_reducible assumption | exact rfl)); (case qqS => (walk_at "sel"))); intro _ _ _ _ _ _; (walk_at "fin9")))
  trivial

theorem gbiA_k : ∀ {w : World} {mean : ExcName → Option Value} {mg mb : Str → Option Value} {dp un : Nat} {cn : Str} {cs : Scope} {a : Addr} {ccd : Value} {cl : List (Str × Addr)} {outer : List Env} {A₀ : Around} {base h₀ : Heap} {L : Addr} {m : Str → Option Value} {s : Shared}
    {Q E : Value → Shared → Prop} {rest : List (Addr × Obj)} (B : Below A₀ base outer h₀) (F : Fr h₀ L s.heap m) (X : (Mine.hd.heap_39 w.params).In h₀) (T : Top Mine.hd.view_39 LO mean mg mb h₀) (hk : cs.kind = .function) (hd : dp + 1 < recursionLimit) (hu : un + 8 < cLine) {ba : Addr} {arr : Array UInt8} {p : Int} {u : Tok} {sz : Bool} (Hb : s.heap.get? ba = some (AO arr)) (hz : arr.size ≤ 4096) (h0 : 0 ≤ p) (h1 : (if sz then p + 4 else p) + 8 ≤ arr.size) (P : Part h₀ L s.heap [] rest)
    (hret : ∀ (h' : Heap) (tk' : Nat) (x : Addr), Fr h₀ L h' m → News h₀ L h' ([(x, AO (arr.extract ((if sz then p + 4 else p) + 4).toNat ((if sz then p + 4 else p) + 4 + 4).toNat))] ++ rest) → AllNes [(x, AO (arr.extract ((if sz then p + 4 else p) + 4).toNat ((if sz then p + 4 else p) + 4 + 4).toNat))] rest → Q (.ref x) { s with heap := h', toks := tk' }),
    wpAny (model _root_.PySem.Challenge.rw_bp0005_01.row.prog w) (ktrTop dp un (some []) cn cs L a ccd cl outer) (call (.ref 762) [(.ref ba), .int p u, .bool sz] ) Q E s := by
  refine @Mine.hush _ (by
  k_fill
  intro w mean mg mb dp un cn cs a ccd cl outer A₀ base h₀ L m s Q E rest B F X T hk hd hu ba arr p u sz Hb hz h0 h1 P hret
  have N := P.news
  have hdis := P.dis
  refine wpAny_call ?_
  k_dflt (refine' defA ?k1 ?k2 ?k3 ?k4 ?kd ?k5 ?kA ?kF ?kK ?k6 ?k7 ?k8 ?k9 ?kB ?_ ?c2 ?c3 ?c4 ?c5; (case kA => exact rfl); (case kF => exact rfl); (case kK => assumption); (case k1 => k_asm); (case k2 => k_asm); (case k3 => k_asm); (case k4 => k_asm); (case kd => k_asm); (case k5 => k_asm); (case k6 => k_is); (case k7 => k_is); (case k8 => ktr_room); (case k9 => exact binds_K (by k_in) rfl (by k_is) rfl rfl rfl); (case c5 => decide); (case kB => exact locs rfl); (case c2 => exact rfl); (case c3 => exact rfl); (case c4 => exact rfl); k_whole; intro g' L' h' FG' F' N' B' X' T' l0 G; (try dsimp only); (try k_fold))
  have Hg : g'.get? ba = some (AO arr) := G _ _ Hb (fun _ h => nomatch h)
  cases sz
  all_goals simp only [Bool.false_eq_true, if_false, if_true] at h1 hret
  all_goals k_steps
  all_goals (try dsimp only [wants])
  all_goals rename_i kF kN kD
  all_goals (rw [pick_in (by omega) (by omega) (by omega)] at kN kD; exact hret _ _ _ kF (news_sub kN (sub1 (by k_mem))) (allNes_of (dis_sub kD (sub1 (by k_mem)))))) ?_
  intro q f
  simpa using Mine.hushed f 5 fun n i => i
theorem setup_KT4_3 : True := by
  k_with "call ref" => ((k_here; (with_reducible show wpAny _ _ (call (Value.ref 762) [Value.ref _, _, _] _) _ _ _); k_dflt (refine' gbiA_k ?qqB ?qqF ?qqX ?qqT ?qqhk ?qqhd ?qqhu ?qqf0 ?qqf1 ?qqf2 ?qqf3 (part_of ?qqN (sub0 ) ?qqS) ?_; (case qqB => k_asm); (case qqF => k_asm); (case qqX => k_asm); (case qqT => k_asm); (case qqhk => first | exact rfl | assumption); (case qqN => k_asm); (case qqhd => (walk_at "room")); (case qqhu => (walk_at "units")); (case qqf0 => exact Fr.keep (by k_asm) _ _ (by assumption)); (case qqf1 => (walk_at "ft")); (case qqf2 => (walk_at "ft")); (case qqf3 => (walk_at "ft")); (case qqS => (walk_at "sel"))); intro _ _ _ _ _ _; (walk_at "fin9")))
  trivial

theorem gbiB_k : ∀ {w : World} {mean : ExcName → Option Value} {mg mb : Str → Option Value} {dp un : Nat} {cn : Str} {cs : Scope} {a : Addr} {ccd : Value} {cl : List (Str × Addr)} {outer : List Env} {A₀ : Around} {base h₀ : Heap} {L : Addr} {m : Str → Option Value} {s : Shared}
    {Q E : Value → Shared → Prop} {rest : List (Addr × Obj)} (B : Below A₀ base outer h₀) (F : Fr h₀ L s.heap m) (X : (Mine.hd.heap_39 w.params).In h₀) (T : Top Mine.hd.view_39 LO mean mg mb h₀) (hk : cs.kind = .function) (hd : dp + 1 < recursionLimit) (hu : un + 8 < cLine) {tb : Tok} {arr : Array UInt8} {p : Int} {u : Tok} {sz : Bool} (hz : arr.size ≤ 4096) (h0 : 0 ≤ p) (h1 : (if sz then p + 4 else p) + 8 ≤ arr.size) (P : Part h₀ L s.heap [] rest)
    (hret : ∀ (h' : Heap) (tk' : Nat) (tk2 : Tok), Fr h₀ L h' m → News h₀ L h' ([] ++ rest) → AllNes [] rest → Q (.bytes (arr.extract ((if sz then p + 4 else p) + 4).toNat ((if sz then p + 4 else p) + 4 + 4).toNat) tk2) { s with heap := h', toks := tk' }),
    wpAny (model _root_.PySem.Challenge.rw_bp0005_01.row.prog w) (ktrTop dp un (some []) cn cs L a ccd cl outer) (call (.ref 762) [(.bytes arr tb), .int p u, .bool sz] ) Q E s := by
  refine @Mine.hush _ (by
  k_fill
  intro w mean mg mb dp un cn cs a ccd cl outer A₀ base h₀ L m s Q E rest B F X T hk hd hu tb arr p u sz hz h0 h1 P hret
  have N := P.news
  have hdis := P.dis
  refine wpAny_call ?_
  k_dflt (refine' defA ?k1 ?k2 ?k3 ?k4 ?kd ?k5 ?kA ?kF ?kK ?k6 ?k7 ?k8 ?k9 ?kB ?_ ?c2 ?c3 ?c4 ?c5; (case kA => exact rfl); (case kF => exact rfl); (case kK => assumption); (case k1 => k_asm); (case k2 => k_asm); (case k3 => k_asm); (case k4 => k_asm); (case kd => k_asm); (case k5 => k_asm); (case k6 => k_is); (case k7 => k_is); (case k8 => ktr_room); (case k9 => exact binds_K (by k_in) rfl (by k_is) rfl rfl rfl); (case c5 => decide); (case kB => exact locs rfl); (case c2 => exact rfl); (case c3 => exact rfl); (case c4 => exact rfl); k_whole; intro g' L' h' FG' F' N' B' X' T' l0 G; (try dsimp only); (try k_fold))
  cases sz
  all_goals simp only [Bool.false_eq_true, if_false, if_true] at h1 hret
  all_goals k_steps
  all_goals (try dsimp only [wants])
  all_goals rename_i kF kN kD
  all_goals (rw [pick_in (by omega) (by omega) (by omega)]; exact hret _ _ _ kF (news_sub kN sub0) trivial)) ?_
  intro q f
  simpa using Mine.hushed f 5 fun n i => i
theorem setup_KT4_4 : True := by
  k_with "call ref" => ((k_here; (with_reducible show wpAny _ _ (call (Value.ref 762) [Value.bytes _ _, _, _] _) _ _ _); k_dflt (refine' gbiB_k ?qqB ?qqF ?qqX ?qqT ?qqhk ?qqhd ?qqhu ?qqf0 ?qqf1 ?qqf2 (part_of ?qqN (sub0 ) ?qqS) ?_; (case qqB => k_asm); (case qqF => k_asm); (case qqX => k_asm); (case qqT => k_asm); (case qqhk => first | exact rfl | assumption); (case qqN => k_asm); (case qqhd => (walk_at "room")); (case qqhu => (walk_at "units")); (case qqf0 => (walk_at "ft")); (case qqf1 => (walk_at "ft")); (case qqf2 => (walk_at "ft")); (case qqS => (walk_at "sel"))); intro _ _ _ _ _ _; (walk_at "fin9")))
  trivial

theorem gbiAw_k : ∀ {w : World} {mean : ExcName → Option Value} {mg mb : Str → Option Value} {dp un : Nat} {cn : Str} {cs : Scope} {a : Addr} {ccd : Value} {cl : List (Str × Addr)} {outer : List Env} {A₀ : Around} {base h₀ : Heap} {L : Addr} {m : Str → Option Value} {s : Shared}
    {Q E : Value → Shared → Prop} {rest : List (Addr × Obj)} (B : Below A₀ base outer h₀) (F : Fr h₀ L s.heap m) (X : (Mine.hd.heap_39 w.params).In h₀) (T : Top Mine.hd.view_39 LO mean mg mb h₀) (hk : cs.kind = .function) (hd : dp + 1 < recursionLimit) (hu : un + 8 < cLine) {ba : Addr} {arr : Array UInt8} {p : Int} {u : Tok} {sz : Bool} (Hb : s.heap.get? ba = some (AO arr)) (hz : arr.size ≤ 4096) (h0 : 0 ≤ p) (h1 : (if sz then p + 4 else p) + 8 ≤ arr.size) (P : Part h₀ L s.heap [] rest)
    (hret : ∀ (h' : Heap) (tk' : Nat) (x : Addr), Fr h₀ L h' m → News h₀ L h' ([(x, AO (arr.extract ((if sz then p + 4 else p) + 4).toNat ((if sz then p + 4 else p) + 4 + 4).toNat))] ++ rest) → AllNes [(x, AO (arr.extract ((if sz then p + 4 else p) + 4).toNat ((if sz then p + 4 else p) + 4 + 4).toNat))] rest → Q (.ref x) { s with heap := h', toks := tk' }),
    wpAny (model _root_.PySem.Challenge.rw_bp0005_01.row.prog w) (ktrTop dp un (some []) cn cs L a ccd cl outer) (call (.ref 762) [(.ref ba), .int p u] [(PySem.Str.ofString "size_prefixed", .bool sz)]) Q E s := by
  refine @Mine.hush _ (by
  k_fill
  intro w mean mg mb dp un cn cs a ccd cl outer A₀ base h₀ L m s Q E rest B F X T hk hd hu ba arr p u sz Hb hz h0 h1 P hret
  have N := P.news
  have hdis := P.dis
  refine wpAny_call ?_
  k_dflt (refine' defA ?k1 ?k2 ?k3 ?k4 ?kd ?k5 ?kA ?kF ?kK ?k6 ?k7 ?k8 ?k9 ?kB ?_ ?c2 ?c3 ?c4 ?c5; (case kA => exact rfl); (case kF => exact rfl); (case kK => assumption); (case k1 => k_asm); (case k2 => k_asm); (case k3 => k_asm); (case k4 => k_asm); (case kd => k_asm); (case k5 => k_asm); (case k6 => k_is); (case k7 => k_is); (case k8 => ktr_room); (case k9 => exact binds_K (by k_in) rfl (by k_is) rfl rfl rfl); (case c5 => decide); (case kB => exact locs rfl); (case c2 => exact rfl); (case c3 => exact rfl); (case c4 => exact rfl); k_whole; intro g' L' h' FG' F' N' B' X' T' l0 G; (try dsimp only); (try k_fold))
  have Hg : g'.get? ba = some (AO arr) := G _ _ Hb (fun _ h => nomatch h)
  cases sz
  all_goals simp only [Bool.false_eq_true, if_false, if_true] at h1 hret
  all_goals k_steps
  all_goals (try dsimp only [wants])
  all_goals rename_i kF kN kD
  all_goals (rw [pick_in (by omega) (by omega) (by omega)] at kN kD; exact hret _ _ _ kF (news_sub kN (sub1 (by k_mem))) (allNes_of (dis_sub kD (sub1 (by k_mem)))))) ?_
  intro q f
  simpa using Mine.hushed f 5 fun n i => i
theorem setup_KT4_5 : True := by
  k_with "call ref" => ((k_here; (with_reducible show wpAny _ _ (call (Value.ref 762) [Value.ref _, _] _) _ _ _); k_dflt (refine' gbiAw_k ?qqB ?qqF ?qqX ?qqT ?qqhk ?qqhd ?qqhu ?qqf0 ?qqf1 ?qqf2 ?qqf3 (part_of ?qqN (sub0 ) ?qqS) ?_; (case qqB => k_asm); (case qqF => k_asm); (case qqX => k_asm); (case qqT => k_asm); (case qqhk => first | exact rfl | assumption); (case qqN => k_asm); (case qqhd => (walk_at "room")); (case qqhu => (walk_at "units")); (case qqf0 => exact Fr.keep (by k_asm) _ _ (by assumption)); (case qqf1 => (walk_at "ft")); (case qqf2 => (walk_at "ft")); (case qqf3 => (walk_at "ft")); (case qqS => (walk_at "sel"))); intro _ _ _ _ _ _; (walk_at "fin9")))
  trivial

theorem gbiBw_k : ∀ {w : World} {mean : ExcName → Option Value} {mg mb : Str → Option Value} {dp un : Nat} {cn : Str} {cs : Scope} {a : Addr} {ccd : Value} {cl : List (Str × Addr)} {outer : List Env} {A₀ : Around} {base h₀ : Heap} {L : Addr} {m : Str → Option Value} {s : Shared}
    {Q E : Value → Shared → Prop} {rest : List (Addr × Obj)} (B : Below A₀ base outer h₀) (F : Fr h₀ L s.heap m) (X : (Mine.hd.heap_39 w.params).In h₀) (T : Top Mine.hd.view_39 LO mean mg mb h₀) (hk : cs.kind = .function) (hd : dp + 1 < recursionLimit) (hu : un + 8 < cLine) {tb : Tok} {arr : Array UInt8} {p : Int} {u : Tok} {sz : Bool} (hz : arr.size ≤ 4096) (h0 : 0 ≤ p) (h1 : (if sz then p + 4 else p) + 8 ≤ arr.size) (P : Part h₀ L s.heap [] rest)
    (hret : ∀ (h' : Heap) (tk' : Nat) (tk2 : Tok), Fr h₀ L h' m → News h₀ L h' ([] ++ rest) → AllNes [] rest → Q (.bytes (arr.extract ((if sz then p + 4 else p) + 4).toNat ((if sz then p + 4 else p) + 4 + 4).toNat) tk2) { s with heap := h', toks := tk' }),
    wpAny (model _root_.PySem.Challenge.rw_bp0005_01.row.prog w) (ktrTop dp un (some []) cn cs L a ccd cl outer) (call (.ref 762) [(.bytes arr tb), .int p u] [(PySem.Str.ofString "size_prefixed", .bool sz)]) Q E s := by
  refine @Mine.hush _ (by
  k_fill
  intro w mean mg mb dp un cn cs a ccd cl outer A₀ base h₀ L m s Q E rest B F X T hk hd hu tb arr p u sz hz h0 h1 P hret
  have N := P.news
  have hdis := P.dis
  refine wpAny_call ?_
  k_dflt (refine' defA ?k1 ?k2 ?k3 ?k4 ?kd ?k5 ?kA ?kF ?kK ?k6 ?k7 ?k8 ?k9 ?kB ?_ ?c2 ?c3 ?c4 ?c5; (case kA => exact rfl); (case kF => exact rfl); (case kK => assumption); (case k1 => k_asm); (case k2 => k_asm); (case k3 => k_asm); (case k4 => k_asm); (case kd => k_asm); (case k5 => k_asm); (case k6 => k_is); (case k7 => k_is); (case k8 => ktr_room); (case k9 => exact binds_K (by k_in) rfl (by k_is) rfl rfl rfl); (case c5 => decide); (case kB => exact locs rfl); (case c2 => exact rfl); (case c3 => exact rfl); (case c4 => exact rfl); k_whole; intro g' L' h' FG' F' N' B' X' T' l0 G; (try dsimp only); (try k_fold))
  cases sz
  all_goals simp only [Bool.false_eq_true, if_false, if_true] at h1 hret
  all_goals k_steps
  all_goals (try dsimp only [wants])
  all_goals rename_i kF kN kD
  all_goals (rw [pick_in (by omega) (by omega) (by omega)]; exact hret _ _ _ kF (news_sub kN sub0) trivial)) ?_
  intro q f
  simpa using Mine.hushed f 5 fun n i => i
theorem setup_KT4_6 : True := by
  k_with "call ref" => ((k_here; (with_reducible show wpAny _ _ (call (Value.ref 762) [Value.bytes _ _, _] _) _ _ _); k_dflt (refine' gbiBw_k ?qqB ?qqF ?qqX ?qqT ?qqhk ?qqhd ?qqhu ?qqf0 ?qqf1 ?qqf2 (part_of ?qqN (sub0 ) ?qqS) ?_; (case qqB => k_asm); (case qqF => k_asm); (case qqX => k_asm); (case qqT => k_asm); (case qqhk => first | exact rfl | assumption); (case qqN => k_asm); (case qqhd => (walk_at "room")); (case qqhu => (walk_at "units")); (case qqf0 => (walk_at "ft")); (case qqf1 => (walk_at "ft")); (case qqf2 => (walk_at "ft")); (case qqS => (walk_at "sel"))); intro _ _ _ _ _ _; (walk_at "fin9")))
  trivial

theorem gbi_k : ∀ {w : World} {mean : ExcName → Option Value} {mg mb : Str → Option Value} {dp un : Nat} {cn : Str} {cs : Scope} {a : Addr} {ccd : Value} {cl : List (Str × Addr)} {outer : List Env} {A₀ : Around} {base h₀ : Heap} {L : Addr} {m : Str → Option Value} {s : Shared}
    {Q E : Value → Shared → Prop} {rest : List (Addr × Obj)} (B : Below A₀ base outer h₀) (F : Fr h₀ L s.heap m) (X : (Mine.hd.heap_39 w.params).In h₀) (T : Top Mine.hd.view_39 LO mean mg mb h₀) (hk : cs.kind = .function) (hd : dp + 1 < recursionLimit) (hu : un + 8 < cLine) {bv : Value} {arr : Array UInt8} {p : Int} {u : Tok} {sz : Bool} (HB : BufIn s.heap bv arr) (hz : arr.size ≤ 4096) (h0 : 0 ≤ p) (h1 : (if sz then p + 4 else p) + 8 ≤ arr.size) (P : Part h₀ L s.heap [] rest)
    (hret : ∀ (h' : Heap) (tk' : Nat) (v' : Value), BufIn h' v' (arr.extract ((if sz then p + 4 else p) + 4).toNat ((if sz then p + 4 else p) + 4 + 4).toNat) → Fr h₀ L h' m → News h₀ L h' ([] ++ rest) → AllNes [] rest → Q v' { s with heap := h', toks := tk' }),
    wpAny (model _root_.PySem.Challenge.rw_bp0005_01.row.prog w) (ktrTop dp un (some []) cn cs L a ccd cl outer) (call (.ref 762) [bv, .int p u, .bool sz] ) Q E s := by
  intro w mean mg mb dp un cn cs a ccd cl outer A₀ base h₀ L m s Q E rest B F X T hk hd hu bv arr p u sz HB hz h0 h1 P hret
  rcases HB with ⟨tb, rfl⟩ | ⟨ba, rfl, hb⟩
  · exact @gbiB_k w mean mg mb dp un cn cs a ccd cl outer A₀ base h₀ L m s Q E rest B F X T hk hd hu tb arr p u sz hz h0 h1 P fun h' tk' tk2 F N _ => hret h' tk' _ (.inl ⟨_, rfl⟩) F N trivial
  · exact @gbiA_k w mean mg mb dp un cn cs a ccd cl outer A₀ base h₀ L m s Q E rest B F X T hk hd hu ba arr p u sz hb hz h0 h1 P fun h' tk' x F N _ => hret h' tk' _ (.inr ⟨x, rfl, (N _ (.head _)).1⟩) F (fun p hp => N p (.tail _ hp)) trivial
-- KT5

theorem setup_KT5_1 : True := by
  k_with_none
  k_with "wpC" => ((k_here; (with_reducible show wpC _ _ _ _ _ _); (fail_if_success (with_reducible show wpC _ _ (setItem _ _ (Value.bytes _ _)) _ _ _)); (fail_if_success (with_reducible show wpC _ _ (call (Value.ref _) _ _) _ _ _)); (fail_if_success (with_reducible show wpC _ _ (callWith _ (Value.type _) _ _ _) _ _ _)); (fail_if_success (with_reducible show wpC _ _ (call (Value.type _) _ _) _ _ _)); (refine of_any ?_)))
  k_with "wpC" => ((k_here; (with_reducible show wpC _ _ (call (Value.ref _) _ _) _ _ _); (refine' of_anyD ?qqd ?_; (case qqd => (walk_at "dirty")))))
  k_with "wpC" => ((k_here; (with_reducible show wpC _ _ (exec (Stmt.While _ _ _ _) _) _ _ _); (refine c_While ?_)))
  k_with "wpC" => ((k_here; (with_reducible show wpC _ _ (exec (Stmt.If _ _ _ _) _) _ _ _); (refine c_If ?_)))
  k_with "wpC" => ((k_here; (with_reducible show wpC _ _ (exec (Stmt.Assign [Expr.Subscript _ (Expr.Slice _ _ _ _) _] _ _) _) _ _ _); k_dflt (refine c_Assign_Subscript ?_)))
  k_with "wpC" => ((k_here; (with_reducible show wpC _ _ (exec (Stmt.Expr (Expr.Call (Expr.Attribute _ _ _) _ _ _) _) _) _ _ _); k_dflt (refine' c_ExprD ?qqd ?_; (case qqd => (walk_at "dirty")))))
  k_with "wpC" => ((k_here; (with_reducible show wpC _ _ (exec (Stmt.Return (some (Expr.Call (Expr.Attribute _ _ _) _ _ _)) _) _) _ _ _); k_dflt (refine' c_ReturnD ?qqd ?_; (case qqd => (walk_at "dirty")))))
  k_with "wpC" => ((k_here; (with_reducible show wpC _ _ (exec (Stmt.Assign [Expr.Name _ _] (Expr.Call (Expr.Attribute _ _ _) _ _ _) _) _) _ _ _); k_dflt (refine' c_AssignD ?qqd ?_; (case qqd => (walk_at "dirty")))))
  k_with "wpC" => ((k_here; (with_reducible show wpC _ _ (eval (Expr.Call (Expr.Attribute _ _ _) _ _ _) _) _ _ _); k_dflt (refine' c_MethodCallSD ?qqd ?_; (case qqd => (walk_at "dirty")))))
  k_with "wpC" => ((k_here; (with_reducible show wpC _ _ (eval (Expr.Call (Expr.Attribute _ _ _) _ _ _) _) _ _ _); k_dflt (refine' c_MethodCallD ?qqd ?_; (case qqd => (walk_at "dirty")))))
  k_with "wpC" => ((k_here; (with_reducible show wpC _ _ (exec (Stmt.Assign [Expr.Name _ _] (Expr.Call (Expr.Name (PySem.Str.ofString "Builder") _) _ _ _) _) _) _ _ _); k_dflt (refine c_Assign_Name ?_)))
  k_with "wpC" => ((k_here; (with_reducible show wpC _ _ (eval (Expr.Call (Expr.Name (PySem.Str.ofString "Builder") _) _ _ _) _) _ _ _); k_dflt (refine c_Call ?_)))
  k_with "wpC" => ((k_here; (with_reducible show wpC _ _ (exec (Stmt.Assign [Expr.Name _ _] (Expr.Call (Expr.Name (PySem.Str.ofString "_law_made") _) _ _ _) _) _) _ _ _); k_dflt (refine c_Assign_Name ?_)))
  k_with "wpC" => ((k_here; (with_reducible show wpC _ _ (eval (Expr.Call (Expr.Name (PySem.Str.ofString "_law_made") _) _ _ _) _) _ _ _); k_dflt (refine c_Call ?_)))
  k_with "wpC" => ((k_here; (with_reducible show wpC _ _ (exec (Stmt.Assign [Expr.Attribute _ _ _] (Expr.Call (Expr.Name (PySem.Str.ofString "bytearray") _) _ _ _) _) _) _ _ _); k_dflt (refine c_Assign_Attr ?_)))
  k_with "wpC" => ((k_here; (with_reducible show wpC _ _ (exec (Stmt.Assign [Expr.Name _ _] (Expr.Call (Expr.Name (PySem.Str.ofString "bytearray") _) _ _ _) _) _) _ _ _); k_dflt (refine c_Assign_Name ?_)))
  k_with "wpC" => ((k_here; (with_reducible show wpC _ _ (eval (Expr.Call (Expr.Name (PySem.Str.ofString "bytearray") _) _ _ _) _) _ _ _); k_dflt (refine c_Call ?_)))
  k_with "wpC" => ((k_here; (with_reducible show wpC _ _ (execs [] _) _ _ _); (refine c_execs_nil ?_)))
  k_with "wpC" => ((k_here; (with_reducible show wpC _ _ (execs (_ :: _) _) _ _ _); (refine c_execs_cons ?_)))
  k_with "wpC" => ((k_here; (with_reducible show wpC _ _ (callWith _ (Value.ref _) _ _ _) _ _ _); k_dflt (first | refine' c_callWith_K ?qqk1 ?qqk2 ?_; (case qqk1 => k_asm); (case qqk2 => k_is); k_whole | refine' c_callWith_S ?qqk1 ?qqk2 ?_; (case qqk1 => k_asm); (case qqk2 => k_is); k_whole | refine' c_callWith_MS ?qqk1 ?qqk2 ?qqk3 ?qqk4 ?_; (case qqk1 => k_asm); (case qqk2 => k_asm); (case qqk3 => k_mem); (case qqk4 => k_is); k_whole | refine' c_callWith_K0 ?qqk1 ?qqk2 ?_; (case qqk1 => k_in); (case qqk2 => k_is); k_whole | refine' c_callWith_KW ?qqk1 ?qqk2 ?qqk3 ?_; (case qqk1 => k_asm); (case qqk2 => k_is); (case qqk3 => exact rfl); k_whole)))
  k_with "wpC" => ((k_here; (with_reducible show wpC _ _ (callWith _ (Value.type _) _ _ _) _ _ _); k_dflt (refine' c_callWith_T ?_)))
  k_with "wpC" => ((k_here; (with_reducible show wpC _ _ (setItem (Value.ref _) (Value.ref _) (Value.bytes _ _)) _ _ _); k_dflt (refine' c_setN (s := ⟨_, _, _, _, _⟩) ?qqg ?qqF ?qqN ?qqU ?qqh ?qqej ?qqh0 ?qqhs ?qqz ?_; (case qqF => k_asm); (case qqN => k_asm); (case qqU => k_updF); (case qqh => k_asm); (case qqg => exact rfl); (case qqej => (walk_at "cl"; omega)); (case qqh0 => (walk_at "cl"; omega)); (case qqhs => ((walk_at "cl"); first | omega | (simp only [List.length_append, List.length_replicate, Array.size_replicate, lay_length, List.length_nil] at *; omega))); (case qqz => (walk_at "cl"; omega)); k_whole); intro _ _ _ _ _ _; (try k_sweep)))
  k_with "wpC" => ((k_here; (with_reducible show wpC _ _ (call (Value.type _) [Value.int _ _]) _ _ _); k_dflt (refine' c_new_int ?qqg ?qqF ?qqN ?qqh0 ?qqhz ?_; (case qqg => exact rfl); (case qqF => k_asm); (case qqN => k_asm); (case qqh0 => (walk_at "cl"; omega)); (case qqhz => (walk_at "cl"; omega)); k_whole); intro _ _ _ _ _; (try (walk_at "lt1")); (try k_sweep)))
  k_with "wpC" => ((k_here; (with_reducible show wpC _ _ (call (Value.type _) [Value.bytes _ _]) _ _ _); k_dflt (refine' c_new_bytes ?qqg ?qqF ?qqN ?qqhz ?_; (case qqg => exact rfl); (case qqF => k_asm); (case qqN => k_asm); (case qqhz => (walk_at "cl"; omega)); k_whole); intro _ _ _ _ _; (try (walk_at "lt1")); (try k_sweep)))
  k_with "LeaveM" => ((k_dflt (refine' leaveM_ ?qqk1 ?qqk2 ?_; (case qqk1 => k_asm); (case qqk2 => k_asm); k_whole); intro _ _ _; (try dsimp only [InitBack, CmpBack, LenBack, StrBack, BoolBack]); (try refine ⟨rfl, ?_⟩)))
  k_with "getMethod str" => ((k_here; (with_reducible show wpAny _ _ (getMethod (Value.str _ _) (PySem.Str.ofString "encode") _) _ _ _); k_dflt (refine' str_encode_get ?_; k_whole)))
  k_with "call builtin:str.encode" => ((k_here; k_dflt (refine' str_encode ?qqh ?qqz ?_; (case qqh => k_asm); (case qqz => (walk_at "cl"; omega)); k_whole); intro _ _))
  k_with "getAttr ref" => ((k_here; k_dflt (refine' kbm_boundS ?qqk1 ?qqk2 ?qqk3 ?qqk4 ?qqk5 ?qqk6 ?qqk6b ?qqk7 ?qqk8 ?qqk9 ?qqk10 ?qqk11 ?_; (case qqk4 => k_inst); (case qqk1 => k_asm); (case qqk2 => k_asm); (case qqk7 => k_is); (case qqk3 => k_asm); (case qqk5 => k_is); (case qqk6 => k_is); (case qqk6b => k_is); (case qqk8 => k_is); (case qqk9 => k_is); (case qqk10 => k_is); (case qqk11 => decide +kernel); k_whole); intro _ _ _ _ _; (try (walk_at "lt1")); (try k_sweep)))
  k_with "eval Name" => ((k_here; (with_reducible show wpAny _ _ (eval (Expr.Name (PySem.Str.ofString "bytearray") _) _) _ _ _); with_unfolding_all refine guard_global (by rfl) ?_; k_dflt (refine' name_B ?qqkF ?qqk1 ?qqk2 ?qqk3 ?qqk4 ?qqk5 ?_; (case qqkF => with_reducible assumption); (case qqk1 => with_reducible assumption); (case qqk2 => k_asm); (case qqk3 => k_is); (case qqk4 => boot_by_name); (case qqk5 => decide); k_whole)))
  k_with "getAttr ref" => ((k_here; (with_reducible show wpAny _ _ (getAttr (Value.ref _) _ _) _ _ _); k_dflt (refine' get_slot ?qqk1 ?qqk2 ?qqk3 ?qqk4 ?qqk5 ?qqk6 ?qqk7 ?qqk8 ?qqk9 ?qqk10 ?qqk11 ?_; (case qqk1 => with_reducible assumption); (case qqk2 => with_reducible assumption); (case qqk3 => k_inst); (case qqk4 => k_is); (case qqk5 => k_is); (case qqk6 => k_is); (case qqk7 => k_is); (case qqk8 => k_is); (case qqk9 => k_is); (case qqk10 => k_slotget); (case qqk11 => k_handed); k_whole)))
  k_with "ite" => ((k_here; k_openite; k_dflt (first | (refine ite_pos (by ((walk_at "cl"); (try simp only [decide_eq_true_eq, beq_iff_eq, bne_iff_ne, ne_eq]); omega)) ?_) | (refine ite_neg (by ((walk_at "cl"); (try simp only [decide_eq_true_eq, beq_iff_eq, bne_iff_ne, ne_eq]); omega)) ?_)); walk_say "PRUNED here"))
  k_with "binaryOp Mult bytes int" => ((k_here; k_dflt (refine' zeros_mul ?qqh0 ?qqhn ?_; (case qqh0 => (walk_at "cl"; omega)); (case qqhn => (walk_at "cl"; omega)); k_whole); intro _ _))
  k_with "call builtin:len" => ((k_here; (with_reducible show wpAny _ _ (call (Value.builtin "len") [Value.ref _]) _ _ _); k_dflt (refine' ba_lenN ?qqN ?qqm ?qqz ?_; (case qqN => k_asm); (case qqm => k_mem); (case qqz => (walk_at "cl"; omega)); k_whole)))
  k_with "setItem ref ref" => ((k_here; (with_reducible show wpAny _ _ (setItem (Value.ref _) (Value.ref _) (Value.ref _)) _ _ _); k_dflt (refine' ba_setN (s := ⟨_, _, _, _, _⟩) ?qqF ?qqN ?qqU ?qqm ?qqne ?qqh0 ?qqhs ?qqhz ?_; (case qqF => k_asm); (case qqN => k_asm); (case qqU => k_updF); (case qqm => k_mem); (case qqne => k_ne); (case qqh0 => (walk_at "cl"; omega)); (case qqhs => ((walk_at "cl"); first | omega | (simp only [List.length_append, List.length_replicate, Array.size_replicate, lay_length, List.length_nil] at *; omega))); (case qqhz => ((walk_at "cl"); first | omega | (simp only [List.length_append, List.length_replicate, Array.size_replicate, lay_length, List.length_nil] at *; omega))); k_whole); intro _ _ _ _ _ _; (try k_sweep)))
  k_with "getMethod ref" => ((k_here; (with_reducible show wpAny _ _ (getMethod (Value.ref _) (PySem.Str.ofString "unpack_from") _) _ _ _); k_dflt (refine' so_fromK ?qqX ?qqh ?_; (case qqX => k_in); (case qqh => exact rfl); k_whole)))
  k_with "getMethod ref" => ((k_here; (with_reducible show wpAny _ _ (getMethod (Value.ref _) (PySem.Str.ofString "pack_into") _) _ _ _); k_dflt (refine' so_intoK ?qqX ?qqh ?_; (case qqX => k_in); (case qqh => exact rfl); k_whole)))
  k_with "call builtin:_struct.Struct.unpack_from" => ((k_here; k_dflt (refine' so_fromN ?qqX ?qqF ?qqN ?qqh ?qqf ?qqb ?qqh0 ?qqh1 ?qqhz ?_; (case qqX => k_in); (case qqF => k_asm); (case qqN => k_asm); (case qqh => exact rfl); (case qqf => constructor); (case qqb => first | exact .inl ⟨_, rfl⟩ | exact .inr ⟨_, rfl, by k_mem⟩); (case qqh0 => (walk_at "cl"; omega)); (case qqh1 => (walk_at "cl"; omega)); (case qqhz => (walk_at "cl"; omega)); k_whole); intro _ _ _ _ _ _ _; (try (walk_at "lt1")); (try k_sweep)))
  k_with "call builtin:_struct.Struct.unpack_from" => ((k_here; k_dflt (refine' so_fromB ?qqX ?qqF ?qqN ?qqh ?qqf ?qqb ?qqh0 ?qqh1 ?qqhz ?_; (case qqX => k_in); (case qqF => k_asm); (case qqN => k_asm); (case qqh => exact rfl); (case qqf => constructor); (case qqb => exact BufIn.keep (by assumption) (by k_asm)); (case qqh0 => (walk_at "cl"; omega)); (case qqh1 => (walk_at "cl"; omega)); (case qqhz => (walk_at "cl"; omega)); k_whole); intro _ _ _ _ _ _ _; (try (walk_at "lt1")); (try k_sweep)))
  k_with "call builtin:_struct.Struct.pack_into" => ((k_here; k_dflt (refine' so_intoN ?qqX ?qqF ?qqN ?qqU ?qqh ?qqf ?qqh0 ?qqh1 ?qqhz ?qqlo ?qqhi ?_; (case qqX => k_in); (case qqF => k_asm); (case qqN => k_asm); (case qqU => k_updF); (case qqh => exact rfl); (case qqf => constructor); (case qqh0 => (walk_at "cl"; omega)); (case qqh1 => (walk_at "cl"; omega)); (case qqhz => (walk_at "cl"; omega)); (case qqlo => ((first | rw [if_neg (by decide)] | rw [if_pos (by decide)]); (try simp only [Nat.reduceMul, Nat.reduceSub, Int.reducePow, Int.reduceNeg]); walk_at "cl"; omega)); (case qqhi => ((first | rw [if_neg (by decide)] | rw [if_pos (by decide)]); (try simp only [Nat.reduceMul, Nat.reduceSub, Int.reducePow, Int.reduceNeg]); walk_at "cl"; omega)); k_whole); intro _ _ _; (try k_sweep)))
  k_with "wpC" => ((k_here; (with_reducible show wpC _ _ (call (Value.ref _) _ _) _ _ _); (walk_at "wpCc")))
  k_with "getAttr ref" => ((k_here; (with_reducible show wpAny _ _ (getAttr (Value.ref _) (PySem.Str.ofString "py_type") _) _ _ _); k_dflt (refine' cls_int ?qqF ?qqX ?qqm ?qqr ?qqe0 ?qqe1 ?qqh ?_; (case qqF => k_asm); (case qqX => k_asm); (case qqm => k_is); (case qqr => k_is); (case qqe0 => k_is); (case qqe1 => k_is); (case qqh => decide +kernel); k_whole)))
  k_with "getAttr ref" => ((k_here; k_dflt (refine' get_slot ?qqk1 ?qqk2 ?qqk3 ?qqk4 ?qqk5 ?qqk6 ?qqk7 ?qqk8 ?qqk9 ?qqk10 ?qqk11 ?_; (case qqk1 => k_asm); (case qqk2 => k_asm); (case qqk3 => k_inst); (case qqk4 => k_is); (case qqk5 => k_is); (case qqk6 => k_is); (case qqk7 => k_is); (case qqk8 => k_is); (case qqk9 => k_is); (case qqk10 => k_slotget); (case qqk11 => exact BufIn.handed (by assumption)); k_whole)))
  k_with "compareOp Eq" => ((k_here; (with_reducible show wpAny _ _ (compareOp CmpOp.Eq (Value.ref _) (Value.bytes _ _)) _ _ _); k_dflt (refine' ba_eq_bytes ?qqu ?qqh ?_; (case qqu => (walk_at "units")); (case qqh => exact (News.get (by assumption) (by k_mem))); k_whole)))
  k_with "call ref" => ((k_here; (with_reducible show wpAny _ _ (call (Value.ref 762) [Value.ref _, _] _) _ _ _); k_dflt (refine' gbiAw_k ?qqB ?qqF ?qqX ?qqT ?qqhk ?qqhd ?qqhu ?qqf0 ?qqf1 ?qqf2 ?qqf3 (part_of ?qqN (sub0 ) ?qqS) ?_; (case qqB => k_asm); (case qqF => k_asm); (case qqX => k_asm); (case qqT => k_asm); (case qqhk => first | exact rfl | assumption); (case qqN => k_asm); (case qqhd => (walk_at "room")); (case qqhu => (walk_at "units")); (case qqf0 => exact Fr.keep (by k_asm) _ _ (by assumption)); (case qqf1 => (walk_at "ft")); (case qqf2 => (walk_at "ft")); (case qqf3 => (walk_at "ft")); (case qqS => (walk_at "sel"))); intro _ _ _ _ _ _; (walk_at "fin9")))
  k_with "call ref" => ((k_here; (with_reducible show wpAny _ _ (call (Value.ref 762) [Value.bytes _ _, _] _) _ _ _); k_dflt (refine' gbiBw_k ?qqB ?qqF ?qqX ?qqT ?qqhk ?qqhd ?qqhu ?qqf0 ?qqf1 ?qqf2 (part_of ?qqN (sub0 ) ?qqS) ?_; (case qqB => k_asm); (case qqF => k_asm); (case qqX => k_asm); (case qqT => k_asm); (case qqhk => first | exact rfl | assumption); (case qqN => k_asm); (case qqhd => (walk_at "room")); (case qqhu => (walk_at "units")); (case qqf0 => (walk_at "ft")); (case qqf1 => (walk_at "ft")); (case qqf2 => (walk_at "ft")); (case qqS => (walk_at "sel"))); intro _ _ _ _ _ _; (walk_at "fin9")))
  k_with "call ref" => ((k_here; (with_reducible show wpAny _ _ (call (Value.ref 152) [_, Value.ref 131] _) _ _ _); k_dflt (refine' enf131_k ?qqB ?qqF ?qqX ?qqT ?qqhk ?qqhd ?qqhu ?qqf0 ?qqf1 (part_of ?qqN (sub0 ) ?qqS) ?_; (case qqB => k_asm); (case qqF => k_asm); (case qqX => k_asm); (case qqT => k_asm); (case qqhk => first | exact rfl | assumption); (case qqN => k_asm); (case qqhd => (walk_at "room")); (case qqhu => (walk_at "units")); (case qqf0 => (walk_at "ft")); (case qqf1 => (walk_at "ft")); (case qqS => (walk_at "sel"))); intro _ _  _ _ _; (walk_at "fin9")))
  trivial

theorem tinit_k : ∀ {w : World} {mean : ExcName → Option Value} {mg mb : Str → Option Value} {dp un : Nat} {cn : Str} {cs : Scope} {a : Addr} {ccd : Value} {cl : List (Str × Addr)} {outer : List Env} {A₀ : Around} {base h₀ : Heap} {L : Addr} {m : Str → Option Value} {s : Shared}
    {Q E : Value → Shared → Prop} {rest : List (Addr × Obj)} (B : Below A₀ base outer h₀) (F : Fr h₀ L s.heap m) (X : (Mine.hd.heap_39 w.params).In h₀) (T : Top Mine.hd.view_39 LO mean mg mb h₀) (hk : cs.kind = .function) (hd : dp + 3 < recursionLimit) (hu : un + 24 < cLine) {bv : Value} {p : Int} {u : Tok} (hb : handedIn bv = true) (h0 : 0 ≤ p) (h1 : p ≤ 4096) (P : Part h₀ L s.heap [] rest)
    (hret : ∀ (h' : Heap) (tk' : Nat) (t : Addr) (tdx : Addr) (tk2 : Tok), Fr h₀ L h' m → News h₀ L h' ([(t, TO tdx bv p tk2), (tdx, dictOf [] 0)] ++ rest) → AllNes [(t, TO tdx bv p tk2), (tdx, dictOf [] 0)] rest → Q (.ref t) { s with heap := h', toks := tk' }),
    wpAny (model _root_.PySem.Challenge.rw_bp0005_01.row.prog w) (ktrTop dp un (some []) cn cs L a ccd cl outer) (call (.ref 248) [bv, .int p u] ) Q E s := by
  refine @Mine.hush _ (by
  k_fill
  intro w mean mg mb dp un cn cs a ccd cl outer A₀ base h₀ L m s Q E rest B F X T hk hd hu bv p u hb h0 h1 P hret
  have N := P.news
  have hdis := P.dis
  refine wpAny_call ?_
  refine make_K (K := Mine.hd.heap_39 w.params) F P.news (X.keeps F.keep) (by k_is) (by k_is) (by k_is) ?_
  clear N hdis
  intro t tdx h' F N l1 l2
  have hdis : ∀ q ∈ rest, ∀ p ∈ [(t, instObj 248 tdx), (tdx, emptyDict)], q.1 ≠ p.1 := fun q hq p hp => by
    have h1 : @LT.lt Nat _ q.1 tdx := l1 q hq
    have h2 : @LT.lt Nat _ tdx t := l2
    rcases List.mem_cons.mp hp with rfl | hp
    · exact Nat.ne_of_lt (Nat.lt_trans h1 h2)
    · rw [List.mem_singleton.mp hp]; exact Nat.ne_of_lt h1
  have N : News h₀ L h' ([(t, instObj 248 tdx), (tdx, emptyDict)] ++ rest) := N
  have n1 : NeA t tdx := Nat.ne_of_gt l2
  rw [show (ktrTop dp un (some []) cn cs L a ccd cl outer).under (.builtin "type.__call__" ⟨[.ref 248, bv, .int p u], []⟩) = ktrTop (dp + 1) (un + 1) (some []) cn cs L a ccd cl outer from rfl]
  k_dflt (refine' defA ?k1 ?k2 ?k3 ?k4 ?kd ?k5 ?kA ?kF ?kK ?k6 ?k7 ?k8 ?k9 ?kB ?_ ?c2 ?c3 ?c4 ?c5; (case kA => exact rfl); (case kF => exact rfl); (case kK => assumption); (case k1 => k_asm); (case k2 => k_asm); (case k3 => k_asm); (case k4 => k_asm); (case kd => k_asm); (case k5 => k_asm); (case k6 => k_is); (case k7 => k_is); (case k8 => ktr_room); (case k9 => exact BindsTo.of_eq rfl); (case c5 => decide); (case kB => exact locs rfl); (case c2 => exact rfl); (case c3 => exact rfl); (case c4 => exact rfl); k_whole; intro g' L' h' FG' F' N' B' X' T' l0 G; (try dsimp only); (try k_fold))
  k_steps
  all_goals (rename_i kF kN kD; (try refine ⟨rfl, ?_⟩); (try dsimp only [wants]); exact hret _ _ t tdx _ kF (news_sub kN (sub2 (by k_mem) (by k_mem))) (allNes_of (dis_sub kD (sub2 (by k_mem) (by k_mem)))))) ?_
  intro q f
  simpa using Mine.hushed f 5 fun n i => i
theorem setup_KT5_2 : True := by
  k_with "call ref" => ((k_here; (with_reducible show wpAny _ _ (call (Value.ref 248) _ _) _ _ _); k_dflt (refine' tinit_k ?qqB ?qqF ?qqX ?qqT ?qqhk ?qqhd ?qqhu ?qqf0 ?qqf1 ?qqf2 (part_of ?qqN (sub0 ) ?qqS) ?_; (case qqB => k_asm); (case qqF => k_asm); (case qqX => k_asm); (case qqT => k_asm); (case qqhk => first | exact rfl | assumption); (case qqN => k_asm); (case qqhd => (walk_at "room")); (case qqhu => (walk_at "units")); (case qqf0 => exact BufIn.handed (by assumption)); (case qqf1 => (walk_at "ft")); (case qqf2 => (walk_at "ft")); (case qqS => (walk_at "sel"))); intro _ _ _ _ _ _ _ _; (walk_at "fin9")))
  trivial

theorem bhi_k : ∀ {w : World} {mean : ExcName → Option Value} {mg mb : Str → Option Value} {dp un : Nat} {cn : Str} {cs : Scope} {a : Addr} {ccd : Value} {cl : List (Str × Addr)} {outer : List Env} {A₀ : Around} {base h₀ : Heap} {L : Addr} {m : Str → Option Value} {s : Shared}
    {Q E : Value → Shared → Prop} {rest : List (Addr × Obj)} (B : Below A₀ base outer h₀) (F : Fr h₀ L s.heap m) (X : (Mine.hd.heap_39 w.params).In h₀) (T : Top Mine.hd.view_39 LO mean mg mb h₀) (hk : cs.kind = .function) (hd : dp + 2 < recursionLimit) (hu : un + 16 < cLine) {bv : Value} {arr : Array UInt8} {p : Int} {u : Tok} {sz : Bool} {mk : Array UInt8} {tm : Tok} (HB : BufIn s.heap bv arr) (hz : arr.size ≤ 4096) (h0 : 0 ≤ p) (h1 : (if sz then p + 4 else p) + 8 ≤ arr.size) (P : Part h₀ L s.heap [] rest)
    (hret : ∀ (h' : Heap) (tk' : Nat) , Fr h₀ L h' m → News h₀ L h' ([] ++ rest) → AllNes [] rest → Q (.bool ((arr.extract ((if sz then p + 4 else p) + 4).toNat ((if sz then p + 4 else p) + 4 + 4).toNat).toList == mk.toList)) { s with heap := h', toks := tk' }),
    wpAny (model _root_.PySem.Challenge.rw_bp0005_01.row.prog w) (ktrTop dp un (some []) cn cs L a ccd cl outer) (call (.ref 770) [bv, .int p u, .bytes mk tm, .bool sz] ) Q E s := by
  refine @Mine.hush _ (by
  k_fill
  intro w mean mg mb dp un cn cs a ccd cl outer A₀ base h₀ L m s Q E rest B F X T hk hd hu bv arr p u sz mk tm HB hz h0 h1 P hret
  have N := P.news
  have hdis := P.dis
  refine wpAny_call ?_
  k_dflt (refine' defA ?k1 ?k2 ?k3 ?k4 ?kd ?k5 ?kA ?kF ?kK ?k6 ?k7 ?k8 ?k9 ?kB ?_ ?c2 ?c3 ?c4 ?c5; (case kA => exact rfl); (case kF => exact rfl); (case kK => assumption); (case k1 => k_asm); (case k2 => k_asm); (case k3 => k_asm); (case k4 => k_asm); (case kd => k_asm); (case k5 => k_asm); (case k6 => k_is); (case k7 => k_is); (case k8 => ktr_room); (case k9 => exact binds_K (by k_in) rfl (by k_is) rfl rfl rfl); (case c5 => decide); (case kB => exact locs rfl); (case c2 => exact rfl); (case c3 => exact rfl); (case c4 => exact rfl); k_whole; intro g' L' h' FG' F' N' B' X' T' l0 G; (try dsimp only); (try k_fold))
  rcases HB with ⟨tb, rfl⟩ | ⟨ba, rfl, Hb⟩
  · have eb : ∀ (a b : Array UInt8), (a == b) = (a.toList == b.toList) := fun a b => by simp
    k_steps
    all_goals (dsimp only [wants]; rename_i kF kN kD; (try rw [eb]); exact hret _ _ kF (news_sub kN sub0) trivial)
  · have Hg : g'.get? ba = some (AO arr) := G _ _ Hb (fun _ h => nomatch h)
    k_steps
    all_goals (dsimp only [wants]; rename_i kF kN kD; exact hret _ _ kF (news_sub kN sub0) trivial)) ?_
  intro q f
  simpa using Mine.hushed f 5 fun n i => i
theorem setup_KT5_3 : True := by
  k_with "call ref" => ((k_here; (with_reducible show wpAny _ _ (call (Value.ref 770) _ _) _ _ _); k_dflt (refine' bhi_k ?qqB ?qqF ?qqX ?qqT ?qqhk ?qqhd ?qqhu ?qqf0 ?qqf1 ?qqf2 ?qqf3 (part_of ?qqN (sub0 ) ?qqS) ?_; (case qqB => k_asm); (case qqF => k_asm); (case qqX => k_asm); (case qqT => k_asm); (case qqhk => first | exact rfl | assumption); (case qqN => k_asm); (case qqhd => (walk_at "room")); (case qqhu => (walk_at "units")); (case qqf0 => (exact BufIn.keep (by assumption) (by k_asm))); (case qqf1 => (walk_at "ft")); (case qqf2 => (walk_at "ft")); (case qqf3 => (walk_at "ft")); (case qqS => (walk_at "sel"))); intro _ _  _ _ _; (walk_at "fin9")))
  trivial

theorem rsp_k : ∀ {w : World} {mean : ExcName → Option Value} {mg mb : Str → Option Value} {dp un : Nat} {cn : Str} {cs : Scope} {a : Addr} {ccd : Value} {cl : List (Str × Addr)} {outer : List Env} {A₀ : Around} {base h₀ : Heap} {L : Addr} {m : Str → Option Value} {s : Shared}
    {Q E : Value → Shared → Prop} {rest : List (Addr × Obj)} (B : Below A₀ base outer h₀) (F : Fr h₀ L s.heap m) (X : (Mine.hd.heap_39 w.params).In h₀) (T : Top Mine.hd.view_39 LO mean mg mb h₀) (hk : cs.kind = .function) (hd : dp + 1 < recursionLimit) (hu : un + 8 < cLine) {bv : Value} {p : Int} {u : Tok} (hb : handedIn bv = true) (P : Part h₀ L s.heap [] rest)
    (hret : ∀ (h' : Heap) (tk' : Nat) (x : Addr) (tk2 : Tok), Fr h₀ L h' m → News h₀ L h' ([(x, ({ cls := .type "tuple", data := .seq #[bv, .int (p + 4) tk2] } : Obj))] ++ rest) → AllNes [(x, ({ cls := .type "tuple", data := .seq #[bv, .int (p + 4) tk2] } : Obj))] rest → Q (.ref x) { s with heap := h', toks := tk' }),
    wpAny (model _root_.PySem.Challenge.rw_bp0005_01.row.prog w) (ktrTop dp un (some []) cn cs L a ccd cl outer) (call (.ref 777) [bv, .int p u] ) Q E s := by
  refine @Mine.hush _ (by
  k_fill
  intro w mean mg mb dp un cn cs a ccd cl outer A₀ base h₀ L m s Q E rest B F X T hk hd hu bv p u hb P hret
  have N := P.news
  have hdis := P.dis
  refine wpAny_call ?_
  k_dflt (refine' defA ?k1 ?k2 ?k3 ?k4 ?kd ?k5 ?kA ?kF ?kK ?k6 ?k7 ?k8 ?k9 ?kB ?_ ?c2 ?c3 ?c4 ?c5; (case kA => exact rfl); (case kF => exact rfl); (case kK => assumption); (case k1 => k_asm); (case k2 => k_asm); (case k3 => k_asm); (case k4 => k_asm); (case kd => k_asm); (case k5 => k_asm); (case k6 => k_is); (case k7 => k_is); (case k8 => ktr_room); (case k9 => exact BindsTo.of_eq rfl); (case c5 => decide); (case kB => exact locs rfl); (case c2 => exact rfl); (case c3 => exact rfl); (case c4 => exact rfl); k_whole; intro g' L' h' FG' F' N' B' X' T' l0 G; (try dsimp only); (try k_fold))
  k_steps
  all_goals (dsimp only [wants]; rename_i kF kN kD; exact hret _ _ _ _ kF (news_sub kN (sub1 (by k_mem))) (allNes_of (dis_sub kD (sub1 (by k_mem)))))) ?_
  intro q f
  simpa using Mine.hushed f 5 fun n i => i
-- KSd

theorem newsSt {g h : Heap} {L b dx ba dv rw : Addr} {fin : Bool} {hd : Int} {t : Tok} {ma : Int} {t' : Tok} {nest : Bool} {v1 v7 : Value} {v9 : Option Value} {arr : Array UInt8} {ov : Obj} {ys : List Value} {l : List (Addr × Obj)} (N : News g L h l) (hb : (b, BO dx ba v1 fin hd t ma t' nest v7 v9 dv) ∈ l) (hx : (dx, dictOf [] 0) ∈ l) (ha : (ba, AO arr) ∈ l) (hv : (dv, ov) ∈ l) (hr : (rw, LCg.lst ys) ∈ l) (ho : ov.cls = .type "dict") :
    NeA b ba ∧ NeA dx ba ∧ NeA ba dv ∧ NeA ba rw := by
  refine ⟨?_, ?_, ?_, ?_⟩
  · exact news_ne N hb ha fun e => by cases congrArg Obj.cls e
  · exact news_ne N hx ha fun e => absurd (Value.type.inj (congrArg Obj.cls e)) (by decide)
  · exact news_ne N ha hv fun e => by have e := congrArg Obj.cls e; rw [ho] at e; exact absurd (Value.type.inj e) (by decide)
  · exact news_ne N ha hr fun e => absurd (Value.type.inj (congrArg Obj.cls e)) (by decide)
theorem newsSR {g h : Heap} {L D ba rw : Addr} {o : Obj} {arr : Array UInt8} {i : Int} {l : List (Addr × Obj)} (N : News g L h l) (hd : (D, o) ∈ l) (ha : (ba, AO arr) ∈ l) (ho : RevAt o rw i) : NeA ba D :=
  news_ne N ha hd fun e => by have e := congrArg Obj.cls e; rw [ho.1] at e; exact absurd (Value.type.inj e) (by decide)
@[reducible] def XM (el : Option Value) (m₀ : Str → Option Value) : Str → Option Value := fun y => if y = Str.ofString "x" then el else m₀ y
theorem xm_self {m₀ : Str → Option Value} : m₀ = XM (m₀ (Str.ofString "x")) m₀ := by
  funext y
  unfold XM
  split
  · rename_i e; rw [e]
  rfl
theorem xm_a {el : Option Value} {v : Value} {m₀ : Str → Option Value} : (fun y => if y = Str.ofString "x" then some v else XM el m₀ y) = XM (some v) m₀ := by
  funext y
  unfold XM
  split
  · rfl
  rfl
theorem fr_xm {g h : Heap} {L : Addr} {m₀ : Str → Option Value} (F : Fr g L h m₀) : Fr g L h (XM (m₀ (Str.ofString "x")) m₀) := by rw [← xm_self]; exact F
/-- the loop of _law_made: what is so ahead of each turn -/
def LR (s : Shared) (g : Heap) (L : Addr) (m₀ : Str → Option Value) (b dx dv rw D : Addr) (ov : Obj) (ys : List Value) (v9 : Option Value) (z0 : Nat) (row : List Int) (o3 : List UInt8) (n : Nat) (s' : Shared) : Prop :=
  ∃ (h : Heap) (tk : Nat) (el : Option Value) (o : Obj) (ba : Addr) (arr : Array UInt8) (hd : Int) (t1 t2 : Tok), s' = { s with heap := h, toks := tk } ∧ Fr g L h (XM el m₀) ∧
    News g L h [(D, o), (b, BO dx ba .none false hd t1 4 t2 true .none v9 dv), (dx, dictOf [] 0), (ba, AO arr), (dv, ov), (rw, LCg.lst ys)] ∧ RevAt o rw ((n : Int) - 1) ∧ Has arr hd (rowO (row.drop n) o3) ∧ arr.size ≤ 2048 ∧ z0 ≤ arr.size ∧ n ≤ row.length

theorem c_IfExp2 {M : Model} {A : Around} {E : Value → Shared → Prop} {s : Shared} {env : Env} {test body orelse : Expr} {pos : Pos} {Q : Value → Shared → Prop}
    (h : wpAny M A (isTrue test env (eval test env)) (fun b s₂ => if b then wpC M A (eval body env) Q E s₂ else wpC M A (eval orelse env) Q E s₂) E s) : wpC M A (eval (.IfExp test body orelse pos) env) Q E s := by
  rw [arm_eval_IfExp]
  refine c_step (wpAny_mono h (fun b s₂ h₂ => ?_) fun _ _ x => x)
  cases b <;> exact h₂
@[reducible] def SM (tx : Int) (ttx : Tok) (b : Addr) (sz : Bool) (mv : Value) (rw : Addr) (nu : Int) (tnu : Tok) (iv : Value) (m₀ : Str → Option Value) : Str → Option Value := fun y =>
  if y = Str.ofString "text" then some (.int tx ttx) else if y = Str.ofString "b" then some (.ref b) else if y = Str.ofString "sized" then some (.bool sz) else if y = Str.ofString "mark" then some mv else
    if y = Str.ofString "row" then some (.ref rw) else if y = Str.ofString "number" then some (.int nu tnu) else if y = Str.ofString "inner" then some iv else m₀ y
theorem sm_self {tx : Int} {ttx : Tok} {b : Addr} {sz : Bool} {mv : Value} {rw : Addr} {nu : Int} {tnu : Tok} {iv : Value} {m₀ : Str → Option Value} (f1 : m₀ (Str.ofString "text") = some (.int tx ttx)) (f2 : m₀ (Str.ofString "b") = some (.ref b)) (f3 : m₀ (Str.ofString "sized") = some (.bool sz)) (f4 : m₀ (Str.ofString "mark") = some mv)
    (f5 : m₀ (Str.ofString "row") = some (.ref rw)) (f6 : m₀ (Str.ofString "number") = some (.int nu tnu)) (f7 : m₀ (Str.ofString "inner") = some iv) : m₀ = SM tx ttx b sz mv rw nu tnu iv m₀ := by
  funext y
  unfold SM
  split
  · rename_i e; rw [e, f1]
  split
  · rename_i e; rw [e, f2]
  split
  · rename_i e; rw [e, f3]
  split
  · rename_i e; rw [e, f4]
  split
  · rename_i e; rw [e, f5]
  split
  · rename_i e; rw [e, f6]
  split
  · rename_i e; rw [e, f7]
  rfl
/-- behind the octets' statement of _law_made -/
def StO (s : Shared) (g : Heap) (L : Addr) (m₀ : Str → Option Value) (b dx dv rw : Addr) (ov : Obj) (ys : List Value) (oc : Int) (out : List UInt8) (s' : Shared) : Prop :=
  ∃ (h : Heap) (tk : Nat) (ba : Addr) (arr : Array UInt8) (hd : Int) (t1 t2 toc : Tok), s' = { s with heap := h, toks := tk } ∧ Fr g L h (fun y => if y = Str.ofString "octets" then some (.int oc toc) else m₀ y) ∧
    News g L h [(b, BO dx ba .none false hd t1 4 t2 false .none (some .none) dv), (dx, dictOf [] 0), (ba, AO arr), (dv, ov), (rw, LCg.lst ys)] ∧ Has arr hd out ∧ arr.size ≤ 2048

theorem setup_KSd_1 : True := by
  k_with_none
  k_with "wpC" => ((k_here; (with_reducible show wpC _ _ _ _ _ _); (fail_if_success (with_reducible show wpC _ _ (setItem _ _ (Value.bytes _ _)) _ _ _)); (fail_if_success (with_reducible show wpC _ _ (call (Value.ref _) _ _) _ _ _)); (fail_if_success (with_reducible show wpC _ _ (callWith _ (Value.type _) _ _ _) _ _ _)); (fail_if_success (with_reducible show wpC _ _ (call (Value.type _) _ _) _ _ _)); (refine of_any ?_)))
  k_with "wpC" => ((k_here; (with_reducible show wpC _ _ (call (Value.ref _) _ _) _ _ _); (refine' of_anyD ?qqd ?_; (case qqd => (walk_at "dirty")))))
  k_with "wpC" => ((k_here; (with_reducible show wpC _ _ (exec (Stmt.While _ _ _ _) _) _ _ _); (refine c_While ?_)))
  k_with "wpC" => ((k_here; (with_reducible show wpC _ _ (exec (Stmt.If _ _ _ _) _) _ _ _); (refine c_If ?_)))
  k_with "wpC" => ((k_here; (with_reducible show wpC _ _ (exec (Stmt.Assign [Expr.Subscript _ (Expr.Slice _ _ _ _) _] _ _) _) _ _ _); k_dflt (refine c_Assign_Subscript ?_)))
  k_with "wpC" => ((k_here; (with_reducible show wpC _ _ (exec (Stmt.Expr (Expr.Call (Expr.Attribute _ _ _) _ _ _) _) _) _ _ _); k_dflt (refine' c_ExprD ?qqd ?_; (case qqd => (walk_at "dirty")))))
  k_with "wpC" => ((k_here; (with_reducible show wpC _ _ (exec (Stmt.Return (some (Expr.Call (Expr.Attribute _ _ _) _ _ _)) _) _) _ _ _); k_dflt (refine' c_ReturnD ?qqd ?_; (case qqd => (walk_at "dirty")))))
  k_with "wpC" => ((k_here; (with_reducible show wpC _ _ (exec (Stmt.Assign [Expr.Name _ _] (Expr.Call (Expr.Attribute _ _ _) _ _ _) _) _) _ _ _); k_dflt (refine' c_AssignD ?qqd ?_; (case qqd => (walk_at "dirty")))))
  k_with "wpC" => ((k_here; (with_reducible show wpC _ _ (eval (Expr.Call (Expr.Attribute _ _ _) _ _ _) _) _ _ _); k_dflt (refine' c_MethodCallSD ?qqd ?_; (case qqd => (walk_at "dirty")))))
  k_with "wpC" => ((k_here; (with_reducible show wpC _ _ (eval (Expr.Call (Expr.Attribute _ _ _) _ _ _) _) _ _ _); k_dflt (refine' c_MethodCallD ?qqd ?_; (case qqd => (walk_at "dirty")))))
  k_with "wpC" => ((k_here; (with_reducible show wpC _ _ (exec (Stmt.Assign [Expr.Name _ _] (Expr.Call (Expr.Name (PySem.Str.ofString "Builder") _) _ _ _) _) _) _ _ _); k_dflt (refine c_Assign_Name ?_)))
  k_with "wpC" => ((k_here; (with_reducible show wpC _ _ (eval (Expr.Call (Expr.Name (PySem.Str.ofString "Builder") _) _ _ _) _) _ _ _); k_dflt (refine c_Call ?_)))
  k_with "wpC" => ((k_here; (with_reducible show wpC _ _ (exec (Stmt.Assign [Expr.Name _ _] (Expr.Call (Expr.Name (PySem.Str.ofString "_law_made") _) _ _ _) _) _) _ _ _); k_dflt (refine c_Assign_Name ?_)))
  k_with "wpC" => ((k_here; (with_reducible show wpC _ _ (eval (Expr.Call (Expr.Name (PySem.Str.ofString "_law_made") _) _ _ _) _) _ _ _); k_dflt (refine c_Call ?_)))
  k_with "wpC" => ((k_here; (with_reducible show wpC _ _ (exec (Stmt.Assign [Expr.Attribute _ _ _] (Expr.Call (Expr.Name (PySem.Str.ofString "bytearray") _) _ _ _) _) _) _ _ _); k_dflt (refine c_Assign_Attr ?_)))
  k_with "wpC" => ((k_here; (with_reducible show wpC _ _ (exec (Stmt.Assign [Expr.Name _ _] (Expr.Call (Expr.Name (PySem.Str.ofString "bytearray") _) _ _ _) _) _) _ _ _); k_dflt (refine c_Assign_Name ?_)))
  k_with "wpC" => ((k_here; (with_reducible show wpC _ _ (eval (Expr.Call (Expr.Name (PySem.Str.ofString "bytearray") _) _ _ _) _) _ _ _); k_dflt (refine c_Call ?_)))
  k_with "wpC" => ((k_here; (with_reducible show wpC _ _ (execs [] _) _ _ _); (refine c_execs_nil ?_)))
  k_with "wpC" => ((k_here; (with_reducible show wpC _ _ (execs (_ :: _) _) _ _ _); (refine c_execs_cons ?_)))
  k_with "wpC" => ((k_here; (with_reducible show wpC _ _ (callWith _ (Value.ref _) _ _ _) _ _ _); k_dflt (first | refine' c_callWith_K ?qqk1 ?qqk2 ?_; (case qqk1 => k_asm); (case qqk2 => k_is); k_whole | refine' c_callWith_S ?qqk1 ?qqk2 ?_; (case qqk1 => k_asm); (case qqk2 => k_is); k_whole | refine' c_callWith_MS ?qqk1 ?qqk2 ?qqk3 ?qqk4 ?_; (case qqk1 => k_asm); (case qqk2 => k_asm); (case qqk3 => k_mem); (case qqk4 => k_is); k_whole | refine' c_callWith_K0 ?qqk1 ?qqk2 ?_; (case qqk1 => k_in); (case qqk2 => k_is); k_whole | refine' c_callWith_KW ?qqk1 ?qqk2 ?qqk3 ?_; (case qqk1 => k_asm); (case qqk2 => k_is); (case qqk3 => exact rfl); k_whole)))
  k_with "wpC" => ((k_here; (with_reducible show wpC _ _ (callWith _ (Value.type _) _ _ _) _ _ _); k_dflt (refine' c_callWith_T ?_)))
  k_with "wpC" => ((k_here; (with_reducible show wpC _ _ (setItem (Value.ref _) (Value.ref _) (Value.bytes _ _)) _ _ _); k_dflt (refine' c_setN (s := ⟨_, _, _, _, _⟩) ?qqg ?qqF ?qqN ?qqU ?qqh ?qqej ?qqh0 ?qqhs ?qqz ?_; (case qqF => k_asm); (case qqN => k_asm); (case qqU => k_updF); (case qqh => k_asm); (case qqg => exact rfl); (case qqej => (walk_at "cl"; omega)); (case qqh0 => (walk_at "cl"; omega)); (case qqhs => ((walk_at "cl"); first | omega | (simp only [List.length_append, List.length_replicate, Array.size_replicate, lay_length, List.length_nil] at *; omega))); (case qqz => (walk_at "cl"; omega)); k_whole); intro _ _ _ _ _ _; (try k_sweep)))
  k_with "wpC" => ((k_here; (with_reducible show wpC _ _ (call (Value.type _) [Value.int _ _]) _ _ _); k_dflt (refine' c_new_int ?qqg ?qqF ?qqN ?qqh0 ?qqhz ?_; (case qqg => exact rfl); (case qqF => k_asm); (case qqN => k_asm); (case qqh0 => (walk_at "cl"; omega)); (case qqhz => (walk_at "cl"; omega)); k_whole); intro _ _ _ _ _; (try (walk_at "lt1")); (try k_sweep)))
  k_with "wpC" => ((k_here; (with_reducible show wpC _ _ (call (Value.type _) [Value.bytes _ _]) _ _ _); k_dflt (refine' c_new_bytes ?qqg ?qqF ?qqN ?qqhz ?_; (case qqg => exact rfl); (case qqF => k_asm); (case qqN => k_asm); (case qqhz => (walk_at "cl"; omega)); k_whole); intro _ _ _ _ _; (try (walk_at "lt1")); (try k_sweep)))
  k_with "LeaveM" => ((k_dflt (refine' leaveM_ ?qqk1 ?qqk2 ?_; (case qqk1 => k_asm); (case qqk2 => k_asm); k_whole); intro _ _ _; (try dsimp only [InitBack, CmpBack, LenBack, StrBack, BoolBack]); (try refine ⟨rfl, ?_⟩)))
  k_with "getMethod str" => ((k_here; (with_reducible show wpAny _ _ (getMethod (Value.str _ _) (PySem.Str.ofString "encode") _) _ _ _); k_dflt (refine' str_encode_get ?_; k_whole)))
  k_with "call builtin:str.encode" => ((k_here; k_dflt (refine' str_encode ?qqh ?qqz ?_; (case qqh => k_asm); (case qqz => (walk_at "cl"; omega)); k_whole); intro _ _))
  k_with "getAttr ref" => ((k_here; k_dflt (refine' kbm_boundS ?qqk1 ?qqk2 ?qqk3 ?qqk4 ?qqk5 ?qqk6 ?qqk6b ?qqk7 ?qqk8 ?qqk9 ?qqk10 ?qqk11 ?_; (case qqk4 => k_inst); (case qqk1 => k_asm); (case qqk2 => k_asm); (case qqk7 => k_is); (case qqk3 => k_asm); (case qqk5 => k_is); (case qqk6 => k_is); (case qqk6b => k_is); (case qqk8 => k_is); (case qqk9 => k_is); (case qqk10 => k_is); (case qqk11 => decide +kernel); k_whole); intro _ _ _ _ _; (try (walk_at "lt1")); (try k_sweep)))
  k_with "eval Name" => ((k_here; (with_reducible show wpAny _ _ (eval (Expr.Name (PySem.Str.ofString "bytearray") _) _) _ _ _); with_unfolding_all refine guard_global (by rfl) ?_; k_dflt (refine' name_B ?qqkF ?qqk1 ?qqk2 ?qqk3 ?qqk4 ?qqk5 ?_; (case qqkF => with_reducible assumption); (case qqk1 => with_reducible assumption); (case qqk2 => k_asm); (case qqk3 => k_is); (case qqk4 => boot_by_name); (case qqk5 => decide); k_whole)))
  k_with "getAttr ref" => ((k_here; (with_reducible show wpAny _ _ (getAttr (Value.ref _) _ _) _ _ _); k_dflt (refine' get_slot ?qqk1 ?qqk2 ?qqk3 ?qqk4 ?qqk5 ?qqk6 ?qqk7 ?qqk8 ?qqk9 ?qqk10 ?qqk11 ?_; (case qqk1 => with_reducible assumption); (case qqk2 => with_reducible assumption); (case qqk3 => k_inst); (case qqk4 => k_is); (case qqk5 => k_is); (case qqk6 => k_is); (case qqk7 => k_is); (case qqk8 => k_is); (case qqk9 => k_is); (case qqk10 => k_slotget); (case qqk11 => k_handed); k_whole)))
  k_with "ite" => ((k_here; k_openite; k_dflt (first | (refine ite_pos (by ((walk_at "cl"); (try simp only [decide_eq_true_eq, beq_iff_eq, bne_iff_ne, ne_eq]); omega)) ?_) | (refine ite_neg (by ((walk_at "cl"); (try simp only [decide_eq_true_eq, beq_iff_eq, bne_iff_ne, ne_eq]); omega)) ?_)); walk_say "PRUNED here"))
  k_with "binaryOp Mult bytes int" => ((k_here; k_dflt (refine' zeros_mul ?qqh0 ?qqhn ?_; (case qqh0 => (walk_at "cl"; omega)); (case qqhn => (walk_at "cl"; omega)); k_whole); intro _ _))
  k_with "call builtin:len" => ((k_here; (with_reducible show wpAny _ _ (call (Value.builtin "len") [Value.ref _]) _ _ _); k_dflt (refine' ba_lenN ?qqN ?qqm ?qqz ?_; (case qqN => k_asm); (case qqm => k_mem); (case qqz => (walk_at "cl"; omega)); k_whole)))
  k_with "setItem ref ref" => ((k_here; (with_reducible show wpAny _ _ (setItem (Value.ref _) (Value.ref _) (Value.ref _)) _ _ _); k_dflt (refine' ba_setN (s := ⟨_, _, _, _, _⟩) ?qqF ?qqN ?qqU ?qqm ?qqne ?qqh0 ?qqhs ?qqhz ?_; (case qqF => k_asm); (case qqN => k_asm); (case qqU => k_updF); (case qqm => k_mem); (case qqne => k_ne); (case qqh0 => (walk_at "cl"; omega)); (case qqhs => ((walk_at "cl"); first | omega | (simp only [List.length_append, List.length_replicate, Array.size_replicate, lay_length, List.length_nil] at *; omega))); (case qqhz => ((walk_at "cl"); first | omega | (simp only [List.length_append, List.length_replicate, Array.size_replicate, lay_length, List.length_nil] at *; omega))); k_whole); intro _ _ _ _ _ _; (try k_sweep)))
  k_with "getMethod ref" => ((k_here; (with_reducible show wpAny _ _ (getMethod (Value.ref _) (PySem.Str.ofString "unpack_from") _) _ _ _); k_dflt (refine' so_fromK ?qqX ?qqh ?_; (case qqX => k_in); (case qqh => exact rfl); k_whole)))
  k_with "getMethod ref" => ((k_here; (with_reducible show wpAny _ _ (getMethod (Value.ref _) (PySem.Str.ofString "pack_into") _) _ _ _); k_dflt (refine' so_intoK ?qqX ?qqh ?_; (case qqX => k_in); (case qqh => exact rfl); k_whole)))
  k_with "call builtin:_struct.Struct.unpack_from" => ((k_here; k_dflt (refine' so_fromN ?qqX ?qqF ?qqN ?qqh ?qqf ?qqb ?qqh0 ?qqh1 ?qqhz ?_; (case qqX => k_in); (case qqF => k_asm); (case qqN => k_asm); (case qqh => exact rfl); (case qqf => constructor); (case qqb => first | exact .inl ⟨_, rfl⟩ | exact .inr ⟨_, rfl, by k_mem⟩); (case qqh0 => (walk_at "cl"; omega)); (case qqh1 => (walk_at "cl"; omega)); (case qqhz => (walk_at "cl"; omega)); k_whole); intro _ _ _ _ _ _ _; (try (walk_at "lt1")); (try k_sweep)))
  k_with "call builtin:_struct.Struct.unpack_from" => ((k_here; k_dflt (refine' so_fromB ?qqX ?qqF ?qqN ?qqh ?qqf ?qqb ?qqh0 ?qqh1 ?qqhz ?_; (case qqX => k_in); (case qqF => k_asm); (case qqN => k_asm); (case qqh => exact rfl); (case qqf => constructor); (case qqb => exact BufIn.keep (by assumption) (by k_asm)); (case qqh0 => (walk_at "cl"; omega)); (case qqh1 => (walk_at "cl"; omega)); (case qqhz => (walk_at "cl"; omega)); k_whole); intro _ _ _ _ _ _ _; (try (walk_at "lt1")); (try k_sweep)))
  k_with "call builtin:_struct.Struct.pack_into" => ((k_here; k_dflt (refine' so_intoN ?qqX ?qqF ?qqN ?qqU ?qqh ?qqf ?qqh0 ?qqh1 ?qqhz ?qqlo ?qqhi ?_; (case qqX => k_in); (case qqF => k_asm); (case qqN => k_asm); (case qqU => k_updF); (case qqh => exact rfl); (case qqf => constructor); (case qqh0 => (walk_at "cl"; omega)); (case qqh1 => (walk_at "cl"; omega)); (case qqhz => (walk_at "cl"; omega)); (case qqlo => ((first | rw [if_neg (by decide)] | rw [if_pos (by decide)]); (try simp only [Nat.reduceMul, Nat.reduceSub, Int.reducePow, Int.reduceNeg]); walk_at "cl"; omega)); (case qqhi => ((first | rw [if_neg (by decide)] | rw [if_pos (by decide)]); (try simp only [Nat.reduceMul, Nat.reduceSub, Int.reducePow, Int.reduceNeg]); walk_at "cl"; omega)); k_whole); intro _ _ _; (try k_sweep)))
  k_with "wpC" => ((k_here; (with_reducible show wpC _ _ (call (Value.ref _) _ _) _ _ _); (walk_at "wpCc")))
  k_with "wpC" => ((k_here; (with_reducible show wpC _ _ (exec (Stmt.Assign [Expr.Name _ _] (Expr.IfExp _ _ _ _) _) _) _ _ _); k_dflt (refine c_Assign_Name ?_)))
  k_with "wpC" => ((k_here; (with_reducible show wpC _ _ (eval (Expr.IfExp _ _ _ _) _) _ _ _); k_dflt (refine c_IfExp ?_)))
  k_with "wpC" => ((k_here; (with_reducible show wpC _ _ (exec (Stmt.Assign [Expr.Name (PySem.Str.ofString "octets") _] _ _) _) _ _ _); (refine stop_ ?_)))
  k_with "wpC" => ((k_here; (with_reducible show wpC _ _ (exec (Stmt.For _ _ _ _ _) _) _ _ _); k_dflt (refine c_For ?_)))
  k_with "pyIter ref" => ((k_here; (with_reducible show wpAny _ _ (pyIter (Value.ref _)) _ _ _); k_dflt (refine' rev_iter ?qqN ?qqm ?qqo ?_; (case qqN => k_asm); (case qqm => k_mem); (case qqo => exact ⟨rfl, rfl⟩); k_whole)))
  k_with "call ref" => ((k_here; (with_reducible show wpAny _ _ (call (Value.ref 782) _ _) _ _ _); k_dflt (refine' parts_k ?qqB ?qqF ?qqX ?qqT ?qqhk ?qqhd ?qqhu  (part_of ?qqN (sub0 ) ?qqS) ?_; (case qqB => k_asm); (case qqF => k_asm); (case qqX => k_asm); (case qqT => k_asm); (case qqhk => first | exact rfl | assumption); (case qqN => k_asm); (case qqhd => (walk_at "room")); (case qqhu => (walk_at "units")); (case qqS => (walk_at "sel"))); intro _ _ _ _ _ _ _ _ _ _ _ _ _; (walk_at "fin9")))
  k_with "wpCc" => ((k_here; (with_reducible show wpC _ _ (call (Value.ref 734) _ _) _ _ _); k_dflt (refine' binit_k ?qqB ?qqF ?qqX ?qqT ?qqhk ?qqhd ?qqhu ?qqf0 ?qqf1 (part_of ?qqN (sub0 ) ?qqS) ?_; (case qqB => k_asm); (case qqF => k_asm); (case qqX => k_asm); (case qqT => k_asm); (case qqhk => first | exact rfl | assumption); (case qqN => k_asm); (case qqhd => (walk_at "room")); (case qqhu => (walk_at "units")); (case qqf0 => (walk_at "ft")); (case qqf1 => (walk_at "ft")); (case qqS => (walk_at "sel"))); (walk_at "cl1"); intro _ _ _ _ _ _ _ _ _ _ _ _ _ _ _ _ _ _ _ _ _; (walk_at "fin93")))
  k_with "wpCc" => ((k_here; (with_reducible show wpC _ _ (call (Value.ref 461) _ _) _ _ _); k_dflt (refine' cstring_k ?qqB ?qqF ?qqX ?qqT ?qqhk ?qqhd ?qqhu ?qqf0 ?qqf1 ?qqf2 ?qqf3 ?qqf4 (part_of ?qqN (sub3 ?qqm0 ?qqm1 ?qqm2) ?qqS) ?_; (case qqB => k_asm); (case qqF => k_asm); (case qqX => k_asm); (case qqT => k_asm); (case qqhk => first | exact rfl | assumption); (case qqN => k_asm); (case qqm0 => k_mem); (case qqm1 => k_mem); (case qqm2 => k_mem); (case qqhd => (walk_at "room")); (case qqhu => (walk_at "units")); (case qqf0 => (walk_at "ft")); (case qqf1 => (walk_at "ft")); (case qqf2 => (walk_at "ft")); (case qqf3 => (walk_at "ft")); (case qqf4 => (walk_at "ft")); (case qqS => (walk_at "sel"))); (walk_at "cl1"); intro _ _ _ _ _ _ _ _ _ _ _ _ _ _ _ _; (walk_at "fin93")))
  k_with "wpCc" => ((k_here; (with_reducible show wpC _ _ (call (Value.ref 468) _ _) _ _ _); k_dflt (refine' cbytes_k ?qqB ?qqF ?qqX ?qqT ?qqhk ?qqhd ?qqhu ?qqf0 ?qqf1 ?qqf2 ?qqf3 (part_of ?qqN (sub3 ?qqm0 ?qqm1 ?qqm2) ?qqS) ?_; (case qqB => k_asm); (case qqF => k_asm); (case qqX => k_asm); (case qqT => k_asm); (case qqhk => first | exact rfl | assumption); (case qqN => k_asm); (case qqm0 => k_mem); (case qqm1 => k_mem); (case qqm2 => k_mem); (case qqhd => (walk_at "room")); (case qqhu => (walk_at "units")); (case qqf0 => (walk_at "ft")); (case qqf1 => (walk_at "ft")); (case qqf2 => (walk_at "ft")); (case qqf3 => (walk_at "ft")); (case qqS => (walk_at "sel"))); (walk_at "cl1"); intro _ _ _ _ _ _ _ _ _ _ _ _ _ _ _ _; (walk_at "fin93")))
  k_with "wpCc" => ((k_here; (with_reducible show wpC _ _ (call (Value.ref 439) _ _) _ _ _); k_dflt (refine' startvec_k ?qqB ?qqF ?qqX ?qqT ?qqhk ?qqhd ?qqhu ?qqf0 ?qqf1 ?qqf2 ?qqf3 (part_of ?qqN (sub3 ?qqm0 ?qqm1 ?qqm2) ?qqS) ?_; (case qqB => k_asm); (case qqF => k_asm); (case qqX => k_asm); (case qqT => k_asm); (case qqhk => first | exact rfl | assumption); (case qqN => k_asm); (case qqm0 => k_mem); (case qqm1 => k_mem); (case qqm2 => k_mem); (case qqhd => (walk_at "room")); (case qqhu => (walk_at "units")); (case qqf0 => (walk_at "ft")); (case qqf1 => (walk_at "ft")); (case qqf2 => (walk_at "ft")); (case qqf3 => (walk_at "ft")); (case qqS => (walk_at "sel"))); (walk_at "cl1"); intro _ _ _ _ _ _ _ _ _ _ _ _ _ _ _ _ _ _ _; (walk_at "fin93"); (walk_at "has9")))
  k_with "wpCc" => ((k_here; (with_reducible show wpC _ _ (call (Value.ref 646) _ _) _ _ _); k_dflt (refine' pU16_k ?qqB ?qqF ?qqX ?qqT ?qqhk ?qqhd ?qqhu ?qqf0 ?qqf1 ?qqf2 ?qqf3 ?qqf4 (part_of ?qqN (sub3 ?qqm0 ?qqm1 ?qqm2) ?qqS) ?_; (case qqB => k_asm); (case qqF => k_asm); (case qqX => k_asm); (case qqT => k_asm); (case qqhk => first | exact rfl | assumption); (case qqN => k_asm); (case qqm0 => k_mem); (case qqm1 => k_mem); (case qqm2 => k_mem); (case qqhd => (walk_at "room")); (case qqhu => (walk_at "units")); (case qqf0 => (walk_at "ft")); (case qqf1 => (walk_at "ft")); (case qqf2 => (walk_at "ft")); (case qqf3 => (walk_at "ft")); (case qqf4 => (walk_at "ft")); (case qqS => (walk_at "sel"))); (walk_at "cl1"); intro _ _ _ _ _ _ _ _ _ _ _ _ _ _ _; (walk_at "fin93")))
  k_with "call ref" => ((k_here; (with_reducible show wpAny _ _ (call (Value.ref 447) _ _) _ _ _); k_dflt (refine' endvec_k ?qqB ?qqF ?qqX ?qqT ?qqhk ?qqhd ?qqhu ?qqf0 ?qqf1 ?qqf2 ?qqf3 ?qqf4 (part_of ?qqN (sub3 ?qqm0 ?qqm1 ?qqm2) ?qqS) ?_; (case qqB => k_asm); (case qqF => k_asm); (case qqX => k_asm); (case qqT => k_asm); (case qqhk => first | exact rfl | assumption); (case qqN => k_asm); (case qqm0 => k_mem); (case qqm1 => k_mem); (case qqm2 => k_mem); (case qqhd => (walk_at "room")); (case qqhu => (walk_at "units")); (case qqf0 => (walk_at "ft")); (case qqf1 => (walk_at "ft")); (case qqf2 => (walk_at "ft")); (case qqf3 => (walk_at "ft")); (case qqf4 => (walk_at "ft")); (case qqS => (walk_at "sel"))); (walk_at "cl1"); intro _ _ _ _ _ _ _ _ _ _; (walk_at "fin93")))
  k_with "call ref" => ((k_here; (with_reducible show wpAny _ _ (call (Value.ref 369) _ _) _ _ _); k_dflt (refine' startobj_k ?qqB ?qqF ?qqX ?qqT ?qqhk ?qqhd ?qqhu ?qqf0 ?qqf1 (part_of ?qqN (sub3 ?qqm0 ?qqm1 ?qqm2) ?qqS) ?_; (case qqB => k_asm); (case qqF => k_asm); (case qqX => k_asm); (case qqT => k_asm); (case qqhk => first | exact rfl | assumption); (case qqN => k_asm); (case qqm0 => k_mem); (case qqm1 => k_mem); (case qqm2 => k_mem); (case qqhd => (walk_at "room")); (case qqhu => (walk_at "units")); (case qqf0 => (walk_at "ft")); (case qqf1 => (walk_at "ft")); (case qqS => (walk_at "sel"))); (walk_at "cl1"); intro _ _ _ _ _ _ _ _; (walk_at "fin94")))
  k_with "wpCc" => ((k_here; (with_reducible show wpC _ _ (call (Value.ref 569) _ _) _ _ _); k_dflt (refine' pu32r_k ?qqB ?qqF ?qqX ?qqT ?qqhk ?qqhd ?qqhu ?qqf0 ?qqf1 ?qqf2 ?qqf3 ?qqf4 ?qqf5 (part_of ?qqN (sub4 ?qqm0 ?qqm1 ?qqm2 ?qqm3) ?qqS) ?_; (case qqB => k_asm); (case qqF => k_asm); (case qqX => k_asm); (case qqT => k_asm); (case qqhk => first | exact rfl | assumption); (case qqN => k_asm); (case qqm0 => k_mem); (case qqm1 => k_mem); (case qqm2 => k_mem); (case qqm3 => k_mem); (case qqhd => (walk_at "room")); (case qqhu => (walk_at "units")); (case qqf0 => (walk_at "ft")); (case qqf1 => (walk_at "ft")); (case qqf2 => (walk_at "ft")); (case qqf3 => (walk_at "ft")); (case qqf4 => (walk_at "ft")); (case qqf5 => (walk_at "ft")); (case qqS => (walk_at "sel"))); (walk_at "cl1"); intro _ _ _ _ _ _ _ _ _ _ _ _ _ _ _ _ _ _ _ _ _; (walk_at "fin94")))
  k_with "wpCc" => ((k_here; (with_reducible show wpC _ _ (call (Value.ref 611) [_, Value.int 1 _, _, _] _) _ _ _); k_dflt (refine' pus1r_k ?qqB ?qqF ?qqX ?qqT ?qqhk ?qqhd ?qqhu ?qqf0 ?qqf1 ?qqf2 ?qqf3 ?qqf4 ?qqf5 (part_of ?qqN (sub4 ?qqm0 ?qqm1 ?qqm2 ?qqm3) ?qqS) ?_; (case qqB => k_asm); (case qqF => k_asm); (case qqX => k_asm); (case qqT => k_asm); (case qqhk => first | exact rfl | assumption); (case qqN => k_asm); (case qqm0 => k_mem); (case qqm1 => k_mem); (case qqm2 => k_mem); (case qqm3 => k_mem); (case qqhd => (walk_at "room")); (case qqhu => (walk_at "units")); (case qqf0 => (walk_at "ft")); (case qqf1 => (walk_at "ft")); (case qqf2 => (walk_at "ft")); (case qqf3 => (walk_at "ft")); (case qqf4 => (walk_at "ft")); (case qqf5 => (walk_at "ft")); (case qqS => (walk_at "sel"))); (walk_at "cl1"); intro _ _ _ _ _ _ _ _ _ _ _ _ _ _ _ _ _ _ _ _ _; (walk_at "fin94")))
  k_with "wpCc" => ((k_here; (with_reducible show wpC _ _ (call (Value.ref 611) [_, Value.int 2 _, _, _] _) _ _ _); k_dflt (refine' pus2r_k ?qqB ?qqF ?qqX ?qqT ?qqhk ?qqhd ?qqhu ?qqf0 ?qqf1 ?qqf2 ?qqf3 ?qqf4 ?qqf5 (part_of ?qqN (sub4 ?qqm0 ?qqm1 ?qqm2 ?qqm3) ?qqS) ?_; (case qqB => k_asm); (case qqF => k_asm); (case qqX => k_asm); (case qqT => k_asm); (case qqhk => first | exact rfl | assumption); (case qqN => k_asm); (case qqm0 => k_mem); (case qqm1 => k_mem); (case qqm2 => k_mem); (case qqm3 => k_mem); (case qqhd => (walk_at "room")); (case qqhu => (walk_at "units")); (case qqf0 => (walk_at "ft")); (case qqf1 => (walk_at "ft")); (case qqf2 => (walk_at "ft")); (case qqf3 => (walk_at "ft")); (case qqf4 => (walk_at "ft")); (case qqf5 => (walk_at "ft")); (case qqS => (walk_at "sel"))); (walk_at "cl1"); intro _ _ _ _ _ _ _ _ _ _ _ _ _ _ _ _ _ _ _ _ _; (walk_at "fin94")))
  k_with "wpCc" => ((k_here; (with_reducible show wpC _ _ (call (Value.ref 611) [_, Value.int 3 _, _, _] _) _ _ _); k_dflt (refine' pus3r_k ?qqB ?qqF ?qqX ?qqT ?qqhk ?qqhd ?qqhu ?qqf0 ?qqf1 ?qqf2 ?qqf3 ?qqf4 ?qqf5 (part_of ?qqN (sub4 ?qqm0 ?qqm1 ?qqm2 ?qqm3) ?qqS) ?_; (case qqB => k_asm); (case qqF => k_asm); (case qqX => k_asm); (case qqT => k_asm); (case qqhk => first | exact rfl | assumption); (case qqN => k_asm); (case qqm0 => k_mem); (case qqm1 => k_mem); (case qqm2 => k_mem); (case qqm3 => k_mem); (case qqhd => (walk_at "room")); (case qqhu => (walk_at "units")); (case qqf0 => (walk_at "ft")); (case qqf1 => (walk_at "ft")); (case qqf2 => (walk_at "ft")); (case qqf3 => (walk_at "ft")); (case qqf4 => (walk_at "ft")); (case qqf5 => (walk_at "ft")); (case qqS => (walk_at "sel"))); (walk_at "cl1"); intro _ _ _ _ _ _ _ _ _ _ _ _ _ _ _ _ _ _ _ _ _; (walk_at "fin94")))
  k_with "wpCc" => ((k_here; (with_reducible show wpC _ _ (call (Value.ref 383) _ _) _ _ _); k_dflt (refine' endobj_k ?qqB ?qqF ?qqX ?qqT ?qqhk ?qqhd ?qqhu ?qqf0 ?qqf1 ?qqf2 ?qqf3 ?qqf4 ?qqf5 ?qqf6 ?qqf7 ?qqf8 ?qqf9 ?qqf10 ?qqf11 ?qqf12 ?qqf13 ?qqf14 ?qqf15 ?qqf16 ?qqf17 ?qqf18 (part_of ?qqN (sub5 ?qqm0 ?qqm1 ?qqm2 ?qqm3 ?qqm4) ?qqS) ?_; (case qqB => k_asm); (case qqF => k_asm); (case qqX => k_asm); (case qqT => k_asm); (case qqhk => first | exact rfl | assumption); (case qqN => k_asm); (case qqm0 => k_mem); (case qqm1 => k_mem); (case qqm2 => k_mem); (case qqm3 => k_mem); (case qqm4 => k_mem); (case qqhd => (walk_at "room")); (case qqhu => (walk_at "units")); (case qqf0 => (walk_at "ft")); (case qqf1 => (walk_at "ft")); (case qqf2 => (walk_at "ft")); (case qqf3 => (walk_at "ft")); (case qqf4 => (walk_at "ft")); (case qqf5 => (walk_at "ft")); (case qqf6 => (walk_at "ft")); (case qqf7 => (walk_at "ft")); (case qqf8 => (walk_at "ft")); (case qqf9 => (walk_at "ft")); (case qqf10 => (walk_at "ft")); (case qqf11 => (walk_at "ft")); (case qqf12 => (walk_at "ft")); (case qqf13 => (walk_at "ft")); (case qqf14 => (walk_at "ft")); (case qqf15 => (walk_at "ft")); (case qqf16 => (walk_at "ft")); (case qqf17 => (walk_at "ft")); (case qqf18 => (walk_at "ft")); (case qqS => (walk_at "sel"))); (walk_at "cl1"); intro _ _ _ _ _ _ _ _ _ _ _ _ _ _ _ _ _ _; (walk_at "fin93")))
  k_with "wpCc" => ((k_here; (with_reducible show wpC _ _ (call (Value.ref 512) _ _) _ _ _); k_dflt (refine' finish_k ?qqB ?qqF ?qqX ?qqT ?qqhk ?qqhd ?qqhu ?qqf0 ?qqf1 ?qqf2 ?qqf3 ?qqf4 ?qqf5 ?qqf6 (part_of ?qqN (sub3 ?qqm0 ?qqm1 ?qqm2) ?qqS) ?_; (case qqB => k_asm); (case qqF => k_asm); (case qqX => k_asm); (case qqT => k_asm); (case qqhk => first | exact rfl | assumption); (case qqN => k_asm); (case qqm0 => k_mem); (case qqm1 => k_mem); (case qqm2 => k_mem); (case qqhd => (walk_at "room")); (case qqhu => (walk_at "units")); (case qqf0 => (walk_at "ft")); (case qqf1 => (walk_at "ft")); (case qqf2 => (walk_at "ft")); (case qqf3 => (walk_at "ft")); (case qqf4 => (walk_at "ft")); (case qqf5 => (walk_at "ft")); (case qqf6 => (walk_at "ft")); (case qqS => (walk_at "sel"))); (walk_at "cl1"); intro _ _ _ _ _ _ _ _ _ _ _ _ _ _; (walk_at "fin93")))
  k_with "wpCc" => ((k_here; (with_reducible show wpC _ _ (call (Value.ref 520) _ _) _ _ _); k_dflt (refine' finishsz_k ?qqB ?qqF ?qqX ?qqT ?qqhk ?qqhd ?qqhu ?qqf0 ?qqf1 ?qqf2 ?qqf3 ?qqf4 ?qqf5 ?qqf6 (part_of ?qqN (sub3 ?qqm0 ?qqm1 ?qqm2) ?qqS) ?_; (case qqB => k_asm); (case qqF => k_asm); (case qqX => k_asm); (case qqT => k_asm); (case qqhk => first | exact rfl | assumption); (case qqN => k_asm); (case qqm0 => k_mem); (case qqm1 => k_mem); (case qqm2 => k_mem); (case qqhd => (walk_at "room")); (case qqhu => (walk_at "units")); (case qqf0 => (walk_at "ft")); (case qqf1 => (walk_at "ft")); (case qqf2 => (walk_at "ft")); (case qqf3 => (walk_at "ft")); (case qqf4 => (walk_at "ft")); (case qqf5 => (walk_at "ft")); (case qqf6 => (walk_at "ft")); (case qqS => (walk_at "sel"))); (walk_at "cl1"); intro _ _ _ _ _ _ _ _ _ _ _ _ _ _; (walk_at "fin93")))
  k_with "call ref" => ((k_here; (with_reducible show wpAny _ _ (call (Value.ref 362) _ _) _ _ _); k_dflt (refine' output_k ?qqB ?qqF ?qqX ?qqT ?qqhk ?qqhd ?qqhu ?qqf0 ?qqf1 (part_of ?qqN (sub3 ?qqm0 ?qqm1 ?qqm2) ?qqS) ?_; (case qqB => k_asm); (case qqF => k_asm); (case qqX => k_asm); (case qqT => k_asm); (case qqhk => first | exact rfl | assumption); (case qqN => k_asm); (case qqm0 => k_mem); (case qqm1 => k_mem); (case qqm2 => k_mem); (case qqhd => (walk_at "room")); (case qqhu => (walk_at "units")); (case qqf0 => (walk_at "ft")); (case qqf1 => (walk_at "ft")); (case qqS => (walk_at "sel"))); (walk_at "cl1"); intro _ _ _ _ _ _; (walk_at "fin93")))
  trivial

theorem made_k : ∀ {w : World} {mean : ExcName → Option Value} {mg mb : Str → Option Value} {dp un : Nat} {cn : Str} {cs : Scope} {a : Addr} {ccd : Value} {cl : List (Str × Addr)} {outer : List Env} {A₀ : Around} {base h₀ : Heap} {L : Addr} {m : Str → Option Value} {s : Shared}
    {Q E : Value → Shared → Prop} {rest : List (Addr × Obj)} (B : Below A₀ base outer h₀) (F : Fr h₀ L s.heap m) (X : (Mine.hd.heap_39 w.params).In h₀) (T : Top Mine.hd.view_39 LO mean mg mb h₀) (hk : cs.kind = .function) (hd : dp + 12 < recursionLimit) (hu : un + 96 < cLine) {n : Int} {u : Tok} {inner : Option (Array UInt8)} {iv : Value} (hinn : InnIs inner iv) (hiz : ((inner.getD #[]).size : Int) ≤ 500) (P : Part h₀ L s.heap [] rest)
    (hret : ∀ (h' : Heap) (tk' : Nat) (x : Addr), Fr h₀ L h' m → News h₀ L h' ([(x, AO (madeF n inner).toArray)] ++ rest) → AllNes [(x, AO (madeF n inner).toArray)] rest → Q (.ref x) { s with heap := h', toks := tk' }),
    wpC (model _root_.PySem.Challenge.rw_bp0005_01.row.prog w) (ktrTop dp un (some []) cn cs L a ccd cl outer) (call (.ref 789) [.int n u, iv] ) Q E s := by
  refine @Mine.hush _ (by
  k_fill
  intro w mean mg mb dp un cn cs a ccd cl outer A₀ base h₀ L m s Q E rest B F X T hk hd hu n u inner iv hinn hiz P hret
  have N := P.news
  have hdis := P.dis
  refine c_call ?_
  k_dflt (refine' defC ?k1 ?k2 ?k3 ?k4 ?kd ?k5 ?kA ?kF ?kK ?k6 ?k7 ?k8 ?k9 ?kB ?_ ?c2 ?c3 ?c4 ?c5; (case kA => exact rfl); (case kF => exact rfl); (case kK => assumption); (case k1 => k_asm); (case k2 => k_asm); (case k3 => k_asm); (case k4 => k_asm); (case kd => k_asm); (case k5 => k_asm); (case k6 => k_is); (case k7 => k_is); (case k8 => ktr_room); (case k9 => exact BindsTo.of_eq rfl); (case c5 => decide); (case kB => exact locs rfl); (case c2 => exact rfl); (case c3 => exact rfl); (case c4 => exact rfl); k_whole; intro g' L' h' FG' F' N' B' X' T' l0 ; (try dsimp only); (try k_fold))
  have hb3 := fmod_in (a := n.fdiv 3) (b := 40) (by decide)
  obtain ⟨hws, hwz⟩ := wordF_ok n
  obtain ⟨hn0, hn1⟩ := numF_in n
  obtain ⟨hrl, hri⟩ := rowF_in n
  k_steps
  rename_i h9a k9a x rw ys mv t1 t2 hI hM _ _ _ _ _ _ h9b k9b b dx ba0 dv ar0 tt1 tt2 ov hH0 hz0 hlo hov _ h9 k9 ba ar hd ma ta tb tk hH hz hg hm c1 c2 c3 q1 q2 q3 q4 q5 q6 q7 q8 q9 h F N
  have hm4 : ma = 4 := by omega
  subst hm4
  replace hH : Has ar hd (strO (enc (wordF n)) []) := hH
  have hsl := strO_len (b := enc (wordF n)) (out := [])
  simp only [List.length_nil] at hsl
  have hil := innO_len (inner := inner) (out := strO (enc (wordF n)) [])
  obtain ⟨m₀, tx, htx, f1, f2, f3, f4, f5, f6, f7, Fn⟩ : ∃ (m₀ : Str → Option Value) (tx : Int), tx = (strO (enc (wordF n)) []).length ∧ m₀ (Str.ofString "text") = some (.int tx tk) ∧ m₀ (Str.ofString "b") = some (.ref b) ∧ m₀ (Str.ofString "sized") = some (.bool (sizedF n)) ∧
      m₀ (Str.ofString "mark") = some mv ∧ m₀ (Str.ofString "row") = some (.ref rw) ∧ m₀ (Str.ofString "number") = some (.int (numF n) t1) ∧ m₀ (Str.ofString "inner") = some iv ∧ Fr g' L' h m₀ := ⟨_, _, by unfold strO; rw [lay_app]; rfl, rfl, rfl, rfl, rfl, rfl, rfl, rfl, F⟩
  clear F
  rename Fr g' L' h m₀ => F
  rw [sm_self f1 f2 f3 f4 f5 f6 f7] at F
  refine stop_on ?_
  refine c_mono (Q := fun f s' => match f with | .next => StO s g' L' (SM tx tk b (sizedF n) mv rw (numF n) t1 iv m₀) b dx dv rw ov ys (innV inner (strO (enc (wordF n)) [])) (innO inner (strO (enc (wordF n)) [])) s' | _ => False) (E := fun _ _ => False) ?_ ?_ (fun _ _ h => h.elim)
  · refine c_Assign_Name ?_
    refine c_IfExp2 ?_
    rcases hinn with ⟨rfl, rfl⟩ | ⟨ia, it, rfl, rfl⟩
    · k_steps
      rename_i hh FF NN
      refine ⟨_, _, _, _, _, _, _, _, rfl, FF, fun p hp => NN p (by revert p; exact sub5 (by k_mem) (by k_mem) (by k_mem) (by k_mem) (by k_mem)), hH, hz⟩
    · have hiz2 : ((ia.size : Nat) : Int) ≤ 500 := hiz
      have hsl2 : ((strO (enc (wordF n)) []).length : Int) ≤ 28 := by omega
      k_steps
      rename Has _ _ (lay 4 (ia.size : Int) ++ _) => HH
      rename_i hz9 hg9 hm9 _ _ _ _ _ _ _ _ _ _ _ _ h9 FF N9
      rw [show max (4 : Int) 4 = 4 from rfl] at hm9
      subst hm9
      exact ⟨_, _, _, _, _, _, _, _, rfl, FF, fun p hp => N9 p (by revert p; exact sub5 (by k_mem) (by k_mem) (by k_mem) (by k_mem) (by k_mem)), HH, hz9⟩
  · intro f s' z
    cases f with
    | next =>
      obtain ⟨h, tk2, ba2, ar2, hd2, tc, td, toc, rfl, F, N, H2, z2⟩ := z
      dsimp only
      have hocls : ov.cls = .type "dict" := by obtain ⟨_, _, h, _⟩ := hov; exact h.1
      obtain ⟨e1, e2, e3, e4⟩ := newsSt N (.head _) (.tail _ (.head _)) (.tail _ (.tail _ (.head _))) (.tail _ (.tail _ (.tail _ (.head _)))) (.tail _ (.tail _ (.tail _ (.tail _ (.head _))))) hocls
      have hyl : ys.length = (rowF n).length := hI.length
      have hyl3 : ys.length ≤ 3 := by omega
      clear hH c1 c2 c3
      k_steps
      rename_i h9 k9 ba3 ar3 hd3 ma3 t13 t23 tn3 H3 z3 g3 m3 l3 l32 r3 q3 _ _ _ _ _ _ _ _ _ _ D h3 F3 N3 a1 a2 a3 a4 a5
      have hm3 : ma3 = 4 := by omega
      subst hm3
      refine c_for_ind (I := LR s g' L' _ b dx dv rw D ov ys _ ar3.size (rowF n) (pd 4 (2 * (rowF n).length) (innO inner (strO (enc (wordF n)) [])))) ?_ (by intro _; rfl) (rowF n).length _ ⟨_, _, _, _, _, _, _, _, _, rfl, fr_xm F3, N3, by rw [← hyl]; exact ⟨rfl, rfl⟩, by rw [List.drop_length]; exact H3, z3, Nat.le_refl _, Nat.le_refl _⟩
      clear F3 N3
      intro n' s' hI'
      obtain ⟨h4, tk4, el, o, ba4, ar4, hd4, t14, t24, rfl, F4, N4, R4, H4, z4, g4, n4⟩ := hI'
      have e5 := newsSR N4 (.head _) (.tail _ (.tail _ (.tail _ (.head _)))) R4
      rcases n' with _ | i
      · have R4' : RevAt o rw (-1) := by simpa using R4
        refine' rev_end (l := rw) rfl F4 N4 (.head _) ?S R4' ?_
        case S => (walk_at "sel")
        intro h5 F5 N5
        dsimp only
        obtain ⟨e1, e2, e3, e4⟩ := newsSt N5 (.head _) (.tail _ (.head _)) (.tail _ (.tail _ (.head _))) (.tail _ (.tail _ (.tail _ (.head _)))) (.tail _ (.tail _ (.tail _ (.tail _ (.head _))))) hocls
        have hr0 := rowO_len (xs := rowF n) (out := pd 4 (2 * (rowF n).length) (innO inner (strO (enc (wordF n)) [])))
        rw [List.drop_zero] at H4
        have hq4 := Has.len H4
        clear F4 N4 R4 R4' H3
        k_steps
        all_goals (rename sizedF n = _ => hs; rename_i kF kN kD; subst htx)
        · have em : madeF n inner = madeO (numF n) (enc (wordF n)) (rowF n) (markF n) true inner := by unfold madeF; rw [hs]
          rw [em] at hret
          exact hret _ _ _ kF (news_sub kN (sub1 (.tail _ (.tail _ (.tail _ (.head _)))))) (allNes_of (dis_sub kD (sub1 (.tail _ (.tail _ (.tail _ (.head _)))))))
        · have em : madeF n inner = madeO (numF n) (enc (wordF n)) (rowF n) (markF n) false inner := by unfold madeF; rw [hs]
          rw [em] at hret
          exact hret _ _ _ kF (news_sub kN (sub1 (.tail _ (.tail _ (.tail _ (.head _)))))) (allNes_of (dis_sub kD (sub1 (.tail _ (.tail _ (.tail _ (.head _)))))))
      · obtain ⟨x, t, ex, ed, xm⟩ := row_get (ys := ys) i hI (by omega)
        have hx := hri x xm
        have R4' : RevAt o rw (i : Int) := by simpa using R4
        have hr0 := rowO_len (xs := (rowF n).drop (i + 1)) (out := pd 4 (2 * (rowF n).length) (innO inner (strO (enc (wordF n)) [])))
        have hr2 : ((rowF n).drop (i + 1)).length ≤ 3 := by rw [List.length_drop]; omega
        clear R4
        refine' rev_next (l := rw) (items := ys.toArray) F4 N4 ?U R4' (.tail _ (.tail _ (.tail _ (.tail _ (.tail _ (.head _)))))) ex ?_
        case U => k_updF
        intro o5 h5 R5 F5 N5
        dsimp only
        clear F4 N4 R4'
        obtain ⟨e1, e2, e3, e4⟩ := newsSt N5 (.tail _ (.head _)) (.tail _ (.tail _ (.head _))) (.tail _ (.tail _ (.tail _ (.head _)))) (.tail _ (.tail _ (.tail _ (.tail _ (.head _))))) (.tail _ (.tail _ (.tail _ (.tail _ (.tail _ (.head _)))))) hocls
        k_steps
        rename_i hh h9 k9 ba9 ar9 hd9 ma9 t19 t29 hH9 hz9 hg9 hm9 F9 N9 _ _ _ _ _ _ _ _ _ _ _ _
        rw [show max (4 : Int) 2 = 4 from rfl] at hm9
        subst hm9
        rw [pd2_even rowO_even] at hH9
        exact ⟨i, Nat.lt_succ_self _, _, _, _, _, _, _, _, _, _, rfl, xm_a ▸ F9, fun p hp => N9 p (by revert p; exact List.forall_mem_cons.mpr ⟨by k_mem, sub5 (by k_mem) (by k_mem) (by k_mem) (by k_mem) (by k_mem)⟩), R5, by rw [ed, rowO]; exact hH9, hz9, by omega, by omega⟩
    | _ => exact z.elim) ?_
  intro q f
  simpa using Mine.hushed f 5 fun n i => i

-- KU

/-- in hand: walk on where the walk stops -/
def KGo : Prop := True
def KTup : Prop := True
def Off3A (I C D : Addr) : List (Addr × Obj) → Prop
  | [] => True
  | p :: l => (NeA p.1 I ∧ NeA p.1 C ∧ NeA p.1 D) ∧ Off3A I C D l
theorem off3A {I C D : Addr} : ∀ {l : List (Addr × Obj)}, LCg.Off3 I C D l → Off3A I C D l
  | [], _ => trivial
  | _ :: _, h => ⟨⟨h.1.1, h.1.2.1, h.1.2.2⟩, off3A h.2⟩
/-- the same frame, the same ledger -/
def Same (s : Shared) (g : Heap) (L : Addr) (mm : Str → Option Value) (bs : List (Addr × Obj)) (s' : Shared) : Prop := ∃ (h : Heap) (tk : Nat), s' = { s with heap := h, toks := tk } ∧ Fr g L h mm ∧ News g L h bs
/-- the same, and one name told -/
def Sets (s : Shared) (g : Heap) (L : Addr) (mm : Str → Option Value) (bs : List (Addr × Obj)) (x : Str) (v : Int) (s' : Shared) : Prop := ∃ (h : Heap) (tk : Nat) (t : Tok), s' = { s with heap := h, toks := tk } ∧ Fr g L h (fun y => if y = x then some (.int v t) else mm y) ∧ News g L h bs
theorem join_same {M : Model} {A : Around} {E : Value → Shared → Prop} {s : Shared} {t : Sem Flow} {Q : Flow → Shared → Prop} {g : Heap} {L : Addr} {mm : Str → Option Value} {bs : List (Addr × Obj)} (F : Fr g L s.heap mm) (N : News g L s.heap bs)
    (step : wpAny M A t (fun f s' => match f with | .next => Same s g L mm bs s' | _ => False) (fun _ _ => False) s) (rest : ∀ h tk, Fr g L h mm → News g L h bs → Q .next { s with heap := h, toks := tk }) : wpAny M A t Q E s :=
  wpAny_mono step (fun f s' z => by
    cases f with
    | next => obtain ⟨h, tk, rfl, F, N⟩ := z; exact rest h tk F N
    | _ => exact z.elim) fun _ _ z => z.elim
theorem join_sets {M : Model} {A : Around} {E : Value → Shared → Prop} {s : Shared} {t : Sem Flow} {Q : Flow → Shared → Prop} {g : Heap} {L : Addr} {mm : Str → Option Value} {bs : List (Addr × Obj)} (x : Str) (v : Int) (F : Fr g L s.heap mm) (N : News g L s.heap bs)
    (step : wpAny M A t (fun f s' => match f with | .next => Sets s g L mm bs x v s' | _ => False) (fun _ _ => False) s) (rest : ∀ h tk u, Fr g L h (fun y => if y = x then some (.int v u) else mm y) → News g L h bs → Q .next { s with heap := h, toks := tk }) : wpAny M A t Q E s :=
  wpAny_mono step (fun f s' z => by
    cases f with
    | next => obtain ⟨h, tk, u, rfl, F, N⟩ := z; exact rest h tk u F N
    | _ => exact z.elim) fun _ _ z => z.elim

section
local macro_rules | `(tactic| walk_at "CompSrc") => `(tactic| (k_here; kcf_src; (try k_fmods); (try kcf_lens); k_dflt (refine LCg.CompSrc.range (by rfl) (by k_asm) (by k_asm) (by assumption) (by first | exact small_one (by kcf_bnd) (by kcf_bnd) (by kcf_bnd) (by kcf_bnd) | decide) (by first | exact rangeSize_nat _ _ | rfl) (by first | exact Nat.le_of_ble_eq_true rfl | (rw [PySem.sizeLine_eq]; omega) | size_fits) ?_; intro g'; (refine' kcf_range _ (fun k' t' I' oI' C' oC' D' m' ys' h' tk' E' hlo' hhi' hC' hx' F' N' off' ne' hMark' => ?_) ?_); (all_goals (try (have off9 := off3A off'; simp only [Off3A, and_true] at off9; (walk_at "spl")))); (all_goals (try (simp only [LCg.Off3, and_true] at off'))); kcf_last)))
local macro_rules | `(tactic| walk_at "cl") => `(tactic| ((try (with_reducible rename And (@Ne _ _ _) _ => hqq; clear hqq)); (try (with_reducible rename And (And (@Ne _ _ _) _) _ => hqq; clear hqq))))
theorem setup_KU_1 : True := by
  k_with_none
  k_with "wpC" => ((k_here; (with_reducible show wpC _ _ _ _ _ _); (fail_if_success (with_reducible show wpC _ _ (setItem _ _ (Value.bytes _ _)) _ _ _)); (fail_if_success (with_reducible show wpC _ _ (call (Value.ref _) _ _) _ _ _)); (fail_if_success (with_reducible show wpC _ _ (callWith _ (Value.type _) _ _ _) _ _ _)); (fail_if_success (with_reducible show wpC _ _ (call (Value.type _) _ _) _ _ _)); (refine of_any ?_)))
  k_with "wpC" => ((k_here; (with_reducible show wpC _ _ (call (Value.ref _) _ _) _ _ _); (refine' of_anyD ?qqd ?_; (case qqd => (walk_at "dirty")))))
  k_with "wpC" => ((k_here; (with_reducible show wpC _ _ (exec (Stmt.While _ _ _ _) _) _ _ _); (refine c_While ?_)))
  k_with "wpC" => ((k_here; (with_reducible show wpC _ _ (exec (Stmt.If _ _ _ _) _) _ _ _); (refine c_If ?_)))
  k_with "wpC" => ((k_here; (with_reducible show wpC _ _ (exec (Stmt.Assign [Expr.Subscript _ (Expr.Slice _ _ _ _) _] _ _) _) _ _ _); k_dflt (refine c_Assign_Subscript ?_)))
  k_with "wpC" => ((k_here; (with_reducible show wpC _ _ (exec (Stmt.Expr (Expr.Call (Expr.Attribute _ _ _) _ _ _) _) _) _ _ _); k_dflt (refine' c_ExprD ?qqd ?_; (case qqd => (walk_at "dirty")))))
  k_with "wpC" => ((k_here; (with_reducible show wpC _ _ (exec (Stmt.Return (some (Expr.Call (Expr.Attribute _ _ _) _ _ _)) _) _) _ _ _); k_dflt (refine' c_ReturnD ?qqd ?_; (case qqd => (walk_at "dirty")))))
  k_with "wpC" => ((k_here; (with_reducible show wpC _ _ (exec (Stmt.Assign [Expr.Name _ _] (Expr.Call (Expr.Attribute _ _ _) _ _ _) _) _) _ _ _); k_dflt (refine' c_AssignD ?qqd ?_; (case qqd => (walk_at "dirty")))))
  k_with "wpC" => ((k_here; (with_reducible show wpC _ _ (eval (Expr.Call (Expr.Attribute _ _ _) _ _ _) _) _ _ _); k_dflt (refine' c_MethodCallSD ?qqd ?_; (case qqd => (walk_at "dirty")))))
  k_with "wpC" => ((k_here; (with_reducible show wpC _ _ (eval (Expr.Call (Expr.Attribute _ _ _) _ _ _) _) _ _ _); k_dflt (refine' c_MethodCallD ?qqd ?_; (case qqd => (walk_at "dirty")))))
  k_with "wpC" => ((k_here; (with_reducible show wpC _ _ (exec (Stmt.Assign [Expr.Name _ _] (Expr.Call (Expr.Name (PySem.Str.ofString "Builder") _) _ _ _) _) _) _ _ _); k_dflt (refine c_Assign_Name ?_)))
  k_with "wpC" => ((k_here; (with_reducible show wpC _ _ (eval (Expr.Call (Expr.Name (PySem.Str.ofString "Builder") _) _ _ _) _) _ _ _); k_dflt (refine c_Call ?_)))
  k_with "wpC" => ((k_here; (with_reducible show wpC _ _ (exec (Stmt.Assign [Expr.Name _ _] (Expr.Call (Expr.Name (PySem.Str.ofString "_law_made") _) _ _ _) _) _) _ _ _); k_dflt (refine c_Assign_Name ?_)))
  k_with "wpC" => ((k_here; (with_reducible show wpC _ _ (eval (Expr.Call (Expr.Name (PySem.Str.ofString "_law_made") _) _ _ _) _) _ _ _); k_dflt (refine c_Call ?_)))
  k_with "wpC" => ((k_here; (with_reducible show wpC _ _ (exec (Stmt.Assign [Expr.Attribute _ _ _] (Expr.Call (Expr.Name (PySem.Str.ofString "bytearray") _) _ _ _) _) _) _ _ _); k_dflt (refine c_Assign_Attr ?_)))
  k_with "wpC" => ((k_here; (with_reducible show wpC _ _ (exec (Stmt.Assign [Expr.Name _ _] (Expr.Call (Expr.Name (PySem.Str.ofString "bytearray") _) _ _ _) _) _) _ _ _); k_dflt (refine c_Assign_Name ?_)))
  k_with "wpC" => ((k_here; (with_reducible show wpC _ _ (eval (Expr.Call (Expr.Name (PySem.Str.ofString "bytearray") _) _ _ _) _) _ _ _); k_dflt (refine c_Call ?_)))
  k_with "wpC" => ((k_here; (with_reducible show wpC _ _ (execs [] _) _ _ _); (refine c_execs_nil ?_)))
  k_with "wpC" => ((k_here; (with_reducible show wpC _ _ (execs (_ :: _) _) _ _ _); (refine c_execs_cons ?_)))
  k_with "wpC" => ((k_here; (with_reducible show wpC _ _ (callWith _ (Value.ref _) _ _ _) _ _ _); k_dflt (first | refine' c_callWith_K ?qqk1 ?qqk2 ?_; (case qqk1 => k_asm); (case qqk2 => k_is); k_whole | refine' c_callWith_S ?qqk1 ?qqk2 ?_; (case qqk1 => k_asm); (case qqk2 => k_is); k_whole | refine' c_callWith_MS ?qqk1 ?qqk2 ?qqk3 ?qqk4 ?_; (case qqk1 => k_asm); (case qqk2 => k_asm); (case qqk3 => k_mem); (case qqk4 => k_is); k_whole | refine' c_callWith_K0 ?qqk1 ?qqk2 ?_; (case qqk1 => k_in); (case qqk2 => k_is); k_whole | refine' c_callWith_KW ?qqk1 ?qqk2 ?qqk3 ?_; (case qqk1 => k_asm); (case qqk2 => k_is); (case qqk3 => exact rfl); k_whole)))
  k_with "wpC" => ((k_here; (with_reducible show wpC _ _ (callWith _ (Value.type _) _ _ _) _ _ _); k_dflt (refine' c_callWith_T ?_)))
  k_with "wpC" => ((k_here; (with_reducible show wpC _ _ (setItem (Value.ref _) (Value.ref _) (Value.bytes _ _)) _ _ _); k_dflt (refine' c_setN (s := ⟨_, _, _, _, _⟩) ?qqg ?qqF ?qqN ?qqU ?qqh ?qqej ?qqh0 ?qqhs ?qqz ?_; (case qqF => k_asm); (case qqN => k_asm); (case qqU => k_updF); (case qqh => k_asm); (case qqg => exact rfl); (case qqej => (walk_at "cl"; omega)); (case qqh0 => (walk_at "cl"; omega)); (case qqhs => ((walk_at "cl"); first | omega | (simp only [List.length_append, List.length_replicate, Array.size_replicate, lay_length, List.length_nil] at *; omega))); (case qqz => (walk_at "cl"; omega)); k_whole); intro _ _ _ _ _ _; (try k_sweep)))
  k_with "wpC" => ((k_here; (with_reducible show wpC _ _ (call (Value.type _) [Value.int _ _]) _ _ _); k_dflt (refine' c_new_int ?qqg ?qqF ?qqN ?qqh0 ?qqhz ?_; (case qqg => exact rfl); (case qqF => k_asm); (case qqN => k_asm); (case qqh0 => (walk_at "cl"; omega)); (case qqhz => (walk_at "cl"; omega)); k_whole); intro _ _ _ _ _; (try (walk_at "lt1")); (try k_sweep)))
  k_with "wpC" => ((k_here; (with_reducible show wpC _ _ (call (Value.type _) [Value.bytes _ _]) _ _ _); k_dflt (refine' c_new_bytes ?qqg ?qqF ?qqN ?qqhz ?_; (case qqg => exact rfl); (case qqF => k_asm); (case qqN => k_asm); (case qqhz => (walk_at "cl"; omega)); k_whole); intro _ _ _ _ _; (try (walk_at "lt1")); (try k_sweep)))
  k_with "LeaveM" => ((k_dflt (refine' leaveM_ ?qqk1 ?qqk2 ?_; (case qqk1 => k_asm); (case qqk2 => k_asm); k_whole); intro _ _ _; (try dsimp only [InitBack, CmpBack, LenBack, StrBack, BoolBack]); (try refine ⟨rfl, ?_⟩)))
  k_with "getMethod str" => ((k_here; (with_reducible show wpAny _ _ (getMethod (Value.str _ _) (PySem.Str.ofString "encode") _) _ _ _); k_dflt (refine' str_encode_get ?_; k_whole)))
  k_with "call builtin:str.encode" => ((k_here; k_dflt (refine' str_encode ?qqh ?qqz ?_; (case qqh => k_asm); (case qqz => (walk_at "cl"; omega)); k_whole); intro _ _))
  k_with "getAttr ref" => ((k_here; k_dflt (refine' kbm_boundS ?qqk1 ?qqk2 ?qqk3 ?qqk4 ?qqk5 ?qqk6 ?qqk6b ?qqk7 ?qqk8 ?qqk9 ?qqk10 ?qqk11 ?_; (case qqk4 => k_inst); (case qqk1 => k_asm); (case qqk2 => k_asm); (case qqk7 => k_is); (case qqk3 => k_asm); (case qqk5 => k_is); (case qqk6 => k_is); (case qqk6b => k_is); (case qqk8 => k_is); (case qqk9 => k_is); (case qqk10 => k_is); (case qqk11 => decide +kernel); k_whole); intro _ _ _ _ _; (try (walk_at "lt1")); (try k_sweep)))
  k_with "eval Name" => ((k_here; (with_reducible show wpAny _ _ (eval (Expr.Name (PySem.Str.ofString "bytearray") _) _) _ _ _); with_unfolding_all refine guard_global (by rfl) ?_; k_dflt (refine' name_B ?qqkF ?qqk1 ?qqk2 ?qqk3 ?qqk4 ?qqk5 ?_; (case qqkF => with_reducible assumption); (case qqk1 => with_reducible assumption); (case qqk2 => k_asm); (case qqk3 => k_is); (case qqk4 => boot_by_name); (case qqk5 => decide); k_whole)))
  k_with "getAttr ref" => ((k_here; (with_reducible show wpAny _ _ (getAttr (Value.ref _) _ _) _ _ _); k_dflt (refine' get_slot ?qqk1 ?qqk2 ?qqk3 ?qqk4 ?qqk5 ?qqk6 ?qqk7 ?qqk8 ?qqk9 ?qqk10 ?qqk11 ?_; (case qqk1 => with_reducible assumption); (case qqk2 => with_reducible assumption); (case qqk3 => k_inst); (case qqk4 => k_is); (case qqk5 => k_is); (case qqk6 => k_is); (case qqk7 => k_is); (case qqk8 => k_is); (case qqk9 => k_is); (case qqk10 => k_slotget); (case qqk11 => k_handed); k_whole)))
  k_with "ite" => ((k_here; k_openite; k_dflt (first | (refine ite_pos (by ((walk_at "cl"); (try simp only [decide_eq_true_eq, beq_iff_eq, bne_iff_ne, ne_eq]); omega)) ?_) | (refine ite_neg (by ((walk_at "cl"); (try simp only [decide_eq_true_eq, beq_iff_eq, bne_iff_ne, ne_eq]); omega)) ?_)); walk_say "PRUNED here"))
  k_with "binaryOp Mult bytes int" => ((k_here; k_dflt (refine' zeros_mul ?qqh0 ?qqhn ?_; (case qqh0 => (walk_at "cl"; omega)); (case qqhn => (walk_at "cl"; omega)); k_whole); intro _ _))
  k_with "call builtin:len" => ((k_here; (with_reducible show wpAny _ _ (call (Value.builtin "len") [Value.ref _]) _ _ _); k_dflt (refine' ba_lenN ?qqN ?qqm ?qqz ?_; (case qqN => k_asm); (case qqm => k_mem); (case qqz => (walk_at "cl"; omega)); k_whole)))
  k_with "setItem ref ref" => ((k_here; (with_reducible show wpAny _ _ (setItem (Value.ref _) (Value.ref _) (Value.ref _)) _ _ _); k_dflt (refine' ba_setN (s := ⟨_, _, _, _, _⟩) ?qqF ?qqN ?qqU ?qqm ?qqne ?qqh0 ?qqhs ?qqhz ?_; (case qqF => k_asm); (case qqN => k_asm); (case qqU => k_updF); (case qqm => k_mem); (case qqne => k_ne); (case qqh0 => (walk_at "cl"; omega)); (case qqhs => ((walk_at "cl"); first | omega | (simp only [List.length_append, List.length_replicate, Array.size_replicate, lay_length, List.length_nil] at *; omega))); (case qqhz => ((walk_at "cl"); first | omega | (simp only [List.length_append, List.length_replicate, Array.size_replicate, lay_length, List.length_nil] at *; omega))); k_whole); intro _ _ _ _ _ _; (try k_sweep)))
  k_with "getMethod ref" => ((k_here; (with_reducible show wpAny _ _ (getMethod (Value.ref _) (PySem.Str.ofString "unpack_from") _) _ _ _); k_dflt (refine' so_fromK ?qqX ?qqh ?_; (case qqX => k_in); (case qqh => exact rfl); k_whole)))
  k_with "getMethod ref" => ((k_here; (with_reducible show wpAny _ _ (getMethod (Value.ref _) (PySem.Str.ofString "pack_into") _) _ _ _); k_dflt (refine' so_intoK ?qqX ?qqh ?_; (case qqX => k_in); (case qqh => exact rfl); k_whole)))
  k_with "call builtin:_struct.Struct.unpack_from" => ((k_here; k_dflt (refine' so_fromN ?qqX ?qqF ?qqN ?qqh ?qqf ?qqb ?qqh0 ?qqh1 ?qqhz ?_; (case qqX => k_in); (case qqF => k_asm); (case qqN => k_asm); (case qqh => exact rfl); (case qqf => constructor); (case qqb => first | exact .inl ⟨_, rfl⟩ | exact .inr ⟨_, rfl, by k_mem⟩); (case qqh0 => (walk_at "cl"; omega)); (case qqh1 => (walk_at "cl"; omega)); (case qqhz => (walk_at "cl"; omega)); k_whole); intro _ _ _ _ _ _ _; (try (walk_at "lt1")); (try k_sweep)))
  k_with "call builtin:_struct.Struct.unpack_from" => ((k_here; k_dflt (refine' so_fromB ?qqX ?qqF ?qqN ?qqh ?qqf ?qqb ?qqh0 ?qqh1 ?qqhz ?_; (case qqX => k_in); (case qqF => k_asm); (case qqN => k_asm); (case qqh => exact rfl); (case qqf => constructor); (case qqb => exact BufIn.keep (by assumption) (by k_asm)); (case qqh0 => (walk_at "cl"; omega)); (case qqh1 => (walk_at "cl"; omega)); (case qqhz => (walk_at "cl"; omega)); k_whole); intro _ _ _ _ _ _ _; (try (walk_at "lt1")); (try k_sweep)))
  k_with "call builtin:_struct.Struct.pack_into" => ((k_here; k_dflt (refine' so_intoN ?qqX ?qqF ?qqN ?qqU ?qqh ?qqf ?qqh0 ?qqh1 ?qqhz ?qqlo ?qqhi ?_; (case qqX => k_in); (case qqF => k_asm); (case qqN => k_asm); (case qqU => k_updF); (case qqh => exact rfl); (case qqf => constructor); (case qqh0 => (walk_at "cl"; omega)); (case qqh1 => (walk_at "cl"; omega)); (case qqhz => (walk_at "cl"; omega)); (case qqlo => ((first | rw [if_neg (by decide)] | rw [if_pos (by decide)]); (try simp only [Nat.reduceMul, Nat.reduceSub, Int.reducePow, Int.reduceNeg]); walk_at "cl"; omega)); (case qqhi => ((first | rw [if_neg (by decide)] | rw [if_pos (by decide)]); (try simp only [Nat.reduceMul, Nat.reduceSub, Int.reducePow, Int.reduceNeg]); walk_at "cl"; omega)); k_whole); intro _ _ _; (try k_sweep)))
  k_with "wpC" => ((k_here; (with_reducible show wpC _ _ (call (Value.ref _) _ _) _ _ _); (walk_at "wpCc")))
  k_with "getAttr ref" => ((k_here; (with_reducible show wpAny _ _ (getAttr (Value.ref _) (PySem.Str.ofString "py_type") _) _ _ _); k_dflt (refine' cls_int ?qqF ?qqX ?qqm ?qqr ?qqe0 ?qqe1 ?qqh ?_; (case qqF => k_asm); (case qqX => k_asm); (case qqm => k_is); (case qqr => k_is); (case qqe0 => k_is); (case qqe1 => k_is); (case qqh => decide +kernel); k_whole)))
  k_with "getAttr ref" => ((k_here; k_dflt (refine' get_slot ?qqk1 ?qqk2 ?qqk3 ?qqk4 ?qqk5 ?qqk6 ?qqk7 ?qqk8 ?qqk9 ?qqk10 ?qqk11 ?_; (case qqk1 => k_asm); (case qqk2 => k_asm); (case qqk3 => k_inst); (case qqk4 => k_is); (case qqk5 => k_is); (case qqk6 => k_is); (case qqk7 => k_is); (case qqk8 => k_is); (case qqk9 => k_is); (case qqk10 => k_slotget); (case qqk11 => exact BufIn.handed (by assumption)); k_whole)))
  k_with "subscriptTail" => ((k_here; (fail_if_success (with_reducible show wpAny _ _ (subscriptTail _ _ (Value.ref _) _) _ _ _)); (fail_if_success (with_reducible show wpAny _ _ (subscriptTail _ _ (Value.bytes _ _) _) _ _ _)); k_dflt (refine' buf_cut (s := ⟨_, _, _, _, _⟩) ?qqF ?qqN ?qqH ?qql ?qqu ?qqz ?_; (case qqF => k_asm); (case qqN => k_asm); (case qqH => exact BufIn.keep (by assumption) (by k_asm)); (case qql => constructor); (case qqu => constructor); (case qqz => (walk_at "cl"; omega)); k_whole); intro _ _ _ _ _ _; (try k_sweep)))
  k_with "call type:bytes" => ((k_here; k_dflt (refine' bytes_of_buf ?qqH ?qqz ?_; (case qqH => assumption); (case qqz => first | exact Nat.le_trans (KBc.size_picked_le _ _ _) (by (walk_at "cl"); omega) | (simp only [Array.size_extract]; (walk_at "cl"); omega)); k_whole); intro _ _))
  k_with "exec If" => ((k_here; (fail_if_success (with_reducible rename KGo => hg9)); (with_reducible show wpAny _ _ (exec (Stmt.If (Expr.BoolOp BoolOp.And _ _) _ _ _) _) _ _ _); (refine stop_ ?_)))
  k_with "exec If" => ((k_here; (fail_if_success (with_reducible rename KGo => hg9)); (with_reducible show wpAny _ _ (exec (Stmt.If (Expr.BoolOp BoolOp.Or _ _) _ _ _) _) _ _ _); (refine stop_ ?_)))
  k_with "exec If" => ((k_here; (fail_if_success (with_reducible rename KGo => hg9)); (with_reducible show wpAny _ _ (exec (Stmt.If (Expr.Compare (Expr.Name (PySem.Str.ofString "inner") _) _ _ _) _ _ _) _) _ _ _); (refine stop_ ?_)))
  k_with "exec Assign" => ((k_here; (fail_if_success (with_reducible rename KGo => hg9)); (with_reducible show wpAny _ _ (exec (Stmt.Assign [Expr.Name (PySem.Str.ofString "at") _] _ _) _) _ _ _); (refine stop_ ?_)))
  k_with "compareOp NotEq ref ref" => ((k_here; (fail_if_success (with_reducible rename KTup => tu9)); (refine stop_ ?_)))
  k_with "compareOp NotEq ref ref" => ((k_here; (with_reducible rename KTup => tu9); k_dflt (refine' tup2_ne ?qqN ?qqx ?qqy ?qqu ?qqp ?_; (case qqN => k_asm); (case qqx => k_mem); (case qqy => k_mem); (case qqu => (walk_at "units")); (case qqp => first | rfl | omega); k_whole)))
  k_with "ite" => ((k_here; k_openite; k_dflt (first | (refine ite_pos (by ((walk_at "cl"); ((try simp only [decide_eq_true_eq, beq_iff_eq, bne_iff_ne, ne_eq]) <;> omega))) ?_) | (refine ite_neg (by ((walk_at "cl"); ((try simp only [decide_eq_true_eq, beq_iff_eq, bne_iff_ne, ne_eq, not_true_eq_false, not_false_eq_true]) <;> omega))) ?_)); walk_say "PRUNED here"))
  k_with "False" => ((k_here; (with_reducible rename (@bne (List UInt8) _ _ _ = true) => hq9); rw [wt] at hq9; exact absurd hq9 (by simp)))
  k_with "False" => ((k_here; (with_reducible rename (@Ne Int _ _) => hq9); exact hq9 rfl))
  k_with "call ref" => ((k_here; (with_reducible show wpAny _ _ (call (Value.ref 782) _ _) _ _ _); k_dflt (refine' parts_k ?qqB ?qqF ?qqX ?qqT ?qqhk ?qqhd ?qqhu  (part_of ?qqN (sub0 ) ?qqS) ?_; (case qqB => k_asm); (case qqF => k_asm); (case qqX => k_asm); (case qqT => k_asm); (case qqhk => first | exact rfl | assumption); (case qqN => k_asm); (case qqhd => (walk_at "room")); (case qqhu => (walk_at "units")); (case qqS => (walk_at "sel"))); intro _ _ _ _ _ _ _ _ _ _ _ _ _; (walk_at "fin9")))
  k_with "call ref" => ((k_here; (with_reducible show wpAny _ _ (call (Value.ref 754) _ _) _ _ _); k_dflt (refine' gsz_k ?qqB ?qqF ?qqX ?qqT ?qqhk ?qqhd ?qqhu ?qqf0 ?qqf1 ?qqf2 ?qqf3 ?qqf4 (part_of ?qqN (sub0 ) ?qqS) ?_; (case qqB => k_asm); (case qqF => k_asm); (case qqX => k_asm); (case qqT => k_asm); (case qqhk => first | exact rfl | assumption); (case qqN => k_asm); (case qqhd => (walk_at "room")); (case qqhu => (walk_at "units")); (case qqf0 => (exact BufIn.keep (by assumption) (by k_asm))); (case qqf1 => (walk_at "ft")); (case qqf2 => (walk_at "ft")); (case qqf3 => (walk_at "ft")); (case qqf4 => (first | with_reducible assumption | exact rfl)); (case qqS => (walk_at "sel"))); intro _ _ _ _ _ _; (walk_at "fin9")))
  k_with "call ref" => ((k_here; (with_reducible show wpAny _ _ (call (Value.ref 777) _ _) _ _ _); k_dflt (refine' rsp_k ?qqB ?qqF ?qqX ?qqT ?qqhk ?qqhd ?qqhu ?qqf0 (part_of ?qqN (sub0 ) ?qqS) ?_; (case qqB => k_asm); (case qqF => k_asm); (case qqX => k_asm); (case qqT => k_asm); (case qqhk => first | exact rfl | assumption); (case qqN => k_asm); (case qqhd => (walk_at "room")); (case qqhu => (walk_at "units")); (case qqf0 => exact BufIn.handed (by assumption)); (case qqS => (walk_at "sel"))); intro _ _ _ _ _ _ _; (walk_at "fin9")))
  k_with "call ref" => ((k_here; (with_reducible show wpAny _ _ (call (Value.ref 762) _ _) _ _ _); k_dflt (refine' gbi_k ?qqB ?qqF ?qqX ?qqT ?qqhk ?qqhd ?qqhu ?qqf0 ?qqf1 ?qqf2 ?qqf3 (part_of ?qqN (sub0 ) ?qqS) ?_; (case qqB => k_asm); (case qqF => k_asm); (case qqX => k_asm); (case qqT => k_asm); (case qqhk => first | exact rfl | assumption); (case qqN => k_asm); (case qqhd => (walk_at "room")); (case qqhu => (walk_at "units")); (case qqf0 => (exact BufIn.keep (by assumption) (by k_asm))); (case qqf1 => (walk_at "ft")); (case qqf2 => (walk_at "ft")); (case qqf3 => (walk_at "ft")); (case qqS => (walk_at "sel"))); intro _ _ _ _ _ _ _; (walk_at "fin9")))
  k_with "call ref" => ((k_here; (with_reducible show wpAny _ _ (call (Value.ref 770) _ _) _ _ _); k_dflt (refine' bhi_k ?qqB ?qqF ?qqX ?qqT ?qqhk ?qqhd ?qqhu ?qqf0 ?qqf1 ?qqf2 ?qqf3 (part_of ?qqN (sub0 ) ?qqS) ?_; (case qqB => k_asm); (case qqF => k_asm); (case qqX => k_asm); (case qqT => k_asm); (case qqhk => first | exact rfl | assumption); (case qqN => k_asm); (case qqhd => (walk_at "room")); (case qqhu => (walk_at "units")); (case qqf0 => (exact BufIn.keep (by assumption) (by k_asm))); (case qqf1 => (walk_at "ft")); (case qqf2 => (walk_at "ft")); (case qqf3 => (walk_at "ft")); (case qqS => (walk_at "sel"))); intro _ _  _ _ _; (walk_at "fin9")))
  k_with "call ref" => ((k_here; (with_reducible show wpAny _ _ (call (Value.ref 248) _ _) _ _ _); k_dflt (refine' tinit_k ?qqB ?qqF ?qqX ?qqT ?qqhk ?qqhd ?qqhu ?qqf0 ?qqf1 ?qqf2 (part_of ?qqN (sub0 ) ?qqS) ?_; (case qqB => k_asm); (case qqF => k_asm); (case qqX => k_asm); (case qqT => k_asm); (case qqhk => first | exact rfl | assumption); (case qqN => k_asm); (case qqhd => (walk_at "room")); (case qqhu => (walk_at "units")); (case qqf0 => exact BufIn.handed (by assumption)); (case qqf1 => (walk_at "ft")); (case qqf2 => (walk_at "ft")); (case qqS => (walk_at "sel"))); intro _ _ _ _ _ _ _ _; (walk_at "fin9")))
  k_with "call ref" => ((k_here; (with_reducible show wpAny _ _ (call (Value.ref 195) _ _) _ _ _); k_dflt (refine' tind_k ?qqB ?qqF ?qqX ?qqT ?qqhk ?qqhd ?qqhu ?qqf0 ?qqf1 ?qqf2 ?qqf3 ?qqf4 (part_of ?qqN (sub2 ?qqm0 ?qqm1) ?qqS) ?_; (case qqB => k_asm); (case qqF => k_asm); (case qqX => k_asm); (case qqT => k_asm); (case qqhk => first | exact rfl | assumption); (case qqN => k_asm); (case qqm0 => k_mem); (case qqm1 => k_mem); (case qqhd => (walk_at "room")); (case qqhu => (walk_at "units")); (case qqf0 => (exact BufIn.keep (by assumption) (by k_asm))); (case qqf1 => (walk_at "ft")); (case qqf2 => (walk_at "ft")); (case qqf3 => (walk_at "ft")); (case qqf4 => (first | with_reducible assumption | exact rfl)); (case qqS => (walk_at "sel"))); intro _ _ _ _ _ _; (walk_at "fin9")))
  k_with "call ref" => ((k_here; (with_reducible show wpAny _ _ (call (Value.ref 237) _ _) _ _ _); k_dflt (refine' tslot_k ?qqB ?qqF ?qqX ?qqT ?qqhk ?qqhd ?qqhu ?qqf0 ?qqf1 ?qqf2 ?qqf3 ?qqf4 (part_of ?qqN (sub2 ?qqm0 ?qqm1) ?qqS) ?_; (case qqB => k_asm); (case qqF => k_asm); (case qqX => k_asm); (case qqT => k_asm); (case qqhk => first | exact rfl | assumption); (case qqN => k_asm); (case qqm0 => k_mem); (case qqm1 => k_mem); (case qqhd => (walk_at "room")); (case qqhu => (walk_at "units")); (case qqf0 => (exact BufIn.keep (by assumption) (by k_asm))); (case qqf1 => (walk_at "ft")); (case qqf2 => (walk_at "ft")); (case qqf3 => (first | with_reducible assumption | exact rfl)); (case qqf4 => (walk_at "ft")); (case qqS => (walk_at "sel"))); intro _ _ _ _ _ _; (walk_at "fin9")))
  k_with "call ref" => ((k_here; (with_reducible show wpAny _ _ (call (Value.ref 202) _ _) _ _ _); k_dflt (refine' tstr_k ?qqB ?qqF ?qqX ?qqT ?qqhk ?qqhd ?qqhu ?qqf0 ?qqf1 ?qqf2 ?qqf3 ?qqf4 ?qqf5 ?qqf6 ?qqf7 ?qqf8 (part_of ?qqN (sub2 ?qqm0 ?qqm1) ?qqS) ?_; (case qqB => k_asm); (case qqF => k_asm); (case qqX => k_asm); (case qqT => k_asm); (case qqhk => first | exact rfl | assumption); (case qqN => k_asm); (case qqm0 => k_mem); (case qqm1 => k_mem); (case qqhd => (walk_at "room")); (case qqhu => (walk_at "units")); (case qqf0 => (exact BufIn.keep (by assumption) (by k_asm))); (case qqf1 => (walk_at "ft")); (case qqf2 => (walk_at "ft")); (case qqf3 => (walk_at "ft")); (case qqf4 => (first | with_reducible assumption | exact rfl)); (case qqf5 => (walk_at "ft")); (case qqf6 => (walk_at "ft")); (case qqf7 => (walk_at "ft")); (case qqf8 => (first | with_reducible assumption | exact rfl)); (case qqS => (walk_at "sel"))); intro _ _ _ _ _ _; (walk_at "fin9")))
  k_with "call ref" => ((k_here; (with_reducible show wpAny _ _ (call (Value.ref 188) _ _) _ _ _); k_dflt (refine' toff_k ?qqB ?qqF ?qqX ?qqT ?qqhk ?qqhd ?qqhu ?qqf0 ?qqf1 ?qqf2 ?qqf3 ?qqf4 ?qqf5 (part_of ?qqN (sub2 ?qqm0 ?qqm1) ?qqS) ?_; (case qqB => k_asm); (case qqF => k_asm); (case qqX => k_asm); (case qqT => k_asm); (case qqhk => first | exact rfl | assumption); (case qqN => k_asm); (case qqm0 => k_mem); (case qqm1 => k_mem); (case qqhd => (walk_at "room")); (case qqhu => (walk_at "units")); (case qqf0 => (exact BufIn.keep (by assumption) (by k_asm))); (case qqf1 => (walk_at "ft")); (case qqf2 => (walk_at "ft")); (case qqf3 => (walk_at "ft")); (case qqf4 => (walk_at "ft")); (case qqf5 => (first | with_reducible assumption | exact rfl)); (case qqS => (walk_at "sel"))); intro _ _ _ _ _ _; (walk_at "fin9")))
  k_with "call ref" => ((k_here; (with_reducible show wpAny _ _ (call (Value.ref 216) _ _) _ _ _); k_dflt (refine' tvec_k ?qqB ?qqF ?qqX ?qqT ?qqhk ?qqhd ?qqhu ?qqf0 ?qqf1 ?qqf2 ?qqf3 ?qqf4 ?qqf5 (part_of ?qqN (sub2 ?qqm0 ?qqm1) ?qqS) ?_; (case qqB => k_asm); (case qqF => k_asm); (case qqX => k_asm); (case qqT => k_asm); (case qqhk => first | exact rfl | assumption); (case qqN => k_asm); (case qqm0 => k_mem); (case qqm1 => k_mem); (case qqhd => (walk_at "room")); (case qqhu => (walk_at "units")); (case qqf0 => (exact BufIn.keep (by assumption) (by k_asm))); (case qqf1 => (walk_at "ft")); (case qqf2 => (walk_at "ft")); (case qqf3 => (walk_at "ft")); (case qqf4 => (walk_at "ft")); (case qqf5 => (first | with_reducible assumption | exact rfl)); (case qqS => (walk_at "sel"))); intro _ _ _ _ _ _; (walk_at "fin9")))
  k_with "call ref" => ((k_here; (with_reducible show wpAny _ _ (call (Value.ref 209) _ _) _ _ _); k_dflt (refine' tvlen_k ?qqB ?qqF ?qqX ?qqT ?qqhk ?qqhd ?qqhu ?qqf0 ?qqf1 ?qqf2 ?qqf3 ?qqf4 ?qqf5 ?qqf6 ?qqf7 ?qqf8 (part_of ?qqN (sub2 ?qqm0 ?qqm1) ?qqS) ?_; (case qqB => k_asm); (case qqF => k_asm); (case qqX => k_asm); (case qqT => k_asm); (case qqhk => first | exact rfl | assumption); (case qqN => k_asm); (case qqm0 => k_mem); (case qqm1 => k_mem); (case qqhd => (walk_at "room")); (case qqhu => (walk_at "units")); (case qqf0 => (exact BufIn.keep (by assumption) (by k_asm))); (case qqf1 => (walk_at "ft")); (case qqf2 => (walk_at "ft")); (case qqf3 => (walk_at "ft")); (case qqf4 => (walk_at "ft")); (case qqf5 => (first | with_reducible assumption | exact rfl)); (case qqf6 => (walk_at "ft")); (case qqf7 => (walk_at "ft")); (case qqf8 => (first | with_reducible assumption | exact rfl)); (case qqS => (walk_at "sel"))); intro _ _ _ _ _ _; (walk_at "fin9")))
  k_with "call ref" => ((k_here; (with_reducible show wpAny _ _ (call (Value.ref 230) [_, Value.ref 77, _] _) _ _ _); k_dflt (refine' tget77_k ?qqB ?qqF ?qqX ?qqT ?qqhk ?qqhd ?qqhu ?qqf0 ?qqf1 ?qqf2 ?qqf3 ?qqf4 (part_of ?qqN (sub2 ?qqm0 ?qqm1) ?qqS) ?_; (case qqB => k_asm); (case qqF => k_asm); (case qqX => k_asm); (case qqT => k_asm); (case qqhk => first | exact rfl | assumption); (case qqN => k_asm); (case qqm0 => k_mem); (case qqm1 => k_mem); (case qqhd => (walk_at "room")); (case qqhu => (walk_at "units")); (case qqf0 => (exact BufIn.keep (by assumption) (by k_asm))); (case qqf1 => (walk_at "ft")); (case qqf2 => (walk_at "ft")); (case qqf3 => (walk_at "ft")); (case qqf4 => (first | with_reducible assumption | exact rfl)); (case qqS => (walk_at "sel"))); intro _ _ _ _ _ _; (walk_at "fin9")))
  trivial

theorem told_k : ∀ {w : World} {mean : ExcName → Option Value} {mg mb : Str → Option Value} {dp un : Nat} {cn : Str} {cs : Scope} {a : Addr} {ccd : Value} {cl : List (Str × Addr)} {outer : List Env} {A₀ : Around} {base h₀ : Heap} {L : Addr} {m : Str → Option Value} {s : Shared}
    {Q E : Value → Shared → Prop} {rest : List (Addr × Obj)} (B : Below A₀ base outer h₀) (F : Fr h₀ L s.heap m) (X : (Mine.hd.heap_39 w.params).In h₀) (T : Top Mine.hd.view_39 LO mean mg mb h₀) (hk : cs.kind = .function) (hd : dp + 10 < recursionLimit) (hu : un + 80 < cLine) {bv : Value} {arr : Array UInt8} {p : Int} {u : Tok} {e : Int} {ue : Tok} {n : Int} {un2 : Tok} {inner : Option (Array UInt8)} {iv : Value} {pos : Int} {x4 : Int} {x6 : Int} {x8 : Int} {x10 : Int} {d6 : Int} {d8 : Int} {d10 : Int} (HB : BufIn s.heap bv arr) (hz : arr.size ≤ 4096) (hT : Tells arr p e n inner pos x4 x6 x8 x10 d6 d8 d10) (hinn : InnIs inner iv) (hiz : ((inner.getD #[]).size : Int) ≤ 500) (P : Part h₀ L s.heap [] rest)
    (hret : ∀ (h' : Heap) (tk' : Nat) (x : Addr) (ta : Tok) (tb : Tok), Fr h₀ L h' m → News h₀ L h' ([(x, ({ cls := .type "tuple", data := .seq #[.int (fstV e n inner) ta, .int (sndV e n inner) tb] } : Obj))] ++ rest) → AllNes [(x, ({ cls := .type "tuple", data := .seq #[.int (fstV e n inner) ta, .int (sndV e n inner) tb] } : Obj))] rest → Q (.ref x) { s with heap := h', toks := tk' }),
    wpAny (model _root_.PySem.Challenge.rw_bp0005_01.row.prog w) (ktrTop dp un (some []) cn cs L a ccd cl outer) (call (.ref 794) [bv, .int p u, .int e ue, .int n un2, iv] ) Q E s := by
  refine @Mine.hush _ (by
  k_fill
  intro w mean mg mb dp un cn cs a ccd cl outer A₀ base h₀ L m s Q E rest B F X T hk hd hu bv arr p u e ue n un2 inner iv pos x4 x6 x8 x10 d6 d8 d10 HB hz hT hinn hiz P hret
  have N := P.news
  have hdis := P.dis
  refine wpAny_call ?_
  k_dflt (refine' defAC ?k1 ?k2 ?k3 ?k4 ?kd ?k5 ?kA ?kF ?kK ?k6 ?k7 ?k8 ?k9 ?kB ?kD ?_ ?c2 ?c3 ?c4; (case kA => exact rfl); (case kF => exact rfl); (case kK => assumption); (case k1 => k_asm); (case k2 => k_asm); (case k3 => k_asm); (case k4 => k_asm); (case kd => k_asm); (case k5 => k_asm); (case k6 => k_is); (case k7 => k_is); (case k8 => ktr_room); (case k9 => exact BindsTo.of_eq rfl); (case kB => exact rfl); (case kD => decide +kernel); (case c2 => exact rfl); (case c3 => exact rfl); (case c4 => exact rfl); k_whole; intro g' L' h' tk' cells' FG' F' N' Y' B' X' T' l0 G; k_cells Y'; (try simp only [List.cons_append, List.nil_append] at N'); (try dsimp only); (try k_fold))
  rename_i oS oT dS dT
  have HBg := HB.enter P.news G (fun _ h => nomatch h)
  obtain ⟨q, hq⟩ : ∃ q, q = (if sizedF n = true then p + 4 else p) := ⟨_, rfl⟩
  obtain ⟨d0, rfl⟩ : ∃ d, pos = q + d := ⟨pos - q, by omega⟩
  obtain ⟨a0, e1, ⟨fsz, fro, fat, fmm⟩, ht, h4, h6, h8, h10, hnum, ⟨w00, w01⟩, wd, wl, ⟨w10, w11⟩, wt, ⟨r00, r01⟩, rrd, rrl, ⟨r10, r11⟩, rrt, hi0, hi1⟩ := hT
  rw [← hq] at fro fat fmm
  have fro2 : told 'I' 4 (arr.extract q.toNat (q.toNat + 4)) = d0 := fro.trans (by omega)
  have hq0 : 0 ≤ q ∧ p ≤ q := by rw [hq]; split <;> omega
  obtain ⟨hrl, hri⟩ := rowF_in n
  obtain ⟨hws, hwz⟩ := wordF_ok n
  have hpos := ht.p0
  have hpos1 := ht.p1
  k_steps
  rename_i h9 k9 x rw ys mv t1 t2 hI hM n1 n2 n3 n4 g1 g2 g3 g4 g5 g6 F N
  clear h9 k9 g1 g2 g3 g4 g5
  refine stop_on ?_
  refine join_same F N ?_ ?_
  · rcases Bool.eq_false_or_eq_true (sizedF n) with hs | hs
    · have fsz2 : told 'i' 4 (arr.extract p.toNat (p.toNat + 4)) = e - p - 4 := fsz hs
      rw [hs] at F N
      rw [hs, if_pos rfl] at hq
      clear fsz
      have go : KGo := trivial
      have tu : KTup := trivial
      k_steps
      rename_i FF NN _ _ _ _ _
      exact ⟨_, _, rfl, by rw [hs]; exact FF, by rw [hs]; exact (fun p hp => NN p (by revert p; exact sub4 (by k_mem) (by k_mem) (by k_mem) (by k_mem)))⟩
    · rw [hs] at F N
      have go : KGo := trivial
      k_steps
      exact ⟨_, _, rfl, by rw [hs]; exact F, by rw [hs]; exact N⟩
  clear F N fsz
  intro g6 tk F N
  dsimp only
  k_steps
  refine stop_on ?_
  refine join_same F N ?_ ?_
  · have go : KGo := trivial
    rcases hM with ⟨hm, rfl⟩ | ⟨mp, mq, mr, ms, mt, hm, rfl⟩
    · k_steps
      exact ⟨_, _, rfl, F, N⟩
    · obtain ⟨hmx, hmz⟩ := fmm _ hm
      rw [hq] at hmx hmz
      k_steps
      rename_i FF NN _
      exact ⟨_, _, rfl, FF, NN⟩
  clear F N fmm
  intro g6 tk F N
  dsimp only
  k_steps
  refine stop_on ?_
  refine join_sets (Str.ofString "at") q F N ?_ ?_
  · rcases Bool.eq_false_or_eq_true (sizedF n) with hs | hs
    · rw [hs] at F N
      rw [hs, if_pos rfl] at hq
      subst hq
      have go : KGo := trivial
      k_steps
      rename_i FF NN
      exact ⟨_, _, _, rfl, by rw [hs]; exact FF, by rw [hs]; exact (fun p hp => NN p (by revert p; exact sub4 (by k_mem) (by k_mem) (by k_mem) (by k_mem)))⟩
    · rw [hs] at F N
      rw [hs, if_neg (by decide)] at hq
      subst hq
      have go : KGo := trivial
      k_steps
      rename_i FF NN
      exact ⟨_, _, _, rfl, by rw [hs]; exact FF, by rw [hs]; exact (fun p hp => NN p (by revert p; exact sub4 (by k_mem) (by k_mem) (by k_mem) (by k_mem)))⟩
  clear F N
  intro g6 tk tat F N
  dsimp only
  k_steps
  rename_i h9 k9 tA tdA tkA a0 a1 a2 a3 a4 a5 a6 a7 hB kB tkB b0 b1 b2 b3 b4 b5 b6 b7 hC kC t tdx tkC c0 c1 c2 c3 c4 c5 c6 c7 c8 c9 c10 c11 hD oV F NX dV
  have N : News g' L' hD [(t, TO tdx bv (q + d0) tkC), (tdx, dictOf [] 0), (rw, LCg.lst ys), (L' + 1 + 1, oS), (L' + 1, oV)] := fun p hp => NX p (by revert p; exact sub5 (by k_mem) (by k_mem) (by k_mem) (by k_mem) (by k_mem))
  clear h9 k9 a0 a1 a2 a3 a4 a5 a6 a7 hB kB b0 b1 b2 b3 b4 b5 b6 b7 hC NX n3 n4 c0 c1 c2 c6 c7 c8 x tA tdA
  refine stop_on ?_
  refine join_same F N ?_ ?_
  · have go : KGo := trivial
    k_steps
    rename_i FF NN _ _ _ _ _ _ _ _ _
    exact ⟨_, _, rfl, FF, NN⟩
  clear F N
  have hyl := hI.length
  intro g6 tk F N
  dsimp only
  k_steps
  rename_i hF oS2 F N dS2
  refine stop_on ?_
  refine join_same F N ?_ ?_
  · have go : KGo := trivial
    k_steps
    rename_i gB ysB hI8 hL8 DB hB2 tkB2 FF NL oB
    refine stop_on ?_
    refine ne_rows NL (.head _) (.tail _ (.tail _ (.tail _ (.head _)))) hI8 hI (by (walk_at "units")) (row_same (by omega) rrt) ?_
    k_steps
    exact ⟨_, _, rfl, FF, fun p hp => NL p (.tail _ hp)⟩
  clear F N
  intro g6 tk F N
  dsimp only
  k_steps
  refine stop_on ?_
  have go : KGo := trivial
  rcases hinn with ⟨rfl, rfl⟩ | ⟨b, bt, rfl, rfl⟩
  · obtain rfl := hi0 rfl
    k_steps
    · rename_i kF kN kD
      dsimp only [wants]
      exact hret _ _ _ _ _ kF (news_sub kN (sub1 (by k_mem))) (allNes_of (dis_sub kD (sub1 (by k_mem))))
  · obtain ⟨i1, i2, i3, i4, i5, i6, i7, i8, i9, i10⟩ := hi1 b rfl
    have hbz : (b.size : Int) ≤ 500 := hiz
    have hb9 : KBy.picked arr (some (x8 + (q + d0) + d8 + 4)) (some (x8 + (q + d0) + d8 + 4 + b.size)) = b := by rw [pick_in (by omega) (by omega) (by omega), i8]; exact i9
    have hf9 : fstV e n (some b) = x8 + (q + d0) + d8 + 4 := i8.symm
    have hg9 : sndV e n (some b) = x8 + (q + d0) + d8 + 4 + b.size := by rw [i8]; rfl
    rw [hf9, hg9] at hret
    clear i9 i10 hi0 hi1 rrt wt fro
    k_steps
    all_goals first | (exfalso; (walk_at "cl"); omega) | skip
    · rename_i kF kN kD
      dsimp only [wants]
      exact hret _ _ _ _ _ kF (news_sub kN (sub1 (by k_mem))) (allNes_of (dis_sub kD (sub1 (by k_mem))))
    · rename (_ == _) = false => hbad
      rw [hb9] at hbad
      exact absurd hbad (by simp)) ?_
  intro q f
  simpa using Mine.hushed f 5 fun n i => i
end
-- law

@[reducible] def L0 (sa : Addr) (m₀ : Str → Option Value) : Str → Option Value := fun y => if y = Str.ofString "script" then some (.ref sa) else m₀ y
theorem l0_self {sa : Addr} {m₀ : Str → Option Value} (f : m₀ (Str.ofString "script") = some (.ref sa)) : m₀ = L0 sa m₀ := by
  funext y
  unfold L0
  split
  · rename_i e; rw [e, f]
  rfl
/-- behind the first statement of law -/
def J1 (s : Shared) (g : Heap) (L : Addr) (mm : Str → Option Value) (s' : Shared) : Prop := ∃ (h : Heap) (tk : Nat) (nl : Addr) (ys : List Value) (nn : List Int), s' = { s with heap := h, toks := tk } ∧
  Fr g L h (fun y => if y = Str.ofString "numbers" then some (.ref nl) else mm y) ∧ News g L h [(nl, W.listOf ys.toArray 0)] ∧ IntsAre ys nn ∧ 1 ≤ nn.length ∧ nn.length ≤ 4
@[reducible] def NM (el : Option Value) (m₀ : Str → Option Value) : Str → Option Value := fun y => if y = Str.ofString "n" then el else m₀ y
theorem nm_self {m₀ : Str → Option Value} : m₀ = NM (m₀ (Str.ofString "n")) m₀ := by
  funext y
  unfold NM
  split
  · rename_i e; rw [e]
  rfl
theorem nm_a {el : Option Value} {v : Value} {m₀ : Str → Option Value} : (fun y => if y = Str.ofString "n" then some v else NM el m₀ y) = NM (some v) m₀ := by
  funext y
  unfold NM
  split
  · rfl
  rfl
theorem fr_nm {g h : Heap} {L : Addr} {m₀ : Str → Option Value} (F : Fr g L h m₀) : Fr g L h (NM (m₀ (Str.ofString "n")) m₀) := by rw [← nm_self]; exact F
/-- the first loop of law: what is so ahead of each turn -/
def LW1 (s : Shared) (g : Heap) (L : Addr) (m₀ : Str → Option Value) (nl ml D : Addr) (ys : List Value) (nn : List Int) (n : Nat) (s' : Shared) : Prop :=
  ∃ (h : Heap) (tk : Nat) (el : Option Value) (ma : Array Value) (c : Nat) (o : Obj), s' = { s with heap := h, toks := tk } ∧ Fr g L h (NM el m₀) ∧ News g L h [(D, o), (ml, W.listOf ma c), (nl, W.listOf ys.toArray 0)] ∧ LiAt o nl (nn.length - n) ∧ BytesAre (madesTo nn (nn.length - n)) ma.toList ∧ n ≤ nn.length
@[reducible] def KM (vk vi vl va vo vp ve : Option Value) (m₀ : Str → Option Value) : Str → Option Value := fun y =>
  if y = Str.ofString "place" then vp else if y = Str.ofString "end" then ve else if y = Str.ofString "other" then vo else if y = Str.ofString "alone" then va else if y = Str.ofString "lies" then vl else if y = Str.ofString "inner" then vi else if y = Str.ofString "k" then vk else m₀ y
theorem km_self {m₀ : Str → Option Value} {vp ve : Value} (f1 : m₀ (Str.ofString "place") = some vp) (f2 : m₀ (Str.ofString "end") = some ve) : m₀ = KM (m₀ (Str.ofString "k")) (m₀ (Str.ofString "inner")) (m₀ (Str.ofString "lies")) (m₀ (Str.ofString "alone")) (m₀ (Str.ofString "other")) (some vp) (some ve) m₀ := by
  funext y
  unfold KM
  split
  · rename_i e; rw [e, f1]
  split
  · rename_i e; rw [e, f2]
  split
  · rename_i e; rw [e]
  split
  · rename_i e; rw [e]
  split
  · rename_i e; rw [e]
  split
  · rename_i e; rw [e]
  split
  · rename_i e; rw [e]
  rfl
theorem fr_km {g h : Heap} {L : Addr} {m₀ : Str → Option Value} {vp ve : Value} (F : Fr g L h m₀) (f1 : m₀ (Str.ofString "place") = some vp) (f2 : m₀ (Str.ofString "end") = some ve) : Fr g L h (KM (m₀ (Str.ofString "k")) (m₀ (Str.ofString "inner")) (m₀ (Str.ofString "lies")) (m₀ (Str.ofString "alone")) (m₀ (Str.ofString "other")) (some vp) (some ve) m₀) := by rw [← km_self f1 f2]; exact F
theorem km_a {vk vi vl va vo vp ve : Option Value} {m₀ : Str → Option Value} {k i l a o p e : Value} : (fun y => if y = Str.ofString "place" then some p else if y = Str.ofString "end" then some e else if y = Str.ofString "other" then some o else if y = Str.ofString "alone" then some a else if y = Str.ofString "lies" then some l else if y = Str.ofString "inner" then some i else if y = Str.ofString "k" then some k else KM vk vi vl va vo vp ve m₀ y) = KM (some k) (some i) (some l) (some a) (some o) (some p) (some e) m₀ := by
  refine @Mine.hush _ (by
  funext y
  unfold KM
  by_cases h0 : y = Str.ofString "place"
  · rw [if_pos h0, if_pos h0]
  by_cases h1 : y = Str.ofString "end"
  · rw [if_neg h0, if_pos h1, if_neg h0, if_pos h1]
  by_cases h2 : y = Str.ofString "other"
  · rw [if_neg h0, if_neg h1, if_pos h2, if_neg h0, if_neg h1, if_pos h2]
  by_cases h3 : y = Str.ofString "alone"
  · rw [if_neg h0, if_neg h1, if_neg h2, if_pos h3, if_neg h0, if_neg h1, if_neg h2, if_pos h3]
  by_cases h4 : y = Str.ofString "lies"
  · rw [if_neg h0, if_neg h1, if_neg h2, if_neg h3, if_pos h4, if_neg h0, if_neg h1, if_neg h2, if_neg h3, if_pos h4]
  by_cases h5 : y = Str.ofString "inner"
  · rw [if_neg h0, if_neg h1, if_neg h2, if_neg h3, if_neg h4, if_pos h5, if_neg h0, if_neg h1, if_neg h2, if_neg h3, if_neg h4, if_pos h5]
  by_cases h6 : y = Str.ofString "k"
  · rw [if_neg h0, if_neg h1, if_neg h2, if_neg h3, if_neg h4, if_neg h5, if_pos h6, if_neg h0, if_neg h1, if_neg h2, if_neg h3, if_neg h4, if_neg h5, if_pos h6]
  rw [if_neg h0, if_neg h1, if_neg h2, if_neg h3, if_neg h4, if_neg h5, if_neg h6, if_neg h0, if_neg h1, if_neg h2, if_neg h3, if_neg h4, if_neg h5, if_neg h6, if_neg h0, if_neg h1, if_neg h2, if_neg h3, if_neg h4, if_neg h5, if_neg h6]) ?_
  intro q f
  simpa using Mine.hushed f 5 fun n i => i
theorem fstV_at {e c pv n : Int} {inner : Option (Array UInt8)} {b : Array UInt8} (h : inner = some b) (hp : pv = e - c) : fstV c n inner + pv = fstV e n inner := by subst h; subst hp; exact fstV_shift
theorem sndV_at {e c pv n : Int} {inner : Option (Array UInt8)} {b : Array UInt8} (h : inner = some b) (hp : pv = e - c) : sndV c n inner + pv = sndV e n inner := by subst h; subst hp; exact sndV_shift
theorem km_sw {p e : Value} {X : Str → Option Value} : (fun y => if y = Str.ofString "end" then some e else if y = Str.ofString "place" then some p else X y) = (fun y => if y = Str.ofString "place" then some p else if y = Str.ofString "end" then some e else X y) := by
  funext y
  by_cases h0 : y = Str.ofString "end"
  · by_cases h1 : y = Str.ofString "place"
    · rw [h0] at h1; exact absurd h1 (by decide)
    · rw [if_pos h0, if_neg h1, if_pos h0]
  · by_cases h1 : y = Str.ofString "place"
    · rw [if_neg h0, if_pos h1, if_pos h1]
    · rw [if_neg h0, if_neg h1, if_neg h1, if_neg h0]
theorem fr_end {g h : Heap} {L : Addr} {vk vi vl va vo vp ve : Option Value} {m₀ : Str → Option Value} {k i l a o p e : Value} (F : Fr g L h (fun y => if y = Str.ofString "end" then some e else if y = Str.ofString "place" then some p else if y = Str.ofString "other" then some o else if y = Str.ofString "alone" then some a else
    if y = Str.ofString "lies" then some l else if y = Str.ofString "inner" then some i else if y = Str.ofString "k" then some k else KM vk vi vl va vo vp ve m₀ y)) : Fr g L h (KM (some k) (some i) (some l) (some a) (some o) (some p) (some e) m₀) := by
  rw [km_sw (X := fun y => if y = Str.ofString "other" then some o else if y = Str.ofString "alone" then some a else if y = Str.ofString "lies" then some l else if y = Str.ofString "inner" then some i else if y = Str.ofString "k" then some k else KM vk vi vl va vo vp ve m₀ y), km_a] at F
  exact F
/-- the second loop of law: what is so ahead of each turn -/
def LW2 (s : Shared) (g : Heap) (L : Addr) (m₀ : Str → Option Value) (ob ml nl D : Addr) (arr : Array UInt8) (ma : Array Value) (c : Nat) (ys : List Value) (nn : List Int) (n : Nat) (s' : Shared) : Prop :=
  ∃ (h : Heap) (tk : Nat) (vk vi vl va vo : Option Value) (pv ev : Int) (tp te : Tok), s' = { s with heap := h, toks := tk } ∧ Fr g L h (KM vk vi vl va vo (some (.int pv tp)) (some (.int ev te)) m₀) ∧
    News g L h [(D, RI ((n : Int) - 1) n (-1)), (ob, AO arr), (ml, W.listOf ma c), (nl, W.listOf ys.toArray 0)] ∧ n ≤ nn.length ∧ (∀ k, n = k + 1 → Lies arr ev (madeF (nn.getD k 0) (innF nn k)) ∧ pv = ev - (madeF (nn.getD k 0) (innF nn k)).length)
/-- behind «inner = ..» -/
def J2 (s : Shared) (g : Heap) (L : Addr) (mm : Str → Option Value) (bs : List (Addr × Obj)) (inner : Option (Array UInt8)) (s' : Shared) : Prop := ∃ (h : Heap) (tk : Nat) (iv : Value), s' = { s with heap := h, toks := tk } ∧
  Fr g L h (fun y => if y = Str.ofString "inner" then some iv else mm y) ∧ News g L h bs ∧ InnIs inner iv
/-- behind «ahead, behind = ..» -/
def J3 (s : Shared) (g : Heap) (L : Addr) (mm : Str → Option Value) (bs : List (Addr × Obj)) (s' : Shared) : Prop := ∃ (h : Heap) (tk : Nat) (av cv : Array UInt8) (t t' : Tok), s' = { s with heap := h, toks := tk } ∧
  Fr g L h (fun y => if y = Str.ofString "ahead" then some (.bytes av t) else if y = Str.ofString "behind" then some (.bytes cv t') else mm y) ∧ News g L h bs ∧ av.size ≤ 3 ∧ cv.size ≤ 3
theorem ri_iterL {prog : Program} {w : World} {A : Around} {E : Value → Shared → Prop} {s : Shared} {h₀ : Heap} {L : Addr} {m : Str → Option Value} {news : List (Addr × Obj)} {r : Addr} {a b c : Int} {t u v : Tok} {n : Nat} {Q : Value → Shared → Prop} (F : Fr h₀ L s.heap m) (N : News h₀ L s.heap news) (hr : IsRange s.heap r a b c t u v) (ha : a = (n : Int) - 1) (hb : b = -1) (hc : c = -1) (h0 : 1 ≤ n) (hn : n ≤ 4)
    (k : ∀ x h', Fr h₀ L h' m → News h₀ L h' ((x, RI ((n : Int) - 1) n (-1)) :: news) → (∀ p ∈ news, p.1 < x) → Q (.ref x) { s with heap := h' }) : wpAny (model prog w) A (pyIter (.ref r)) Q E s := by
  subst ha hb hc
  have hc : n = 1 ∨ n = 2 ∨ n = 3 ∨ n = 4 := by omega
  have hs : Builtin.Range.small ((n : Int) - 1) (-1) (-1) = true := by rcases hc with rfl | rfl | rfl | rfl <;> decide
  have hz : Builtin.Range.rangeSize ((n : Int) - 1) (-1) (-1) = (n : Int) := by rcases hc with rfl | rfl | rfl | rfl <;> decide
  refine ri_iter F N hr hs fun x h' F' N' l => k x h' F' ?_ l
  rw [hz] at N'
  exact N'
theorem setup_KW_1 : True := by
  k_with_none
  k_with "wpC" => ((k_here; (with_reducible show wpC _ _ _ _ _ _); (fail_if_success (with_reducible show wpC _ _ (setItem _ _ (Value.bytes _ _)) _ _ _)); (fail_if_success (with_reducible show wpC _ _ (call (Value.ref _) _ _) _ _ _)); (fail_if_success (with_reducible show wpC _ _ (callWith _ (Value.type _) _ _ _) _ _ _)); (fail_if_success (with_reducible show wpC _ _ (call (Value.type _) _ _) _ _ _)); (refine of_any ?_)))
  k_with "wpC" => ((k_here; (with_reducible show wpC _ _ (call (Value.ref _) _ _) _ _ _); (refine' of_anyD ?qqd ?_; (case qqd => (walk_at "dirty")))))
  k_with "wpC" => ((k_here; (with_reducible show wpC _ _ (exec (Stmt.While _ _ _ _) _) _ _ _); (refine c_While ?_)))
  k_with "wpC" => ((k_here; (with_reducible show wpC _ _ (exec (Stmt.If _ _ _ _) _) _ _ _); (refine c_If ?_)))
  k_with "wpC" => ((k_here; (with_reducible show wpC _ _ (exec (Stmt.Assign [Expr.Subscript _ (Expr.Slice _ _ _ _) _] _ _) _) _ _ _); k_dflt (refine c_Assign_Subscript ?_)))
  k_with "wpC" => ((k_here; (with_reducible show wpC _ _ (exec (Stmt.Expr (Expr.Call (Expr.Attribute _ _ _) _ _ _) _) _) _ _ _); k_dflt (refine' c_ExprD ?qqd ?_; (case qqd => (walk_at "dirty")))))
  k_with "wpC" => ((k_here; (with_reducible show wpC _ _ (exec (Stmt.Return (some (Expr.Call (Expr.Attribute _ _ _) _ _ _)) _) _) _ _ _); k_dflt (refine' c_ReturnD ?qqd ?_; (case qqd => (walk_at "dirty")))))
  k_with "wpC" => ((k_here; (with_reducible show wpC _ _ (exec (Stmt.Assign [Expr.Name _ _] (Expr.Call (Expr.Attribute _ _ _) _ _ _) _) _) _ _ _); k_dflt (refine' c_AssignD ?qqd ?_; (case qqd => (walk_at "dirty")))))
  k_with "wpC" => ((k_here; (with_reducible show wpC _ _ (eval (Expr.Call (Expr.Attribute _ _ _) _ _ _) _) _ _ _); k_dflt (refine' c_MethodCallSD ?qqd ?_; (case qqd => (walk_at "dirty")))))
  k_with "wpC" => ((k_here; (with_reducible show wpC _ _ (eval (Expr.Call (Expr.Attribute _ _ _) _ _ _) _) _ _ _); k_dflt (refine' c_MethodCallD ?qqd ?_; (case qqd => (walk_at "dirty")))))
  k_with "wpC" => ((k_here; (with_reducible show wpC _ _ (exec (Stmt.Assign [Expr.Name _ _] (Expr.Call (Expr.Name (PySem.Str.ofString "Builder") _) _ _ _) _) _) _ _ _); k_dflt (refine c_Assign_Name ?_)))
  k_with "wpC" => ((k_here; (with_reducible show wpC _ _ (eval (Expr.Call (Expr.Name (PySem.Str.ofString "Builder") _) _ _ _) _) _ _ _); k_dflt (refine c_Call ?_)))
  k_with "wpC" => ((k_here; (with_reducible show wpC _ _ (exec (Stmt.Assign [Expr.Name _ _] (Expr.Call (Expr.Name (PySem.Str.ofString "_law_made") _) _ _ _) _) _) _ _ _); k_dflt (refine c_Assign_Name ?_)))
  k_with "wpC" => ((k_here; (with_reducible show wpC _ _ (eval (Expr.Call (Expr.Name (PySem.Str.ofString "_law_made") _) _ _ _) _) _ _ _); k_dflt (refine c_Call ?_)))
  k_with "wpC" => ((k_here; (with_reducible show wpC _ _ (exec (Stmt.Assign [Expr.Attribute _ _ _] (Expr.Call (Expr.Name (PySem.Str.ofString "bytearray") _) _ _ _) _) _) _ _ _); k_dflt (refine c_Assign_Attr ?_)))
  k_with "wpC" => ((k_here; (with_reducible show wpC _ _ (exec (Stmt.Assign [Expr.Name _ _] (Expr.Call (Expr.Name (PySem.Str.ofString "bytearray") _) _ _ _) _) _) _ _ _); k_dflt (refine c_Assign_Name ?_)))
  k_with "wpC" => ((k_here; (with_reducible show wpC _ _ (eval (Expr.Call (Expr.Name (PySem.Str.ofString "bytearray") _) _ _ _) _) _ _ _); k_dflt (refine c_Call ?_)))
  k_with "wpC" => ((k_here; (with_reducible show wpC _ _ (execs [] _) _ _ _); (refine c_execs_nil ?_)))
  k_with "wpC" => ((k_here; (with_reducible show wpC _ _ (execs (_ :: _) _) _ _ _); (refine c_execs_cons ?_)))
  k_with "wpC" => ((k_here; (with_reducible show wpC _ _ (callWith _ (Value.ref _) _ _ _) _ _ _); k_dflt (first | refine' c_callWith_K ?qqk1 ?qqk2 ?_; (case qqk1 => k_asm); (case qqk2 => k_is); k_whole | refine' c_callWith_S ?qqk1 ?qqk2 ?_; (case qqk1 => k_asm); (case qqk2 => k_is); k_whole | refine' c_callWith_MS ?qqk1 ?qqk2 ?qqk3 ?qqk4 ?_; (case qqk1 => k_asm); (case qqk2 => k_asm); (case qqk3 => k_mem); (case qqk4 => k_is); k_whole | refine' c_callWith_K0 ?qqk1 ?qqk2 ?_; (case qqk1 => k_in); (case qqk2 => k_is); k_whole | refine' c_callWith_KW ?qqk1 ?qqk2 ?qqk3 ?_; (case qqk1 => k_asm); (case qqk2 => k_is); (case qqk3 => exact rfl); k_whole)))
  k_with "wpC" => ((k_here; (with_reducible show wpC _ _ (callWith _ (Value.type _) _ _ _) _ _ _); k_dflt (refine' c_callWith_T ?_)))
  k_with "wpC" => ((k_here; (with_reducible show wpC _ _ (setItem (Value.ref _) (Value.ref _) (Value.bytes _ _)) _ _ _); k_dflt (refine' c_setN (s := ⟨_, _, _, _, _⟩) ?qqg ?qqF ?qqN ?qqU ?qqh ?qqej ?qqh0 ?qqhs ?qqz ?_; (case qqF => k_asm); (case qqN => k_asm); (case qqU => k_updF); (case qqh => k_asm); (case qqg => exact rfl); (case qqej => (walk_at "cl"; omega)); (case qqh0 => (walk_at "cl"; omega)); (case qqhs => ((walk_at "cl"); first | omega | (simp only [List.length_append, List.length_replicate, Array.size_replicate, lay_length, List.length_nil] at *; omega))); (case qqz => (walk_at "cl"; omega)); k_whole); intro _ _ _ _ _ _; (try k_sweep)))
  k_with "wpC" => ((k_here; (with_reducible show wpC _ _ (call (Value.type _) [Value.int _ _]) _ _ _); k_dflt (refine' c_new_int ?qqg ?qqF ?qqN ?qqh0 ?qqhz ?_; (case qqg => exact rfl); (case qqF => k_asm); (case qqN => k_asm); (case qqh0 => (walk_at "cl"; omega)); (case qqhz => (walk_at "cl"; omega)); k_whole); intro _ _ _ _ _; (try (walk_at "lt1")); (try k_sweep)))
  k_with "wpC" => ((k_here; (with_reducible show wpC _ _ (call (Value.type _) [Value.bytes _ _]) _ _ _); k_dflt (refine' c_new_bytes ?qqg ?qqF ?qqN ?qqhz ?_; (case qqg => exact rfl); (case qqF => k_asm); (case qqN => k_asm); (case qqhz => (walk_at "cl"; omega)); k_whole); intro _ _ _ _ _; (try (walk_at "lt1")); (try k_sweep)))
  k_with "LeaveM" => ((k_dflt (refine' leaveM_ ?qqk1 ?qqk2 ?_; (case qqk1 => k_asm); (case qqk2 => k_asm); k_whole); intro _ _ _; (try dsimp only [InitBack, CmpBack, LenBack, StrBack, BoolBack]); (try refine ⟨rfl, ?_⟩)))
  k_with "getMethod str" => ((k_here; (with_reducible show wpAny _ _ (getMethod (Value.str _ _) (PySem.Str.ofString "encode") _) _ _ _); k_dflt (refine' str_encode_get ?_; k_whole)))
  k_with "call builtin:str.encode" => ((k_here; k_dflt (refine' str_encode ?qqh ?qqz ?_; (case qqh => k_asm); (case qqz => (walk_at "cl"; omega)); k_whole); intro _ _))
  k_with "getAttr ref" => ((k_here; k_dflt (refine' kbm_boundS ?qqk1 ?qqk2 ?qqk3 ?qqk4 ?qqk5 ?qqk6 ?qqk6b ?qqk7 ?qqk8 ?qqk9 ?qqk10 ?qqk11 ?_; (case qqk4 => k_inst); (case qqk1 => k_asm); (case qqk2 => k_asm); (case qqk7 => k_is); (case qqk3 => k_asm); (case qqk5 => k_is); (case qqk6 => k_is); (case qqk6b => k_is); (case qqk8 => k_is); (case qqk9 => k_is); (case qqk10 => k_is); (case qqk11 => decide +kernel); k_whole); intro _ _ _ _ _; (try (walk_at "lt1")); (try k_sweep)))
  k_with "eval Name" => ((k_here; (with_reducible show wpAny _ _ (eval (Expr.Name (PySem.Str.ofString "bytearray") _) _) _ _ _); with_unfolding_all refine guard_global (by rfl) ?_; k_dflt (refine' name_B ?qqkF ?qqk1 ?qqk2 ?qqk3 ?qqk4 ?qqk5 ?_; (case qqkF => with_reducible assumption); (case qqk1 => with_reducible assumption); (case qqk2 => k_asm); (case qqk3 => k_is); (case qqk4 => boot_by_name); (case qqk5 => decide); k_whole)))
  k_with "getAttr ref" => ((k_here; (with_reducible show wpAny _ _ (getAttr (Value.ref _) _ _) _ _ _); k_dflt (refine' get_slot ?qqk1 ?qqk2 ?qqk3 ?qqk4 ?qqk5 ?qqk6 ?qqk7 ?qqk8 ?qqk9 ?qqk10 ?qqk11 ?_; (case qqk1 => with_reducible assumption); (case qqk2 => with_reducible assumption); (case qqk3 => k_inst); (case qqk4 => k_is); (case qqk5 => k_is); (case qqk6 => k_is); (case qqk7 => k_is); (case qqk8 => k_is); (case qqk9 => k_is); (case qqk10 => k_slotget); (case qqk11 => k_handed); k_whole)))
  k_with "ite" => ((k_here; k_openite; k_dflt (first | (refine ite_pos (by ((walk_at "cl"); (try simp only [decide_eq_true_eq, beq_iff_eq, bne_iff_ne, ne_eq]); omega)) ?_) | (refine ite_neg (by ((walk_at "cl"); (try simp only [decide_eq_true_eq, beq_iff_eq, bne_iff_ne, ne_eq]); omega)) ?_)); walk_say "PRUNED here"))
  k_with "binaryOp Mult bytes int" => ((k_here; k_dflt (refine' zeros_mul ?qqh0 ?qqhn ?_; (case qqh0 => (walk_at "cl"; omega)); (case qqhn => (walk_at "cl"; omega)); k_whole); intro _ _))
  k_with "call builtin:len" => ((k_here; (with_reducible show wpAny _ _ (call (Value.builtin "len") [Value.ref _]) _ _ _); k_dflt (refine' ba_lenN ?qqN ?qqm ?qqz ?_; (case qqN => k_asm); (case qqm => k_mem); (case qqz => (walk_at "cl"; omega)); k_whole)))
  k_with "setItem ref ref" => ((k_here; (with_reducible show wpAny _ _ (setItem (Value.ref _) (Value.ref _) (Value.ref _)) _ _ _); k_dflt (refine' ba_setN (s := ⟨_, _, _, _, _⟩) ?qqF ?qqN ?qqU ?qqm ?qqne ?qqh0 ?qqhs ?qqhz ?_; (case qqF => k_asm); (case qqN => k_asm); (case qqU => k_updF); (case qqm => k_mem); (case qqne => k_ne); (case qqh0 => (walk_at "cl"; omega)); (case qqhs => ((walk_at "cl"); first | omega | (simp only [List.length_append, List.length_replicate, Array.size_replicate, lay_length, List.length_nil] at *; omega))); (case qqhz => ((walk_at "cl"); first | omega | (simp only [List.length_append, List.length_replicate, Array.size_replicate, lay_length, List.length_nil] at *; omega))); k_whole); intro _ _ _ _ _ _; (try k_sweep)))
  k_with "getMethod ref" => ((k_here; (with_reducible show wpAny _ _ (getMethod (Value.ref _) (PySem.Str.ofString "unpack_from") _) _ _ _); k_dflt (refine' so_fromK ?qqX ?qqh ?_; (case qqX => k_in); (case qqh => exact rfl); k_whole)))
  k_with "getMethod ref" => ((k_here; (with_reducible show wpAny _ _ (getMethod (Value.ref _) (PySem.Str.ofString "pack_into") _) _ _ _); k_dflt (refine' so_intoK ?qqX ?qqh ?_; (case qqX => k_in); (case qqh => exact rfl); k_whole)))
  k_with "call builtin:_struct.Struct.unpack_from" => ((k_here; k_dflt (refine' so_fromN ?qqX ?qqF ?qqN ?qqh ?qqf ?qqb ?qqh0 ?qqh1 ?qqhz ?_; (case qqX => k_in); (case qqF => k_asm); (case qqN => k_asm); (case qqh => exact rfl); (case qqf => constructor); (case qqb => first | exact .inl ⟨_, rfl⟩ | exact .inr ⟨_, rfl, by k_mem⟩); (case qqh0 => (walk_at "cl"; omega)); (case qqh1 => (walk_at "cl"; omega)); (case qqhz => (walk_at "cl"; omega)); k_whole); intro _ _ _ _ _ _ _; (try (walk_at "lt1")); (try k_sweep)))
  k_with "call builtin:_struct.Struct.unpack_from" => ((k_here; k_dflt (refine' so_fromB ?qqX ?qqF ?qqN ?qqh ?qqf ?qqb ?qqh0 ?qqh1 ?qqhz ?_; (case qqX => k_in); (case qqF => k_asm); (case qqN => k_asm); (case qqh => exact rfl); (case qqf => constructor); (case qqb => exact BufIn.keep (by assumption) (by k_asm)); (case qqh0 => (walk_at "cl"; omega)); (case qqh1 => (walk_at "cl"; omega)); (case qqhz => (walk_at "cl"; omega)); k_whole); intro _ _ _ _ _ _ _; (try (walk_at "lt1")); (try k_sweep)))
  k_with "call builtin:_struct.Struct.pack_into" => ((k_here; k_dflt (refine' so_intoN ?qqX ?qqF ?qqN ?qqU ?qqh ?qqf ?qqh0 ?qqh1 ?qqhz ?qqlo ?qqhi ?_; (case qqX => k_in); (case qqF => k_asm); (case qqN => k_asm); (case qqU => k_updF); (case qqh => exact rfl); (case qqf => constructor); (case qqh0 => (walk_at "cl"; omega)); (case qqh1 => (walk_at "cl"; omega)); (case qqhz => (walk_at "cl"; omega)); (case qqlo => ((first | rw [if_neg (by decide)] | rw [if_pos (by decide)]); (try simp only [Nat.reduceMul, Nat.reduceSub, Int.reducePow, Int.reduceNeg]); walk_at "cl"; omega)); (case qqhi => ((first | rw [if_neg (by decide)] | rw [if_pos (by decide)]); (try simp only [Nat.reduceMul, Nat.reduceSub, Int.reducePow, Int.reduceNeg]); walk_at "cl"; omega)); k_whole); intro _ _ _; (try k_sweep)))
  k_with "wpC" => ((k_here; (with_reducible show wpC _ _ (call (Value.ref _) _ _) _ _ _); (walk_at "wpCc")))
  k_with "wpC" => ((k_here; (with_reducible show wpC _ _ (exec (Stmt.For _ _ _ _ _) _) _ _ _); k_dflt (refine c_For ?_)))
  k_with "getAttr ref" => ((k_here; (with_reducible show wpAny _ _ (getAttr (Value.ref _) (PySem.Str.ofString "py_type") _) _ _ _); k_dflt (refine' cls_int ?qqF ?qqX ?qqm ?qqr ?qqe0 ?qqe1 ?qqh ?_; (case qqF => k_asm); (case qqX => k_asm); (case qqm => k_is); (case qqr => k_is); (case qqe0 => k_is); (case qqe1 => k_is); (case qqh => decide +kernel); k_whole)))
  k_with "subscriptTail" => ((k_here; (with_reducible show wpAny _ _ (subscriptTail _ _ (Value.ref _) (Value.ref _)) _ _ _); k_dflt (refine' ba_cut (s := ⟨_, _, _, _, _⟩) ?qqF ?qqN ?qqb ?qql ?qqu ?qqz ?_; (case qqF => k_asm); (case qqN => k_asm); (case qqb => exact (News.get (by assumption) (by k_mem))); (case qql => constructor); (case qqu => constructor); (case qqz => (walk_at "cl"; omega)); k_whole); intro _ _ _ _ _; (try (walk_at "lt1")); (try k_sweep)))
  k_with "ite" => ((k_here; k_openite; k_dflt (first | (refine ite_pos (by ((walk_at "cl"); ((try simp only [decide_eq_true_eq, beq_iff_eq, bne_iff_ne, ne_eq]) <;> omega))) ?_) | (refine ite_neg (by ((walk_at "cl"); ((try simp only [decide_eq_true_eq, beq_iff_eq, bne_iff_ne, ne_eq, not_true_eq_false, not_false_eq_true]) <;> omega))) ?_)); walk_say "PRUNED here"))
  k_with "wpC" => ((k_here; (with_reducible show wpC _ _ (exec (Stmt.Expr (Expr.Call (Expr.Attribute _ (PySem.Str.ofString "append") _) _ _ _) _) _) _ _ _); k_dflt (refine c_Expr ?_)))
  k_with "wpC" => ((k_here; (with_reducible show wpC _ _ (eval (Expr.Call (Expr.Attribute _ (PySem.Str.ofString "append") _) _ _ _) _) _ _ _); k_dflt (refine c_MethodCall ?_)))
  k_with "wpC" => ((k_here; (with_reducible show wpC _ _ (callWith _ (Value.builtin _) _ _ _) _ _ _); k_dflt (refine c_callWith_BD ?_)))
  k_with "wpC" => ((k_here; (with_reducible show wpC _ _ (eval (Expr.Call (Expr.Name (PySem.Str.ofString "bytes") _) [Expr.Call (Expr.Name (PySem.Str.ofString "_law_made") _) _ _ _] _ _) _) _ _ _); k_dflt (refine c_Call ?_)))
  k_with "wpC" => ((k_here; (with_reducible show wpC _ _ (callWith _ (Value.type _) _ (backTo _ (starEach (Expr.Call (Expr.Name (PySem.Str.ofString "_law_made") _) _ _ _ :: _) _)) _) _ _ _); k_dflt (refine c_callWith_TD ?_)))
  k_with "wpC" => ((k_here; (with_reducible show wpC _ _ (call (Value.type "bytes") _) _ _ _); (refine of_any ?_)))
  k_with "wpC" => ((k_here; (with_reducible show wpC _ _ (exec (Stmt.Assign [Expr.Name (PySem.Str.ofString "other") _] _ _) _) _ _ _); k_dflt (refine c_Assign_Name ?_)))
  k_with "wpC" => ((k_here; (with_reducible show wpC _ _ (eval (Expr.Call (Expr.Name (PySem.Str.ofString "_law_told") _) (Expr.Call (Expr.Name (PySem.Str.ofString "bytearray") _) _ _ _ :: _) _ _) _) _ _ _); k_dflt (refine c_Call ?_)))
  k_with "wpC" => ((k_here; (with_reducible show wpC _ _ (callWith _ (Value.ref _) _ (backTo _ (starEach (Expr.Call (Expr.Name (PySem.Str.ofString "bytearray") _) _ _ _ :: _) _)) _) _ _ _); k_dflt (refine' c_callWith_KD ?qqk1 ?qqk2 ?_; (case qqk1 => k_asm); (case qqk2 => k_is); k_whole)))
  k_with "wpC" => ((k_here; (with_reducible show wpC _ _ (call (Value.ref 794) _) _ _ _); (refine of_any ?_)))
  k_with "pyIter ref" => ((k_here; (with_reducible show wpAny _ _ (pyIter (Value.ref _)) _ _ _); k_dflt (refine' li_iter ?qqF ?qqN ?qqm ?_; (case qqF => k_asm); (case qqN => k_asm); (case qqm => k_mem); k_whole); intro _ _ _ _ _ _ _; (try (walk_at "lt1")); (try k_sweep)))
  k_with "pyIter ref" => ((k_here; (with_reducible show wpAny _ _ (pyIter (Value.ref _)) _ _ _); k_dflt (refine' ri_iterL ?qqF ?qqN ?qqr ?qqa ?qqb ?qqc ?qqh ?qqn ?_; (case qqF => k_asm); (case qqN => k_asm); (case qqr => assumption); (case qqh => with_reducible assumption); (case qqn => with_reducible assumption); (case qqa => (walk_at "cl"; omega)); (case qqb => rfl); (case qqc => rfl); k_whole); intro _ _ _ _ _; (try (walk_at "lt1")); (try k_sweep)))
  k_with "call type:bytes" => ((k_here; k_dflt (refine' bytes_of_buf ?qqH ?qqz ?_; (case qqH => exact BufIn.of_led (by k_asm) (by k_mem)); (case qqz => first | exact Nat.le_trans (KBc.size_picked_le _ _ _) (by (walk_at "cl"); omega) | ((try simp only [List.size_toArray, Array.size_extract]); (walk_at "cl"); omega)); k_whole); intro _ _))
  k_with "wpC" => ((k_here; (fail_if_success (with_reducible rename KGo => hg9)); (with_reducible show wpC _ _ (exec (Stmt.Assign [Expr.Name (PySem.Str.ofString "numbers") _] _ _) _) _ _ _); (refine stop_ ?_)))
  k_with "subscriptTail" => ((k_here; (with_reducible show wpAny _ _ (subscriptTail _ _ (Value.bytes _ _) (Value.ref _)) _ _ _); k_dflt (refine' by_cut (s := ⟨_, _, _, _, _⟩) ?qqF ?qqN ?qql ?qqu ?qqz ?_; (case qqF => k_asm); (case qqN => k_asm); (case qql => constructor); (case qqu => constructor); (case qqz => first | decide | (walk_at "cl"; omega)); k_whole); intro _ _ _ _ _; (try k_sweep)))
  k_with "subscriptTail" => ((k_here; (with_reducible show wpAny _ _ (subscriptTail _ _ (Value.ref _) (Value.int _ _)) _ _ _); (fail_if_success (with_reducible rename KTup => tu9)); k_dflt (refine' item_blast ?qqN ?qqm ?qqb ?_; (case qqN => k_asm); (case qqm => k_mem); (case qqb => with_reducible assumption); k_whole); intro _))
  k_with "truthy ref" => ((k_here; (with_reducible show wpAny _ _ (truthy (Value.ref _)) _ _ _); k_dflt (refine' truthy_some ?qqN ?qqm ?qqp ?qqz ?_; (case qqN => k_asm); (case qqm => k_mem); (case qqp => (walk_at "cl"; omega)); (case qqz => (walk_at "cl"; omega)); k_whole)))
  k_with "wpC" => ((k_here; (fail_if_success (with_reducible rename KGo => hg9)); (with_reducible show wpC _ _ (exec (Stmt.Assign [Expr.Tuple (Expr.Name (PySem.Str.ofString "ahead") _ :: _) _ _] _ _) _) _ _ _); (refine stop_ ?_)))
  k_with "wpC" => ((k_here; (fail_if_success (with_reducible rename KGo => hg9)); (with_reducible show wpC _ _ (exec (Stmt.Assign [Expr.Name (PySem.Str.ofString "kept") _] _ _) _) _ _ _); (refine stop_ ?_)))
  k_with "binaryOp Add bytes bytes" => ((k_here; (with_reducible show wpAny _ _ (binaryOp Operator.Add (Value.bytes _ _) (Value.bytes _ _)) _ _ _); k_dflt (refine' KBy.add_bytes ?qqz ?_; (case qqz => ((try simp only [Array.size_append]); (walk_at "cl"); omega)); k_whole); intro _ _))
  k_with "wpC" => ((k_here; (with_reducible show wpC _ _ (call (Value.type _) [Value.bytes _ _]) _ _ _); k_dflt (refine' c_new_bytes ?qqg ?qqF ?qqN ?qqhz ?_; (case qqg => exact rfl); (case qqF => k_asm); (case qqN => k_asm); (case qqhz => ((try simp only [Array.size_append]); (walk_at "cl"); omega)); k_whole); intro _ _ _ _ _; (try (walk_at "lt1")); (try k_sweep)))
  k_with "wpC" => ((k_here; (fail_if_success (with_reducible rename KGo => hg9)); (with_reducible show wpC _ _ (exec (Stmt.Assign [Expr.Name (PySem.Str.ofString "inner") _] _ _) _) _ _ _); (refine stop_ ?_)))
  k_with "wpC" => ((k_here; (fail_if_success (with_reducible rename KGo => hg9)); (with_reducible show wpC _ _ (exec (Stmt.If _ _ _ _) _) _ _ _); (refine stop_ ?_)))
  k_with "subscriptTail" => ((k_here; (with_reducible show wpAny _ _ (subscriptTail _ _ (Value.ref _) (Value.int _ _)) _ _ _); (fail_if_success (with_reducible rename KTup => tu9)); k_dflt (refine' item_iat ?qqN ?qqm ?qqb (And.left ?qqx) (And.right ?qqx) ?qqz ?_; (case qqN => k_asm); (case qqm => k_mem); (case qqb => with_reducible assumption); (case qqx => with_reducible assumption); (case qqz => (walk_at "cl"; omega)); k_whole); intro _))
  k_with "False" => ((k_here; (with_reducible rename (@Ne Int _ _) => hq9); k_dflt (first | exact hq9 hf1 | exact hq9 hf2)))
  k_with "False" => ((k_here; (with_reducible rename (@bne (List UInt8) _ _ _ = true) => hq9); rw [hpk] at hq9; exact absurd hq9 (by simp)))
  k_with "subscriptTail" => ((k_here; (with_reducible show wpAny _ _ (subscriptTail _ _ (Value.ref _) (Value.int _ _)) _ _ _); (fail_if_success (with_reducible rename KTup => tu9)); k_dflt (refine' item_bat ?qqN ?qqm ?qqb (And.left ?qqx) (And.right ?qqx) ?qqz ?_; (case qqN => k_asm); (case qqm => k_mem); (case qqb => with_reducible assumption); (case qqx => with_reducible assumption); (case qqz => (walk_at "cl"; omega)); k_whole); intro _))
  k_with "wpC" => ((k_here; (with_reducible show wpC _ _ (call (Value.ref 789) _) _ _ _); (refine stop_ ?_)))
  k_with "wpC" => ((k_here; (with_reducible show wpC _ _ (call (Value.ref 794) _) _ _ _); (refine stop_ ?_)))
  k_with "call ref" => ((k_here; (with_reducible show wpAny _ _ (call (Value.ref 794) _) _ _ _); (refine stop_ ?_)))
  trivial

set_option maxHeartbeats 30000000 in
theorem law_holds : PySem.Challenge.rw_bp0005_01.Holds := by
  refine @Mine.hush _ (by
  refine Mine.hd ?_
  k_fill
  intro w s₀ s₁ mg mb G Y fa o pm cd doc dV kV ho hd hcd hD hmg hg args vals as hpre hlay hrd hwl hlo
  have X := kIn_of Y
  refine Ground.open G ?_
  intro T B D TE TW
  clear TE TW
  try (refine guard_noD D (by decide +kernel) ?_; clear D)
  wrow_args hpre hlay hrd hwl hlo
  rename_i ns _ _ _ _ _ _ _ sa vs _ hL _ _ _ hI _ _ _
  have fin : ∀ (h' : Heap) (tk' : Nat) (L : Addr) (m : Str → Option Value) (F' : Fr s₁.heap L h' m), GoodWG Challenge.rw_bp0005_01.row.claim (classAt s₀.heap) (ExcName.means s₀.heap) [ofPy (PyData.list (List.map PyData.int ns))] s₁ (Except.ok (Flow.ret (.bool true))) { s₁ with heap := h', toks := tk' } := by
    intro h' tk' L m F'
    refine (goodW_bool (s' := { s₁ with heap := h', toks := tk' }) F' hg ?hn ?_ rfl).toG
    case hn => intro cls; rfl
    exact postW_of (by wrow_shape) (by wtm_val) (by first | rfl | (str_meet; rfl))
  refine c_call ?_
  have he := Dflts.none hD rfl
  subst he
  refine top_callC (by decide) ho hd (Top.nolimit T) hcd (BindsTo.of_eq rfl) (locs rfl) (fun h₁ F => ?_) rfl rfl rfl (by decide)
  dsimp only
  have N := (News.nil : News _ _ _ []).at F
  have K0 := below_caller s₁.heap
  have hIl := hI.length
  generalize hQ : GoodWG Challenge.rw_bp0005_01.row.claim (classAt s₀.heap) (ExcName.means s₀.heap) [ofPy (PyData.list (List.map PyData.int ns))] s₁ = RR at fin ⊢
  clear hQ ho hD hmg hcd hd Y G
  refine c_mono (Q := fun f s' => ∃ v, f = .ret v ∧ RR (.ok (.ret v)) s') (E := fun _ _ => False) ?_ (fun f s' z => by obtain ⟨v, rfl, z⟩ := z; exact z) (fun _ _ z => z.elim)
  show wpC _ (ktrTop _ _ (some []) _ _ _ _ _ [] []) _ _ _ _
  obtain ⟨dp, hdp, hd⟩ : ∃ dp, callerA.depth + 1 = dp ∧ dp + 20 < recursionLimit := ⟨_, rfl, by decide⟩
  obtain ⟨un, hun, hu⟩ : ∃ un, callerA.units + 3 = un ∧ un + 150 < cLine := ⟨_, rfl, by decide⟩
  rw [hdp, hun]
  clear hdp hun
  obtain ⟨m₀, f1, F2⟩ : ∃ m₀ : Str → Option Value, m₀ (Str.ofString "script") = some (.ref sa) ∧ Fr s₁.heap s₁.heap.objs.size h₁ m₀ := ⟨_, rfl, F⟩
  clear F
  rename Fr s₁.heap s₁.heap.objs.size h₁ m₀ => F
  rw [l0_self f1] at F
  k_steps
  refine stop_on ?_
  refine c_join (J1 s₁ s₁.heap s₁.heap.objs.size (L0 sa m₀)) ?_ ?_
  · have go : KGo := trivial
    k_steps
    · rename_i D ws _ hI2 hC hL2 _ _ FF NN
      exact ⟨_, _, _, _, _, rfl, FF, NN, hI2, by omega, by omega⟩
    · rename_i FF NN
      exact ⟨_, _, _, _, _, rfl, FF, NN, .cons 5 _ (.cons 2 _ .nil), by decide, by decide⟩
  rintro s' ⟨h, tk, nl, ys, nn, rfl, F, N, hI2, hn1, hn4⟩
  have hyl := hI2.length
  dsimp only
  k_steps
  rename_i ml _ hlm _ D _ oD RD F N l1 l2
  have a1 : NeA nl ml := neA_of (Nat.ne_of_lt hlm)
  refine c_for_ind (I := LW1 s₁ s₁.heap s₁.heap.objs.size _ nl ml D ys nn) ?_ (by intro _; rfl) nn.length _ ⟨_, _, _, _, _, _, rfl, fr_nm F, N, by rw [Nat.sub_self]; exact RD, by rw [Nat.sub_self]; trivial, Nat.le_refl _⟩
  clear F N
  intro n' s' hI'
  obtain ⟨h4, tk4, el, ma, c4, o4, rfl, F4, N4, R4, H4, n4⟩ := hI'
  rcases n' with _ | i
  · rw [Nat.sub_zero] at R4 H4
    refine' li_end (l := nl) rfl F4 N4 (.head _) ?S R4 (.tail _ (.tail _ (.head _))) (by simp [hyl]) ?_
    case S => (walk_at "sel")
    intro h5 F5 N5
    dsimp only
    clear F4 N4 R4
    obtain ⟨lz, hlz⟩ : ∃ lz, nn.length = lz + 1 := ⟨nn.length - 1, by omega⟩
    have H5 := H4
    rw [hlz, madesTo_succ] at H5
    obtain ⟨hbz, hbz4, hiz⟩ := buf_size (ns := nn) (k := lz) (by omega)
    k_steps
    refine stop_on ?_
    refine c_joinJ J3 F5 N5 ?_ ?_
    · have go : KGo := trivial
      k_steps
      rename_i FF NN
      exact ⟨_, _, _, _, _, _, rfl, FF, fun p hp => NN p (.tail _ hp), KBc.size_picked_le _ _ _, KBc.size_picked_le _ _ _⟩
    clear F5 N5
    rintro s' ⟨h, tk, av, cv, ta, tc, rfl, F, N, hav, hcv⟩
    dsimp only
    k_steps
    rename_i F N
    refine stop_on ?_
    have go : KGo := trivial
    obtain ⟨arr, harr⟩ : ∃ arr, av ++ (madeF (nn.getD lz 0) (innF nn lz)).toArray ++ cv = arr := ⟨_, rfl⟩
    rw [harr] at N
    have harz : arr.size ≤ 700 := by rw [← harr]; simp only [Array.size_append]; omega
    have hlies : Lies arr ((av.size : Nat) + ((madeF (nn.getD lz 0) (innF nn lz)).toArray.size : Nat) : Int) (madeF (nn.getD lz 0) (innF nn lz)) := by rw [← harr]; exact mid_lies
    k_steps
    rename_i ob hob o1 o2 hob2 t9a k9a ha t9b DT hb q1 q2 q3 hc hd2 he hf tkf r1 r2 r3 ra rb D2 hgg F N e1 e2 e3 e4
    clear go
    have N2 : News s₁.heap s₁.heap.objs.size hgg [(D2, RI ((nn.length : Int) - 1) nn.length (-1)), (ob, AO arr), (ml, W.listOf ma c4), (nl, W.listOf ys.toArray 0)] := fun p hp => N p (by revert p; exact sub4 (by k_mem) (by k_mem) (by k_mem) (by k_mem))
    have hstart : ∀ k, nn.length = k + 1 → Lies arr ((av.size : Nat) + ((madeF (nn.getD lz 0) (innF nn lz)).toArray.size : Nat) : Int) (madeF (nn.getD k 0) (innF nn k)) ∧ ((av.size : Nat) : Int) = ((av.size : Nat) + ((madeF (nn.getD lz 0) (innF nn lz)).toArray.size : Nat) : Int) - (madeF (nn.getD k 0) (innF nn k)).length := fun k hk => by
      obtain rfl : k = lz := by omega
      have e9 : (madeF (nn.getD k 0) (innF nn k)).toArray.size = (madeF (nn.getD k 0) (innF nn k)).length := List.size_toArray ..
      exact ⟨hlies, by omega⟩
    refine c_for_ind (I := LW2 s₁ s₁.heap s₁.heap.objs.size _ ob ml nl D2 arr ma c4 ys nn) ?_ (by intro _; rfl) nn.length _ ⟨_, _, _, _, _, _, _, _, _, _, _, rfl, fr_km F rfl rfl, N2, Nat.le_refl _, hstart⟩
    clear F N N2 hlies hstart ra rb H5 harr
    intro n' s' hI'
    obtain ⟨h6, tk6, vk, vi, vl, va, vo, pv, ev, tp, te, rfl, F6, N6, n6, hL6⟩ := hI'
    rcases n' with _ | k
    · refine' ri_end rfl F6 N6 (.head _) ?S (by simp) ?_
      case S => (walk_at "sel")
      intro h7 F7 N7
      dsimp only
      clear F6 N6
      k_steps
      rw [beq_self_eq_true]
      exact fin _ _ _ _ F7
    · rw [show (((k + 1 : Nat) : Int)) = (k : Int) + 1 from by omega, show (k : Int) + 1 - 1 = (k : Int) from by omega] at N6
      refine' ri_nextL (I := D2) (x := (k : Int)) (left := (k : Int) + 1) (step := -1) (x' := (k : Int) - 1) (left' := (k : Int)) F6 N6 ?U (by omega) (by omega) (by omega) ?_
      case U => k_updF
      intro h7 t7 k7 F7 N7
      dsimp only
      clear F6 N6
      obtain ⟨hL, hpv⟩ := hL6 k rfl
      have hin := hL.inn
      obtain ⟨hbk, hbk4, hik⟩ := buf_size (ns := nn) (k := k) (by omega)
      obtain ⟨⟨pos, x4, x6, x8, x10, d6, d8, d10, hT⟩, _⟩ := tells hL hik
      rw [← hpv] at hT
      k_steps
      rename_i hh F8 N8
      refine stop_on ?_
      refine c_joinJ (fun s g L mm bs => J2 s g L mm bs (innF nn k)) F8 N8 ?_ ?_
      · have go : KGo := trivial
        clear hT hL hL6
        rcases k with _ | j
        · k_steps
          rename_i FF NN
          exact ⟨_, _, _, rfl, FF, NN, .inl ⟨rfl, rfl⟩⟩
        · have hkB : (((j + 1 : Nat) : Int) - 1 = (j : Nat)) ∧ (madesTo nn nn.length)[j]? = some (madeF (nn.getD j 0) (innF nn j)).toArray := ⟨by omega, madesTo_get (by omega)⟩
          k_steps
          rename_i FF NN
          exact ⟨_, _, _, rfl, FF, NN, .inr ⟨_, _, rfl, rfl⟩⟩
      clear F8 N8
      rintro s' ⟨h, tk, iv, rfl, F, N, hiv⟩
      dsimp only
      have hkA : ((k : Int) = (k : Nat)) ∧ (madesTo nn nn.length)[k]? = some (madeF (nn.getD k 0) (innF nn k)).toArray := ⟨rfl, madesTo_get (by omega)⟩
      k_steps
      refine stop_on ?_
      refine c_joinJ Same F N ?_ ?_
      · have go : KGo := trivial
        have hpk : KBy.picked arr (some pv) (some ev) = (madeF (nn.getD k 0) (innF nn k)).toArray := by rw [pick_in (by omega) (by omega) (by omega), hpv]; exact hL.whole
        clear hT hL hL6
        k_steps
        rename_i FF NN _ _ _ _ _ _ _ _
        exact ⟨_, _, rfl, FF, fun p hp => NN p (.tail _ hp)⟩
      clear F N
      rintro s' ⟨h, tk, rfl, F, N⟩
      dsimp only
      have hkN : ((k : Int) = (k : Nat)) ∧ nn[k]? = some (nn.getD k 0) := ⟨rfl, by rw [List.getD_eq_getElem?_getD, List.getElem?_eq_getElem (by omega)]; rfl⟩
      have e9 : (madeF (nn.getD k 0) (innF nn k)).toArray.size = (madeF (nn.getD k 0) (innF nn k)).length := List.size_toArray ..
      obtain ⟨⟨pos2, y4, y6, y8, y10, c6, c8, c10, hT2⟩, _⟩ := tells (made_lies (l := madeF (nn.getD k 0) (innF nn k))) hik
      rw [show (((madeF (nn.getD k 0) (innF nn k)).toArray.size : Nat) : Int) - ((madeF (nn.getD k 0) (innF nn k)).length : Nat) = 0 from by omega] at hT2
      k_steps
      refine stop_on ?_
      refine' told_k (arr := arr) (inner := innF nn k) ?B ?F ?X ?T ?hk ?hd ?hu ?HB ?hz hT hiv hik (part_of ?N sub0 ?S) ?_
      case B => exact K0
      case F => k_asm
      case X => exact X
      case T => exact T
      case hk => first | exact rfl | assumption
      case N => k_asm
      case hd => omega
      case hu => omega
      case HB => exact BufIn.of_led (by k_asm) (by k_mem)
      case hz => omega
      case S => (walk_at "sel")
      intro h9 k9 x9 ta9 tb9 F9 N9 D9
      dsimp only [List.cons_append, List.nil_append] at N9
      simp only [AllNes, AllNe, List.map_cons, List.map_nil, and_true] at D9
      (walk_at "spl")
      dsimp only
      k_steps
      refine stop_on ?_
      refine' told_k (arr := (madeF (nn.getD k 0) (innF nn k)).toArray) (inner := innF nn k) ?B ?F ?X ?T ?hk ?hd ?hu ?HB ?hz hT2 hiv hik (part_of ?N sub0 ?S) ?_
      case B => exact K0
      case F => k_asm
      case X => exact X
      case T => exact T
      case hk => first | exact rfl | assumption
      case N => k_asm
      case hd => omega
      case hu => omega
      case HB => exact .inl ⟨_, rfl⟩
      case hz => omega
      case S => (walk_at "sel")
      intro h9 k9 x9 ta9 tb9 F9 N9 D9
      dsimp only [List.cons_append, List.nil_append] at N9
      simp only [AllNes, AllNe, List.map_cons, List.map_nil, and_true] at D9
      (walk_at "spl")
      dsimp only
      k_steps
      refine stop_on ?_
      refine of_any ?_
      refine' told_k (arr := (madeF (nn.getD k 0) (innF nn k)).toArray) (inner := innF nn k) ?B ?F ?X ?T ?hk ?hd ?hu ?HB ?hz hT2 hiv hik (part_of ?N sub0 ?S) ?_
      case B => exact K0
      case F => k_asm
      case X => exact X
      case T => exact T
      case hk => first | exact rfl | assumption
      case N => k_asm
      case hd => omega
      case hu => omega
      case HB => exact BufIn.of_led (by k_asm) (by k_mem)
      case hz => omega
      case S => (walk_at "sel")
      intro h9 k9 x9 ta9 tb9 F9 N9 D9
      dsimp only [List.cons_append, List.nil_append] at N9
      simp only [AllNes, AllNe, List.map_cons, List.map_nil, and_true] at D9
      (walk_at "spl")
      dsimp only
      clear hT hT2
      k_steps
      rename_i hF F N
      refine stop_on ?_
      refine c_joinJ Same F N ?_ ?_
      · have go : KGo := trivial
        clear hiv hL hL6
        k_steps
        exact ⟨_, _, rfl, F, N⟩
      clear F N
      rintro s' ⟨h, tk, rfl, F, N⟩
      dsimp only
      k_steps
      refine stop_on ?_
      refine c_joinJ Same F N ?_ ?_
      · have go : KGo := trivial
        clear hL hL6
        rcases hiv with ⟨hk0, rfl⟩ | ⟨b', bt, hk0, rfl⟩
        · k_steps
          exact ⟨_, _, rfl, F, N⟩
        · have hf1 : fstV ((madeF (nn.getD k 0) (innF nn k)).toArray.size : Nat) (nn.getD k 0) (innF nn k) + pv = fstV ev (nn.getD k 0) (innF nn k) := fstV_at hk0 (by omega)
          have hf2 : sndV ((madeF (nn.getD k 0) (innF nn k)).toArray.size : Nat) (nn.getD k 0) (innF nn k) + pv = sndV ev (nn.getD k 0) (innF nn k) := sndV_at hk0 (by omega)
          have tu : KTup := trivial
          k_steps
          exact ⟨_, _, rfl, F, N⟩
      clear F N
      rintro s' ⟨h, tk, rfl, F, N⟩
      dsimp only
      k_steps
      rename_i FF NN
      refine ⟨k, Nat.lt_succ_self _, _, _, _, _, _, _, _, _, _, _, _, rfl, fr_end FF, fun p hp => NN p (by revert p; exact sub4 (by k_mem) (by k_mem) (by k_mem) (by k_mem)), by omega, fun j hj => ?_⟩
      subst hj
      have q := inner_lies (b := (madeF (nn.getD j 0) (innF nn j)).toArray) hL hik
      exact ⟨q.1, q.2⟩
  · obtain ⟨idx, hidx⟩ : ∃ idx, idx = nn.length - (i + 1) := ⟨_, rfl⟩
    have hix : idx < nn.length ∧ nn.length - i = idx + 1 := by omega
    rw [← hidx] at R4 H4
    obtain ⟨t, ex⟩ := int_get idx hI2 hix.1
    refine' li_next (l := nl) (items := ys.toArray) F4 N4 ?U R4 (.tail _ (.tail _ (.head _))) ex ?_
    case U => k_updF
    intro o5 h5 R5 F5 N5
    dsimp only
    clear F4 N4 R4 ex
    have hml := buf_size (ns := nn) (k := idx) (by omega)
    rcases idx with _ | j
    · have hma : ma = #[] := by
        have q := H4.length
        rw [madesTo_length] at q
        exact Array.eq_empty_of_size_eq_zero (by rw [← Array.length_toList]; exact q)
      subst hma
      have hm1 : ((madeF (nn.getD 0 0) none).length : Int) ≤ 600 := by have := hml.1; rwa [List.size_toArray] at this
      clear hml
      k_steps
      refine stop_on ?_
      refine' made_k (inner := none) ?B ?F ?X ?T ?hk ?hd ?hu (.inl ⟨rfl, rfl⟩) (by show ((#[] : Array UInt8).size : Int) ≤ 500; decide) (part_of ?N sub0 ?S) ?_
      case B => exact K0
      case F => k_asm
      case X => exact X
      case T => exact T
      case hk => first | exact rfl | assumption
      case N => k_asm
      case hd => omega
      case hu => omega
      case S => (walk_at "sel")
      intro h9 k9 x9 F9 N9 D9
      dsimp only [List.cons_append, List.nil_append] at N9
      simp only [AllNes, AllNe, List.map_cons, List.map_nil, and_true] at D9
      obtain ⟨d1, d2, d3⟩ := D9
      k_steps
      rename_i FF NN
      exact ⟨i, Nat.lt_succ_self _, _, _, _, _, _, _, rfl, nm_a ▸ FF, fun p hp => NN p (.tail _ hp), by rw [hix.2]; exact R5, by rw [hix.2, madesTo_succ, Array.toList_push]; exact H4.push, by omega⟩
    · rw [madesTo_succ] at H4
      have hm1 : ((madeF (nn.getD (j + 1) 0) (some (madeF (nn.getD j 0) (innF nn j)).toArray)).length : Int) ≤ 600 := by have := hml.1; rwa [List.size_toArray] at this
      have hm2 : (((some (madeF (nn.getD j 0) (innF nn j)).toArray).getD #[]).size : Int) ≤ 500 := hml.2.2
      have hmz := H4.length
      rw [List.length_append, madesTo_length] at hmz
      simp only [List.length_cons, List.length_nil, Array.length_toList] at hmz
      clear hml
      k_steps
      refine stop_on ?_
      refine' made_k (inner := some (madeF (nn.getD j 0) (innF nn j)).toArray) ?B ?F ?X ?T ?hk ?hd ?hu (.inr ⟨_, _, rfl, rfl⟩) hm2 (part_of ?N sub0 ?S) ?_
      case B => exact K0
      case F => k_asm
      case X => exact X
      case T => exact T
      case hk => first | exact rfl | assumption
      case N => k_asm
      case hd => omega
      case hu => omega
      case S => (walk_at "sel")
      intro h9 k9 x9 F9 N9 D9
      dsimp only [List.cons_append, List.nil_append] at N9
      simp only [AllNes, AllNe, List.map_cons, List.map_nil, and_true] at D9
      obtain ⟨d1, d2, d3⟩ := D9
      k_steps
      rename_i FF NN
      exact ⟨i, Nat.lt_succ_self _, _, _, _, _, _, _, rfl, nm_a ▸ FF, fun p hp => NN p (.tail _ hp), by rw [hix.2]; exact R5, by rw [hix.2, madesTo_succ, Array.toList_push, madesTo_succ]; exact H4.push, by omega⟩) ?_
  intro q f
  simpa using Mine.hushed f 5 fun n i => i

end Mine
theorem PySem.Challenge.cw_bp0005_01_holds : PySem.Challenge.rw_bp0005_01.Holds :=
  Mine.law_holds
